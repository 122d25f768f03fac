import JvmDerived
import JvmDerived.Pilot.@@N@@Statement
import JvmDerived.Pilot.@@N@@Code
set_option linter.unusedVariables false
set_option linter.unusedSimpArgs false
namespace Jvm.Pilot.@@N@@
open Jvm Jvm.ClassFile Sem Op Lib Jvm.Free Jvm.Stand Jvm.LawKit Jvm.RoadKit Bundle Jvm.Pilot.@@N@@.Jvm.D
abbrev jv (x : Int64) : Slot := .val (.long x)
section OwnKit
variable {p : Program} {l : Launch} {e : Env} {R : Room} {s : State} {m : MethodId} {args : Array Value} {below : List Frame} {meth : Method} {c : Code} {T T' : State} {locs : List Loc} {cells slots kc ks : Nat} {Q : Option Value → Heap → List Loc → Prop} {g g' : JFrame}
/-- from the state T, its top frame g, the invocation comes to its end with Q -/
def own_WP (p : Program) (e : Env) (below : List Frame) (s : State) (Q : Option Value → Heap → List Loc → Prop) (kc ks : Nat) (T : State) (g : JFrame) : Prop :=
  ∃ s₂ o, Steps p.tables e below (T.setTop g) s₂ ∧ s₂.status = .running ∧ Ended s₂ below o ∧ ∃ v L, o = .returned v ∧ Q v s₂.heap L ∧ FrameEnd s o s₂ L kc ks
theorem own_step (h : ∀ t, Steps p.tables e below (T'.setTop g') t → Steps p.tables e below (T.setTop g) t) (hr : own_WP p e below s Q kc ks T' g') : own_WP p e below s Q kc ks T g := by
  obtain ⟨s₂, o, h1, h2⟩ := hr
  exact ⟨s₂, o, h _ h1, h2⟩
theorem own_st (g' : JFrame) (h : ∀ t, Steps p.tables e below (T.setTop g') t → Steps p.tables e below (T.setTop g) t) (hr : own_WP p e below s Q kc ks T g') : own_WP p e below s Q kc ks T g := own_step h hr
theorem own_jump (h : Steps p.tables e below (T.setTop g) (T'.setTop g')) (hr : own_WP p e below s Q kc ks T' g') : own_WP p e below s Q kc ks T g := by
  obtain ⟨s₂, o, h1, h2⟩ := hr
  exact ⟨s₂, o, h.trans h1, h2⟩
theorem own_ret (X : Stand p l e R s m args below meth c T locs cells slots) (hlk : meth.locks = false) {v : Option Value} (hv : meth.sig.returnType = none → v = none)
    (hst : ∀ fs, (∀ (f : JFrame) (acts : List Action), f.method = m → f.locked = none → f.entered = [] → (doReturn e (T.setTop f) acts v).1 = T.setFrames fs) → Steps p.tables e below (T.setTop g) (T.setFrames fs))
    (hq : Q v T.heap locs) (h1 : cells ≤ kc) (h2 : slots ≤ ks) : own_WP p e below s Q kc ks T g := by
  obtain ⟨fs, hr, hrun, hended, hW, hsame⟩ := X.leave (v := v) hv hlk
  exact ⟨_, _, hst fs hr, hrun, hended, v, locs, rfl, hq, ⟨v, rfl⟩, hW, hsame.mono h1 h2⟩
theorem own_wide (X : Stand p l e R s m args below meth c T locs cells slots) {cells' slots' : Nat} (h1 : cells ≤ cells') (h2 : slots ≤ slots') : Stand p l e R s m args below meth c T locs cells' slots' :=
  ⟨X.admits, X.cas, X.clock, X.frames, X.room, X.hears, X.method, X.code, X.here, X.tail, X.warmed, X.limits, X.bytes, X.same.mono h1 h2⟩
end OwnKit
theorem own_body {l : Launch} {y : MethodName} {bytes : ByteArray} {maxL : Nat} {ret : Option FieldType} {ws : List Jvm.Cond} {rm : Room} {A : Array Value} {Z : State} {h0 : Heap} {Q : Option Value → Heap → List Loc → Prop} {ls : Array Slot} {kc ks : Nat}
    (hpl : plainFor y = true) (ef : ∀ m, entryFrame m A maxL = mkF m 0 ls [])
    (body : ∀ (p : Program) (e : Env) (s : State) (m : MethodId) (below : List Frame) (meth : Method) (c : Code) (T : State), Stand p l e rm s m A below meth c T [] 0 0 → p.tables.exec = Jvm.exec → c.code = bytes → c.maxLocals = maxL → Z.Warmed39 s.vm → s.vm.findClass y.cls = some m.cls → meth.name = y.name → meth.sig.returnType = ret → meth.locks = false → T.heap = h0 →
      own_WP p e below s Q kc ks T (mkF m 0 ls [])) :
    MetFree l y (head1 (Jvm.Cond.code y bytes maxL ret :: ws) rm) (fun a U => a = A ∧ Z.Warmed39 U.vm ∧ U.heap = h0) (fun _ _ _ _ _ => True) (fun _ U o U' => ∃ v L, o = .returned v ∧ Q v U'.heap L ∧ FrameEnd U o U' L kc ks) := by
  refine MetFree.of_bodySF hpl hisR ?_
  intro p e s m args below meth c s₁ Bd hml0 hP hK
  obtain ⟨rfl, hZ, hh⟩ := hP
  obtain ⟨s₂, o, h1, h2⟩ := body p e s m below meth c s₁ (Stand.of_body Bd) Bd.exec Bd.bytes hml0 hZ (findClass_of_methodNamed Bd.named) (name_of_methodNamed Bd.named Bd.method).1 Bd.returns Bd.notSynchronized (by rw [← hh, Bd.state]; rfl)
  exact ⟨s₂, o, castTop (ef m) h1, h2⟩
theorem own_llt1 {x y : Int64} (h : x < y) : ifCond.holds .lt (lcmpW x y) = true := (if0 _ _).trans (tlt ((lw_lt x y).mpr h)).1
theorem own_llt0 {x y : Int64} (h : ¬ x < y) : ifCond.holds .lt (lcmpW x y) = false := (if0 _ _).trans (flt (mt (lw_lt x y).mp h)).1
theorem own_lge1 {x y : Int64} (h : ¬ x < y) : ifCond.holds .ge (lcmpW x y) = true := (if0 _ _).trans (flt (mt (lw_lt x y).mp h)).2.1
theorem own_lge0 {x y : Int64} (h : x < y) : ifCond.holds .ge (lcmpW x y) = false := (if0 _ _).trans (tlt ((lw_lt x y).mpr h)).2.1
theorem own_lgt1 {x y : Int64} (h : y < x) : ifCond.holds .gt (lcmpW x y) = true := (if0 _ _).trans (tlt ((lw_gt x y).mpr h)).2.2.1
theorem own_lgt0 {x y : Int64} (h : ¬ y < x) : ifCond.holds .gt (lcmpW x y) = false := (if0 _ _).trans (flt (mt (lw_gt x y).mp h)).2.2.1
theorem own_lle1 {x y : Int64} (h : ¬ y < x) : ifCond.holds .le (lcmpW x y) = true := (if0 _ _).trans (flt (mt (lw_gt x y).mp h)).2.2.2
theorem own_lle0 {x y : Int64} (h : y < x) : ifCond.holds .le (lcmpW x y) = false := (if0 _ _).trans (tlt ((lw_gt x y).mpr h)).2.2.2
theorem own_leq1 {x y : Int64} (h : x = y) : ifCond.holds .eq (lcmpW x y) = true := (if0 _ _).trans (teq ((lw_eq x y).mpr h)).1
theorem own_leq0 {x y : Int64} (h : ¬ x = y) : ifCond.holds .eq (lcmpW x y) = false := (if0 _ _).trans (feq (mt (lw_eq x y).mp h)).1
theorem own_lne1 {x y : Int64} (h : ¬ x = y) : ifCond.holds .ne (lcmpW x y) = true := (if0 _ _).trans (feq (mt (lw_eq x y).mp h)).2
theorem own_lne0 {x y : Int64} (h : x = y) : ifCond.holds .ne (lcmpW x y) = false := (if0 _ _).trans (teq ((lw_eq x y).mpr h)).2
abbrev own_W (a0 : Array Value) (Z : State) : Prop := ∀ d ∈ tables_1, d.before a0 Z = true
section OwnHeld
variable {p : Program} {l : Launch} {e : Env} {R : Room} {s : State} {m : MethodId} {args : Array Value} {below : List Frame} {meth : Method} {c : Code} {T T' : State} {locs : List Loc} {cells slots kc ks : Nat} {Q : Option Value → Heap → List Loc → Prop} {g g' : JFrame} {Z : State} {EL : List (String × Nat)} {vm : Vm} {h0 h : Heap}
/-- own_WP, where literals may be loaded on the road: the tables may have grown, the invariant of the held literals goes on -/
def own_WH (p : Program) (e : Env) (below : List Frame) (s Z : State) (EL : List (String × Nat)) (Q : Option Value → Heap → List Loc → Prop) (kc ks : Nat) (T : State) (g : JFrame) : Prop :=
  ∃ s₂ o, Steps p.tables e below (T.setTop g) s₂ ∧ s₂.status = .running ∧ Ended s₂ below o ∧ ∃ v L, o = .returned v ∧ Q v s₂.heap L ∧ CHr Z EL s.vm s.heap s₂.vm s₂.heap ∧ ReturnedEndW s o s₂ L kc ks
theorem own_stepH (h : ∀ t, Steps p.tables e below (T'.setTop g') t → Steps p.tables e below (T.setTop g) t) (hr : own_WH p e below s Z EL Q kc ks T' g') : own_WH p e below s Z EL Q kc ks T g := by
  obtain ⟨s₂, o, h1, h2⟩ := hr
  exact ⟨s₂, o, h _ h1, h2⟩
theorem own_stH (g' : JFrame) (h : ∀ t, Steps p.tables e below (T.setTop g') t → Steps p.tables e below (T.setTop g) t) (hr : own_WH p e below s Z EL Q kc ks T g') : own_WH p e below s Z EL Q kc ks T g := own_stepH h hr
theorem own_jumpH (h : Steps p.tables e below (T.setTop g) (T'.setTop g')) (hr : own_WH p e below s Z EL Q kc ks T' g') : own_WH p e below s Z EL Q kc ks T g := by
  obtain ⟨s₂, o, h1, h2⟩ := hr
  exact ⟨s₂, o, h.trans h1, h2⟩
theorem own_retH (X : Stand p l e R (s.setVm vm) m args below meth c T locs cells slots) (hlk : meth.locks = false) {n : Nat} (hS : s.Since vm n) (hn : n ≤ T.heap.size) {v : Option Value} (hv : meth.sig.returnType = none → v = none)
    (hst : ∀ fs, (∀ (f : JFrame) (acts : List Action), f.method = m → f.locked = none → f.entered = [] → (doReturn e (T.setTop f) acts v).1 = T.setFrames fs) → Steps p.tables e below (T.setTop g) (T.setFrames fs))
    (hq : Q v T.heap locs) (hC : CHr Z EL s.vm s.heap T.vm T.heap) (h1 : cells ≤ kc) (h2 : slots ≤ ks) : own_WH p e below s Z EL Q kc ks T g := by
  obtain ⟨fs, hr, hrun, hended, r1, r2, r3, r4⟩ := X.leaveW hS hn (v := v) hv hlk
  exact ⟨_, _, hst fs hr, hrun, hended, v, locs, rfl, hq, hC, r1, r2, r3, r4.mono h1 h2⟩
theorem own_CHend (hs : s.heap = h0) (e : T.heap = h) (A : CHr Z EL s.vm h0 vm h) (B : CHr Z EL vm h T.vm h) : CHr Z EL s.vm s.heap T.vm T.heap := by
  rw [hs, e]; exact A.trans B
theorem own_leE {n : Nat} (e : T.heap = h) (q : n ≤ h.size) : n ≤ T.heap.size := by rw [e]; exact q
end OwnHeld
theorem own_bodyH {l : Launch} {y : MethodName} {bytes : ByteArray} {maxL : Nat} {ret : Option FieldType} {ws : List Jvm.Cond} {rm : Room} {A : Array Value} {Z : State} {EL : List (String × Nat)} {h0 : Heap} {Q : Option Value → Heap → List Loc → Prop} {ls : Array Slot} {kc ks : Nat}
    (hpl : plainFor y = true) (ef : ∀ m, entryFrame m A maxL = mkF m 0 ls [])
    (body : ∀ (p : Program) (e : Env) (s : State) (m : MethodId) (below : List Frame) (meth : Method) (c : Code) (T : State), Stand p l e rm (s.setVm s.vm) m A below meth c T [] 0 0 → p.tables.exec = Jvm.exec → c.code = bytes → c.maxLocals = maxL → Z.Warmed39 (s.setVm s.vm).vm → (s.setVm s.vm).vm.findClass y.cls = some m.cls → meth.name = y.name → meth.sig.returnType = ret → meth.locks = false → T.heap = h0 →
      s.heap = h0 → s.Since s.vm h0.size → CHv Z EL s.vm h0 → own_WH p e below s Z EL Q kc ks T (mkF m 0 ls [])) :
    MetFree l y (head1 (Jvm.Cond.code y bytes maxL ret :: ws) rm) (fun a U => a = A ∧ Z.Warmed39 U.vm ∧ U.heap = h0 ∧ CHv Z EL U.vm h0) (fun _ _ _ _ _ => True) (fun _ U o U' => ∃ v L, o = .returned v ∧ Q v U'.heap L ∧ CHr Z EL U.vm U.heap U'.vm U'.heap ∧ ReturnedEndW U o U' L kc ks) := by
  refine MetFree.of_bodySF hpl hisR ?_
  intro p e s m args below meth c s₁ Bd hml0 hP hK
  obtain ⟨rfl, hZ, hh, hC⟩ := hP
  obtain ⟨s₂, o, h1, h2⟩ := body p e s m below meth c s₁ (Stand.of_body Bd) Bd.exec Bd.bytes hml0 hZ (findClass_of_methodNamed Bd.named) (name_of_methodNamed Bd.named Bd.method).1 Bd.returns Bd.notSynchronized (by rw [← hh, Bd.state]; rfl) hh ((State.WarmedH.refl s).since _) hC
  exact ⟨s₂, o, castTop (ef m) h1, h2⟩

theorem own_eqint {t : Term} {n : Int32} {args : Array Value} {first s : State} {o : Option Outcome} {idx : List Nat} (h : (Jvm.Cond.eq t (.int n)).value args first o s idx = some true) : t.eval args first o idx s = some (.int n) :=
  Jvm.Cond.eq_int (beq_iff_eq.mpr h : (Jvm.Cond.eq t (.int n)).holds args first o s idx = true) rfl

theorem own_b64 {n : Int} (h1 : -2 ^ 63 ≤ n) (h2 : n < 2 ^ 63) : n.bmod (2 ^ 64) = n := by rw [Int.bmod_def]; omega
theorem own_add64 {x y : Int64} (h1 : -2 ^ 63 ≤ x.toInt + y.toInt) (h2 : x.toInt + y.toInt < 2 ^ 63) : (x + y).toInt = x.toInt + y.toInt := by rw [Int64.toInt_add, own_b64 h1 h2]
theorem own_sub64 {x y : Int64} (h1 : -2 ^ 63 ≤ x.toInt - y.toInt) (h2 : x.toInt - y.toInt < 2 ^ 63) : (x - y).toInt = x.toInt - y.toInt := by rw [Int64.toInt_sub, own_b64 h1 h2]
theorem own_mul64 {x y : Int64} (h1 : -2 ^ 63 ≤ x.toInt * y.toInt) (h2 : x.toInt * y.toInt < 2 ^ 63) : (x * y).toInt = x.toInt * y.toInt := by rw [Int64.toInt_mul, own_b64 h1 h2]
theorem own_div64 {x y : Int64} (hx : 0 ≤ x.toInt) (hy : 0 < y.toInt) : (x / y).toInt = x.toInt / y.toInt := by
  rw [Int64.toInt_div, Int.tdiv_eq_ediv_of_nonneg hx]
  have h1 : 0 ≤ x.toInt / y.toInt := Int.ediv_nonneg hx (by omega)
  have h2 : x.toInt / y.toInt ≤ x.toInt := Int.ediv_le_self _ hx
  have h3 := x.toInt_lt
  exact own_b64 (by omega) (by omega)
theorem own_mod64 {x y : Int64} (hx : 0 ≤ x.toInt) : (x % y).toInt = x.toInt % y.toInt := by
  rw [Int64.toInt_mod, Int.tmod_eq_emod_of_nonneg hx]
theorem own_lrem (x y : Int64) : x - (x / y) * y = x % y := by
  apply Int64.toInt_inj.mp
  have h1 := Int64.le_toInt (x % y)
  have h2 := Int64.toInt_lt (x % y)
  rw [Int64.toInt_sub, Int64.toInt_mul, Int64.toInt_div, Int.bmod_mul_bmod, Int.sub_bmod_bmod, Int.mul_comm (x.toInt.tdiv y.toInt), ← Int.tmod_def, ← Int64.toInt_mod]
  exact Int.bmod_eq_of_le_mul_two (by omega) (by omega)
theorem own_i64nat (v : Int64) : v.toInt = if v.toBitVec.toNat < 2 ^ 63 then (v.toBitVec.toNat : Int) else (v.toBitVec.toNat : Int) - 2 ^ 64 := by
  have := v.toBitVec.isLt
  rw [← Int64.toInt_toBitVec, BitVec.toInt_eq_toNat_cond]
  split <;> split <;> omega
theorem own_i32nat (v : Int32) : v.toInt = if v.toBitVec.toNat < 2 ^ 31 then (v.toBitVec.toNat : Int) else (v.toBitVec.toNat : Int) - 2 ^ 32 := by
  have := v.toBitVec.isLt
  rw [← Int32.toInt_toBitVec, BitVec.toInt_eq_toNat_cond]
  split <;> split <;> omega
/-- a mask of k ones, k at most 31 -/
theorem own_and32 (x m : Int32) {k : Nat} (hk : k ≤ 31) (hm : m.toBitVec.toNat = 2 ^ k - 1) : 0 ≤ (x &&& m).toInt ∧ (x &&& m).toInt < 2 ^ k ∧ (x &&& m).toBitVec.toNat = x.toBitVec.toNat % 2 ^ k := by
  have h1 := own_i32nat (x &&& m)
  have h2 : (x &&& m).toBitVec.toNat = x.toBitVec.toNat &&& m.toBitVec.toNat := rfl
  rw [hm, Nat.and_two_pow_sub_one_eq_mod] at h2
  have h3 : x.toBitVec.toNat % 2 ^ k < 2 ^ k := Nat.mod_lt _ (Nat.two_pow_pos k)
  have h4 : 2 ^ k ≤ 2 ^ 31 := Nat.pow_le_pow_right (by decide) hk
  rw [h2, if_pos (Nat.lt_of_lt_of_le h3 h4)] at h1
  refine ⟨by omega, ?_, h2⟩
  rw [h1]
  exact_mod_cast h3
theorem own_and64 (x m : Int64) {k : Nat} (hk : k ≤ 63) (hm : m.toBitVec.toNat = 2 ^ k - 1) : 0 ≤ (x &&& m).toInt ∧ (x &&& m).toInt < 2 ^ k ∧ (x &&& m).toBitVec.toNat = x.toBitVec.toNat % 2 ^ k := by
  have h1 := own_i64nat (x &&& m)
  have h2 : (x &&& m).toBitVec.toNat = x.toBitVec.toNat &&& m.toBitVec.toNat := rfl
  rw [hm, Nat.and_two_pow_sub_one_eq_mod] at h2
  have h3 : x.toBitVec.toNat % 2 ^ k < 2 ^ k := Nat.mod_lt _ (Nat.two_pow_pos k)
  have h4 : 2 ^ k ≤ 2 ^ 63 := Nat.pow_le_pow_right (by decide) hk
  rw [h2, if_pos (Nat.lt_of_lt_of_le h3 h4)] at h1
  refine ⟨by omega, ?_, h2⟩
  rw [h1]
  exact_mod_cast h3
theorem own_lremM {p : Program} {l : Launch} {e : Env} {R : Room} {s : State} {m : MethodId} {args : Array Value} {below : List Frame} {meth : Method} {c : Code} {T : State} {locs : List Loc} {cells slots : Nat} {g : JFrame} {target : State} (X : Stand p l e R s m args below meth c T locs cells slots) (hx : p.tables.exec = Jvm.exec) (hg : g.method = m) {x y : Int64} {rest : List Value} (hd : decode c.code g.pc = .ok (.lrem, 1)) (hs : g.stack = .long y :: .long x :: rest) (hy : y ≠ 0)
    (hr : Steps p.tables e below (T.setTop { g with pc := g.pc + 1, stack := .long (x % y) :: rest }) target) : Steps p.tables e below (T.setTop g) target :=
  XS.lrem X.here hx hg hd hs hy (by rw [own_lrem]; exact hr)
theorem own_pos_ne {x : Int64} (h : (0 : Int64) < x) : x ≠ 0 := fun q => by rw [q] at h; exact absurd h (by decide)

theorem own_b32 {n : Int} (h1 : -2 ^ 31 ≤ n) (h2 : n < 2 ^ 31) : n.bmod (2 ^ 32) = n := by rw [Int.bmod_def]; omega
theorem own_i32 {j : Int32} {t : Nat} (h : j.toInt = (t : Int)) : j.toNatClampNeg = t := by rw [show j.toNatClampNeg = j.toInt.toNat from rfl]; omega
theorem own_nn {j : Int32} {t : Nat} (h : j.toInt = (t : Int)) : ¬ j < 0 := by
  have e : (0 : Int32).toInt = 0 := rfl
  rw [Int32.lt_iff_toInt_lt]; omega
theorem own_lt32 {j z : Int32} {t k : Nat} (h : j.toInt = (t : Int)) (hz : z.toInt = (k : Int)) (ht : t < k) : ¬ j < 0 ∧ j < z := ⟨own_nn h, by rw [Int32.lt_iff_toInt_lt]; omega⟩
theorem own_ofnat {k : Nat} (h : k < 2 ^ 31) : (Int32.ofNat k).toInt = (k : Int) := by rw [Int32.toInt_ofNat', own_b32 (by omega) (by omega)]
theorem own_i32eq {z : Int32} {k : Nat} (h : z.toInt = (k : Int)) (hk : k < 2 ^ 31) : z = Int32.ofNat k := Int32.toInt_inj.mp (by rw [h, own_ofnat hk])
theorem own_addN (a b : Nat) : Int32.ofNat a + Int32.ofNat b = Int32.ofNat (a + b) := (Int32.ofNat_add a b).symm
def own_max32 (a b : Int32) : Int32 := if a < b then b else a
def own_min32 (a b : Int32) : Int32 := if b < a then b else a
theorem own_rep (pre : List Int32) (a b : Nat) : (pre ++ List.replicate a (0 : Int32)) ++ List.replicate b (0 : Int32) = pre ++ List.replicate (a + b) (0 : Int32) := by
  rw [List.append_assoc, List.replicate_append_replicate]
theorem own_chle (x : Int32) : ¬ (255 : Int32) < (x &&& (255 : Int32)).toUInt32.toUInt16.toUInt32.toInt32 := by
  rw [Int32.lt_iff_toInt_lt]
  have e : (255 : Int32).toInt = 255 := rfl
  have h1 : (x &&& (255 : Int32)).toBitVec.toNat < 256 := by
    rw [Int32.toBitVec_and, BitVec.toNat_and]
    exact Nat.lt_of_le_of_lt Nat.and_le_right (by decide)
  have h2 : (x &&& (255 : Int32)).toUInt32.toUInt16.toUInt32.toInt32.toInt = ((x &&& (255 : Int32)).toBitVec.toNat : Int) := by
    generalize x &&& (255 : Int32) = y at h1
    have h3 : y.toUInt32.toUInt16.toUInt32.toInt32 = y := by
      apply Int32.toBitVec_inj.mp
      apply BitVec.eq_of_toNat_eq
      show (BitVec.setWidth 32 (BitVec.setWidth 16 y.toBitVec)).toNat = y.toBitVec.toNat
      simp only [BitVec.toNat_setWidth]
      omega
    rw [h3]
    show y.toBitVec.toInt = _
    rw [BitVec.toInt_eq_toNat_of_lt (by omega)]
  omega
theorem own_geti (vs : List Int32) (n : Nat) (d : Int32) : (vs.map Value.int).getD n (.int d) = .int (vs.getD n d) := by
  simp only [List.getD_eq_getElem?_getD, List.getElem?_map]
  cases vs[n]? <;> rfl
theorem own_us (cs : List Int32) (N : Nat) (hN : N = cs.length) : ((List.range N).map fun i => (cs.map Value.int).getD (0 + i) (.int (0 : Int32))) = cs.map Value.int := by
  subst hN
  apply List.ext_getElem
  · simp
  · intro i h1 h2
    simp only [List.getElem_map, List.getElem_range, Nat.zero_add, own_geti]
    simp only [List.length_map, List.length_range] at h1
    rw [List.getD_eq_getElem?_getD, List.getElem?_eq_getElem h1]
    rfl
theorem own_cat (pre rs cs : List Int32) : ((pre ++ rs).map Value.int).take pre.length ++ cs.map Value.int ++ ((pre ++ rs).map Value.int).drop (pre.length + cs.length) = (pre ++ cs ++ rs.drop cs.length).map Value.int := by
  rw [← List.map_take, ← List.map_drop, List.take_left, List.drop_append, List.map_append, List.map_append]
  simp
theorem own_sum {K a b r : Nat} (h : a + b = K + r) : Int32.ofNat K + Int32.ofNat r = Int32.ofNat (a + b) := by rw [own_addN, h]
theorem own_sum0 {a b r : Nat} (h : a + b = 0 + 0 + r) : (0 : Int32) + Int32.ofNat r = Int32.ofNat (a + b) := by rw [h, Nat.zero_add, Int32.zero_add]

theorem own_nar0 : nar .byte (0 : Int32) = (0 : Int32) := by decide
theorem own_pad0 (k : Nat) : ∀ i, ((List.replicate k (0 : Int32)).map Value.int).getD i (.int (0 : Int32)) = ([] : List Value).getD i (.int (0 : Int32)) := by
  intro i
  rw [List.map_replicate]
  exact pad_rep [] (.int (0 : Int32)) k i
theorem own_declares {a0 : Array Value} {Z : State} {y : MethodName} {bytes : ByteArray} {maxL : Nat} {ret : Option FieldType} (wi : (Jvm.Cond.instanceMethod y).before a0 Z = true) (wc : (Jvm.Cond.code y bytes maxL ret).before a0 Z = true) : (Jvm.Cond.declares y).before a0 Z = true := by
  obtain ⟨mk, meth, h1, h2, h3, -⟩ := Cond.instanceMethod_spec wi
  obtain ⟨meth', c, h4, -, -, -, -, -, -, h5⟩ := Cond.code_spec h1 wc
  cases h2.symm.trans h4
  simp [Cond.before, Cond.holds, Cond.value, h1, h2, h3, h5]
theorem own_nf {s : State} {y y2 : MethodName} (hc : y2.cls = y.cls) {args : Array Value} {C : String} (h : (Jvm.Cond.selects C y2 y2).before args s = true) : NotFace s y := fun r0 h0 => by
  obtain ⟨c2, r2, m2, q1, q2, q3, q4, kP, hkP, hkPi⟩ := Cond.selects_spec h
  have e1 := findClass_of_methodNamed h0
  have e2 := findClass_of_methodNamed q3
  rw [hc] at e2
  have e3 : m2.cls = r0.cls := Option.some.inj (e2.symm.trans e1)
  exact ⟨kP, by rw [← e3]; exact hkP, hkPi⟩
/-- arraycopy of the first N bytes to the start of another array -/
theorem own_copy {p : Program} {l : Launch} {e : Env} {R : Room} {s : State} {m : MethodId} {args : Array Value} {below : List Frame} {meth : Method} {c : Code} {T : State} {locs : List Loc} {cells slots : Nat} {Z : State} {h : Heap} {a b : Addr} {k k' : ClassId} {z z' nn : Int32} {cs ds : List Int32} (X : Stand p l e R s m args below meth c T locs cells slots) (hx : p.tables.exec = Jvm.exec) (hZ : Z.Warmed39 s.vm) {a0 : Array Value} {own : String} {index : Nat} (hown : s.vm.findClass own = some m.cls)
    (w1 : (Jvm.Cond.methodLink own index Jvm.Stand.acN).before a0 Z = true) (w2 : (Jvm.Cond.native Jvm.Stand.acN).before a0 Z = true) (w3 : (Jvm.Cond.static Jvm.Stand.acN).before a0 Z = true) (w4 : (Jvm.Cond.initialized "java/lang/System").before a0 Z = true) (eT : T.heap = h)
    (A : Arv Z h a k .byte z (cs.map Value.int) (.int (0 : Int32))) (B : Arv Z h b k' .byte z' (ds.map Value.int) (.int (0 : Int32))) (N : Nat) (h3 : nn.toInt = (N : Int)) (hz : z.toInt = (cs.length : Int)) (hz' : z'.toInt = (ds.length : Int)) (h4 : N ≤ cs.length) (h5 : N ≤ ds.length) {n0 : Nat} (NF : Fr n0 locs) (ge : n0 ≤ b)
    {g : JFrame} (hg : g.method = m) (hsize : g.locals.size = c.maxLocals) {rest : List Value} (hs : g.stack = .int nn :: .int (0 : Int32) :: .ref b :: .int (0 : Int32) :: .ref a :: rest) (hd : decode c.code g.pc = .ok (.invokestatic index, 3))
    (hf : 1 ≤ R.frames) {W : Nat} (hW : 2 * g.monitorRoom + (rest.map fun v => v.category).sum ≤ W) (hlo : W + (nativeFrameWords "java/lang/System" "arraycopy" 5 + 11) ≤ R.locals) :
    ∃ T' h' L, Stand p l e R s m args below meth c T' L cells slots ∧ T'.heap = h' ∧ Fr n0 L ∧ Keep h h' [b] ∧ Arv Z h' b k' .byte z' ((cs.take N ++ ds.drop N).map Value.int) (.int (0 : Int32)) ∧
      ∀ target, Steps p.tables e below (T'.setTop { g with pc := g.pc + 3, stack := rest }) target → Steps p.tables e below (T.setTop g) target := by
  have e0 : (0 : Int32).toNatClampNeg = 0 := rfl
  have eN := own_i32 h3
  obtain ⟨T', h', L, X', eh, NF', K, V, st⟩ := cpA X hx hZ hown w1 w2 w3 w4 eT A B (Or.inl ⟨rfl, rfl⟩) (sp := 0) (dp := 0) (nn := nn) (by decide) (by decide) (own_nn h3) (by rw [e0, eN, own_i32 hz]; omega) (by rw [e0, eN, own_i32 hz']; omega) rfl (by rw [e0, eN, List.length_map]; omega) NF ge hg hsize hs hd hf hW hlo
  refine ⟨T', h', L, X', eh, NF', K, ?_, st⟩
  have q : ((List.range nn.toNatClampNeg).map fun i => (cs.map Value.int).getD ((0 : Int32).toNatClampNeg + i) (.int (0 : Int32))) = (cs.take N).map Value.int := by
    rw [e0, eN]
    apply List.ext_getElem
    · simp; omega
    · intro i h1 h2
      simp only [List.getElem_map, List.getElem_range, Nat.zero_add, own_geti, List.getElem_take]
      simp only [List.length_map, List.length_range] at h1
      rw [List.getD_eq_getElem?_getD, List.getElem?_eq_getElem (by omega)]
      rfl
  rw [q, e0, eN] at V
  simpa using V
theorem own_samem {a0 : Array Value} {Z : State} {y y2 : MethodName} {C : String} (wi : (Jvm.Cond.instanceMethod y).before a0 Z = true) (hc : y2.cls = y.cls) (h : (Jvm.Cond.selects C y2 y2).before a0 Z = true) (hy : y.cls ≠ "java/lang/invoke/MethodHandle" ∧ y.cls ≠ "java/lang/invoke/VarHandle") : (Jvm.Cond.sameMethod y.cls y.cls y.name y.desc).before a0 Z = true := by
  obtain ⟨mk, meth, h1, h2, h3, -⟩ := Cond.instanceMethod_spec wi
  have e1 := findClass_of_methodNamed h1
  have e2 := State.methodFound?_of_named h1 hy
  obtain ⟨kr, hk, hni⟩ := own_nf hc h mk h1
  have e3 : Z.methodNamed? ⟨y.cls, y.name, y.desc⟩ = some mk := h1
  simp [Cond.before, Cond.holds, Cond.value, h1, e1, e2, e3, hk, hni]
theorem own_neint {t : Term} {n x : Int32} {args : Array Value} {first s : State} {o : Option Outcome} {idx : List Nat} (ht : t.eval args first o idx s = some (.int x)) (h : (Jvm.Cond.not (Jvm.Cond.eq t (.int n))).value args first o s idx = some true) : ¬ x = n :=
  gotF (Jvm.Cond.eq_ints ht rfl) (not_v h)
/-- arraycopy of a whole array of bytes behind the first ones of another -/
theorem own_copyAt {p : Program} {l : Launch} {e : Env} {R : Room} {s : State} {m : MethodId} {args : Array Value} {below : List Frame} {meth : Method} {c : Code} {T : State} {locs : List Loc} {cells slots : Nat} {Z : State} {h : Heap} {a b : Addr} {k k' : ClassId} {z z' dp nn : Int32} {cs pre rs : List Int32} (X : Stand p l e R s m args below meth c T locs cells slots) (hx : p.tables.exec = Jvm.exec) (hZ : Z.Warmed39 s.vm) {a0 : Array Value} {own : String} {index : Nat} (hown : s.vm.findClass own = some m.cls)
    (w1 : (Jvm.Cond.methodLink own index Jvm.Stand.acN).before a0 Z = true) (w2 : (Jvm.Cond.native Jvm.Stand.acN).before a0 Z = true) (w3 : (Jvm.Cond.static Jvm.Stand.acN).before a0 Z = true) (w4 : (Jvm.Cond.initialized "java/lang/System").before a0 Z = true) (eT : T.heap = h)
    (A : Arv Z h a k .byte z (cs.map Value.int) (.int (0 : Int32))) (B : Arv Z h b k' .byte z' ((pre ++ rs).map Value.int) (.int (0 : Int32))) (hd0 : dp.toInt = (pre.length : Int)) (h3 : nn.toInt = (cs.length : Int)) (hz : z.toInt = (cs.length : Int)) (hz' : z'.toInt = ((pre ++ rs).length : Int)) (h5 : cs.length ≤ rs.length) {n0 : Nat} (NF : Fr n0 locs) (ge : n0 ≤ b)
    {g : JFrame} (hg : g.method = m) (hsize : g.locals.size = c.maxLocals) {rest : List Value} (hs : g.stack = .int nn :: .int dp :: .ref b :: .int (0 : Int32) :: .ref a :: rest) (hd : decode c.code g.pc = .ok (.invokestatic index, 3))
    (hf : 1 ≤ R.frames) {W : Nat} (hW : 2 * g.monitorRoom + (rest.map fun v => v.category).sum ≤ W) (hlo : W + (nativeFrameWords "java/lang/System" "arraycopy" 5 + 11) ≤ R.locals) :
    ∃ T' h' L, Stand p l e R s m args below meth c T' L cells slots ∧ T'.heap = h' ∧ Fr n0 L ∧ Keep h h' [b] ∧ Arv Z h' b k' .byte z' ((pre ++ cs ++ rs.drop cs.length).map Value.int) (.int (0 : Int32)) ∧
      ∀ target, Steps p.tables e below (T'.setTop { g with pc := g.pc + 3, stack := rest }) target → Steps p.tables e below (T.setTop g) target := by
  have e0 : (0 : Int32).toNatClampNeg = 0 := rfl
  have eN := own_i32 h3
  have eD := own_i32 hd0
  obtain ⟨T', h', L, X', eh, NF', K, V, st⟩ := cpA X hx hZ hown w1 w2 w3 w4 eT A B (Or.inl ⟨rfl, rfl⟩) (sp := 0) (dp := dp) (nn := nn) (by decide) (own_nn hd0) (own_nn h3) (by rw [e0, eN, own_i32 hz]; omega) (by rw [eD, eN, own_i32 hz', List.length_append]; omega) rfl (by rw [eD, eN, List.length_map, List.length_append]; omega) NF ge hg hsize hs hd hf hW hlo
  refine ⟨T', h', L, X', eh, NF', K, ?_, st⟩
  rw [e0, own_us cs _ eN, eD, eN, own_cat] at V
  exact V
def own_St (Z : State) (wc : Int32) (wD : Addr) (kD : ClassId) : Prop :=
  Sta Z Z.heap "java/lang/String" "COMPACT_STRINGS" "Z" (.int wc) ∧ ¬ wc = (0 : Int32) ∧ Sta Z Z.heap "java/util/ArrayList" "DEFAULTCAPACITY_EMPTY_ELEMENTDATA" "[Ljava/lang/Object;" (.ref wD) ∧ Arv Z Z.heap wD kD (.object "java/lang/Object") (0 : Int32) [] .null
/-- the ArrayList at al: k elements, the first of them f, in an array of ten at dd (or none yet: dd is al itself) -/
def own_AL (Z : State) (wD : Addr) (h : Heap) (n0 : Nat) (al : Addr) (k : Nat) (dd : Addr) (f : Value) : Prop :=
  n0 ≤ al ∧ n0 ≤ dd ∧ Exa Z h al "java/util/ArrayList" ∧ Fld Z h al "java/util/ArrayList" "size" "I" (.int (Int32.ofNat k)) ∧ (∃ md : Int32, Fld Z h al "java/util/AbstractList" "modCount" "I" (.int md)) ∧
  ((k = 0 ∧ al = dd ∧ Fld Z h al "java/util/ArrayList" "elementData" "[Ljava/lang/Object;" (.ref wD)) ∨
   (1 ≤ k ∧ al ≠ dd ∧ Fld Z h al "java/util/ArrayList" "elementData" "[Ljava/lang/Object;" (.ref dd) ∧ ∃ (kk : ClassId) (vs : List Value), Arv Z h dd kk (.object "java/lang/Object") (10 : Int32) vs .null ∧ vs.length = 10 ∧ Ovr Z kk "java/lang/Object" ∧ vs.getD 0 .null = f))
theorem own_ALext {Z : State} {wD : Addr} {h h' : Heap} {n0 : Nat} {al : Addr} {k : Nat} {dd : Addr} {f : Value} (A : own_AL Z wD h n0 al k dd f) (E : Ext h h') : own_AL Z wD h' n0 al k dd f := by
  obtain ⟨a1, a2, a3, a4, ⟨md, a5⟩, a6⟩ := A
  refine ⟨a1, a2, a3.ext E, a4.ext E, ⟨md, a5.ext E⟩, ?_⟩
  rcases a6 with ⟨b1, b2, b3⟩ | ⟨b1, b2, b3, kk, vs, b4, b5⟩
  · exact Or.inl ⟨b1, b2, b3.ext E⟩
  · exact Or.inr ⟨b1, b2, b3.ext E, kk, vs, b4.ext E, b5⟩
theorem own_ALkeep {Z : State} {wD : Addr} {h h' : Heap} {ws : List Addr} {n0 : Nat} {al : Addr} {k : Nat} {dd : Addr} {f : Value} (A : own_AL Z wD h n0 al k dd f) (K : Keep h h' ws) (q1 : al ∉ ws) (q2 : dd ∉ ws) : own_AL Z wD h' n0 al k dd f := by
  obtain ⟨a1, a2, a3, a4, ⟨md, a5⟩, a6⟩ := A
  refine ⟨a1, a2, a3.keep K, a4.keep K q1, ⟨md, a5.keep K q1⟩, ?_⟩
  rcases a6 with ⟨b1, b2, b3⟩ | ⟨b1, b2, b3, kk, vs, b4, b5⟩
  · exact Or.inl ⟨b1, b2, b3.keep K q1⟩
  · exact Or.inr ⟨b1, b2, b3.keep K q1, kk, vs, b4.keep K q2, b5⟩
/-- the ConfigProblems at p: k1 violations, k2 unsupported ones -/
def own_CP (Z : State) (wD : Addr) (h : Heap) (n0 : Nat) (p : Addr) (k1 k2 : Nat) (f1 f2 : Value) : Prop :=
  ∃ al1 dd1 al2 dd2 : Addr, n0 ≤ p ∧ Exa Z h p "com/example/shaper/shaper/core/ConfigProblems" ∧ Fld Z h p "com/example/shaper/shaper/core/ConfigProblems" "violations" "Ljava/util/List;" (.ref al1) ∧ Fld Z h p "com/example/shaper/shaper/core/ConfigProblems" "unsupported" "Ljava/util/List;" (.ref al2) ∧
    own_AL Z wD h n0 al1 k1 dd1 f1 ∧ own_AL Z wD h n0 al2 k2 dd2 f2 ∧ p ≠ al1 ∧ p ≠ dd1 ∧ p ≠ al2 ∧ p ≠ dd2 ∧ al1 ≠ al2 ∧ al1 ≠ dd2 ∧ dd1 ≠ al2 ∧ dd1 ≠ dd2
theorem own_CPext {Z : State} {wD : Addr} {h h' : Heap} {n0 : Nat} {p : Addr} {k1 k2 : Nat} {f1 f2 : Value} (A : own_CP Z wD h n0 p k1 k2 f1 f2) (E : Ext h h') : own_CP Z wD h' n0 p k1 k2 f1 f2 := by
  obtain ⟨al1, dd1, al2, dd2, a1, a2, a3, a4, a5, a6, a7⟩ := A
  exact ⟨al1, dd1, al2, dd2, a1, a2.ext E, a3.ext E, a4.ext E, own_ALext a5 E, own_ALext a6 E, a7⟩
theorem own_CPkeep {Z : State} {wD : Addr} {h h' : Heap} {n0 : Nat} {p : Addr} {k1 k2 : Nat} {f1 f2 : Value} (A : own_CP Z wD h n0 p k1 k2 f1 f2) (K : Keep h h' []) : own_CP Z wD h' n0 p k1 k2 f1 f2 := by
  obtain ⟨al1, dd1, al2, dd2, a1, a2, a3, a4, a5, a6, a7⟩ := A
  exact ⟨al1, dd1, al2, dd2, a1, a2.keep K, a3.keep K nin0, a4.keep K nin0, own_ALkeep a5 K nin0 nin0, own_ALkeep a6 K nin0 nin0, a7⟩
/-- an array of references of length 0, by the words that name it -/
theorem own_arr0 {s : State} {args : Array Value} {t : Term} {ty : FieldType} {a : Addr} (hf : Fit s) (ev : t.eval args s none [] s = some (.ref a)) (h1 : (Jvm.Cond.arrayOf t ty).value args s none s [] = some true) (h2 : (Jvm.Cond.eq (.length t) (.int 0)).value args s none s [] = some true) : ∃ k, Arv s s.heap a k ty (0 : Int32) [] .null := by
  obtain ⟨cell, A⟩ := Arr.start ev h1
  obtain ⟨a2, cell2, e7, e8, sz, e9⟩ := Jvm.Lib.length_spec (own_eqint h2)
  obtain rfl : a = a2 := Value.ref.inj (Option.some.inj (ev.symm.trans e7))
  obtain ⟨g1, -⟩ := State.arrayAt?_spec e8
  obtain rfl : cell = cell2 := Option.some.inj (A.1.symm.trans g1)
  exact ⟨_, Arv.start hf A sz (Value.int.inj e9).symm (by decide) rfl trivial⟩
def own_EL : List (String × Nat) := [("com/example/shaper/shaper/core/ConfigProblems", 26), ("com/example/shaper/shaper/core/ConfigProblems", 38)]
theorem own_mem26 : ("com/example/shaper/shaper/core/ConfigProblems", 26) ∈ own_EL := by simp [own_EL]
theorem own_mem38 : ("com/example/shaper/shaper/core/ConfigProblems", 38) ∈ own_EL := by simp [own_EL]
theorem own_txt26 : (∀ c ∈ (": ").toList, c.toNat < 256) ∧ (": ").toList.map (fun c => Value.int (Jvm.Lit.byteI c.toNat.toUInt16)) = ([58, 32] : List Int32).map Value.int := ⟨by decide, rfl⟩
theorem own_txt38 : (∀ c ∈ ("not supported yet").toList, c.toNat < 256) ∧ ("not supported yet").toList.map (fun c => Value.int (Jvm.Lit.byteI c.toNat.toUInt16)) = ([110, 111, 116, 32, 115, 117, 112, 112, 111, 114, 116, 101, 100, 32, 121, 101, 116] : List Int32).map Value.int := ⟨by decide, rfl⟩
theorem own_tln26 : 4 * (": ").toList.length ≤ 8 := by decide
theorem own_tln38 : 4 * ("not supported yet").toList.length ≤ 68 := by decide
def own_Lt (x : Addr) (h : Heap) : Prop := x < h.size
theorem own_Lt.lt {x : Addr} {h : Heap} (q : own_Lt x h) : x < h.size := q
theorem own_ALl1 {Z : State} {wD : Addr} {h : Heap} {n0 : Nat} {al : Addr} {k : Nat} {dd : Addr} {f : Value} (A : own_AL Z wD h n0 al k dd f) : own_Lt al h := A.2.2.1.lt
theorem own_ALl2 {Z : State} {wD : Addr} {h : Heap} {n0 : Nat} {al : Addr} {k : Nat} {dd : Addr} {f : Value} (A : own_AL Z wD h n0 al k dd f) : own_Lt dd h := by
  obtain ⟨-, -, a3, -, -, a6⟩ := A
  rcases a6 with ⟨-, b2, -⟩ | ⟨-, -, -, kk, vs, b4, -⟩
  · rw [← b2]; exact a3.lt
  · exact b4.lt
theorem own_ALsafe {Z : State} {EL : List (String × Nat)} {vm : Vm} {wD : Addr} {h : Heap} {n0 : Nat} {al : Addr} {k : Nat} {dd : Addr} {f : Value} (hal : Z.vm.Alike vm) (A : own_AL Z wD h n0 al k dd f) : Safe Z EL vm h dd := by
  obtain ⟨-, -, a3, -, -, a6⟩ := A
  rcases a6 with ⟨-, b2, -⟩ | ⟨-, -, -, kk, vs, b4, -⟩
  · rw [← b2]; exact Safe.exa hal a3 (by decide) (by decide)
  · exact Safe.arv hal b4 nofun
theorem own_neD {x dd d' : Addr} {n : Nat} (hd : d' = dd ∨ n ≤ d') (q : x ≠ dd) (lt : x < n) : x ≠ d' := by
  rcases hd with rfl | hd
  · exact q
  · exact Nat.ne_of_lt (Nat.lt_of_lt_of_le lt hd)
/-- the first element of a list that had k and has got r -/
def own_fst (k : Nat) (r : Addr) (f : Value) : Value := match k with
  | 0 => .ref r
  | _ + 1 => f
theorem own_fst1 {k : Nat} {r : Addr} {f : Value} (h : 1 ≤ k) : own_fst k r f = f := by
  obtain ⟨j, rfl⟩ : ∃ j, k = j + 1 := ⟨k - 1, by omega⟩
  rfl
theorem own_set0 {k : Nat} {vs : List Value} {x d : Value} (h : 1 ≤ k) : (vs.set k x).getD 0 d = vs.getD 0 d := by
  rw [List.getD_eq_getElem?_getD, List.getD_eq_getElem?_getD, List.getElem?_set_ne (by omega)]
theorem own_CPexa {Z : State} {wD : Addr} {h : Heap} {n0 : Nat} {p : Addr} {k1 k2 : Nat} {f1 f2 : Value} (A : own_CP Z wD h n0 p k1 k2 f1 f2) : Exa Z h p "com/example/shaper/shaper/core/ConfigProblems" := by
  obtain ⟨al1, dd1, al2, dd2, -, a2, -⟩ := A
  exact a2

theorem hw_59 {a0 Z} (hw : own_W a0 Z) : (Jvm.Cond.initialized "java/lang/String").before a0 Z = true := hw _ (List.mem_of_getElem? (i := 59) rfl)
theorem hw_67 {a0 Z} (hw : own_W a0 Z) : (Jvm.Cond.instantiable "java/lang/String" (4 : Nat)).before a0 Z = true := hw _ (List.mem_of_getElem? (i := 67) rfl)
theorem hw_71 {a0 Z} (hw : own_W a0 Z) : (Jvm.Cond.arrayClass Jvm.ClassFile.FieldType.byte).before a0 Z = true := hw _ (List.mem_of_getElem? (i := 71) rfl)
theorem hw_78 {a0 Z} (hw : own_W a0 Z) : (Jvm.Cond.laysFinal "java/lang/String" "java/lang/String" "value" "[B").before a0 Z = true := hw _ (List.mem_of_getElem? (i := 78) rfl)
theorem hw_80 {a0 Z} (hw : own_W a0 Z) : (Jvm.Cond.laysFinal "java/lang/String" "java/lang/String" "coder" "B").before a0 Z = true := hw _ (List.mem_of_getElem? (i := 80) rfl)
theorem hw_155 {a0 Z} (hw : own_W a0 Z) : (Jvm.Cond.soleField "java/lang/String" "value").before a0 Z = true := hw _ (List.mem_of_getElem? (i := 155) rfl)
theorem hw_156 {a0 Z} (hw : own_W a0 Z) : (Jvm.Cond.soleField "java/lang/String" "coder").before a0 Z = true := hw _ (List.mem_of_getElem? (i := 156) rfl)
theorem own_wS {a0 : Array Value} {Z : State} (hw : own_W a0 Z) : ∀ a ∈ Bundle.stringAtoms, a.before a0 Z = true := fun a ha => by
  simp only [Bundle.stringAtoms, Bundle.sN, List.mem_cons, List.not_mem_nil, or_false] at ha
  rcases ha with rfl | rfl | rfl | rfl | rfl | rfl | rfl
  · exact (hw_59 hw)
  · exact (hw_67 hw)
  · exact (hw_71 hw)
  · exact (hw_78 hw)
  · exact (hw_80 hw)
  · exact (hw_155 hw)
  · exact (hw_156 hw)
theorem d40_0 : decode jdk_29_method_65_code 0 = .ok (.iload_n 0, 1) := by decide +kernel
theorem d40_1 : decode jdk_29_method_65_code 1 = .ok (.iload_n 1, 1) := by decide +kernel
theorem d40_2 : decode jdk_29_method_65_code 2 = .ok (.if_icmp .lt 7, 3) := by decide +kernel
theorem d40_9 : decode jdk_29_method_65_code 9 = .ok (.iload_n 1, 1) := by decide +kernel
theorem d40_10 : decode jdk_29_method_65_code 10 = .ok (.ireturn, 1) := by decide +kernel
theorem d40_5 : decode jdk_29_method_65_code 5 = .ok (.iload_n 0, 1) := by decide +kernel
theorem d40_6 : decode jdk_29_method_65_code 6 = .ok (.goto 4, 3) := by decide +kernel
theorem own_ef40 (m : MethodId) (p1 : Int32) (p2 : Int32) : entryFrame m #[(.int p1), (.int p2)] 2 = mkF m 0 #[iv p1, iv p2] [] := by first | (simp [entryFrame, mkF, argsToLocals, Value.category]; done) | rfl
def own_Q40 (Z : State) (p1 : Int32) (p2 : Int32) (h0 : Heap) (n0 : Nat) (v : Option Value) (h : Heap) (L : List Loc) : Prop := v = some (.int (own_max32 p1 p2)) ∧ Fr n0 L ∧ h = h0
set_option maxRecDepth 65536 in
set_option maxHeartbeats 40000000 in
theorem own_rm40 (l : Launch) (Z : State) (a0 : Array Value) (hw : own_W a0 Z) (ws : List Jvm.Cond) (p1 : Int32) (p2 : Int32) (h0 : Heap) (n0 : Nat) (Z0 : n0 ≤ h0.size) :
    MetFree l (⟨"java/lang/Math", "max", "(II)I"⟩ : MethodName) (head1 (Jvm.Cond.code (⟨"java/lang/Math", "max", "(II)I"⟩ : MethodName) jdk_29_method_65_code 2 (some .int) :: ws) ({ frames := 0, cells := 0, slots := 0, locals := 0 } : Room)) (fun a U => a = #[(.int p1), (.int p2)] ∧ Z.Warmed39 U.vm ∧ U.heap = h0) (fun _ _ _ _ _ => True) (fun _ U o U' => ∃ v L, o = .returned v ∧ own_Q40 Z p1 p2 h0 n0 v U'.heap L ∧ FrameEnd U o U' L ({ frames := 0, cells := 0, slots := 0, locals := 0 } : Room).cells ({ frames := 0, cells := 0, slots := 0, locals := 0 } : Room).slots) := by
  refine own_body (Jvm.Free.JP.mathPlain rfl (by decide +kernel)) (fun m => own_ef40 m p1 p2) ?_
  intro p e s m below meth c T0 X0 hx hby hml hZ hown hnm hret hlk e0
  have hown : s.vm.findClass "java/lang/Math" = some m.cls := hown
  have hnm : meth.name = "max" := hnm
  have N0 := Fr.nil n0
  refine own_st (mkF m 1 #[iv p1, iv p2] [(.int p1)]) (fun t k => XS.iloadN X0.here hx rfl (hb hby d40_0) rfl k) ?_
  refine own_st (mkF m 2 #[iv p1, iv p2] [(.int p2), (.int p1)]) (fun t k => XS.iloadN X0.here hx rfl (hb hby d40_1) rfl k) ?_
  by_cases hc1 : p1 < p2
  · refine own_st (mkF m 9 #[iv p1, iv p2] []) (fun t k => XS.icmpYes X0.here hx rfl (pc0 := 2) (pc' := 9) rfl (hb hby d40_2) rfl (tlt hc1).1 (by decide) (by decide) k) ?_
    refine own_st (mkF m 10 #[iv p1, iv p2] [(.int p2)]) (fun t k => XS.iloadN X0.here hx rfl (hb hby d40_9) rfl k) ?_
    refine own_ret X0 hlk (v := some (.int p2)) (fun h => by rw [hret] at h; cases h) (fun fs hr => X0.ireturnOut hx hret rfl (Or.inl rfl) (hb hby d40_10) hr) ?_ (by decide) (by decide)
    show own_Q40 Z p1 p2 h0 n0 _ T0.heap _
    rw [e0]
    exact ⟨congrArg (fun z => some (Value.int z)) (by simp [own_max32, hc1] : p2 = own_max32 p1 p2), N0, rfl⟩
  · refine own_st (mkF m 5 #[iv p1, iv p2] []) (fun t k => XS.icmpNo X0.here hx rfl (hb hby d40_2) rfl (flt hc1).1 k) ?_
    refine own_st (mkF m 6 #[iv p1, iv p2] [(.int p1)]) (fun t k => XS.iloadN X0.here hx rfl (hb hby d40_5) rfl k) ?_
    refine own_st (mkF m 10 #[iv p1, iv p2] [(.int p1)]) (fun t k => XS.goto X0.here hx rfl (pc0 := 6) (pc' := 10) rfl (hb hby d40_6) (by decide) (by decide) k) ?_
    refine own_ret X0 hlk (v := some (.int p1)) (fun h => by rw [hret] at h; cases h) (fun fs hr => X0.ireturnOut hx hret rfl (Or.inl rfl) (hb hby d40_10) hr) ?_ (by decide) (by decide)
    show own_Q40 Z p1 p2 h0 n0 _ T0.heap _
    rw [e0]
    exact ⟨congrArg (fun z => some (Value.int z)) (by simp [own_max32, hc1] : p1 = own_max32 p1 p2), N0, rfl⟩
theorem d35_0 : decode jdk_29_method_69_code 0 = .ok (.iload_n 0, 1) := by decide +kernel
theorem d35_1 : decode jdk_29_method_69_code 1 = .ok (.iload_n 1, 1) := by decide +kernel
theorem d35_2 : decode jdk_29_method_69_code 2 = .ok (.if_icmp .gt 7, 3) := by decide +kernel
theorem d35_9 : decode jdk_29_method_69_code 9 = .ok (.iload_n 1, 1) := by decide +kernel
theorem d35_10 : decode jdk_29_method_69_code 10 = .ok (.ireturn, 1) := by decide +kernel
theorem d35_5 : decode jdk_29_method_69_code 5 = .ok (.iload_n 0, 1) := by decide +kernel
theorem d35_6 : decode jdk_29_method_69_code 6 = .ok (.goto 4, 3) := by decide +kernel
theorem own_ef35 (m : MethodId) (p1 : Int32) (p2 : Int32) : entryFrame m #[(.int p1), (.int p2)] 2 = mkF m 0 #[iv p1, iv p2] [] := by first | (simp [entryFrame, mkF, argsToLocals, Value.category]; done) | rfl
def own_Q35 (Z : State) (p1 : Int32) (p2 : Int32) (h0 : Heap) (n0 : Nat) (v : Option Value) (h : Heap) (L : List Loc) : Prop := v = some (.int (own_min32 p1 p2)) ∧ Fr n0 L ∧ h = h0
set_option maxRecDepth 65536 in
set_option maxHeartbeats 40000000 in
theorem own_rm35 (l : Launch) (Z : State) (a0 : Array Value) (hw : own_W a0 Z) (ws : List Jvm.Cond) (p1 : Int32) (p2 : Int32) (h0 : Heap) (n0 : Nat) (Z0 : n0 ≤ h0.size) :
    MetFree l (⟨"java/lang/Math", "min", "(II)I"⟩ : MethodName) (head1 (Jvm.Cond.code (⟨"java/lang/Math", "min", "(II)I"⟩ : MethodName) jdk_29_method_69_code 2 (some .int) :: ws) ({ frames := 0, cells := 0, slots := 0, locals := 0 } : Room)) (fun a U => a = #[(.int p1), (.int p2)] ∧ Z.Warmed39 U.vm ∧ U.heap = h0) (fun _ _ _ _ _ => True) (fun _ U o U' => ∃ v L, o = .returned v ∧ own_Q35 Z p1 p2 h0 n0 v U'.heap L ∧ FrameEnd U o U' L ({ frames := 0, cells := 0, slots := 0, locals := 0 } : Room).cells ({ frames := 0, cells := 0, slots := 0, locals := 0 } : Room).slots) := by
  refine own_body (Jvm.Free.JP.mathPlain rfl (by decide +kernel)) (fun m => own_ef35 m p1 p2) ?_
  intro p e s m below meth c T0 X0 hx hby hml hZ hown hnm hret hlk e0
  have hown : s.vm.findClass "java/lang/Math" = some m.cls := hown
  have hnm : meth.name = "min" := hnm
  have N0 := Fr.nil n0
  refine own_st (mkF m 1 #[iv p1, iv p2] [(.int p1)]) (fun t k => XS.iloadN X0.here hx rfl (hb hby d35_0) rfl k) ?_
  refine own_st (mkF m 2 #[iv p1, iv p2] [(.int p2), (.int p1)]) (fun t k => XS.iloadN X0.here hx rfl (hb hby d35_1) rfl k) ?_
  by_cases hc2 : p2 < p1
  · refine own_st (mkF m 9 #[iv p1, iv p2] []) (fun t k => XS.icmpYes X0.here hx rfl (pc0 := 2) (pc' := 9) rfl (hb hby d35_2) rfl (tlt hc2).2.2.1 (by decide) (by decide) k) ?_
    refine own_st (mkF m 10 #[iv p1, iv p2] [(.int p2)]) (fun t k => XS.iloadN X0.here hx rfl (hb hby d35_9) rfl k) ?_
    refine own_ret X0 hlk (v := some (.int p2)) (fun h => by rw [hret] at h; cases h) (fun fs hr => X0.ireturnOut hx hret rfl (Or.inl rfl) (hb hby d35_10) hr) ?_ (by decide) (by decide)
    show own_Q35 Z p1 p2 h0 n0 _ T0.heap _
    rw [e0]
    exact ⟨congrArg (fun z => some (Value.int z)) (by simp [own_min32, hc2] : p2 = own_min32 p1 p2), N0, rfl⟩
  · refine own_st (mkF m 5 #[iv p1, iv p2] []) (fun t k => XS.icmpNo X0.here hx rfl (hb hby d35_2) rfl (flt hc2).2.2.1 k) ?_
    refine own_st (mkF m 6 #[iv p1, iv p2] [(.int p1)]) (fun t k => XS.iloadN X0.here hx rfl (hb hby d35_5) rfl k) ?_
    refine own_st (mkF m 10 #[iv p1, iv p2] [(.int p1)]) (fun t k => XS.goto X0.here hx rfl (pc0 := 6) (pc' := 10) rfl (hb hby d35_6) (by decide) (by decide) k) ?_
    refine own_ret X0 hlk (v := some (.int p1)) (fun h => by rw [hret] at h; cases h) (fun fs hr => X0.ireturnOut hx hret rfl (Or.inl rfl) (hb hby d35_10) hr) ?_ (by decide) (by decide)
    show own_Q35 Z p1 p2 h0 n0 _ T0.heap _
    rw [e0]
    exact ⟨congrArg (fun z => some (Value.int z)) (by simp [own_min32, hc2] : p1 = own_min32 p1 p2), N0, rfl⟩
theorem d10_0 : decode jdk_43_method_3_code 0 = .ok (.iload_n 0, 1) := by decide +kernel
theorem d10_1 : decode jdk_43_method_3_code 1 = .ok (.sipush 255, 3) := by decide +kernel
theorem d10_4 : decode jdk_43_method_3_code 4 = .ok (.if_icmp .gt 7, 3) := by decide +kernel
theorem d10_7 : decode jdk_43_method_3_code 7 = .ok (.iconst 1, 1) := by decide +kernel
theorem d10_8 : decode jdk_43_method_3_code 8 = .ok (.goto 4, 3) := by decide +kernel
theorem d10_12 : decode jdk_43_method_3_code 12 = .ok (.ireturn, 1) := by decide +kernel
theorem pn_10 : plainName "java/lang/StringLatin1" = true := by first | (simp [plainName, overriddenIn]; done) | decide +kernel
theorem own_ef10 (m : MethodId) (p1 : Int32) : entryFrame m #[(.int p1)] 1 = mkF m 0 #[iv p1] [] := by first | (simp [entryFrame, mkF, argsToLocals, Value.category]; done) | rfl
def own_Q10 (Z : State) (p1 : Int32) (h0 : Heap) (n0 : Nat) (v : Option Value) (h : Heap) (L : List Loc) : Prop := v = some (.int (1 : Int32)) ∧ Fr n0 L ∧ h = h0
set_option maxRecDepth 65536 in
set_option maxHeartbeats 40000000 in
theorem own_rm10 (l : Launch) (Z : State) (a0 : Array Value) (hw : own_W a0 Z) (ws : List Jvm.Cond) (p1 : Int32) (h0 : Heap) (n0 : Nat) (Z0 : n0 ≤ h0.size) (hc : ¬ (255 : Int32) < p1) :
    MetFree l (⟨"java/lang/StringLatin1", "canEncode", "(C)Z"⟩ : MethodName) (head1 (Jvm.Cond.code (⟨"java/lang/StringLatin1", "canEncode", "(C)Z"⟩ : MethodName) jdk_43_method_3_code 1 (some .boolean) :: ws) ({ frames := 0, cells := 0, slots := 0, locals := 0 } : Room)) (fun a U => a = #[(.int p1)] ∧ Z.Warmed39 U.vm ∧ U.heap = h0) (fun _ _ _ _ _ => True) (fun _ U o U' => ∃ v L, o = .returned v ∧ own_Q10 Z p1 h0 n0 v U'.heap L ∧ FrameEnd U o U' L ({ frames := 0, cells := 0, slots := 0, locals := 0 } : Room).cells ({ frames := 0, cells := 0, slots := 0, locals := 0 } : Room).slots) := by
  refine own_body (plainFor_of_name pn_10) (fun m => own_ef10 m p1) ?_
  intro p e s m below meth c T0 X0 hx hby hml hZ hown hnm hret hlk e0
  have hown : s.vm.findClass "java/lang/StringLatin1" = some m.cls := hown
  have hnm : meth.name = "canEncode" := hnm
  have N0 := Fr.nil n0
  refine own_st (mkF m 1 #[iv p1] [(.int p1)]) (fun t k => XS.iloadN X0.here hx rfl (hb hby d10_0) rfl k) ?_
  refine own_st (mkF m 4 #[iv p1] [(.int (255 : Int32)), (.int p1)]) (fun t k => XS.sipush X0.here hx rfl (hb hby d10_1) k) ?_
  refine own_st (mkF m 7 #[iv p1] []) (fun t k => XS.icmpNo X0.here hx rfl (hb hby d10_4) rfl (flt hc).2.2.1 k) ?_
  refine own_st (mkF m 8 #[iv p1] [(.int (1 : Int32))]) (fun t k => XS.iconst X0.here hx rfl (hb hby d10_7) k) ?_
  refine own_st (mkF m 12 #[iv p1] [(.int (1 : Int32))]) (fun t k => XS.goto X0.here hx rfl (pc0 := 8) (pc' := 12) rfl (hb hby d10_8) (by decide) (by decide) k) ?_
  refine own_ret X0 hlk (v := some (.int (1 : Int32))) (fun h => by rw [hret] at h; cases h) (fun fs hr => retN X0 hx (t := .boolean) hret (by simp) (hb hby d10_12) hr) ?_ (by decide) (by decide)
  show own_Q10 Z p1 h0 n0 _ T0.heap _
  rw [e0]
  exact ⟨rfl, N0, rfl⟩
theorem d11_0 : decode jdk_43_method_46_code 0 = .ok (.iconst 1, 1) := by decide +kernel
theorem d11_1 : decode jdk_43_method_46_code 1 = .ok (.newarray .byte, 2) := by decide +kernel
theorem d11_3 : decode jdk_43_method_46_code 3 = .ok (.dup, 1) := by decide +kernel
theorem d11_4 : decode jdk_43_method_46_code 4 = .ok (.iconst 0, 1) := by decide +kernel
theorem d11_5 : decode jdk_43_method_46_code 5 = .ok (.iload_n 0, 1) := by decide +kernel
theorem d11_6 : decode jdk_43_method_46_code 6 = .ok (.i2b, 1) := by decide +kernel
theorem d11_7 : decode jdk_43_method_46_code 7 = .ok (.bastore, 1) := by decide +kernel
theorem d11_8 : decode jdk_43_method_46_code 8 = .ok (.areturn, 1) := by decide +kernel
theorem own_ef11 (m : MethodId) (p1 : Int32) : entryFrame m #[(.int p1)] 1 = mkF m 0 #[iv p1] [] := by first | (simp [entryFrame, mkF, argsToLocals, Value.category]; done) | rfl
def own_Q11 (Z : State) (p1 : Int32) (h0 : Heap) (n0 : Nat) (v : Option Value) (h : Heap) (L : List Loc) : Prop := ∃ (ba : Addr) (kb : ClassId), v = some (.ref ba) ∧ Fr n0 L ∧ Keep h0 h [] ∧ h0.size ≤ ba ∧ Arv Z h ba kb .byte (1 : Int32) (([(nar .byte (p1.toInt8.toInt32))]).map Value.int) (.int (0 : Int32)) ∧ Exa Z h ba "[B"
set_option maxRecDepth 65536 in
set_option maxHeartbeats 40000000 in
theorem own_rm11 (l : Launch) (Z : State) (a0 : Array Value) (hw : own_W a0 Z) (ws : List Jvm.Cond) (p1 : Int32) (h0 : Heap) (n0 : Nat) (Z0 : n0 ≤ h0.size) :
    MetFree l (⟨"java/lang/StringLatin1", "toBytes", "(C)[B"⟩ : MethodName) (head1 (Jvm.Cond.code (⟨"java/lang/StringLatin1", "toBytes", "(C)[B"⟩ : MethodName) jdk_43_method_46_code 1 (some (.array .byte)) :: ws) ({ frames := 0, cells := 1, slots := 1, locals := 0 } : Room)) (fun a U => a = #[(.int p1)] ∧ Z.Warmed39 U.vm ∧ U.heap = h0) (fun _ _ _ _ _ => True) (fun _ U o U' => ∃ v L, o = .returned v ∧ own_Q11 Z p1 h0 n0 v U'.heap L ∧ FrameEnd U o U' L ({ frames := 0, cells := 1, slots := 1, locals := 0 } : Room).cells ({ frames := 0, cells := 1, slots := 1, locals := 0 } : Room).slots) := by
  refine own_body (plainFor_of_name pn_10) (fun m => own_ef11 m p1) ?_
  intro p e s m below meth c T0 X0 hx hby hml hZ hown hnm hret hlk e0
  have hown : s.vm.findClass "java/lang/StringLatin1" = some m.cls := hown
  have hnm : meth.name = "toBytes" := hnm
  have N0 := Fr.nil n0
  have K0 : Keep h0 h0 [] := Keep.refl _ _
  refine own_st (mkF m 1 #[iv p1] [(.int (1 : Int32))]) (fun t k => XS.iconst X0.here hx rfl (hb hby d11_0) k) ?_
  obtain ⟨T3, h3, k3, X3, e3, E3, A3, B3, st3⟩ := newPE (aty := .byte) X0 hx hZ (hw_71 hw) e0 (g := (mkF m 1 #[iv p1] [(.int (1 : Int32))])) rfl (hb hby d11_1) rfl (by decide) (cap := 1) (by decide) (by decide) (by decide) (by decide) (ad := "[B") (by decide)
  obtain ⟨b3, g3⟩ : ∃ z, z = h0.size := ⟨_, rfl⟩
  rw [← g3] at A3 B3 st3
  have E_3 : Ext h0 h3 := E3
  have g_b3 : n0 ≤ b3 := Nat.le_trans Z0 (Nat.le_of_eq g3.symm)
  have sz_b3 : h0.size ≤ b3 := Nat.le_trans K0.1 (Nat.le_of_eq g3.symm)
  have Kp3 : Keep h0 h3 [] := K0.ext E3
  have Z3 : n0 ≤ h3.size := Nat.le_trans Z0 E3.1
  have V3 : Arv Z h3 b3 k3 .byte (1 : Int32) ((List.replicate 1 (0 : Int32)).map Value.int) (.int (0 : Int32)) := (Arv.new A3 (by decide)).pad (own_pad0 1)
  refine own_step (g' := (mkF m 3 #[iv p1] [(.ref b3)])) st3 ?_
  refine own_st (mkF m 4 #[iv p1] [(.ref b3), (.ref b3)]) (fun t k => XS.dup X3.here hx rfl (hb hby d11_3) rfl rfl k) ?_
  refine own_st (mkF m 5 #[iv p1] [(.int (0 : Int32)), (.ref b3), (.ref b3)]) (fun t k => XS.iconst X3.here hx rfl (hb hby d11_4) k) ?_
  refine own_st (mkF m 6 #[iv p1] [(.int p1), (.int (0 : Int32)), (.ref b3), (.ref b3)]) (fun t k => XS.iloadN X3.here hx rfl (hb hby d11_5) rfl k) ?_
  refine own_st (mkF m 7 #[iv p1] [(.int (p1.toInt8.toInt32)), (.int (0 : Int32)), (.ref b3), (.ref b3)]) (fun t k => XS.i2b X3.here hx rfl (hb hby d11_6) rfl k) ?_
  obtain ⟨cl4, Ar4, q4, S4, M4, H4, G4⟩ := id V3
  have hin4 : ¬ ((0 : Int32) < 0 ∨ cl4.slots.size ≤ ((0 : Int32)).toNatClampNeg) := inb_of S4 ⟨by decide, by decide⟩
  obtain ⟨T5, h5, X5, e5, W5, st5⟩ := stB X3 hx hZ e3 Ar4 (j := (0 : Int32)) hin4 (g := (mkF m 7 #[iv p1] [(.int (p1.toInt8.toInt32)), (.int (0 : Int32)), (.ref b3), (.ref b3)])) rfl rfl (hb hby d11_7)
  have f1_Exa_b3 : Exa Z h5 b3 "[B" := (B3.wr W5)
  have V5 : Arv Z h5 b3 k3 .byte (1 : Int32) (([(nar .byte (p1.toInt8.toInt32))]).map Value.int) (.int (0 : Int32)) := Arv.set Ar4 q4 S4 M4 H4 G4 (fits_nar_byte _) W5 0 rfl (by decide)
  have Z5 : n0 ≤ h5.size := Nat.le_trans Z3 (Keep.of_wr W5).1
  have Kp5 : Keep h0 h5 [] := Kp3.wr W5 (Or.inr sz_b3)
  have N5 := Fr.snoc X5 N0 g_b3
  refine own_step (g' := (mkF m 8 #[iv p1] [(.ref b3)])) st5 ?_
  refine own_ret X5 hlk (v := some (.ref b3)) (fun h => by rw [hret] at h; cases h) (fun fs hr => X5.areturnOut hx (w := (.ref b3)) rfl hret rfl (hb hby d11_8) hr) ?_ (by decide) (by decide)
  show own_Q11 Z p1 h0 n0 _ T5.heap _
  rw [e5]
  exact ⟨b3, k3, rfl, N5, Kp5, sz_b3, V5, f1_Exa_b3⟩
theorem d12_0 : decode jdk_42_method_151_code 0 = .ok (.aload_n 0, 1) := by decide +kernel
theorem d12_1 : decode jdk_42_method_151_code 1 = .ok (.invokespecial 1, 3) := by decide +kernel
theorem hw_76 {a0 Z} (hw : own_W a0 Z) : (Jvm.Cond.methodLink "java/lang/String" (1 : Nat) ({ cls := "java/lang/Object", name := "<init>", desc := "()V" } : Jvm.MethodName)).before a0 Z = true := hw _ (List.mem_of_getElem? (i := 76) rfl)
theorem hw_7 {a0 Z} (hw : own_W a0 Z) : (Jvm.Cond.instanceMethod ({ cls := "java/lang/Object", name := "<init>", desc := "()V" } : Jvm.MethodName)).before a0 Z = true := hw _ (List.mem_of_getElem? (i := 7) rfl)
theorem hw_8 {a0 Z} (hw : own_W a0 Z) : (Jvm.Cond.code ({ cls := "java/lang/Object", name := "<init>", desc := "()V" } : Jvm.MethodName) object_method_1_code (1 : Nat) (Option.none : Option Jvm.ClassFile.FieldType)).before a0 Z = true := hw _ (List.mem_of_getElem? (i := 8) rfl)
theorem d12_4 : decode jdk_42_method_151_code 4 = .ok (.aload_n 0, 1) := by decide +kernel
theorem d12_5 : decode jdk_42_method_151_code 5 = .ok (.aload_n 1, 1) := by decide +kernel
theorem d12_6 : decode jdk_42_method_151_code 6 = .ok (.putfield 9, 3) := by decide +kernel
theorem hw_77 {a0 Z} (hw : own_W a0 Z) : (Jvm.Cond.fieldLink "java/lang/String" (9 : Nat) "java/lang/String" "value" "[B").before a0 Z = true := hw _ (List.mem_of_getElem? (i := 77) rfl)
theorem d12_9 : decode jdk_42_method_151_code 9 = .ok (.aload_n 0, 1) := by decide +kernel
theorem d12_10 : decode jdk_42_method_151_code 10 = .ok (.iload_n 2, 1) := by decide +kernel
theorem d12_11 : decode jdk_42_method_151_code 11 = .ok (.putfield 15, 3) := by decide +kernel
theorem hw_79 {a0 Z} (hw : own_W a0 Z) : (Jvm.Cond.fieldLink "java/lang/String" (15 : Nat) "java/lang/String" "coder" "B").before a0 Z = true := hw _ (List.mem_of_getElem? (i := 79) rfl)
theorem d12_14 : decode jdk_42_method_151_code 14 = .ok (.return_, 1) := by decide +kernel
theorem pn_12 : plainName "java/lang/String" = true := by first | (simp [plainName, overriddenIn]; done) | decide +kernel
theorem own_ef12 (m : MethodId) (a1 : Addr) (r2 : Addr) (p3 : Int32) : entryFrame m #[(.ref a1), (.ref r2), (.int p3)] 3 = mkF m 0 #[rv a1, rv r2, iv p3] [] := by first | (simp [entryFrame, mkF, argsToLocals, Value.category]; done) | rfl
def own_Q12 (Z : State) (a1 : Addr) (r2 : Addr) (p3 : Int32) (h0 : Heap) (n0 : Nat) (v : Option Value) (h : Heap) (L : List Loc) : Prop := v = none ∧ Fr n0 L ∧ Keep h0 h [a1] ∧ Exa Z h a1 "java/lang/String" ∧ Fld Z h a1 "java/lang/String" "value" "[B" (.ref r2) ∧ Fld Z h a1 "java/lang/String" "coder" "B" (.int (nar .byte p3))
set_option maxRecDepth 65536 in
set_option maxHeartbeats 40000000 in
theorem own_rm12 (l : Launch) (Z : State) (a0 : Array Value) (hw : own_W a0 Z) (ws : List Jvm.Cond) (a1 : Addr) (r2 : Addr) (p3 : Int32) (h0 : Heap) (n0 : Nat) (Z0 : n0 ≤ h0.size) (E_a1 : Exa Z h0 a1 "java/lang/String") (g_a1 : n0 ≤ a1) (F_value : Fld Z h0 a1 "java/lang/String" "value" "[B" .null) (F_coder : Fld Z h0 a1 "java/lang/String" "coder" "B" (.int (0 : Int32))) :
    MetFree l (⟨"java/lang/String", "<init>", "([BB)V"⟩ : MethodName) (head1 (Jvm.Cond.code (⟨"java/lang/String", "<init>", "([BB)V"⟩ : MethodName) jdk_42_method_151_code 3 none :: ws) ({ frames := 1, cells := 0, slots := 0, locals := 12 } : Room)) (fun a U => a = #[(.ref a1), (.ref r2), (.int p3)] ∧ Z.Warmed39 U.vm ∧ U.heap = h0) (fun _ _ _ _ _ => True) (fun _ U o U' => ∃ v L, o = .returned v ∧ own_Q12 Z a1 r2 p3 h0 n0 v U'.heap L ∧ FrameEnd U o U' L ({ frames := 1, cells := 0, slots := 0, locals := 12 } : Room).cells ({ frames := 1, cells := 0, slots := 0, locals := 12 } : Room).slots) := by
  refine own_body (plainFor_of_name pn_12) (fun m => own_ef12 m a1 r2 p3) ?_
  intro p e s m below meth c T0 X0 hx hby hml hZ hown hnm hret hlk e0
  have hown : s.vm.findClass "java/lang/String" = some m.cls := hown
  have hnm : meth.name = "<init>" := hnm
  have N0 := Fr.nil n0
  have K0 : Keep h0 h0 [a1] := Keep.refl _ _
  refine own_st (mkF m 1 #[rv a1, rv r2, iv p3] [(.ref a1)]) (fun t k => XS.aloadN X0.here hx rfl (hb hby d12_0) rfl rfl k) ?_
  obtain ⟨T6, X6, e6, st6⟩ := initO X0 hx hZ hown (hw_76 hw) (hw_7 hw) (hw_8 hw) e0 (g := (mkF m 1 #[rv a1, rv r2, iv p3] [(.ref a1)])) rfl (by rw [hml]; rfl) rfl (hb hby d12_1) (by decide) (W := 0) (by show 2 * 0 + _ ≤ _; exact Nat.le_of_eq rfl) (by decide)
  refine own_step (g' := (mkF m 4 #[rv a1, rv r2, iv p3] [])) st6 ?_
  refine own_st (mkF m 5 #[rv a1, rv r2, iv p3] [(.ref a1)]) (fun t k => XS.aloadN X6.here hx rfl (hb hby d12_4) rfl rfl k) ?_
  refine own_st (mkF m 6 #[rv a1, rv r2, iv p3] [(.ref r2), (.ref a1)]) (fun t k => XS.aloadN X6.here hx rfl (hb hby d12_5) rfl rfl k) ?_
  obtain ⟨T7, h7, X7, e7, W7, st7⟩ := putF X6 hx hZ hown (host := "") (Or.inl (hw_77 hw)) Via.refl e6 F_value E_a1 (Or.inr ⟨(hw_78 hw), rfl, hnm⟩) (hw_67 hw) (ty := (.array .byte)) (by decide) rfl rfl (g := (mkF m 6 #[rv a1, rv r2, iv p3] [(.ref r2), (.ref a1)])) rfl rfl (hb hby d12_6)
  have f1_Exa_a1 : Exa Z h7 a1 "java/lang/String" := (E_a1.wr W7)
  have f2_Fld_a1 : Fld Z h7 a1 "java/lang/String" "coder" "B" (.int (0 : Int32)) := (F_coder.other W7 (Or.inr (slot_ne (a0 := a0) (C := "java/lang/String") (Or.inr (hw_80 hw)) (Or.inr (hw_78 hw)) (by decide) (t := .byte) (t' := (.array .byte)) (by decide) (by decide))))
  have fw7 : Fld Z h7 a1 "java/lang/String" "value" "[B" (.ref r2) := F_value.same W7
  have Z7 : n0 ≤ h7.size := Nat.le_trans Z0 (Keep.of_wr W7).1
  have Kp7 : Keep h0 h7 [a1] := K0.wr W7 (Or.inl (List.mem_of_getElem? (i := 0) rfl))
  have N7 := Fr.snoc X7 N0 g_a1
  refine own_step (g' := (mkF m 9 #[rv a1, rv r2, iv p3] [])) st7 ?_
  refine own_st (mkF m 10 #[rv a1, rv r2, iv p3] [(.ref a1)]) (fun t k => XS.aloadN X7.here hx rfl (hb hby d12_9) rfl rfl k) ?_
  refine own_st (mkF m 11 #[rv a1, rv r2, iv p3] [(.int p3), (.ref a1)]) (fun t k => XS.iloadN X7.here hx rfl (hb hby d12_10) rfl k) ?_
  obtain ⟨T8, h8, X8, e8, W8, st8⟩ := putFN X7 hx hZ hown (hw_79 hw) Via.refl e7 f2_Fld_a1 f1_Exa_a1 (Or.inr ⟨(hw_80 hw), rfl, hnm⟩) (hw_67 hw) (ty := .byte) (v' := (.int (nar .byte p3))) (by decide) rfl (fits_nar_byte _) (g := (mkF m 11 #[rv a1, rv r2, iv p3] [(.int p3), (.ref a1)])) rfl rfl (hb hby d12_11)
  have f3_Exa_a1 : Exa Z h8 a1 "java/lang/String" := (f1_Exa_a1.wr W8)
  have f4_Fld_a1 : Fld Z h8 a1 "java/lang/String" "value" "[B" (.ref r2) := (fw7.other W8 (Or.inr (slot_ne (a0 := a0) (C := "java/lang/String") (Or.inr (hw_78 hw)) (Or.inr (hw_80 hw)) (by decide) (t := (.array .byte)) (t' := .byte) (by decide) (by decide))))
  have fw8 : Fld Z h8 a1 "java/lang/String" "coder" "B" (.int (nar .byte p3)) := f2_Fld_a1.same W8
  have Z8 : n0 ≤ h8.size := Nat.le_trans Z7 (Keep.of_wr W8).1
  have Kp8 : Keep h0 h8 [a1] := Kp7.wr W8 (Or.inl (List.mem_of_getElem? (i := 0) rfl))
  have N8 := Fr.snoc X8 N7 g_a1
  refine own_step (g' := (mkF m 14 #[rv a1, rv r2, iv p3] [])) st8 ?_
  refine own_ret X8 hlk (v := none) (fun _ => rfl) (fun fs hr => X8.returnOut hx hret (hb hby d12_14) hr) ?_ (by decide) (by decide)
  show own_Q12 Z a1 r2 p3 h0 n0 _ T8.heap _
  rw [e8]
  exact ⟨rfl, N8, Kp8, f3_Exa_a1, f4_Fld_a1, fw8⟩
theorem d9_0 : decode jdk_42_method_139_code 0 = .ok (.getstatic 38, 3) := by decide +kernel
theorem hw_61 {a0 Z} (hw : own_W a0 Z) : (Jvm.Cond.fieldLink "java/lang/String" (38 : Nat) "java/lang/String" "COMPACT_STRINGS" "Z").before a0 Z = true := hw _ (List.mem_of_getElem? (i := 61) rfl)
theorem d9_3 : decode jdk_42_method_139_code 3 = .ok (.ifCond .eq 23, 3) := by decide +kernel
theorem d9_6 : decode jdk_42_method_139_code 6 = .ok (.iload_n 0, 1) := by decide +kernel
theorem d9_7 : decode jdk_42_method_139_code 7 = .ok (.invokestatic 1015, 3) := by decide +kernel
theorem hw_62 {a0 Z} (hw : own_W a0 Z) : (Jvm.Cond.methodLink "java/lang/String" (1015 : Nat) ({ cls := "java/lang/StringLatin1", name := "canEncode", desc := "(C)Z" } : Jvm.MethodName)).before a0 Z = true := hw _ (List.mem_of_getElem? (i := 62) rfl)
theorem hw_65 {a0 Z} (hw : own_W a0 Z) : (Jvm.Cond.code ({ cls := "java/lang/StringLatin1", name := "canEncode", desc := "(C)Z" } : Jvm.MethodName) jdk_43_method_3_code (1 : Nat) (Option.some Jvm.ClassFile.FieldType.boolean)).before a0 Z = true := hw _ (List.mem_of_getElem? (i := 65) rfl)
theorem hw_64 {a0 Z} (hw : own_W a0 Z) : (Jvm.Cond.initialized "java/lang/StringLatin1").before a0 Z = true := hw _ (List.mem_of_getElem? (i := 64) rfl)
theorem pd_0 : parseMethodDescriptor "(C)Z" = some ⟨[.char], some .boolean⟩ := by decide +kernel
theorem hw_63 {a0 Z} (hw : own_W a0 Z) : (Jvm.Cond.static ({ cls := "java/lang/StringLatin1", name := "canEncode", desc := "(C)Z" } : Jvm.MethodName)).before a0 Z = true := hw _ (List.mem_of_getElem? (i := 63) rfl)
theorem d9_10 : decode jdk_42_method_139_code 10 = .ok (.ifCond .eq 16, 3) := by decide +kernel
theorem d9_13 : decode jdk_42_method_139_code 13 = .ok (.new 10, 3) := by decide +kernel
theorem hw_66 {a0 Z} (hw : own_W a0 Z) : (Jvm.Cond.classLink "java/lang/String" (10 : Nat) "java/lang/String").before a0 Z = true := hw _ (List.mem_of_getElem? (i := 66) rfl)
theorem d9_16 : decode jdk_42_method_139_code 16 = .ok (.dup, 1) := by decide +kernel
theorem d9_17 : decode jdk_42_method_139_code 17 = .ok (.iload_n 0, 1) := by decide +kernel
theorem d9_18 : decode jdk_42_method_139_code 18 = .ok (.invokestatic 1018, 3) := by decide +kernel
theorem hw_68 {a0 Z} (hw : own_W a0 Z) : (Jvm.Cond.methodLink "java/lang/String" (1018 : Nat) ({ cls := "java/lang/StringLatin1", name := "toBytes", desc := "(C)[B" } : Jvm.MethodName)).before a0 Z = true := hw _ (List.mem_of_getElem? (i := 68) rfl)
theorem hw_70 {a0 Z} (hw : own_W a0 Z) : (Jvm.Cond.code ({ cls := "java/lang/StringLatin1", name := "toBytes", desc := "(C)[B" } : Jvm.MethodName) jdk_43_method_46_code (1 : Nat) (Option.some (Jvm.ClassFile.FieldType.array Jvm.ClassFile.FieldType.byte))).before a0 Z = true := hw _ (List.mem_of_getElem? (i := 70) rfl)
theorem pd_1 : parseMethodDescriptor "(C)[B" = some ⟨[.char], some (.array .byte)⟩ := by decide +kernel
theorem hw_69 {a0 Z} (hw : own_W a0 Z) : (Jvm.Cond.static ({ cls := "java/lang/StringLatin1", name := "toBytes", desc := "(C)[B" } : Jvm.MethodName)).before a0 Z = true := hw _ (List.mem_of_getElem? (i := 69) rfl)
theorem d9_21 : decode jdk_42_method_139_code 21 = .ok (.iconst 0, 1) := by decide +kernel
theorem d9_22 : decode jdk_42_method_139_code 22 = .ok (.invokespecial 209, 3) := by decide +kernel
theorem hw_72 {a0 Z} (hw : own_W a0 Z) : (Jvm.Cond.methodLink "java/lang/String" (209 : Nat) ({ cls := "java/lang/String", name := "<init>", desc := "([BB)V" } : Jvm.MethodName)).before a0 Z = true := hw _ (List.mem_of_getElem? (i := 72) rfl)
theorem hw_75 {a0 Z} (hw : own_W a0 Z) : (Jvm.Cond.code ({ cls := "java/lang/String", name := "<init>", desc := "([BB)V" } : Jvm.MethodName) jdk_42_method_151_code (3 : Nat) (Option.none : Option Jvm.ClassFile.FieldType)).before a0 Z = true := hw _ (List.mem_of_getElem? (i := 75) rfl)
theorem pd_2 : parseMethodDescriptor "([BB)V" = some ⟨[(.array .byte), .byte], none⟩ := by decide +kernel
theorem hw_73 {a0 Z} (hw : own_W a0 Z) : (Jvm.Cond.instanceMethod ({ cls := "java/lang/String", name := "<init>", desc := "([BB)V" } : Jvm.MethodName)).before a0 Z = true := hw _ (List.mem_of_getElem? (i := 73) rfl)
theorem d9_25 : decode jdk_42_method_139_code 25 = .ok (.areturn, 1) := by decide +kernel
theorem own_ef9 (m : MethodId) (p1 : Int32) : entryFrame m #[(.int p1)] 1 = mkF m 0 #[iv p1] [] := by first | (simp [entryFrame, mkF, argsToLocals, Value.category]; done) | rfl
def own_Q9 (Z : State) (p1 : Int32) (wc : Int32) (wD : Addr) (kD : ClassId) (h0 : Heap) (n0 : Nat) (v : Option Value) (h : Heap) (L : List Loc) : Prop := ∃ (sa ba : Addr) (kb : ClassId), v = some (.ref sa) ∧ Fr n0 L ∧ Keep h0 h [] ∧ h0.size ≤ sa ∧ h0.size ≤ ba ∧ sa ≠ ba ∧ Exa Z h sa "java/lang/String" ∧ Fld Z h sa "java/lang/String" "value" "[B" (.ref ba) ∧ Fld Z h sa "java/lang/String" "coder" "B" (.int (0 : Int32)) ∧ Arv Z h ba kb .byte (1 : Int32) (([(nar .byte (p1.toInt8.toInt32))]).map Value.int) (.int (0 : Int32))
set_option maxRecDepth 65536 in
set_option maxHeartbeats 40000000 in
theorem own_rm9 (l : Launch) (Z : State) (a0 : Array Value) (hw : own_W a0 Z) (ws : List Jvm.Cond) (p1 : Int32) (wc : Int32) (wD : Addr) (kD : ClassId) (h0 : Heap) (n0 : Nat) (Z0 : n0 ≤ h0.size) (O0 : Old Z n0 h0) (SS : own_St Z wc wD kD) (hc : ¬ (255 : Int32) < p1) :
    MetFree l (⟨"java/lang/String", "valueOf", "(C)Ljava/lang/String;"⟩ : MethodName) (head1 (Jvm.Cond.code (⟨"java/lang/String", "valueOf", "(C)Ljava/lang/String;"⟩ : MethodName) jdk_42_method_139_code 1 (some (.object "java/lang/String")) :: ws) ({ frames := 2, cells := 2, slots := 5, locals := 27 } : Room)) (fun a U => a = #[(.int p1)] ∧ Z.Warmed39 U.vm ∧ U.heap = h0) (fun _ _ _ _ _ => True) (fun _ U o U' => ∃ v L, o = .returned v ∧ own_Q9 Z p1 wc wD kD h0 n0 v U'.heap L ∧ FrameEnd U o U' L ({ frames := 2, cells := 2, slots := 5, locals := 27 } : Room).cells ({ frames := 2, cells := 2, slots := 5, locals := 27 } : Room).slots) := by
  refine own_body (plainFor_of_name pn_12) (fun m => own_ef9 m p1) ?_
  intro p e s m below meth c T0 X0 hx hby hml hZ hown hnm hret hlk e0
  have hown : s.vm.findClass "java/lang/String" = some m.cls := hown
  have hnm : meth.name = "valueOf" := hnm
  have N0 := Fr.nil n0
  have K0 : Keep h0 h0 [] := Keep.refl _ _
  obtain ⟨S_wc, hwc, S_wD, V_wD⟩ := id SS
  obtain ⟨T9, X9, e9, st9⟩ := getS2 X0 hx hZ hown (host := "") (Or.inl (hw_61 hw)) Via.refl e0 (S_wc.ext O0.2) (g := (mkF m 0 #[iv p1] [])) rfl (hb hby d9_0)
  refine own_step (g' := (mkF m 3 #[iv p1] [(.int wc)])) st9 ?_
  refine own_st (mkF m 6 #[iv p1] []) (fun t k => XS.ifNo X9.here hx rfl (hb hby d9_3) rfl ((if0 _ _).trans (feq hwc).1) k) ?_
  refine own_st (mkF m 7 #[iv p1] [(.int p1)]) (fun t k => XS.iloadN X9.here hx rfl (hb hby d9_6) rfl k) ?_
  obtain ⟨_, _, ⟨T10, L10, k10, n10⟩, -, X10, ⟨Lc10, hQ10, l10, y10, z10⟩, st10⟩ := Jvm.LawKit.callS X9 hx (y := (⟨"java/lang/StringLatin1", "canEncode", "(C)Z"⟩ : MethodName)) hown (mvT hZ (hw_62 hw)) (mvT hZ (hw_63 hw)) (mvT hZ (hw_64 hw)) (mvT hZ (hw_65 hw)) (by decide) (backOf (W := 0) (own_rm10 l Z a0 hw [] p1 h0 n0 Z0 hc) hZ (hw_65 hw) (hw_64 hw) (by decide) (by decide)) (g := (mkF m 7 #[iv p1] [(.int p1)])) rfl (by rw [hml]; rfl) (argsL := [(.int p1)]) (rest := []) (lenOf pd_0 rfl) rfl (by show 2 * 0 + _ ≤ _; exact Nat.le_of_eq rfl) (hb hby d9_7) (fun _ _ => ⟨rfl, e9, (by decide : 0 + 0 ≤ _), (by decide : 0 + 0 ≤ _)⟩)
  dsimp only [Pt.U, Pt.locs, Pt.cells, Pt.slots] at X10 l10 y10 z10 st10 hQ10
  subst l10 y10 z10
  obtain ⟨rfl, Nq10, e10⟩ := hQ10
  have N10 := Fr.app N0 Nq10
  refine own_step (g' := (mkF m 10 #[iv p1] [(.int (1 : Int32))])) st10 ?_
  refine own_st (mkF m 13 #[iv p1] []) (fun t k => XS.ifNo X10.here hx rfl (hb hby d9_10) rfl ((if0 _ _).trans (feq (by decide : ¬ ((1 : Int32) = (0 : Int32)))).1) k) ?_
  obtain ⟨T11, h11, X11, e11, E11, A11, D11, -, st11⟩ := newO X10 hx hZ hown (hw_66 hw) (hw_67 hw) (hw_59 hw) e10 (g := (mkF m 13 #[iv p1] [])) rfl (hb hby d9_13) (by decide) (by decide)
  obtain ⟨b11, g11⟩ : ∃ z, z = h0.size := ⟨_, rfl⟩
  rw [← g11] at A11 D11 st11
  have E_11 : Ext h0 h11 := E11
  have g_b11 : n0 ≤ b11 := Nat.le_trans Z0 (Nat.le_of_eq g11.symm)
  have sz_b11 : h0.size ≤ b11 := Nat.le_trans K0.1 (Nat.le_of_eq g11.symm)
  have Kp11 : Keep h0 h11 [] := K0.ext E11
  have Z11 : n0 ≤ h11.size := Nat.le_trans Z0 E11.1
  have O11 : Old Z n0 h11 := O0.ext E11
  have F_value_b11 : Fld Z h11 b11 "java/lang/String" "value" "[B" .null := D11 (Or.inr (hw_78 hw)) (ty := (.array .byte)) (by decide)
  have F_coder_b11 : Fld Z h11 b11 "java/lang/String" "coder" "B" (.int (0 : Int32)) := D11 (Or.inr (hw_80 hw)) (ty := .byte) (by decide)
  refine own_step (g' := (mkF m 16 #[iv p1] [(.ref b11)])) st11 ?_
  refine own_st (mkF m 17 #[iv p1] [(.ref b11), (.ref b11)]) (fun t k => XS.dup X11.here hx rfl (hb hby d9_16) rfl rfl k) ?_
  refine own_st (mkF m 18 #[iv p1] [(.int p1), (.ref b11), (.ref b11)]) (fun t k => XS.iloadN X11.here hx rfl (hb hby d9_17) rfl k) ?_
  obtain ⟨_, _, ⟨T12, L12, k12, n12⟩, -, X12, ⟨Lc12, hQ12, l12, y12, z12⟩, st12⟩ := Jvm.LawKit.callS X11 hx (y := (⟨"java/lang/StringLatin1", "toBytes", "(C)[B"⟩ : MethodName)) hown (mvT hZ (hw_68 hw)) (mvT hZ (hw_69 hw)) (mvT hZ (hw_64 hw)) (mvT hZ (hw_70 hw)) (by decide) (backOf (W := 2) (own_rm11 l Z a0 hw [] p1 h11 n0 Z11) hZ (hw_70 hw) (hw_64 hw) (by decide) (by decide)) (g := (mkF m 18 #[iv p1] [(.int p1), (.ref b11), (.ref b11)])) rfl (by rw [hml]; rfl) (argsL := [(.int p1)]) (rest := [(.ref b11), (.ref b11)]) (lenOf pd_1 rfl) rfl (by show 2 * 0 + _ ≤ _; exact Nat.le_of_eq rfl) (hb hby d9_18) (fun _ _ => ⟨rfl, e11, (by decide : 1 + 1 ≤ _), (by decide : 4 + 1 ≤ _)⟩)
  dsimp only [Pt.U, Pt.locs, Pt.cells, Pt.slots] at X12 l12 y12 z12 st12 hQ12
  subst l12 y12 z12
  obtain ⟨ba12, kb12, rfl, Nq12, K12, gb12, V12, Eb12⟩ := hQ12
  have N12 := Fr.app N10 Nq12
  have g_ba12 : n0 ≤ ba12 := Nat.le_trans Z11 gb12
  have ne_b11_ba12 : b11 ≠ ba12 := Nat.ne_of_lt (Nat.lt_of_lt_of_le A11.lt gb12)
  have sz_ba12 : h0.size ≤ ba12 := Nat.le_trans Kp11.1 gb12
  have Z12 : n0 ≤ T12.heap.size := Nat.le_trans Z11 K12.1
  have O12 : Old Z n0 T12.heap := O11.keep K12 all0
  have Kp12 : Keep h0 T12.heap [] := Kp11.trans K12 all0
  have f1_Exa_b11 : Exa Z T12.heap b11 "java/lang/String" := (A11.keep K12)
  have f2_Fld_b11 : Fld Z T12.heap b11 "java/lang/String" "value" "[B" .null := (F_value_b11.keep K12 nin0)
  have f3_Fld_b11 : Fld Z T12.heap b11 "java/lang/String" "coder" "B" (.int (0 : Int32)) := (F_coder_b11.keep K12 nin0)
  refine own_step (g' := (mkF m 21 #[iv p1] [(.ref ba12), (.ref b11), (.ref b11)])) st12 ?_
  refine own_st (mkF m 22 #[iv p1] [(.int (0 : Int32)), (.ref ba12), (.ref b11), (.ref b11)]) (fun t k => XS.iconst X12.here hx rfl (hb hby d9_21) k) ?_
  obtain ⟨_, _, ⟨T13, L13, k13, n13⟩, -, X13, ⟨Lc13, hQ13, l13, y13, z13⟩, st13⟩ := X12.specialBack hx (y := (⟨"java/lang/String", "<init>", "([BB)V"⟩ : MethodName)) rfl hown (mvT hZ (hw_72 hw)) (mvT hZ (hw_73 hw)) (mvT hZ (hw_75 hw)) (by decide) (backOf (W := 1) (own_rm12 l Z a0 hw [] b11 ba12 (0 : Int32) T12.heap n0 Z12 f1_Exa_b11 g_b11 f2_Fld_b11 f3_Fld_b11) hZ (hw_75 hw) (hw_59 hw) (by decide) (by decide)) (g := (mkF m 22 #[iv p1] [(.int (0 : Int32)), (.ref ba12), (.ref b11), (.ref b11)])) rfl (by rw [hml]; rfl) (Steps.refl _) (a := b11) (argsL := [(.ref ba12), (.int (0 : Int32))]) (rest := [(.ref b11)]) (lenOf pd_2 rfl) rfl (by show 2 * 0 + _ ≤ _; exact Nat.le_of_eq rfl) (hb hby d9_22) (fun _ _ => ⟨rfl, rfl, (by decide : 2 + 0 ≤ _), (by decide : 5 + 0 ≤ _)⟩)
  dsimp only [Pt.U, Pt.locs, Pt.cells, Pt.slots] at X13 l13 y13 z13 st13 hQ13
  subst l13 y13 z13
  obtain ⟨rfl, Nq13, K13, Ex13, Fl13_value, Fl13_coder⟩ := hQ13
  have N13 := Fr.app N12 Nq13
  have Z13 : n0 ≤ T13.heap.size := Nat.le_trans Z12 K13.1
  have O13 : Old Z n0 T13.heap := O12.keep K13 (allS g_b11 all0)
  have Kp13 : Keep h0 T13.heap [] := Kp12.trans K13 (allS (Or.inr sz_b11) all0)
  have f4_Exa_b11 : Exa Z T13.heap b11 "java/lang/String" := (f1_Exa_b11.keep K13)
  have f5_Arv_ba12 : Arv Z T13.heap ba12 kb12 .byte (1 : Int32) (([(nar .byte (p1.toInt8.toInt32))]).map Value.int) (.int (0 : Int32)) := (V12.keep K13 (ninS (Ne.symm ne_b11_ba12) nin0))
  have f6_Exa_ba12 : Exa Z T13.heap ba12 "[B" := (Eb12.keep K13)
  refine own_jump (g' := (mkF m 25 #[iv p1] [(.ref b11)])) st13 ?_
  have Fzb11 : Fld Z T13.heap b11 "java/lang/String" "coder" "B" (.int (0 : Int32)) := own_nar0 ▸ Fl13_coder
  refine own_ret X13 hlk (v := some (.ref b11)) (fun h => by rw [hret] at h; cases h) (fun fs hr => X13.areturnOut hx (w := (.ref b11)) rfl hret rfl (hb hby d9_25) hr) ?_ (by decide) (by decide)
  show own_Q9 Z p1 wc wD kD h0 n0 _ T13.heap _
  exact ⟨b11, ba12, kb12, rfl, N13, Kp13, sz_b11, sz_ba12, ne_b11_ba12, Ex13, Fl13_value, Fzb11, f5_Arv_ba12⟩
theorem d20_0 : decode jdk_42_method_152_code 0 = .ok (.getstatic 38, 3) := by decide +kernel
theorem d20_3 : decode jdk_42_method_152_code 3 = .ok (.ifCond .eq 10, 3) := by decide +kernel
theorem d20_6 : decode jdk_42_method_152_code 6 = .ok (.aload_n 0, 1) := by decide +kernel
theorem d20_7 : decode jdk_42_method_152_code 7 = .ok (.getfield 15, 3) := by decide +kernel
theorem d20_10 : decode jdk_42_method_152_code 10 = .ok (.goto 4, 3) := by decide +kernel
theorem d20_14 : decode jdk_42_method_152_code 14 = .ok (.ireturn, 1) := by decide +kernel
theorem own_ef20 (m : MethodId) (a1 : Addr) : entryFrame m #[(.ref a1)] 1 = mkF m 0 #[rv a1] [] := by first | (simp [entryFrame, mkF, argsToLocals, Value.category]; done) | rfl
def own_Q20 (Z : State) (a1 : Addr) (wc : Int32) (wD : Addr) (kD : ClassId) (h0 : Heap) (n0 : Nat) (v : Option Value) (h : Heap) (L : List Loc) : Prop := v = some (.int (0 : Int32)) ∧ Fr n0 L ∧ h = h0
set_option maxRecDepth 65536 in
set_option maxHeartbeats 40000000 in
theorem own_rm20 (l : Launch) (Z : State) (a0 : Array Value) (hw : own_W a0 Z) (ws : List Jvm.Cond) (a1 : Addr) (wc : Int32) (wD : Addr) (kD : ClassId) (h0 : Heap) (n0 : Nat) (Z0 : n0 ≤ h0.size) (O0 : Old Z n0 h0) (SS : own_St Z wc wD kD) (F_c : Fld Z h0 a1 "java/lang/String" "coder" "B" (.int (0 : Int32))) :
    MetFree l (⟨"java/lang/String", "coder", "()B"⟩ : MethodName) (head1 (Jvm.Cond.code (⟨"java/lang/String", "coder", "()B"⟩ : MethodName) jdk_42_method_152_code 1 (some .byte) :: ws) ({ frames := 0, cells := 0, slots := 0, locals := 0 } : Room)) (fun a U => a = #[(.ref a1)] ∧ Z.Warmed39 U.vm ∧ U.heap = h0) (fun _ _ _ _ _ => True) (fun _ U o U' => ∃ v L, o = .returned v ∧ own_Q20 Z a1 wc wD kD h0 n0 v U'.heap L ∧ FrameEnd U o U' L ({ frames := 0, cells := 0, slots := 0, locals := 0 } : Room).cells ({ frames := 0, cells := 0, slots := 0, locals := 0 } : Room).slots) := by
  refine own_body (plainFor_of_name pn_12) (fun m => own_ef20 m a1) ?_
  intro p e s m below meth c T0 X0 hx hby hml hZ hown hnm hret hlk e0
  have hown : s.vm.findClass "java/lang/String" = some m.cls := hown
  have hnm : meth.name = "coder" := hnm
  have N0 := Fr.nil n0
  obtain ⟨S_wc, hwc, S_wD, V_wD⟩ := id SS
  obtain ⟨T14, X14, e14, st14⟩ := getS2 X0 hx hZ hown (host := "") (Or.inl (hw_61 hw)) Via.refl e0 (S_wc.ext O0.2) (g := (mkF m 0 #[rv a1] [])) rfl (hb hby d20_0)
  refine own_step (g' := (mkF m 3 #[rv a1] [(.int wc)])) st14 ?_
  refine own_st (mkF m 6 #[rv a1] []) (fun t k => XS.ifNo X14.here hx rfl (hb hby d20_3) rfl ((if0 _ _).trans (feq hwc).1) k) ?_
  refine own_st (mkF m 7 #[rv a1] [(.ref a1)]) (fun t k => XS.aloadN X14.here hx rfl (hb hby d20_6) rfl rfl k) ?_
  obtain ⟨T15, X15, e15, st15⟩ := getF X14 hx hZ hown (host := "") (Or.inl (hw_79 hw)) Via.refl e14 F_c (g := (mkF m 7 #[rv a1] [(.ref a1)])) rfl rfl (hb hby d20_7)
  refine own_step (g' := (mkF m 10 #[rv a1] [(.int (0 : Int32))])) st15 ?_
  refine own_st (mkF m 14 #[rv a1] [(.int (0 : Int32))]) (fun t k => XS.goto X15.here hx rfl (pc0 := 10) (pc' := 14) rfl (hb hby d20_10) (by decide) (by decide) k) ?_
  refine own_ret X15 hlk (v := some (.int (0 : Int32))) (fun h => by rw [hret] at h; cases h) (fun fs hr => retN X15 hx (t := .byte) hret (by simp) (hb hby d20_14) hr) ?_ (by decide) (by decide)
  show own_Q20 Z a1 wc wD kD h0 n0 _ T15.heap _
  rw [e15]
  exact ⟨rfl, N0, rfl⟩
theorem d16_0 : decode jdk_68_method_2_code 0 = .ok (.aload_n 0, 1) := by decide +kernel
theorem d16_1 : decode jdk_68_method_2_code 1 = .ok (.invokespecial 3, 3) := by decide +kernel
theorem hw_101 {a0 Z} (hw : own_W a0 Z) : (Jvm.Cond.methodLink "java/lang/AbstractStringBuilder" (3 : Nat) ({ cls := "java/lang/Object", name := "<init>", desc := "()V" } : Jvm.MethodName)).before a0 Z = true := hw _ (List.mem_of_getElem? (i := 101) rfl)
theorem d16_4 : decode jdk_68_method_2_code 4 = .ok (.getstatic 18, 3) := by decide +kernel
theorem hw_102 {a0 Z} (hw : own_W a0 Z) : (Jvm.Cond.fieldLink "java/lang/AbstractStringBuilder" (18 : Nat) "java/lang/String" "COMPACT_STRINGS" "Z").before a0 Z = true := hw _ (List.mem_of_getElem? (i := 102) rfl)
theorem d16_7 : decode jdk_68_method_2_code 7 = .ok (.ifCond .eq 18, 3) := by decide +kernel
theorem d16_10 : decode jdk_68_method_2_code 10 = .ok (.aload_n 0, 1) := by decide +kernel
theorem d16_11 : decode jdk_68_method_2_code 11 = .ok (.iload_n 1, 1) := by decide +kernel
theorem d16_12 : decode jdk_68_method_2_code 12 = .ok (.newarray .byte, 2) := by decide +kernel
theorem d16_14 : decode jdk_68_method_2_code 14 = .ok (.putfield 15, 3) := by decide +kernel
theorem hw_103 {a0 Z} (hw : own_W a0 Z) : (Jvm.Cond.fieldLink "java/lang/AbstractStringBuilder" (15 : Nat) "java/lang/AbstractStringBuilder" "value" "[B").before a0 Z = true := hw _ (List.mem_of_getElem? (i := 103) rfl)
theorem hw_104 {a0 Z} (hw : own_W a0 Z) : (Jvm.Cond.lays "java/lang/StringBuilder" "java/lang/AbstractStringBuilder" "value" "[B").before a0 Z = true := hw _ (List.mem_of_getElem? (i := 104) rfl)
theorem hw_90 {a0 Z} (hw : own_W a0 Z) : (Jvm.Cond.instantiable "java/lang/StringBuilder" (4 : Nat)).before a0 Z = true := hw _ (List.mem_of_getElem? (i := 90) rfl)
theorem hw_106 {a0 Z} (hw : own_W a0 Z) : (Jvm.Cond.lays "java/lang/StringBuilder" "java/lang/AbstractStringBuilder" "coder" "B").before a0 Z = true := hw _ (List.mem_of_getElem? (i := 106) rfl)
theorem hw_128 {a0 Z} (hw : own_W a0 Z) : (Jvm.Cond.lays "java/lang/StringBuilder" "java/lang/AbstractStringBuilder" "count" "I").before a0 Z = true := hw _ (List.mem_of_getElem? (i := 128) rfl)
theorem d16_17 : decode jdk_68_method_2_code 17 = .ok (.aload_n 0, 1) := by decide +kernel
theorem d16_18 : decode jdk_68_method_2_code 18 = .ok (.iconst 0, 1) := by decide +kernel
theorem d16_19 : decode jdk_68_method_2_code 19 = .ok (.putfield 22, 3) := by decide +kernel
theorem hw_105 {a0 Z} (hw : own_W a0 Z) : (Jvm.Cond.fieldLink "java/lang/AbstractStringBuilder" (22 : Nat) "java/lang/AbstractStringBuilder" "coder" "B").before a0 Z = true := hw _ (List.mem_of_getElem? (i := 105) rfl)
theorem d16_22 : decode jdk_68_method_2_code 22 = .ok (.goto 16, 3) := by decide +kernel
theorem d16_38 : decode jdk_68_method_2_code 38 = .ok (.return_, 1) := by decide +kernel
theorem pn_16 : plainName "java/lang/AbstractStringBuilder" = true := by first | (simp [plainName, overriddenIn]; done) | decide +kernel
theorem own_ef16 (m : MethodId) (a1 : Addr) : entryFrame m #[(.ref a1), (.int (16 : Int32))] 2 = mkF m 0 #[rv a1, iv (16 : Int32)] [] := by first | (simp [entryFrame, mkF, argsToLocals, Value.category]; done) | rfl
def own_Q16 (Z : State) (a1 : Addr) (wc : Int32) (wD : Addr) (kD : ClassId) (h0 : Heap) (n0 : Nat) (v : Option Value) (h : Heap) (L : List Loc) : Prop := ∃ (vb : Addr) (kb : ClassId), v = none ∧ Fr n0 L ∧ Keep h0 h [a1] ∧ h0.size ≤ vb ∧ Exa Z h a1 "java/lang/StringBuilder" ∧ Fld Z h a1 "java/lang/AbstractStringBuilder" "value" "[B" (.ref vb) ∧ Fld Z h a1 "java/lang/AbstractStringBuilder" "coder" "B" (.int (0 : Int32)) ∧ Fld Z h a1 "java/lang/AbstractStringBuilder" "count" "I" (.int (0 : Int32)) ∧ Arv Z h vb kb .byte (16 : Int32) ((List.replicate 16 (0 : Int32)).map Value.int) (.int (0 : Int32))
set_option maxRecDepth 65536 in
set_option maxHeartbeats 40000000 in
theorem own_rm16 (l : Launch) (Z : State) (a0 : Array Value) (hw : own_W a0 Z) (ws : List Jvm.Cond) (a1 : Addr) (wc : Int32) (wD : Addr) (kD : ClassId) (h0 : Heap) (n0 : Nat) (Z0 : n0 ≤ h0.size) (O0 : Old Z n0 h0) (SS : own_St Z wc wD kD) (E_a1 : Exa Z h0 a1 "java/lang/StringBuilder") (F_v : Fld Z h0 a1 "java/lang/AbstractStringBuilder" "value" "[B" .null) (F_c : Fld Z h0 a1 "java/lang/AbstractStringBuilder" "coder" "B" (.int (0 : Int32))) (F_n : Fld Z h0 a1 "java/lang/AbstractStringBuilder" "count" "I" (.int (0 : Int32))) (g_a1 : n0 ≤ a1) :
    MetFree l (⟨"java/lang/AbstractStringBuilder", "<init>", "(I)V"⟩ : MethodName) (head1 (Jvm.Cond.code (⟨"java/lang/AbstractStringBuilder", "<init>", "(I)V"⟩ : MethodName) jdk_68_method_2_code 2 none :: ws) ({ frames := 1, cells := 1, slots := 16, locals := 12 } : Room)) (fun a U => a = #[(.ref a1), (.int (16 : Int32))] ∧ Z.Warmed39 U.vm ∧ U.heap = h0) (fun _ _ _ _ _ => True) (fun _ U o U' => ∃ v L, o = .returned v ∧ own_Q16 Z a1 wc wD kD h0 n0 v U'.heap L ∧ FrameEnd U o U' L ({ frames := 1, cells := 1, slots := 16, locals := 12 } : Room).cells ({ frames := 1, cells := 1, slots := 16, locals := 12 } : Room).slots) := by
  refine own_body (plainFor_of_name pn_16) (fun m => own_ef16 m a1) ?_
  intro p e s m below meth c T0 X0 hx hby hml hZ hown hnm hret hlk e0
  have hown : s.vm.findClass "java/lang/AbstractStringBuilder" = some m.cls := hown
  have hnm : meth.name = "<init>" := hnm
  have N0 := Fr.nil n0
  have K0 : Keep h0 h0 [a1] := Keep.refl _ _
  obtain ⟨S_wc, hwc, S_wD, V_wD⟩ := id SS
  refine own_st (mkF m 1 #[rv a1, iv (16 : Int32)] [(.ref a1)]) (fun t k => XS.aloadN X0.here hx rfl (hb hby d16_0) rfl rfl k) ?_
  obtain ⟨T16, X16, e16, st16⟩ := initO X0 hx hZ hown (hw_101 hw) (hw_7 hw) (hw_8 hw) e0 (g := (mkF m 1 #[rv a1, iv (16 : Int32)] [(.ref a1)])) rfl (by rw [hml]; rfl) rfl (hb hby d16_1) (by decide) (W := 0) (by show 2 * 0 + _ ≤ _; exact Nat.le_of_eq rfl) (by decide)
  refine own_step (g' := (mkF m 4 #[rv a1, iv (16 : Int32)] [])) st16 ?_
  obtain ⟨T17, X17, e17, st17⟩ := getS2 X16 hx hZ hown (host := "") (Or.inl (hw_102 hw)) Via.refl e16 (S_wc.ext O0.2) (g := (mkF m 4 #[rv a1, iv (16 : Int32)] [])) rfl (hb hby d16_4)
  refine own_step (g' := (mkF m 7 #[rv a1, iv (16 : Int32)] [(.int wc)])) st17 ?_
  refine own_st (mkF m 10 #[rv a1, iv (16 : Int32)] []) (fun t k => XS.ifNo X17.here hx rfl (hb hby d16_7) rfl ((if0 _ _).trans (feq hwc).1) k) ?_
  refine own_st (mkF m 11 #[rv a1, iv (16 : Int32)] [(.ref a1)]) (fun t k => XS.aloadN X17.here hx rfl (hb hby d16_10) rfl rfl k) ?_
  refine own_st (mkF m 12 #[rv a1, iv (16 : Int32)] [(.int (16 : Int32)), (.ref a1)]) (fun t k => XS.iloadN X17.here hx rfl (hb hby d16_11) rfl k) ?_
  obtain ⟨T18, h18, k18, X18, e18, E18, A18, B18, st18⟩ := newPE (aty := .byte) X17 hx hZ (hw_71 hw) e17 (g := (mkF m 12 #[rv a1, iv (16 : Int32)] [(.int (16 : Int32)), (.ref a1)])) rfl (hb hby d16_12) rfl (by decide) (cap := 16) (by decide) (by decide) (by decide) (by decide) (ad := "[B") (by decide)
  obtain ⟨b18, g18⟩ : ∃ z, z = h0.size := ⟨_, rfl⟩
  rw [← g18] at A18 B18 st18
  have E_18 : Ext h0 h18 := E18
  have g_b18 : n0 ≤ b18 := Nat.le_trans Z0 (Nat.le_of_eq g18.symm)
  have ne_a1_b18 : a1 ≠ b18 := Nat.ne_of_lt (Nat.lt_of_lt_of_le E_a1.lt (Nat.le_of_eq g18.symm))
  have sz_b18 : h0.size ≤ b18 := Nat.le_trans K0.1 (Nat.le_of_eq g18.symm)
  have Kp18 : Keep h0 h18 [a1] := K0.ext E18
  have Z18 : n0 ≤ h18.size := Nat.le_trans Z0 E18.1
  have O18 : Old Z n0 h18 := O0.ext E18
  have f1_Exa_a1 : Exa Z h18 a1 "java/lang/StringBuilder" := (E_a1.ext E18)
  have f2_Fld_a1 : Fld Z h18 a1 "java/lang/AbstractStringBuilder" "value" "[B" .null := (F_v.ext E18)
  have f3_Fld_a1 : Fld Z h18 a1 "java/lang/AbstractStringBuilder" "coder" "B" (.int (0 : Int32)) := (F_c.ext E18)
  have f4_Fld_a1 : Fld Z h18 a1 "java/lang/AbstractStringBuilder" "count" "I" (.int (0 : Int32)) := (F_n.ext E18)
  have V18 : Arv Z h18 b18 k18 .byte (16 : Int32) ((List.replicate 16 (0 : Int32)).map Value.int) (.int (0 : Int32)) := (Arv.new A18 (by decide)).pad (own_pad0 16)
  refine own_step (g' := (mkF m 14 #[rv a1, iv (16 : Int32)] [(.ref b18), (.ref a1)])) st18 ?_
  obtain ⟨T19, h19, X19, e19, W19, st19⟩ := putF X18 hx hZ hown (host := "") (Or.inl (hw_103 hw)) Via.refl e18 f2_Fld_a1 f1_Exa_a1 (Or.inl (hw_104 hw)) (hw_90 hw) (ty := (.array .byte)) (by decide) rfl rfl (g := (mkF m 14 #[rv a1, iv (16 : Int32)] [(.ref b18), (.ref a1)])) rfl rfl (hb hby d16_14)
  have f5_Exa_a1 : Exa Z h19 a1 "java/lang/StringBuilder" := (f1_Exa_a1.wr W19)
  have f6_Fld_a1 : Fld Z h19 a1 "java/lang/AbstractStringBuilder" "coder" "B" (.int (0 : Int32)) := (f3_Fld_a1.other W19 (Or.inr (slot_ne (a0 := a0) (C := "java/lang/StringBuilder") (Or.inl (hw_106 hw)) (Or.inl (hw_104 hw)) (by decide) (t := .byte) (t' := (.array .byte)) (by decide) (by decide))))
  have f7_Fld_a1 : Fld Z h19 a1 "java/lang/AbstractStringBuilder" "count" "I" (.int (0 : Int32)) := (f4_Fld_a1.other W19 (Or.inr (slot_ne (a0 := a0) (C := "java/lang/StringBuilder") (Or.inl (hw_128 hw)) (Or.inl (hw_104 hw)) (by decide) (t := .int) (t' := (.array .byte)) (by decide) (by decide))))
  have f8_Arv_b18 : Arv Z h19 b18 k18 .byte (16 : Int32) ((List.replicate 16 (0 : Int32)).map Value.int) (.int (0 : Int32)) := (V18.other W19 (Ne.symm ne_a1_b18))
  have f9_Exa_b18 : Exa Z h19 b18 "[B" := (B18.wr W19)
  have fw19 : Fld Z h19 a1 "java/lang/AbstractStringBuilder" "value" "[B" (.ref b18) := f2_Fld_a1.same W19
  have Z19 : n0 ≤ h19.size := Nat.le_trans Z18 (Keep.of_wr W19).1
  have Kp19 : Keep h0 h19 [a1] := Kp18.wr W19 (Or.inl (List.mem_of_getElem? (i := 0) rfl))
  have O19 : Old Z n0 h19 := O18.wr W19 g_a1
  have N19 := Fr.snoc X19 N0 g_a1
  refine own_step (g' := (mkF m 17 #[rv a1, iv (16 : Int32)] [])) st19 ?_
  refine own_st (mkF m 18 #[rv a1, iv (16 : Int32)] [(.ref a1)]) (fun t k => XS.aloadN X19.here hx rfl (hb hby d16_17) rfl rfl k) ?_
  refine own_st (mkF m 19 #[rv a1, iv (16 : Int32)] [(.int (0 : Int32)), (.ref a1)]) (fun t k => XS.iconst X19.here hx rfl (hb hby d16_18) k) ?_
  obtain ⟨T20, h20, X20, e20, W20, st20⟩ := putFN X19 hx hZ hown (hw_105 hw) Via.refl e19 f6_Fld_a1 f5_Exa_a1 (Or.inl (hw_106 hw)) (hw_90 hw) (ty := .byte) (v' := (.int (nar .byte (0 : Int32)))) (by decide) rfl (fits_nar_byte _) (g := (mkF m 19 #[rv a1, iv (16 : Int32)] [(.int (0 : Int32)), (.ref a1)])) rfl rfl (hb hby d16_19)
  have f10_Exa_a1 : Exa Z h20 a1 "java/lang/StringBuilder" := (f5_Exa_a1.wr W20)
  have f11_Fld_a1 : Fld Z h20 a1 "java/lang/AbstractStringBuilder" "value" "[B" (.ref b18) := (fw19.other W20 (Or.inr (slot_ne (a0 := a0) (C := "java/lang/StringBuilder") (Or.inl (hw_104 hw)) (Or.inl (hw_106 hw)) (by decide) (t := (.array .byte)) (t' := .byte) (by decide) (by decide))))
  have f12_Fld_a1 : Fld Z h20 a1 "java/lang/AbstractStringBuilder" "count" "I" (.int (0 : Int32)) := (f7_Fld_a1.other W20 (Or.inr (slot_ne (a0 := a0) (C := "java/lang/StringBuilder") (Or.inl (hw_128 hw)) (Or.inl (hw_106 hw)) (by decide) (t := .int) (t' := .byte) (by decide) (by decide))))
  have f13_Arv_b18 : Arv Z h20 b18 k18 .byte (16 : Int32) ((List.replicate 16 (0 : Int32)).map Value.int) (.int (0 : Int32)) := (f8_Arv_b18.other W20 (Ne.symm ne_a1_b18))
  have f14_Exa_b18 : Exa Z h20 b18 "[B" := (f9_Exa_b18.wr W20)
  have fw20 : Fld Z h20 a1 "java/lang/AbstractStringBuilder" "coder" "B" (.int (nar .byte (0 : Int32))) := f6_Fld_a1.same W20
  have Z20 : n0 ≤ h20.size := Nat.le_trans Z19 (Keep.of_wr W20).1
  have Kp20 : Keep h0 h20 [a1] := Kp19.wr W20 (Or.inl (List.mem_of_getElem? (i := 0) rfl))
  have O20 : Old Z n0 h20 := O19.wr W20 g_a1
  have N20 := Fr.snoc X20 N19 g_a1
  refine own_step (g' := (mkF m 22 #[rv a1, iv (16 : Int32)] [])) st20 ?_
  have Fz : Fld Z h20 a1 "java/lang/AbstractStringBuilder" "coder" "B" (.int (0 : Int32)) := own_nar0 ▸ fw20
  refine own_st (mkF m 38 #[rv a1, iv (16 : Int32)] []) (fun t k => XS.goto X20.here hx rfl (pc0 := 22) (pc' := 38) rfl (hb hby d16_22) (by decide) (by decide) k) ?_
  refine own_ret X20 hlk (v := none) (fun _ => rfl) (fun fs hr => X20.returnOut hx hret (hb hby d16_38) hr) ?_ (by decide) (by decide)
  show own_Q16 Z a1 wc wD kD h0 n0 _ T20.heap _
  rw [e20]
  exact ⟨b18, k18, rfl, N20, Kp20, sz_b18, f10_Exa_a1, f11_Fld_a1, Fz, f12_Fld_a1, f13_Arv_b18⟩
theorem d15_0 : decode jdk_67_method_1_code 0 = .ok (.aload_n 0, 1) := by decide +kernel
theorem d15_1 : decode jdk_67_method_1_code 1 = .ok (.bipush 16, 2) := by decide +kernel
theorem d15_3 : decode jdk_67_method_1_code 3 = .ok (.invokespecial 1, 3) := by decide +kernel
theorem hw_95 {a0 Z} (hw : own_W a0 Z) : (Jvm.Cond.methodLink "java/lang/StringBuilder" (1 : Nat) ({ cls := "java/lang/AbstractStringBuilder", name := "<init>", desc := "(I)V" } : Jvm.MethodName)).before a0 Z = true := hw _ (List.mem_of_getElem? (i := 95) rfl)
theorem hw_100 {a0 Z} (hw : own_W a0 Z) : (Jvm.Cond.code ({ cls := "java/lang/AbstractStringBuilder", name := "<init>", desc := "(I)V" } : Jvm.MethodName) jdk_68_method_2_code (2 : Nat) (Option.none : Option Jvm.ClassFile.FieldType)).before a0 Z = true := hw _ (List.mem_of_getElem? (i := 100) rfl)
theorem hw_99 {a0 Z} (hw : own_W a0 Z) : (Jvm.Cond.initialized "java/lang/AbstractStringBuilder").before a0 Z = true := hw _ (List.mem_of_getElem? (i := 99) rfl)
theorem pd_3 : parseMethodDescriptor "(I)V" = some ⟨[.int], none⟩ := by decide +kernel
theorem hw_96 {a0 Z} (hw : own_W a0 Z) : (Jvm.Cond.instanceMethod ({ cls := "java/lang/AbstractStringBuilder", name := "<init>", desc := "(I)V" } : Jvm.MethodName)).before a0 Z = true := hw _ (List.mem_of_getElem? (i := 96) rfl)
theorem d15_6 : decode jdk_67_method_1_code 6 = .ok (.return_, 1) := by decide +kernel
theorem pn_15 : plainName "java/lang/StringBuilder" = true := by first | (simp [plainName, overriddenIn]; done) | decide +kernel
theorem own_ef15 (m : MethodId) (a1 : Addr) : entryFrame m #[(.ref a1)] 1 = mkF m 0 #[rv a1] [] := by first | (simp [entryFrame, mkF, argsToLocals, Value.category]; done) | rfl
def own_Q15 (Z : State) (a1 : Addr) (wc : Int32) (wD : Addr) (kD : ClassId) (h0 : Heap) (n0 : Nat) (v : Option Value) (h : Heap) (L : List Loc) : Prop := ∃ (vb : Addr) (kb : ClassId), v = none ∧ Fr n0 L ∧ Keep h0 h [a1] ∧ h0.size ≤ vb ∧ Exa Z h a1 "java/lang/StringBuilder" ∧ Fld Z h a1 "java/lang/AbstractStringBuilder" "value" "[B" (.ref vb) ∧ Fld Z h a1 "java/lang/AbstractStringBuilder" "coder" "B" (.int (0 : Int32)) ∧ Fld Z h a1 "java/lang/AbstractStringBuilder" "count" "I" (.int (0 : Int32)) ∧ Arv Z h vb kb .byte (16 : Int32) ((List.replicate 16 (0 : Int32)).map Value.int) (.int (0 : Int32))
set_option maxRecDepth 65536 in
set_option maxHeartbeats 40000000 in
theorem own_rm15 (l : Launch) (Z : State) (a0 : Array Value) (hw : own_W a0 Z) (ws : List Jvm.Cond) (a1 : Addr) (wc : Int32) (wD : Addr) (kD : ClassId) (h0 : Heap) (n0 : Nat) (Z0 : n0 ≤ h0.size) (O0 : Old Z n0 h0) (SS : own_St Z wc wD kD) (E_a1 : Exa Z h0 a1 "java/lang/StringBuilder") (F_v : Fld Z h0 a1 "java/lang/AbstractStringBuilder" "value" "[B" .null) (F_c : Fld Z h0 a1 "java/lang/AbstractStringBuilder" "coder" "B" (.int (0 : Int32))) (F_n : Fld Z h0 a1 "java/lang/AbstractStringBuilder" "count" "I" (.int (0 : Int32))) (g_a1 : n0 ≤ a1) :
    MetFree l (⟨"java/lang/StringBuilder", "<init>", "()V"⟩ : MethodName) (head1 (Jvm.Cond.code (⟨"java/lang/StringBuilder", "<init>", "()V"⟩ : MethodName) jdk_67_method_1_code 1 none :: ws) ({ frames := 2, cells := 1, slots := 16, locals := 25 } : Room)) (fun a U => a = #[(.ref a1)] ∧ Z.Warmed39 U.vm ∧ U.heap = h0) (fun _ _ _ _ _ => True) (fun _ U o U' => ∃ v L, o = .returned v ∧ own_Q15 Z a1 wc wD kD h0 n0 v U'.heap L ∧ FrameEnd U o U' L ({ frames := 2, cells := 1, slots := 16, locals := 25 } : Room).cells ({ frames := 2, cells := 1, slots := 16, locals := 25 } : Room).slots) := by
  refine own_body (plainFor_of_name pn_15) (fun m => own_ef15 m a1) ?_
  intro p e s m below meth c T0 X0 hx hby hml hZ hown hnm hret hlk e0
  have hown : s.vm.findClass "java/lang/StringBuilder" = some m.cls := hown
  have hnm : meth.name = "<init>" := hnm
  have N0 := Fr.nil n0
  have K0 : Keep h0 h0 [a1] := Keep.refl _ _
  refine own_st (mkF m 1 #[rv a1] [(.ref a1)]) (fun t k => XS.aloadN X0.here hx rfl (hb hby d15_0) rfl rfl k) ?_
  refine own_st (mkF m 3 #[rv a1] [(.int (16 : Int32)), (.ref a1)]) (fun t k => XS.bipush X0.here hx rfl (hb hby d15_1) k) ?_
  obtain ⟨_, _, ⟨T21, L21, k21, n21⟩, -, X21, ⟨Lc21, hQ21, l21, y21, z21⟩, st21⟩ := X0.specialBack hx (y := (⟨"java/lang/AbstractStringBuilder", "<init>", "(I)V"⟩ : MethodName)) rfl hown (mvT hZ (hw_95 hw)) (mvT hZ (hw_96 hw)) (mvT hZ (hw_100 hw)) (by decide) (backOf (W := 0) (own_rm16 l Z a0 hw [] a1 wc wD kD h0 n0 Z0 O0 SS E_a1 F_v F_c F_n g_a1) hZ (hw_100 hw) (hw_99 hw) (by decide) (by decide)) (g := (mkF m 3 #[rv a1] [(.int (16 : Int32)), (.ref a1)])) rfl (by rw [hml]; rfl) (Steps.refl _) (a := a1) (argsL := [(.int (16 : Int32))]) (rest := []) (lenOf pd_3 rfl) rfl (by show 2 * 0 + _ ≤ _; exact Nat.le_of_eq rfl) (hb hby d15_3) (fun _ _ => ⟨rfl, e0, (by decide : 0 + 1 ≤ _), (by decide : 0 + 16 ≤ _)⟩)
  dsimp only [Pt.U, Pt.locs, Pt.cells, Pt.slots] at X21 l21 y21 z21 st21 hQ21
  subst l21 y21 z21
  obtain ⟨vb21, kb21, rfl, Nq21, K21, gb21, Ex21, Fv21, Fc21, Fn21, V21⟩ := hQ21
  have N21 := Fr.app N0 Nq21
  have g_vb21 : n0 ≤ vb21 := Nat.le_trans Z0 gb21
  have ne_a1_vb21 : a1 ≠ vb21 := Nat.ne_of_lt (Nat.lt_of_lt_of_le E_a1.lt gb21)
  have sz_vb21 : h0.size ≤ vb21 := Nat.le_trans K0.1 gb21
  have Z21 : n0 ≤ T21.heap.size := Nat.le_trans Z0 K21.1
  have O21 : Old Z n0 T21.heap := O0.keep K21 (allS g_a1 all0)
  have Kp21 : Keep h0 T21.heap [a1] := K0.trans K21 (allS (Or.inl (List.mem_of_getElem? (i := 0) rfl)) all0)
  have f1_Exa_a1 : Exa Z T21.heap a1 "java/lang/StringBuilder" := (E_a1.keep K21)
  refine own_jump (g' := (mkF m 6 #[rv a1] [])) st21 ?_
  refine own_ret X21 hlk (v := none) (fun _ => rfl) (fun fs hr => X21.returnOut hx hret (hb hby d15_6) hr) ?_ (by decide) (by decide)
  show own_Q15 Z a1 wc wD kD h0 n0 _ T21.heap _
  exact ⟨vb21, kb21, rfl, N21, Kp21, sz_vb21, Ex21, Fv21, Fc21, Fn21, V21⟩
theorem d31_0 : decode jdk_68_method_68_code 0 = .ok (.getstatic 18, 3) := by decide +kernel
theorem d31_3 : decode jdk_68_method_68_code 3 = .ok (.ifCond .eq 14, 3) := by decide +kernel
theorem d31_6 : decode jdk_68_method_68_code 6 = .ok (.aload_n 0, 1) := by decide +kernel
theorem d31_7 : decode jdk_68_method_68_code 7 = .ok (.getfield 22, 3) := by decide +kernel
theorem d31_10 : decode jdk_68_method_68_code 10 = .ok (.ifCond .ne 7, 3) := by decide +kernel
theorem d31_13 : decode jdk_68_method_68_code 13 = .ok (.iconst 1, 1) := by decide +kernel
theorem d31_14 : decode jdk_68_method_68_code 14 = .ok (.goto 4, 3) := by decide +kernel
theorem d31_18 : decode jdk_68_method_68_code 18 = .ok (.ireturn, 1) := by decide +kernel
theorem own_ef31 (m : MethodId) (a1 : Addr) : entryFrame m #[(.ref a1)] 1 = mkF m 0 #[rv a1] [] := by first | (simp [entryFrame, mkF, argsToLocals, Value.category]; done) | rfl
def own_Q31 (Z : State) (a1 : Addr) (wc : Int32) (wD : Addr) (kD : ClassId) (h0 : Heap) (n0 : Nat) (v : Option Value) (h : Heap) (L : List Loc) : Prop := v = some (.int (1 : Int32)) ∧ Fr n0 L ∧ h = h0
set_option maxRecDepth 65536 in
set_option maxHeartbeats 40000000 in
theorem own_rm31 (l : Launch) (Z : State) (a0 : Array Value) (hw : own_W a0 Z) (ws : List Jvm.Cond) (a1 : Addr) (wc : Int32) (wD : Addr) (kD : ClassId) (h0 : Heap) (n0 : Nat) (Z0 : n0 ≤ h0.size) (O0 : Old Z n0 h0) (SS : own_St Z wc wD kD) (F_c : Fld Z h0 a1 "java/lang/AbstractStringBuilder" "coder" "B" (.int (0 : Int32))) :
    MetFree l (⟨"java/lang/AbstractStringBuilder", "isLatin1", "()Z"⟩ : MethodName) (head1 (Jvm.Cond.code (⟨"java/lang/AbstractStringBuilder", "isLatin1", "()Z"⟩ : MethodName) jdk_68_method_68_code 1 (some .boolean) :: ws) ({ frames := 0, cells := 0, slots := 0, locals := 0 } : Room)) (fun a U => a = #[(.ref a1)] ∧ Z.Warmed39 U.vm ∧ U.heap = h0) (fun _ _ _ _ _ => True) (fun _ U o U' => ∃ v L, o = .returned v ∧ own_Q31 Z a1 wc wD kD h0 n0 v U'.heap L ∧ FrameEnd U o U' L ({ frames := 0, cells := 0, slots := 0, locals := 0 } : Room).cells ({ frames := 0, cells := 0, slots := 0, locals := 0 } : Room).slots) := by
  refine own_body (plainFor_of_name pn_16) (fun m => own_ef31 m a1) ?_
  intro p e s m below meth c T0 X0 hx hby hml hZ hown hnm hret hlk e0
  have hown : s.vm.findClass "java/lang/AbstractStringBuilder" = some m.cls := hown
  have hnm : meth.name = "isLatin1" := hnm
  have N0 := Fr.nil n0
  obtain ⟨S_wc, hwc, S_wD, V_wD⟩ := id SS
  obtain ⟨T22, X22, e22, st22⟩ := getS2 X0 hx hZ hown (host := "") (Or.inl (hw_102 hw)) Via.refl e0 (S_wc.ext O0.2) (g := (mkF m 0 #[rv a1] [])) rfl (hb hby d31_0)
  refine own_step (g' := (mkF m 3 #[rv a1] [(.int wc)])) st22 ?_
  refine own_st (mkF m 6 #[rv a1] []) (fun t k => XS.ifNo X22.here hx rfl (hb hby d31_3) rfl ((if0 _ _).trans (feq hwc).1) k) ?_
  refine own_st (mkF m 7 #[rv a1] [(.ref a1)]) (fun t k => XS.aloadN X22.here hx rfl (hb hby d31_6) rfl rfl k) ?_
  obtain ⟨T23, X23, e23, st23⟩ := getF X22 hx hZ hown (host := "") (Or.inl (hw_105 hw)) Via.refl e22 F_c (g := (mkF m 7 #[rv a1] [(.ref a1)])) rfl rfl (hb hby d31_7)
  refine own_step (g' := (mkF m 10 #[rv a1] [(.int (0 : Int32))])) st23 ?_
  refine own_st (mkF m 13 #[rv a1] []) (fun t k => XS.ifNo X23.here hx rfl (hb hby d31_10) rfl ((if0 _ _).trans (teq (by decide : (0 : Int32) = (0 : Int32))).2) k) ?_
  refine own_st (mkF m 14 #[rv a1] [(.int (1 : Int32))]) (fun t k => XS.iconst X23.here hx rfl (hb hby d31_13) k) ?_
  refine own_st (mkF m 18 #[rv a1] [(.int (1 : Int32))]) (fun t k => XS.goto X23.here hx rfl (pc0 := 14) (pc' := 18) rfl (hb hby d31_14) (by decide) (by decide) k) ?_
  refine own_ret X23 hlk (v := some (.int (1 : Int32))) (fun h => by rw [hret] at h; cases h) (fun fs hr => retN X23 hx (t := .boolean) hret (by simp) (hb hby d31_18) hr) ?_ (by decide) (by decide)
  show own_Q31 Z a1 wc wD kD h0 n0 _ T23.heap _
  rw [e23]
  exact ⟨rfl, N0, rfl⟩
theorem d23_0 : decode jdk_68_method_71_code 0 = .ok (.getstatic 18, 3) := by decide +kernel
theorem d23_3 : decode jdk_68_method_71_code 3 = .ok (.ifCond .eq 18, 3) := by decide +kernel
theorem d23_6 : decode jdk_68_method_71_code 6 = .ok (.aload_n 0, 1) := by decide +kernel
theorem d23_7 : decode jdk_68_method_71_code 7 = .ok (.getfield 22, 3) := by decide +kernel
theorem d23_10 : decode jdk_68_method_71_code 10 = .ok (.aload_n 1, 1) := by decide +kernel
theorem d23_11 : decode jdk_68_method_71_code 11 = .ok (.invokevirtual 40, 3) := by decide +kernel
theorem hw_144 {a0 Z} (hw : own_W a0 Z) : (Jvm.Cond.methodLink "java/lang/AbstractStringBuilder" (40 : Nat) ({ cls := "java/lang/String", name := "coder", desc := "()B" } : Jvm.MethodName)).before a0 Z = true := hw _ (List.mem_of_getElem? (i := 144) rfl)
theorem hw_126 {a0 Z} (hw : own_W a0 Z) : (Jvm.Cond.code ({ cls := "java/lang/String", name := "coder", desc := "()B" } : Jvm.MethodName) jdk_42_method_152_code (1 : Nat) (Option.some Jvm.ClassFile.FieldType.byte)).before a0 Z = true := hw _ (List.mem_of_getElem? (i := 126) rfl)
theorem pd_4 : parseMethodDescriptor "()B" = some ⟨[], some .byte⟩ := by decide +kernel
theorem hw_125 {a0 Z} (hw : own_W a0 Z) : (Jvm.Cond.selects "java/lang/String" ({ cls := "java/lang/String", name := "coder", desc := "()B" } : Jvm.MethodName) ({ cls := "java/lang/String", name := "coder", desc := "()B" } : Jvm.MethodName)).before a0 Z = true := hw _ (List.mem_of_getElem? (i := 125) rfl)
theorem hw_123 {a0 Z} (hw : own_W a0 Z) : (Jvm.Cond.declares ({ cls := "java/lang/String", name := "coder", desc := "()B" } : Jvm.MethodName)).before a0 Z = true := hw _ (List.mem_of_getElem? (i := 123) rfl)
theorem hw_124 {a0 Z} (hw : own_W a0 Z) : (Jvm.Cond.instanceMethod ({ cls := "java/lang/String", name := "coder", desc := "()B" } : Jvm.MethodName)).before a0 Z = true := hw _ (List.mem_of_getElem? (i := 124) rfl)
theorem d23_14 : decode jdk_68_method_71_code 14 = .ok (.if_icmp .eq 7, 3) := by decide +kernel
theorem d23_21 : decode jdk_68_method_71_code 21 = .ok (.return_, 1) := by decide +kernel
theorem own_ef23 (m : MethodId) (a1 : Addr) (r2 : Addr) : entryFrame m #[(.ref a1), (.ref r2)] 2 = mkF m 0 #[rv a1, rv r2] [] := by first | (simp [entryFrame, mkF, argsToLocals, Value.category]; done) | rfl
def own_Q23 (Z : State) (a1 : Addr) (r2 : Addr) (wc : Int32) (wD : Addr) (kD : ClassId) (h0 : Heap) (n0 : Nat) (v : Option Value) (h : Heap) (L : List Loc) : Prop := v = none ∧ Fr n0 L ∧ h = h0
set_option maxRecDepth 65536 in
set_option maxHeartbeats 40000000 in
theorem own_rm23 (l : Launch) (Z : State) (a0 : Array Value) (hw : own_W a0 Z) (ws : List Jvm.Cond) (a1 : Addr) (r2 : Addr) (wc : Int32) (wD : Addr) (kD : ClassId) (h0 : Heap) (n0 : Nat) (Z0 : n0 ≤ h0.size) (O0 : Old Z n0 h0) (SS : own_St Z wc wD kD) (F_c : Fld Z h0 a1 "java/lang/AbstractStringBuilder" "coder" "B" (.int (0 : Int32))) (E_r2 : Exa Z h0 r2 "java/lang/String") (F_sc : Fld Z h0 r2 "java/lang/String" "coder" "B" (.int (0 : Int32))) :
    MetFree l (⟨"java/lang/AbstractStringBuilder", "inflateIfNeededFor", "(Ljava/lang/String;)V"⟩ : MethodName) (head1 (Jvm.Cond.code (⟨"java/lang/AbstractStringBuilder", "inflateIfNeededFor", "(Ljava/lang/String;)V"⟩ : MethodName) jdk_68_method_71_code 2 none :: ws) ({ frames := 1, cells := 0, slots := 0, locals := 13 } : Room)) (fun a U => a = #[(.ref a1), (.ref r2)] ∧ Z.Warmed39 U.vm ∧ U.heap = h0) (fun _ _ _ _ _ => True) (fun _ U o U' => ∃ v L, o = .returned v ∧ own_Q23 Z a1 r2 wc wD kD h0 n0 v U'.heap L ∧ FrameEnd U o U' L ({ frames := 1, cells := 0, slots := 0, locals := 13 } : Room).cells ({ frames := 1, cells := 0, slots := 0, locals := 13 } : Room).slots) := by
  refine own_body (plainFor_of_name pn_16) (fun m => own_ef23 m a1 r2) ?_
  intro p e s m below meth c T0 X0 hx hby hml hZ hown hnm hret hlk e0
  have hown : s.vm.findClass "java/lang/AbstractStringBuilder" = some m.cls := hown
  have hnm : meth.name = "inflateIfNeededFor" := hnm
  have N0 := Fr.nil n0
  obtain ⟨S_wc, hwc, S_wD, V_wD⟩ := id SS
  obtain ⟨T24, X24, e24, st24⟩ := getS2 X0 hx hZ hown (host := "") (Or.inl (hw_102 hw)) Via.refl e0 (S_wc.ext O0.2) (g := (mkF m 0 #[rv a1, rv r2] [])) rfl (hb hby d23_0)
  refine own_step (g' := (mkF m 3 #[rv a1, rv r2] [(.int wc)])) st24 ?_
  refine own_st (mkF m 6 #[rv a1, rv r2] []) (fun t k => XS.ifNo X24.here hx rfl (hb hby d23_3) rfl ((if0 _ _).trans (feq hwc).1) k) ?_
  refine own_st (mkF m 7 #[rv a1, rv r2] [(.ref a1)]) (fun t k => XS.aloadN X24.here hx rfl (hb hby d23_6) rfl rfl k) ?_
  obtain ⟨T25, X25, e25, st25⟩ := getF X24 hx hZ hown (host := "") (Or.inl (hw_105 hw)) Via.refl e24 F_c (g := (mkF m 7 #[rv a1, rv r2] [(.ref a1)])) rfl rfl (hb hby d23_7)
  refine own_step (g' := (mkF m 10 #[rv a1, rv r2] [(.int (0 : Int32))])) st25 ?_
  refine own_st (mkF m 11 #[rv a1, rv r2] [(.ref r2), (.int (0 : Int32))]) (fun t k => XS.aloadN X25.here hx rfl (hb hby d23_10) rfl rfl k) ?_
  obtain ⟨cq26, kq26, q26a, q26b, q26c⟩ := isOf hZ e25 E_r2
  obtain ⟨_, _, ⟨T26, L26, k26, n26⟩, -, X26, ⟨Lc26, hQ26, l26, y26, z26⟩, st26⟩ := X25.virtualBack hx (y := (⟨"java/lang/String", "coder", "()B"⟩ : MethodName)) (z := (⟨"java/lang/String", "coder", "()B"⟩ : MethodName)) hown (mvT hZ (hw_144 hw)) (mvT hZ (hw_123 hw)) (notFace_of_selects (args := #[]) (mvT hZ (hw_125 hw))) (mvT hZ (hw_125 hw)) (mvT hZ (hw_124 hw)) (by decide) (backOf (W := 1) (own_rm20 l Z a0 hw [] r2 wc wD kD h0 n0 Z0 O0 SS F_sc) hZ (hw_126 hw) (hw_59 hw) (by decide) (by decide)) q26a q26c (g := (mkF m 11 #[rv a1, rv r2] [(.ref r2), (.int (0 : Int32))])) rfl (by rw [hml]; rfl) (Steps.refl _) (argsL := []) (rest := [(.int (0 : Int32))]) (lenOf pd_4 rfl) rfl (by show 2 * 0 + _ ≤ _; exact Nat.le_of_eq rfl) (hb hby d23_11) (fun _ _ => ⟨rfl, e25, (by decide : 0 + 0 ≤ _), (by decide : 0 + 0 ≤ _)⟩)
  dsimp only [Pt.U, Pt.locs, Pt.cells, Pt.slots] at X26 l26 y26 z26 st26 hQ26
  subst l26 y26 z26
  obtain ⟨rfl, Nq26, e26⟩ := hQ26
  have N26 := Fr.app N0 Nq26
  refine own_jump (g' := (mkF m 14 #[rv a1, rv r2] [(.int (0 : Int32)), (.int (0 : Int32))])) st26 ?_
  refine own_st (mkF m 21 #[rv a1, rv r2] []) (fun t k => XS.icmpYes X26.here hx rfl (pc0 := 14) (pc' := 21) rfl (hb hby d23_14) rfl (teq (by decide : (0 : Int32) = (0 : Int32))).1 (by decide) (by decide) k) ?_
  refine own_ret X26 hlk (v := none) (fun _ => rfl) (fun fs hr => X26.returnOut hx hret (hb hby d23_21) hr) ?_ (by decide) (by decide)
  show own_Q23 Z a1 r2 wc wD kD h0 n0 _ T26.heap _
  rw [e26]
  exact ⟨rfl, N26, rfl⟩
theorem d28_0 : decode jdk_68_method_64_code 0 = .ok (.aload_n 0, 1) := by decide +kernel
theorem d28_1 : decode jdk_68_method_64_code 1 = .ok (.getfield 15, 3) := by decide +kernel
theorem d28_4 : decode jdk_68_method_64_code 4 = .ok (.areturn, 1) := by decide +kernel
theorem own_ef28 (m : MethodId) (a1 : Addr) : entryFrame m #[(.ref a1)] 1 = mkF m 0 #[rv a1] [] := by first | (simp [entryFrame, mkF, argsToLocals, Value.category]; done) | rfl
def own_Q28 (Z : State) (a1 : Addr) (vb : Addr) (h0 : Heap) (n0 : Nat) (v : Option Value) (h : Heap) (L : List Loc) : Prop := v = some (.ref vb) ∧ Fr n0 L ∧ h = h0
set_option maxRecDepth 65536 in
set_option maxHeartbeats 40000000 in
theorem own_rm28 (l : Launch) (Z : State) (a0 : Array Value) (hw : own_W a0 Z) (ws : List Jvm.Cond) (a1 : Addr) (vb : Addr) (h0 : Heap) (n0 : Nat) (Z0 : n0 ≤ h0.size) (F_v : Fld Z h0 a1 "java/lang/AbstractStringBuilder" "value" "[B" (.ref vb)) :
    MetFree l (⟨"java/lang/AbstractStringBuilder", "getValue", "()[B"⟩ : MethodName) (head1 (Jvm.Cond.code (⟨"java/lang/AbstractStringBuilder", "getValue", "()[B"⟩ : MethodName) jdk_68_method_64_code 1 (some (.array .byte)) :: ws) ({ frames := 0, cells := 0, slots := 0, locals := 0 } : Room)) (fun a U => a = #[(.ref a1)] ∧ Z.Warmed39 U.vm ∧ U.heap = h0) (fun _ _ _ _ _ => True) (fun _ U o U' => ∃ v L, o = .returned v ∧ own_Q28 Z a1 vb h0 n0 v U'.heap L ∧ FrameEnd U o U' L ({ frames := 0, cells := 0, slots := 0, locals := 0 } : Room).cells ({ frames := 0, cells := 0, slots := 0, locals := 0 } : Room).slots) := by
  refine own_body (plainFor_of_name pn_16) (fun m => own_ef28 m a1) ?_
  intro p e s m below meth c T0 X0 hx hby hml hZ hown hnm hret hlk e0
  have hown : s.vm.findClass "java/lang/AbstractStringBuilder" = some m.cls := hown
  have hnm : meth.name = "getValue" := hnm
  have N0 := Fr.nil n0
  refine own_st (mkF m 1 #[rv a1] [(.ref a1)]) (fun t k => XS.aloadN X0.here hx rfl (hb hby d28_0) rfl rfl k) ?_
  obtain ⟨T27, X27, e27, st27⟩ := getF X0 hx hZ hown (host := "") (Or.inl (hw_103 hw)) Via.refl e0 F_v (g := (mkF m 1 #[rv a1] [(.ref a1)])) rfl rfl (hb hby d28_1)
  refine own_step (g' := (mkF m 4 #[rv a1] [(.ref vb)])) st27 ?_
  refine own_ret X27 hlk (v := some (.ref vb)) (fun h => by rw [hret] at h; cases h) (fun fs hr => X27.areturnOut hx (w := (.ref vb)) rfl hret rfl (hb hby d28_4) hr) ?_ (by decide) (by decide)
  show own_Q28 Z a1 vb h0 n0 _ T27.heap _
  rw [e27]
  exact ⟨rfl, N0, rfl⟩
theorem d30_0 : decode jdk_68_method_6_code 0 = .ok (.aload_n 0, 1) := by decide +kernel
theorem d30_1 : decode jdk_68_method_6_code 1 = .ok (.getfield 79, 3) := by decide +kernel
theorem hw_127 {a0 Z} (hw : own_W a0 Z) : (Jvm.Cond.fieldLink "java/lang/AbstractStringBuilder" (79 : Nat) "java/lang/AbstractStringBuilder" "count" "I").before a0 Z = true := hw _ (List.mem_of_getElem? (i := 127) rfl)
theorem d30_4 : decode jdk_68_method_6_code 4 = .ok (.ireturn, 1) := by decide +kernel
theorem own_ef30 (m : MethodId) (a1 : Addr) : entryFrame m #[(.ref a1)] 1 = mkF m 0 #[rv a1] [] := by first | (simp [entryFrame, mkF, argsToLocals, Value.category]; done) | rfl
def own_Q30 (Z : State) (a1 : Addr) (cc : Int32) (h0 : Heap) (n0 : Nat) (v : Option Value) (h : Heap) (L : List Loc) : Prop := v = some (.int cc) ∧ Fr n0 L ∧ h = h0
set_option maxRecDepth 65536 in
set_option maxHeartbeats 40000000 in
theorem own_rm30 (l : Launch) (Z : State) (a0 : Array Value) (hw : own_W a0 Z) (ws : List Jvm.Cond) (a1 : Addr) (cc : Int32) (h0 : Heap) (n0 : Nat) (Z0 : n0 ≤ h0.size) (F_n : Fld Z h0 a1 "java/lang/AbstractStringBuilder" "count" "I" (.int cc)) :
    MetFree l (⟨"java/lang/AbstractStringBuilder", "length", "()I"⟩ : MethodName) (head1 (Jvm.Cond.code (⟨"java/lang/AbstractStringBuilder", "length", "()I"⟩ : MethodName) jdk_68_method_6_code 1 (some .int) :: ws) ({ frames := 0, cells := 0, slots := 0, locals := 0 } : Room)) (fun a U => a = #[(.ref a1)] ∧ Z.Warmed39 U.vm ∧ U.heap = h0) (fun _ _ _ _ _ => True) (fun _ U o U' => ∃ v L, o = .returned v ∧ own_Q30 Z a1 cc h0 n0 v U'.heap L ∧ FrameEnd U o U' L ({ frames := 0, cells := 0, slots := 0, locals := 0 } : Room).cells ({ frames := 0, cells := 0, slots := 0, locals := 0 } : Room).slots) := by
  refine own_body (plainFor_of_name pn_16) (fun m => own_ef30 m a1) ?_
  intro p e s m below meth c T0 X0 hx hby hml hZ hown hnm hret hlk e0
  have hown : s.vm.findClass "java/lang/AbstractStringBuilder" = some m.cls := hown
  have hnm : meth.name = "length" := hnm
  have N0 := Fr.nil n0
  refine own_st (mkF m 1 #[rv a1] [(.ref a1)]) (fun t k => XS.aloadN X0.here hx rfl (hb hby d30_0) rfl rfl k) ?_
  obtain ⟨T28, X28, e28, st28⟩ := getF X0 hx hZ hown (host := "") (Or.inl (hw_127 hw)) Via.refl e0 F_n (g := (mkF m 1 #[rv a1] [(.ref a1)])) rfl rfl (hb hby d30_1)
  refine own_step (g' := (mkF m 4 #[rv a1] [(.int cc)])) st28 ?_
  refine own_ret X28 hlk (v := some (.int cc)) (fun h => by rw [hret] at h; cases h) (fun fs hr => X28.ireturnOut hx hret rfl (Or.inl rfl) (hb hby d30_4) hr) ?_ (by decide) (by decide)
  show own_Q30 Z a1 cc h0 n0 _ T28.heap _
  rw [e28]
  exact ⟨rfl, N0, rfl⟩
theorem d29_0 : decode jdk_67_method_93_code 0 = .ok (.aload_n 0, 1) := by decide +kernel
theorem d29_1 : decode jdk_67_method_93_code 1 = .ok (.invokespecial 343, 3) := by decide +kernel
theorem hw_180 {a0 Z} (hw : own_W a0 Z) : (Jvm.Cond.methodLink "java/lang/StringBuilder" (343 : Nat) ({ cls := "java/lang/AbstractStringBuilder", name := "length", desc := "()I" } : Jvm.MethodName)).before a0 Z = true := hw _ (List.mem_of_getElem? (i := 180) rfl)
theorem hw_181 {a0 Z} (hw : own_W a0 Z) : (Jvm.Cond.code ({ cls := "java/lang/AbstractStringBuilder", name := "length", desc := "()I" } : Jvm.MethodName) jdk_68_method_6_code (1 : Nat) (Option.some Jvm.ClassFile.FieldType.int)).before a0 Z = true := hw _ (List.mem_of_getElem? (i := 181) rfl)
theorem pd_5 : parseMethodDescriptor "()I" = some ⟨[], some .int⟩ := by decide +kernel
theorem hw_176 {a0 Z} (hw : own_W a0 Z) : (Jvm.Cond.instanceMethod ({ cls := "java/lang/AbstractStringBuilder", name := "length", desc := "()I" } : Jvm.MethodName)).before a0 Z = true := hw _ (List.mem_of_getElem? (i := 176) rfl)
theorem hw_172 {a0 Z} (hw : own_W a0 Z) : (Jvm.Cond.selects "java/lang/StringBuilder" ({ cls := "java/lang/AbstractStringBuilder", name := "getValue", desc := "()[B" } : Jvm.MethodName) ({ cls := "java/lang/AbstractStringBuilder", name := "getValue", desc := "()[B" } : Jvm.MethodName)).before a0 Z = true := hw _ (List.mem_of_getElem? (i := 172) rfl)
theorem hw_114 {a0 Z} (hw : own_W a0 Z) : (Jvm.Cond.superclass "java/lang/StringBuilder" "java/lang/AbstractStringBuilder").before a0 Z = true := hw _ (List.mem_of_getElem? (i := 114) rfl)
theorem d29_4 : decode jdk_67_method_93_code 4 = .ok (.ireturn, 1) := by decide +kernel
theorem own_ef29 (m : MethodId) (a1 : Addr) : entryFrame m #[(.ref a1)] 1 = mkF m 0 #[rv a1] [] := by first | (simp [entryFrame, mkF, argsToLocals, Value.category]; done) | rfl
def own_Q29 (Z : State) (a1 : Addr) (cc : Int32) (h0 : Heap) (n0 : Nat) (v : Option Value) (h : Heap) (L : List Loc) : Prop := v = some (.int cc) ∧ Fr n0 L ∧ h = h0
set_option maxRecDepth 65536 in
set_option maxHeartbeats 40000000 in
theorem own_rm29 (l : Launch) (Z : State) (a0 : Array Value) (hw : own_W a0 Z) (ws : List Jvm.Cond) (a1 : Addr) (cc : Int32) (h0 : Heap) (n0 : Nat) (Z0 : n0 ≤ h0.size) (F_n : Fld Z h0 a1 "java/lang/AbstractStringBuilder" "count" "I" (.int cc)) (E_a1 : Exa Z h0 a1 "java/lang/StringBuilder") :
    MetFree l (⟨"java/lang/StringBuilder", "length", "()I"⟩ : MethodName) (head1 (Jvm.Cond.code (⟨"java/lang/StringBuilder", "length", "()I"⟩ : MethodName) jdk_67_method_93_code 1 (some .int) :: ws) ({ frames := 1, cells := 0, slots := 0, locals := 12 } : Room)) (fun a U => a = #[(.ref a1)] ∧ Z.Warmed39 U.vm ∧ U.heap = h0) (fun _ _ _ _ _ => True) (fun _ U o U' => ∃ v L, o = .returned v ∧ own_Q29 Z a1 cc h0 n0 v U'.heap L ∧ FrameEnd U o U' L ({ frames := 1, cells := 0, slots := 0, locals := 12 } : Room).cells ({ frames := 1, cells := 0, slots := 0, locals := 12 } : Room).slots) := by
  refine own_body (plainFor_of_name pn_15) (fun m => own_ef29 m a1) ?_
  intro p e s m below meth c T0 X0 hx hby hml hZ hown hnm hret hlk e0
  have hown : s.vm.findClass "java/lang/StringBuilder" = some m.cls := hown
  have hnm : meth.name = "length" := hnm
  have N0 := Fr.nil n0
  refine own_st (mkF m 1 #[rv a1] [(.ref a1)]) (fun t k => XS.aloadN X0.here hx rfl (hb hby d29_0) rfl rfl k) ?_
  obtain ⟨_, _, ⟨T29, L29, k29, n29⟩, -, X29, ⟨Lc29, hQ29, l29, y29, z29⟩, st29⟩ := superBack X0 hx hZ (y := (⟨"java/lang/AbstractStringBuilder", "length", "()I"⟩ : MethodName)) hown (hw_180 hw) (own_samem (y := (⟨"java/lang/AbstractStringBuilder", "length", "()I"⟩ : MethodName)) (hw_176 hw) (y2 := (⟨"java/lang/AbstractStringBuilder", "getValue", "()[B"⟩ : MethodName)) rfl (hw_172 hw) (by decide)) (hw_176 hw) (hw_114 hw) (by decide) (backOf (W := 0) (own_rm30 l Z a0 hw [] a1 cc h0 n0 Z0 F_n) hZ (hw_181 hw) (hw_99 hw) (by decide) (by decide)) e0 (Ins.self E_a1) (g := (mkF m 1 #[rv a1] [(.ref a1)])) rfl (by rw [hml]; rfl) (hw_181 hw) (argsL := []) (rest := []) (lenOf pd_5 rfl) rfl (by show 2 * 0 + _ ≤ _; exact Nat.le_of_eq rfl) (hb hby d29_1) (fun _ _ => ⟨rfl, e0, (by decide : 0 + 0 ≤ _), (by decide : 0 + 0 ≤ _)⟩)
  dsimp only [Pt.U, Pt.locs, Pt.cells, Pt.slots] at X29 l29 y29 z29 st29 hQ29
  subst l29 y29 z29
  obtain ⟨rfl, Nq29, e29⟩ := hQ29
  have N29 := Fr.app N0 Nq29
  refine own_jump (g' := (mkF m 4 #[rv a1] [(.int cc)])) st29 ?_
  refine own_ret X29 hlk (v := some (.int cc)) (fun h => by rw [hret] at h; cases h) (fun fs hr => X29.ireturnOut hx hret rfl (Or.inl rfl) (hb hby d29_4) hr) ?_ (by decide) (by decide)
  show own_Q29 Z a1 cc h0 n0 _ T29.heap _
  rw [e29]
  exact ⟨rfl, N29, rfl⟩
theorem d19_0 : decode jdk_42_method_54_code 0 = .ok (.aload_n 0, 1) := by decide +kernel
theorem d19_1 : decode jdk_42_method_54_code 1 = .ok (.getfield 9, 3) := by decide +kernel
theorem d19_4 : decode jdk_42_method_54_code 4 = .ok (.arraylength, 1) := by decide +kernel
theorem d19_5 : decode jdk_42_method_54_code 5 = .ok (.aload_n 0, 1) := by decide +kernel
theorem d19_6 : decode jdk_42_method_54_code 6 = .ok (.invokevirtual 335, 3) := by decide +kernel
theorem hw_122 {a0 Z} (hw : own_W a0 Z) : (Jvm.Cond.methodLink "java/lang/String" (335 : Nat) ({ cls := "java/lang/String", name := "coder", desc := "()B" } : Jvm.MethodName)).before a0 Z = true := hw _ (List.mem_of_getElem? (i := 122) rfl)
theorem d19_9 : decode jdk_42_method_54_code 9 = .ok (.ishr, 1) := by decide +kernel
theorem d19_10 : decode jdk_42_method_54_code 10 = .ok (.ireturn, 1) := by decide +kernel
theorem own_ef19_1 (m : MethodId) (a1 : Addr) : entryFrame m #[(.ref a1)] 1 = mkF m 0 #[rv a1] [] := by first | (simp [entryFrame, mkF, argsToLocals, Value.category]; done) | rfl
def own_Q19_1 (Z : State) (a1 : Addr) (r9 : Addr) (bs : List Int32) (kq : ClassId) (wc : Int32) (wD : Addr) (kD : ClassId) (h0 : Heap) (n0 : Nat) (v : Option Value) (h : Heap) (L : List Loc) : Prop := v = some (.int (1 : Int32)) ∧ Fr n0 L ∧ h = h0
set_option maxRecDepth 65536 in
set_option maxHeartbeats 40000000 in
theorem own_rm19_1 (l : Launch) (Z : State) (a0 : Array Value) (hw : own_W a0 Z) (ws : List Jvm.Cond) (a1 : Addr) (r9 : Addr) (bs : List Int32) (kq : ClassId) (wc : Int32) (wD : Addr) (kD : ClassId) (h0 : Heap) (n0 : Nat) (Z0 : n0 ≤ h0.size) (O0 : Old Z n0 h0) (SS : own_St Z wc wD kD) (E_a1 : Exa Z h0 a1 "java/lang/String") (F_v : Fld Z h0 a1 "java/lang/String" "value" "[B" (.ref r9)) (F_c : Fld Z h0 a1 "java/lang/String" "coder" "B" (.int (0 : Int32))) (V0 : Arv Z h0 r9 kq .byte (1 : Int32) ((bs).map Value.int) (.int (0 : Int32))) :
    MetFree l (⟨"java/lang/String", "length", "()I"⟩ : MethodName) (head1 (Jvm.Cond.code (⟨"java/lang/String", "length", "()I"⟩ : MethodName) jdk_42_method_54_code 1 (some .int) :: ws) ({ frames := 1, cells := 0, slots := 0, locals := 13 } : Room)) (fun a U => a = #[(.ref a1)] ∧ Z.Warmed39 U.vm ∧ U.heap = h0) (fun _ _ _ _ _ => True) (fun _ U o U' => ∃ v L, o = .returned v ∧ own_Q19_1 Z a1 r9 bs kq wc wD kD h0 n0 v U'.heap L ∧ FrameEnd U o U' L ({ frames := 1, cells := 0, slots := 0, locals := 13 } : Room).cells ({ frames := 1, cells := 0, slots := 0, locals := 13 } : Room).slots) := by
  refine own_body (plainFor_of_name pn_12) (fun m => own_ef19_1 m a1) ?_
  intro p e s m below meth c T0 X0 hx hby hml hZ hown hnm hret hlk e0
  have hown : s.vm.findClass "java/lang/String" = some m.cls := hown
  have hnm : meth.name = "length" := hnm
  have N0 := Fr.nil n0
  refine own_st (mkF m 1 #[rv a1] [(.ref a1)]) (fun t k => XS.aloadN X0.here hx rfl (hb hby d19_0) rfl rfl k) ?_
  obtain ⟨T30, X30, e30, st30⟩ := getF X0 hx hZ hown (host := "") (Or.inl (hw_77 hw)) Via.refl e0 F_v (g := (mkF m 1 #[rv a1] [(.ref a1)])) rfl rfl (hb hby d19_1)
  refine own_step (g' := (mkF m 4 #[rv a1] [(.ref r9)])) st30 ?_
  obtain ⟨cl31, Ar31, -, S31, M31, -, -⟩ := id V0
  refine own_step (T' := T30) (g' := (mkF m 5 #[rv a1] [(.int cl31.slots.size.toInt32)])) (X30.arraylength hx (by rw [e30]; exact Ar31.1) (State.isArrayOf_alike hZ.alike Ar31.2.1) (g := (mkF m 4 #[rv a1] [(.ref r9)])) rfl rfl (hb hby d19_4)) ?_
  rw [len_of S31 M31]
  refine own_st (mkF m 6 #[rv a1] [(.ref a1), (.int (1 : Int32))]) (fun t k => XS.aloadN X30.here hx rfl (hb hby d19_5) rfl rfl k) ?_
  obtain ⟨cq32, kq32, q32a, q32b, q32c⟩ := isOf hZ e30 E_a1
  obtain ⟨_, _, ⟨T32, L32, k32, n32⟩, -, X32, ⟨Lc32, hQ32, l32, y32, z32⟩, st32⟩ := X30.virtualBack hx (y := (⟨"java/lang/String", "coder", "()B"⟩ : MethodName)) (z := (⟨"java/lang/String", "coder", "()B"⟩ : MethodName)) hown (mvT hZ (hw_122 hw)) (mvT hZ (hw_123 hw)) (notFace_of_selects (args := #[]) (mvT hZ (hw_125 hw))) (mvT hZ (hw_125 hw)) (mvT hZ (hw_124 hw)) (by decide) (backOf (W := 1) (own_rm20 l Z a0 hw [] a1 wc wD kD h0 n0 Z0 O0 SS F_c) hZ (hw_126 hw) (hw_59 hw) (by decide) (by decide)) q32a q32c (g := (mkF m 6 #[rv a1] [(.ref a1), (.int (1 : Int32))])) rfl (by rw [hml]; rfl) (Steps.refl _) (argsL := []) (rest := [(.int (1 : Int32))]) (lenOf pd_4 rfl) rfl (by show 2 * 0 + _ ≤ _; exact Nat.le_of_eq rfl) (hb hby d19_6) (fun _ _ => ⟨rfl, e30, (by decide : 0 + 0 ≤ _), (by decide : 0 + 0 ≤ _)⟩)
  dsimp only [Pt.U, Pt.locs, Pt.cells, Pt.slots] at X32 l32 y32 z32 st32 hQ32
  subst l32 y32 z32
  obtain ⟨rfl, Nq32, e32⟩ := hQ32
  have N32 := Fr.app N0 Nq32
  refine own_jump (g' := (mkF m 9 #[rv a1] [(.int (0 : Int32)), (.int (1 : Int32))])) st32 ?_
  refine own_st (mkF m 10 #[rv a1] [(.int ((1 : Int32) >>> ((0 : Int32) &&& 31)))]) (fun t k => XS.ishr X32.here hx rfl (hb hby d19_9) rfl k) ?_
  rw [show ((1 : Int32) >>> ((0 : Int32) &&& 31)) = (1 : Int32) from by decide]
  refine own_ret X32 hlk (v := some (.int (1 : Int32))) (fun h => by rw [hret] at h; cases h) (fun fs hr => X32.ireturnOut hx hret rfl (Or.inl rfl) (hb hby d19_10) hr) ?_ (by decide) (by decide)
  show own_Q19_1 Z a1 r9 bs kq wc wD kD h0 n0 _ T32.heap _
  rw [e32]
  exact ⟨rfl, N32, rfl⟩
theorem own_ef19_2 (m : MethodId) (a1 : Addr) : entryFrame m #[(.ref a1)] 1 = mkF m 0 #[rv a1] [] := by first | (simp [entryFrame, mkF, argsToLocals, Value.category]; done) | rfl
def own_Q19_2 (Z : State) (a1 : Addr) (r9 : Addr) (bs : List Int32) (kq : ClassId) (wc : Int32) (wD : Addr) (kD : ClassId) (h0 : Heap) (n0 : Nat) (v : Option Value) (h : Heap) (L : List Loc) : Prop := v = some (.int (2 : Int32)) ∧ Fr n0 L ∧ h = h0
set_option maxRecDepth 65536 in
set_option maxHeartbeats 40000000 in
theorem own_rm19_2 (l : Launch) (Z : State) (a0 : Array Value) (hw : own_W a0 Z) (ws : List Jvm.Cond) (a1 : Addr) (r9 : Addr) (bs : List Int32) (kq : ClassId) (wc : Int32) (wD : Addr) (kD : ClassId) (h0 : Heap) (n0 : Nat) (Z0 : n0 ≤ h0.size) (O0 : Old Z n0 h0) (SS : own_St Z wc wD kD) (E_a1 : Exa Z h0 a1 "java/lang/String") (F_v : Fld Z h0 a1 "java/lang/String" "value" "[B" (.ref r9)) (F_c : Fld Z h0 a1 "java/lang/String" "coder" "B" (.int (0 : Int32))) (V0 : Arv Z h0 r9 kq .byte (2 : Int32) ((bs).map Value.int) (.int (0 : Int32))) :
    MetFree l (⟨"java/lang/String", "length", "()I"⟩ : MethodName) (head1 (Jvm.Cond.code (⟨"java/lang/String", "length", "()I"⟩ : MethodName) jdk_42_method_54_code 1 (some .int) :: ws) ({ frames := 1, cells := 0, slots := 0, locals := 13 } : Room)) (fun a U => a = #[(.ref a1)] ∧ Z.Warmed39 U.vm ∧ U.heap = h0) (fun _ _ _ _ _ => True) (fun _ U o U' => ∃ v L, o = .returned v ∧ own_Q19_2 Z a1 r9 bs kq wc wD kD h0 n0 v U'.heap L ∧ FrameEnd U o U' L ({ frames := 1, cells := 0, slots := 0, locals := 13 } : Room).cells ({ frames := 1, cells := 0, slots := 0, locals := 13 } : Room).slots) := by
  refine own_body (plainFor_of_name pn_12) (fun m => own_ef19_2 m a1) ?_
  intro p e s m below meth c T0 X0 hx hby hml hZ hown hnm hret hlk e0
  have hown : s.vm.findClass "java/lang/String" = some m.cls := hown
  have hnm : meth.name = "length" := hnm
  have N0 := Fr.nil n0
  refine own_st (mkF m 1 #[rv a1] [(.ref a1)]) (fun t k => XS.aloadN X0.here hx rfl (hb hby d19_0) rfl rfl k) ?_
  obtain ⟨T33, X33, e33, st33⟩ := getF X0 hx hZ hown (host := "") (Or.inl (hw_77 hw)) Via.refl e0 F_v (g := (mkF m 1 #[rv a1] [(.ref a1)])) rfl rfl (hb hby d19_1)
  refine own_step (g' := (mkF m 4 #[rv a1] [(.ref r9)])) st33 ?_
  obtain ⟨cl34, Ar34, -, S34, M34, -, -⟩ := id V0
  refine own_step (T' := T33) (g' := (mkF m 5 #[rv a1] [(.int cl34.slots.size.toInt32)])) (X33.arraylength hx (by rw [e33]; exact Ar34.1) (State.isArrayOf_alike hZ.alike Ar34.2.1) (g := (mkF m 4 #[rv a1] [(.ref r9)])) rfl rfl (hb hby d19_4)) ?_
  rw [len_of S34 M34]
  refine own_st (mkF m 6 #[rv a1] [(.ref a1), (.int (2 : Int32))]) (fun t k => XS.aloadN X33.here hx rfl (hb hby d19_5) rfl rfl k) ?_
  obtain ⟨cq35, kq35, q35a, q35b, q35c⟩ := isOf hZ e33 E_a1
  obtain ⟨_, _, ⟨T35, L35, k35, n35⟩, -, X35, ⟨Lc35, hQ35, l35, y35, z35⟩, st35⟩ := X33.virtualBack hx (y := (⟨"java/lang/String", "coder", "()B"⟩ : MethodName)) (z := (⟨"java/lang/String", "coder", "()B"⟩ : MethodName)) hown (mvT hZ (hw_122 hw)) (mvT hZ (hw_123 hw)) (notFace_of_selects (args := #[]) (mvT hZ (hw_125 hw))) (mvT hZ (hw_125 hw)) (mvT hZ (hw_124 hw)) (by decide) (backOf (W := 1) (own_rm20 l Z a0 hw [] a1 wc wD kD h0 n0 Z0 O0 SS F_c) hZ (hw_126 hw) (hw_59 hw) (by decide) (by decide)) q35a q35c (g := (mkF m 6 #[rv a1] [(.ref a1), (.int (2 : Int32))])) rfl (by rw [hml]; rfl) (Steps.refl _) (argsL := []) (rest := [(.int (2 : Int32))]) (lenOf pd_4 rfl) rfl (by show 2 * 0 + _ ≤ _; exact Nat.le_of_eq rfl) (hb hby d19_6) (fun _ _ => ⟨rfl, e33, (by decide : 0 + 0 ≤ _), (by decide : 0 + 0 ≤ _)⟩)
  dsimp only [Pt.U, Pt.locs, Pt.cells, Pt.slots] at X35 l35 y35 z35 st35 hQ35
  subst l35 y35 z35
  obtain ⟨rfl, Nq35, e35⟩ := hQ35
  have N35 := Fr.app N0 Nq35
  refine own_jump (g' := (mkF m 9 #[rv a1] [(.int (0 : Int32)), (.int (2 : Int32))])) st35 ?_
  refine own_st (mkF m 10 #[rv a1] [(.int ((2 : Int32) >>> ((0 : Int32) &&& 31)))]) (fun t k => XS.ishr X35.here hx rfl (hb hby d19_9) rfl k) ?_
  rw [show ((2 : Int32) >>> ((0 : Int32) &&& 31)) = (2 : Int32) from by decide]
  refine own_ret X35 hlk (v := some (.int (2 : Int32))) (fun h => by rw [hret] at h; cases h) (fun fs hr => X35.ireturnOut hx hret rfl (Or.inl rfl) (hb hby d19_10) hr) ?_ (by decide) (by decide)
  show own_Q19_2 Z a1 r9 bs kq wc wD kD h0 n0 _ T35.heap _
  rw [e35]
  exact ⟨rfl, N35, rfl⟩
theorem own_ef19_17 (m : MethodId) (a1 : Addr) : entryFrame m #[(.ref a1)] 1 = mkF m 0 #[rv a1] [] := by first | (simp [entryFrame, mkF, argsToLocals, Value.category]; done) | rfl
def own_Q19_17 (Z : State) (a1 : Addr) (r9 : Addr) (bs : List Int32) (kq : ClassId) (wc : Int32) (wD : Addr) (kD : ClassId) (h0 : Heap) (n0 : Nat) (v : Option Value) (h : Heap) (L : List Loc) : Prop := v = some (.int (17 : Int32)) ∧ Fr n0 L ∧ h = h0
set_option maxRecDepth 65536 in
set_option maxHeartbeats 40000000 in
theorem own_rm19_17 (l : Launch) (Z : State) (a0 : Array Value) (hw : own_W a0 Z) (ws : List Jvm.Cond) (a1 : Addr) (r9 : Addr) (bs : List Int32) (kq : ClassId) (wc : Int32) (wD : Addr) (kD : ClassId) (h0 : Heap) (n0 : Nat) (Z0 : n0 ≤ h0.size) (O0 : Old Z n0 h0) (SS : own_St Z wc wD kD) (E_a1 : Exa Z h0 a1 "java/lang/String") (F_v : Fld Z h0 a1 "java/lang/String" "value" "[B" (.ref r9)) (F_c : Fld Z h0 a1 "java/lang/String" "coder" "B" (.int (0 : Int32))) (V0 : Arv Z h0 r9 kq .byte (17 : Int32) ((bs).map Value.int) (.int (0 : Int32))) :
    MetFree l (⟨"java/lang/String", "length", "()I"⟩ : MethodName) (head1 (Jvm.Cond.code (⟨"java/lang/String", "length", "()I"⟩ : MethodName) jdk_42_method_54_code 1 (some .int) :: ws) ({ frames := 1, cells := 0, slots := 0, locals := 13 } : Room)) (fun a U => a = #[(.ref a1)] ∧ Z.Warmed39 U.vm ∧ U.heap = h0) (fun _ _ _ _ _ => True) (fun _ U o U' => ∃ v L, o = .returned v ∧ own_Q19_17 Z a1 r9 bs kq wc wD kD h0 n0 v U'.heap L ∧ FrameEnd U o U' L ({ frames := 1, cells := 0, slots := 0, locals := 13 } : Room).cells ({ frames := 1, cells := 0, slots := 0, locals := 13 } : Room).slots) := by
  refine own_body (plainFor_of_name pn_12) (fun m => own_ef19_17 m a1) ?_
  intro p e s m below meth c T0 X0 hx hby hml hZ hown hnm hret hlk e0
  have hown : s.vm.findClass "java/lang/String" = some m.cls := hown
  have hnm : meth.name = "length" := hnm
  have N0 := Fr.nil n0
  refine own_st (mkF m 1 #[rv a1] [(.ref a1)]) (fun t k => XS.aloadN X0.here hx rfl (hb hby d19_0) rfl rfl k) ?_
  obtain ⟨T36, X36, e36, st36⟩ := getF X0 hx hZ hown (host := "") (Or.inl (hw_77 hw)) Via.refl e0 F_v (g := (mkF m 1 #[rv a1] [(.ref a1)])) rfl rfl (hb hby d19_1)
  refine own_step (g' := (mkF m 4 #[rv a1] [(.ref r9)])) st36 ?_
  obtain ⟨cl37, Ar37, -, S37, M37, -, -⟩ := id V0
  refine own_step (T' := T36) (g' := (mkF m 5 #[rv a1] [(.int cl37.slots.size.toInt32)])) (X36.arraylength hx (by rw [e36]; exact Ar37.1) (State.isArrayOf_alike hZ.alike Ar37.2.1) (g := (mkF m 4 #[rv a1] [(.ref r9)])) rfl rfl (hb hby d19_4)) ?_
  rw [len_of S37 M37]
  refine own_st (mkF m 6 #[rv a1] [(.ref a1), (.int (17 : Int32))]) (fun t k => XS.aloadN X36.here hx rfl (hb hby d19_5) rfl rfl k) ?_
  obtain ⟨cq38, kq38, q38a, q38b, q38c⟩ := isOf hZ e36 E_a1
  obtain ⟨_, _, ⟨T38, L38, k38, n38⟩, -, X38, ⟨Lc38, hQ38, l38, y38, z38⟩, st38⟩ := X36.virtualBack hx (y := (⟨"java/lang/String", "coder", "()B"⟩ : MethodName)) (z := (⟨"java/lang/String", "coder", "()B"⟩ : MethodName)) hown (mvT hZ (hw_122 hw)) (mvT hZ (hw_123 hw)) (notFace_of_selects (args := #[]) (mvT hZ (hw_125 hw))) (mvT hZ (hw_125 hw)) (mvT hZ (hw_124 hw)) (by decide) (backOf (W := 1) (own_rm20 l Z a0 hw [] a1 wc wD kD h0 n0 Z0 O0 SS F_c) hZ (hw_126 hw) (hw_59 hw) (by decide) (by decide)) q38a q38c (g := (mkF m 6 #[rv a1] [(.ref a1), (.int (17 : Int32))])) rfl (by rw [hml]; rfl) (Steps.refl _) (argsL := []) (rest := [(.int (17 : Int32))]) (lenOf pd_4 rfl) rfl (by show 2 * 0 + _ ≤ _; exact Nat.le_of_eq rfl) (hb hby d19_6) (fun _ _ => ⟨rfl, e36, (by decide : 0 + 0 ≤ _), (by decide : 0 + 0 ≤ _)⟩)
  dsimp only [Pt.U, Pt.locs, Pt.cells, Pt.slots] at X38 l38 y38 z38 st38 hQ38
  subst l38 y38 z38
  obtain ⟨rfl, Nq38, e38⟩ := hQ38
  have N38 := Fr.app N0 Nq38
  refine own_jump (g' := (mkF m 9 #[rv a1] [(.int (0 : Int32)), (.int (17 : Int32))])) st38 ?_
  refine own_st (mkF m 10 #[rv a1] [(.int ((17 : Int32) >>> ((0 : Int32) &&& 31)))]) (fun t k => XS.ishr X38.here hx rfl (hb hby d19_9) rfl k) ?_
  rw [show ((17 : Int32) >>> ((0 : Int32) &&& 31)) = (17 : Int32) from by decide]
  refine own_ret X38 hlk (v := some (.int (17 : Int32))) (fun h => by rw [hret] at h; cases h) (fun fs hr => X38.ireturnOut hx hret rfl (Or.inl rfl) (hb hby d19_10) hr) ?_ (by decide) (by decide)
  show own_Q19_17 Z a1 r9 bs kq wc wD kD h0 n0 _ T38.heap _
  rw [e38]
  exact ⟨rfl, N38, rfl⟩
theorem d21_0 : decode jdk_68_method_9_code 0 = .ok (.aload_n 0, 1) := by decide +kernel
theorem d21_1 : decode jdk_68_method_9_code 1 = .ok (.getfield 15, 3) := by decide +kernel
theorem d21_4 : decode jdk_68_method_9_code 4 = .ok (.arraylength, 1) := by decide +kernel
theorem d21_5 : decode jdk_68_method_9_code 5 = .ok (.aload_n 0, 1) := by decide +kernel
theorem d21_6 : decode jdk_68_method_9_code 6 = .ok (.getfield 22, 3) := by decide +kernel
theorem d21_9 : decode jdk_68_method_9_code 9 = .ok (.ishr, 1) := by decide +kernel
theorem d21_10 : decode jdk_68_method_9_code 10 = .ok (.istore_n 2, 1) := by decide +kernel
theorem d21_11 : decode jdk_68_method_9_code 11 = .ok (.iload_n 1, 1) := by decide +kernel
theorem d21_12 : decode jdk_68_method_9_code 12 = .ok (.iload_n 2, 1) := by decide +kernel
theorem d21_13 : decode jdk_68_method_9_code 13 = .ok (.isub, 1) := by decide +kernel
theorem d21_14 : decode jdk_68_method_9_code 14 = .ok (.ifCond .le 24, 3) := by decide +kernel
theorem d21_38 : decode jdk_68_method_9_code 38 = .ok (.return_, 1) := by decide +kernel
theorem own_ef21_0_1 (m : MethodId) (a1 : Addr) : entryFrame m #[(.ref a1), (.int (1 : Int32))] 3 = mkF m 0 #[rv a1, iv (1 : Int32), .unset] [] := by first | (simp [entryFrame, mkF, argsToLocals, Value.category]; done) | rfl
def own_Q21_0_1 (Z : State) (a1 : Addr) (vb : Addr) (kb : ClassId) (es : List Int32) (h0 : Heap) (n0 : Nat) (v : Option Value) (h : Heap) (L : List Loc) : Prop := v = none ∧ Fr n0 L ∧ h = h0
set_option maxRecDepth 65536 in
set_option maxHeartbeats 40000000 in
theorem own_rm21_0_1 (l : Launch) (Z : State) (a0 : Array Value) (hw : own_W a0 Z) (ws : List Jvm.Cond) (a1 : Addr) (vb : Addr) (kb : ClassId) (es : List Int32) (h0 : Heap) (n0 : Nat) (Z0 : n0 ≤ h0.size) (E_a1 : Exa Z h0 a1 "java/lang/StringBuilder") (F_v : Fld Z h0 a1 "java/lang/AbstractStringBuilder" "value" "[B" (.ref vb)) (F_c : Fld Z h0 a1 "java/lang/AbstractStringBuilder" "coder" "B" (.int (0 : Int32))) (V0 : Arv Z h0 vb kb .byte (16 : Int32) ((es).map Value.int) (.int (0 : Int32))) :
    MetFree l (⟨"java/lang/AbstractStringBuilder", "ensureCapacityInternal", "(I)V"⟩ : MethodName) (head1 (Jvm.Cond.code (⟨"java/lang/AbstractStringBuilder", "ensureCapacityInternal", "(I)V"⟩ : MethodName) jdk_68_method_9_code 3 none :: ws) ({ frames := 0, cells := 0, slots := 0, locals := 0 } : Room)) (fun a U => a = #[(.ref a1), (.int (1 : Int32))] ∧ Z.Warmed39 U.vm ∧ U.heap = h0) (fun _ _ _ _ _ => True) (fun _ U o U' => ∃ v L, o = .returned v ∧ own_Q21_0_1 Z a1 vb kb es h0 n0 v U'.heap L ∧ FrameEnd U o U' L ({ frames := 0, cells := 0, slots := 0, locals := 0 } : Room).cells ({ frames := 0, cells := 0, slots := 0, locals := 0 } : Room).slots) := by
  refine own_body (plainFor_of_name pn_16) (fun m => own_ef21_0_1 m a1) ?_
  intro p e s m below meth c T0 X0 hx hby hml hZ hown hnm hret hlk e0
  have hown : s.vm.findClass "java/lang/AbstractStringBuilder" = some m.cls := hown
  have hnm : meth.name = "ensureCapacityInternal" := hnm
  have N0 := Fr.nil n0
  refine own_st (mkF m 1 #[rv a1, iv (1 : Int32), .unset] [(.ref a1)]) (fun t k => XS.aloadN X0.here hx rfl (hb hby d21_0) rfl rfl k) ?_
  obtain ⟨T39, X39, e39, st39⟩ := getF X0 hx hZ hown (host := "") (Or.inl (hw_103 hw)) Via.refl e0 F_v (g := (mkF m 1 #[rv a1, iv (1 : Int32), .unset] [(.ref a1)])) rfl rfl (hb hby d21_1)
  refine own_step (g' := (mkF m 4 #[rv a1, iv (1 : Int32), .unset] [(.ref vb)])) st39 ?_
  obtain ⟨cl40, Ar40, -, S40, M40, -, -⟩ := id V0
  refine own_step (T' := T39) (g' := (mkF m 5 #[rv a1, iv (1 : Int32), .unset] [(.int cl40.slots.size.toInt32)])) (X39.arraylength hx (by rw [e39]; exact Ar40.1) (State.isArrayOf_alike hZ.alike Ar40.2.1) (g := (mkF m 4 #[rv a1, iv (1 : Int32), .unset] [(.ref vb)])) rfl rfl (hb hby d21_4)) ?_
  rw [len_of S40 M40]
  refine own_st (mkF m 6 #[rv a1, iv (1 : Int32), .unset] [(.ref a1), (.int (16 : Int32))]) (fun t k => XS.aloadN X39.here hx rfl (hb hby d21_5) rfl rfl k) ?_
  obtain ⟨T41, X41, e41, st41⟩ := getF X39 hx hZ hown (host := "") (Or.inl (hw_105 hw)) Via.refl e39 F_c (g := (mkF m 6 #[rv a1, iv (1 : Int32), .unset] [(.ref a1), (.int (16 : Int32))])) rfl rfl (hb hby d21_6)
  refine own_step (g' := (mkF m 9 #[rv a1, iv (1 : Int32), .unset] [(.int (0 : Int32)), (.int (16 : Int32))])) st41 ?_
  refine own_st (mkF m 10 #[rv a1, iv (1 : Int32), .unset] [(.int ((16 : Int32) >>> ((0 : Int32) &&& 31)))]) (fun t k => XS.ishr X41.here hx rfl (hb hby d21_9) rfl k) ?_
  rw [show ((16 : Int32) >>> ((0 : Int32) &&& 31)) = (16 : Int32) from by decide]
  refine own_st (mkF m 11 #[rv a1, iv (1 : Int32), iv (16 : Int32)] []) (fun t k => XS.istoreN X41.here hx rfl (hb hby d21_10) rfl (l' := #[rv a1, iv (1 : Int32), iv (16 : Int32)]) rfl k) ?_
  refine own_st (mkF m 12 #[rv a1, iv (1 : Int32), iv (16 : Int32)] [(.int (1 : Int32))]) (fun t k => XS.iloadN X41.here hx rfl (hb hby d21_11) rfl k) ?_
  refine own_st (mkF m 13 #[rv a1, iv (1 : Int32), iv (16 : Int32)] [(.int (16 : Int32)), (.int (1 : Int32))]) (fun t k => XS.iloadN X41.here hx rfl (hb hby d21_12) rfl k) ?_
  refine own_st (mkF m 14 #[rv a1, iv (1 : Int32), iv (16 : Int32)] [(.int ((1 : Int32) - (16 : Int32)))]) (fun t k => XS.isub X41.here hx rfl (hb hby d21_13) rfl k) ?_
  rw [show ((1 : Int32) - (16 : Int32)) = (-15 : Int32) from by decide]
  refine own_st (mkF m 38 #[rv a1, iv (1 : Int32), iv (16 : Int32)] []) (fun t k => XS.ifYes X41.here hx rfl (pc0 := 14) (pc' := 38) rfl (hb hby d21_14) rfl ((if0 _ _).trans (flt (by decide : ¬ ((0 : Int32) < (-15 : Int32)))).2.2.2) (by decide) (by decide) k) ?_
  refine own_ret X41 hlk (v := none) (fun _ => rfl) (fun fs hr => X41.returnOut hx hret (hb hby d21_38) hr) ?_ (by decide) (by decide)
  show own_Q21_0_1 Z a1 vb kb es h0 n0 _ T41.heap _
  rw [e41]
  exact ⟨rfl, N0, rfl⟩
theorem d24_0 : decode jdk_42_method_147_code 0 = .ok (.aload_n 0, 1) := by decide +kernel
theorem d24_1 : decode jdk_42_method_147_code 1 = .ok (.invokevirtual 335, 3) := by decide +kernel
theorem d24_4 : decode jdk_42_method_147_code 4 = .ok (.iload_n 3, 1) := by decide +kernel
theorem d24_5 : decode jdk_42_method_147_code 5 = .ok (.if_icmp .ne 23, 3) := by decide +kernel
theorem d24_8 : decode jdk_42_method_147_code 8 = .ok (.aload_n 0, 1) := by decide +kernel
theorem d24_9 : decode jdk_42_method_147_code 9 = .ok (.getfield 9, 3) := by decide +kernel
theorem d24_12 : decode jdk_42_method_147_code 12 = .ok (.iconst 0, 1) := by decide +kernel
theorem d24_13 : decode jdk_42_method_147_code 13 = .ok (.aload_n 1, 1) := by decide +kernel
theorem d24_14 : decode jdk_42_method_147_code 14 = .ok (.iload_n 2, 1) := by decide +kernel
theorem d24_15 : decode jdk_42_method_147_code 15 = .ok (.iload_n 3, 1) := by decide +kernel
theorem d24_16 : decode jdk_42_method_147_code 16 = .ok (.ishl, 1) := by decide +kernel
theorem d24_17 : decode jdk_42_method_147_code 17 = .ok (.aload_n 0, 1) := by decide +kernel
theorem d24_18 : decode jdk_42_method_147_code 18 = .ok (.getfield 9, 3) := by decide +kernel
theorem d24_21 : decode jdk_42_method_147_code 21 = .ok (.arraylength, 1) := by decide +kernel
theorem d24_22 : decode jdk_42_method_147_code 22 = .ok (.invokestatic 212, 3) := by decide +kernel
theorem hw_150 {a0 Z} (hw : own_W a0 Z) : (Jvm.Cond.methodLink "java/lang/String" (212 : Nat) ({ cls := "java/lang/System", name := "arraycopy", desc := "(Ljava/lang/Object;ILjava/lang/Object;II)V" } : Jvm.MethodName)).before a0 Z = true := hw _ (List.mem_of_getElem? (i := 150) rfl)
theorem hw_153 {a0 Z} (hw : own_W a0 Z) : (Jvm.Cond.native ({ cls := "java/lang/System", name := "arraycopy", desc := "(Ljava/lang/Object;ILjava/lang/Object;II)V" } : Jvm.MethodName)).before a0 Z = true := hw _ (List.mem_of_getElem? (i := 153) rfl)
theorem hw_151 {a0 Z} (hw : own_W a0 Z) : (Jvm.Cond.static ({ cls := "java/lang/System", name := "arraycopy", desc := "(Ljava/lang/Object;ILjava/lang/Object;II)V" } : Jvm.MethodName)).before a0 Z = true := hw _ (List.mem_of_getElem? (i := 151) rfl)
theorem hw_152 {a0 Z} (hw : own_W a0 Z) : (Jvm.Cond.initialized "java/lang/System").before a0 Z = true := hw _ (List.mem_of_getElem? (i := 152) rfl)
theorem d24_25 : decode jdk_42_method_147_code 25 = .ok (.goto 18, 3) := by decide +kernel
theorem d24_43 : decode jdk_42_method_147_code 43 = .ok (.return_, 1) := by decide +kernel
theorem own_ef24_0_1 (m : MethodId) (a1 : Addr) (r2 : Addr) : entryFrame m #[(.ref a1), (.ref r2), (.int (0 : Int32)), (.int (0 : Int32))] 4 = mkF m 0 #[rv a1, rv r2, iv (0 : Int32), iv (0 : Int32)] [] := by first | (simp [entryFrame, mkF, argsToLocals, Value.category]; done) | rfl
def own_Q24_0_1 (Z : State) (a1 : Addr) (r2 : Addr) (r9 : Addr) (k2 : ClassId) (bs : List Int32) (kq : ClassId) (pre : List Int32) (wc : Int32) (wD : Addr) (kD : ClassId) (h0 : Heap) (n0 : Nat) (v : Option Value) (h : Heap) (L : List Loc) : Prop := v = none ∧ Fr n0 L ∧ Keep h0 h [r2] ∧ Arv Z h r2 k2 .byte (16 : Int32) (((pre ++ bs) ++ List.replicate 15 (0 : Int32)).map Value.int) (.int (0 : Int32))
set_option maxRecDepth 65536 in
set_option maxHeartbeats 40000000 in
theorem own_rm24_0_1 (l : Launch) (Z : State) (a0 : Array Value) (hw : own_W a0 Z) (ws : List Jvm.Cond) (a1 : Addr) (r2 : Addr) (r9 : Addr) (k2 : ClassId) (bs : List Int32) (kq : ClassId) (pre : List Int32) (wc : Int32) (wD : Addr) (kD : ClassId) (h0 : Heap) (n0 : Nat) (Z0 : n0 ≤ h0.size) (O0 : Old Z n0 h0) (SS : own_St Z wc wD kD) (hpre : pre.length = 0) (hbl : bs.length = 1) (E_a1 : Exa Z h0 a1 "java/lang/String") (F_v : Fld Z h0 a1 "java/lang/String" "value" "[B" (.ref r9)) (F_c : Fld Z h0 a1 "java/lang/String" "coder" "B" (.int (0 : Int32))) (V0 : Arv Z h0 r9 kq .byte (1 : Int32) ((bs).map Value.int) (.int (0 : Int32))) (V2 : Arv Z h0 r2 k2 .byte (16 : Int32) ((pre ++ List.replicate 16 (0 : Int32)).map Value.int) (.int (0 : Int32))) (g_r2 : n0 ≤ r2) (ne_92 : r9 ≠ r2) (ne_12 : a1 ≠ r2) :
    MetFree l (⟨"java/lang/String", "getBytes", "([BIB)V"⟩ : MethodName) (head1 (Jvm.Cond.code (⟨"java/lang/String", "getBytes", "([BIB)V"⟩ : MethodName) jdk_42_method_147_code 4 none :: ws) ({ frames := 1, cells := 0, slots := 0, locals := 18 } : Room)) (fun a U => a = #[(.ref a1), (.ref r2), (.int (0 : Int32)), (.int (0 : Int32))] ∧ Z.Warmed39 U.vm ∧ U.heap = h0) (fun _ _ _ _ _ => True) (fun _ U o U' => ∃ v L, o = .returned v ∧ own_Q24_0_1 Z a1 r2 r9 k2 bs kq pre wc wD kD h0 n0 v U'.heap L ∧ FrameEnd U o U' L ({ frames := 1, cells := 0, slots := 0, locals := 18 } : Room).cells ({ frames := 1, cells := 0, slots := 0, locals := 18 } : Room).slots) := by
  refine own_body (plainFor_of_name pn_12) (fun m => own_ef24_0_1 m a1 r2) ?_
  intro p e s m below meth c T0 X0 hx hby hml hZ hown hnm hret hlk e0
  have hown : s.vm.findClass "java/lang/String" = some m.cls := hown
  have hnm : meth.name = "getBytes" := hnm
  have N0 := Fr.nil n0
  have K0 : Keep h0 h0 [r2] := Keep.refl _ _
  refine own_st (mkF m 1 #[rv a1, rv r2, iv (0 : Int32), iv (0 : Int32)] [(.ref a1)]) (fun t k => XS.aloadN X0.here hx rfl (hb hby d24_0) rfl rfl k) ?_
  obtain ⟨cq42, kq42, q42a, q42b, q42c⟩ := isOf hZ e0 E_a1
  obtain ⟨_, _, ⟨T42, L42, k42, n42⟩, -, X42, ⟨Lc42, hQ42, l42, y42, z42⟩, st42⟩ := X0.virtualBack hx (y := (⟨"java/lang/String", "coder", "()B"⟩ : MethodName)) (z := (⟨"java/lang/String", "coder", "()B"⟩ : MethodName)) hown (mvT hZ (hw_122 hw)) (mvT hZ (hw_123 hw)) (notFace_of_selects (args := #[]) (mvT hZ (hw_125 hw))) (mvT hZ (hw_125 hw)) (mvT hZ (hw_124 hw)) (by decide) (backOf (W := 0) (own_rm20 l Z a0 hw [] a1 wc wD kD h0 n0 Z0 O0 SS F_c) hZ (hw_126 hw) (hw_59 hw) (by decide) (by decide)) q42a q42c (g := (mkF m 1 #[rv a1, rv r2, iv (0 : Int32), iv (0 : Int32)] [(.ref a1)])) rfl (by rw [hml]; rfl) (Steps.refl _) (argsL := []) (rest := []) (lenOf pd_4 rfl) rfl (by show 2 * 0 + _ ≤ _; exact Nat.le_of_eq rfl) (hb hby d24_1) (fun _ _ => ⟨rfl, e0, (by decide : 0 + 0 ≤ _), (by decide : 0 + 0 ≤ _)⟩)
  dsimp only [Pt.U, Pt.locs, Pt.cells, Pt.slots] at X42 l42 y42 z42 st42 hQ42
  subst l42 y42 z42
  obtain ⟨rfl, Nq42, e42⟩ := hQ42
  have N42 := Fr.app N0 Nq42
  refine own_jump (g' := (mkF m 4 #[rv a1, rv r2, iv (0 : Int32), iv (0 : Int32)] [(.int (0 : Int32))])) st42 ?_
  refine own_st (mkF m 5 #[rv a1, rv r2, iv (0 : Int32), iv (0 : Int32)] [(.int (0 : Int32)), (.int (0 : Int32))]) (fun t k => XS.iloadN X42.here hx rfl (hb hby d24_4) rfl k) ?_
  refine own_st (mkF m 8 #[rv a1, rv r2, iv (0 : Int32), iv (0 : Int32)] []) (fun t k => XS.icmpNo X42.here hx rfl (hb hby d24_5) rfl (teq (by decide : (0 : Int32) = (0 : Int32))).2 k) ?_
  refine own_st (mkF m 9 #[rv a1, rv r2, iv (0 : Int32), iv (0 : Int32)] [(.ref a1)]) (fun t k => XS.aloadN X42.here hx rfl (hb hby d24_8) rfl rfl k) ?_
  obtain ⟨T43, X43, e43, st43⟩ := getF X42 hx hZ hown (host := "") (Or.inl (hw_77 hw)) Via.refl e42 F_v (g := (mkF m 9 #[rv a1, rv r2, iv (0 : Int32), iv (0 : Int32)] [(.ref a1)])) rfl rfl (hb hby d24_9)
  refine own_step (g' := (mkF m 12 #[rv a1, rv r2, iv (0 : Int32), iv (0 : Int32)] [(.ref r9)])) st43 ?_
  refine own_st (mkF m 13 #[rv a1, rv r2, iv (0 : Int32), iv (0 : Int32)] [(.int (0 : Int32)), (.ref r9)]) (fun t k => XS.iconst X43.here hx rfl (hb hby d24_12) k) ?_
  refine own_st (mkF m 14 #[rv a1, rv r2, iv (0 : Int32), iv (0 : Int32)] [(.ref r2), (.int (0 : Int32)), (.ref r9)]) (fun t k => XS.aloadN X43.here hx rfl (hb hby d24_13) rfl rfl k) ?_
  refine own_st (mkF m 15 #[rv a1, rv r2, iv (0 : Int32), iv (0 : Int32)] [(.int (0 : Int32)), (.ref r2), (.int (0 : Int32)), (.ref r9)]) (fun t k => XS.iloadN X43.here hx rfl (hb hby d24_14) rfl k) ?_
  refine own_st (mkF m 16 #[rv a1, rv r2, iv (0 : Int32), iv (0 : Int32)] [(.int (0 : Int32)), (.int (0 : Int32)), (.ref r2), (.int (0 : Int32)), (.ref r9)]) (fun t k => XS.iloadN X43.here hx rfl (hb hby d24_15) rfl k) ?_
  refine own_st (mkF m 17 #[rv a1, rv r2, iv (0 : Int32), iv (0 : Int32)] [(.int ((0 : Int32) <<< ((0 : Int32) &&& 31))), (.ref r2), (.int (0 : Int32)), (.ref r9)]) (fun t k => XS.ishl X43.here hx rfl (hb hby d24_16) rfl k) ?_
  rw [show ((0 : Int32) <<< ((0 : Int32) &&& 31)) = (0 : Int32) from by decide]
  refine own_st (mkF m 18 #[rv a1, rv r2, iv (0 : Int32), iv (0 : Int32)] [(.ref a1), (.int (0 : Int32)), (.ref r2), (.int (0 : Int32)), (.ref r9)]) (fun t k => XS.aloadN X43.here hx rfl (hb hby d24_17) rfl rfl k) ?_
  obtain ⟨T44, X44, e44, st44⟩ := getF X43 hx hZ hown (host := "") (Or.inl (hw_77 hw)) Via.refl e43 F_v (g := (mkF m 18 #[rv a1, rv r2, iv (0 : Int32), iv (0 : Int32)] [(.ref a1), (.int (0 : Int32)), (.ref r2), (.int (0 : Int32)), (.ref r9)])) rfl rfl (hb hby d24_18)
  refine own_step (g' := (mkF m 21 #[rv a1, rv r2, iv (0 : Int32), iv (0 : Int32)] [(.ref r9), (.int (0 : Int32)), (.ref r2), (.int (0 : Int32)), (.ref r9)])) st44 ?_
  obtain ⟨cl45, Ar45, -, S45, M45, -, -⟩ := id V0
  refine own_step (T' := T44) (g' := (mkF m 22 #[rv a1, rv r2, iv (0 : Int32), iv (0 : Int32)] [(.int cl45.slots.size.toInt32), (.int (0 : Int32)), (.ref r2), (.int (0 : Int32)), (.ref r9)])) (X44.arraylength hx (by rw [e44]; exact Ar45.1) (State.isArrayOf_alike hZ.alike Ar45.2.1) (g := (mkF m 21 #[rv a1, rv r2, iv (0 : Int32), iv (0 : Int32)] [(.ref r9), (.int (0 : Int32)), (.ref r2), (.int (0 : Int32)), (.ref r9)])) rfl rfl (hb hby d24_21)) ?_
  rw [len_of S45 M45]
  obtain ⟨T46, h46, Lc46, X46, e46, N46, K46, V46, st46⟩ := own_copyAt (pre := pre) (rs := List.replicate 16 (0 : Int32)) X44 hx hZ hown (hw_150 hw) (hw_153 hw) (hw_151 hw) (hw_152 hw) e44 V0 V2 (by rw [hpre]; rfl) (by rw [hbl]; rfl) (by rw [hbl]; rfl) (by simp [hpre]) (by rw [hbl]; simp) (n0 := n0) N42 g_r2 (g := (mkF m 22 #[rv a1, rv r2, iv (0 : Int32), iv (0 : Int32)] [(.int (1 : Int32)), (.int (0 : Int32)), (.ref r2), (.int (0 : Int32)), (.ref r9)])) rfl (by rw [hml]; rfl) rfl (hb hby d24_22) (by decide) (W := 0) (by show 2 * 0 + _ ≤ _; exact Nat.le_of_eq rfl) (by decide)
  have Z46 : n0 ≤ h46.size := Nat.le_trans Z0 K46.1
  have O46 : Old Z n0 h46 := O0.keep K46 (allS g_r2 all0)
  have Kp46 : Keep h0 h46 [r2] := K0.trans K46 (allS (Or.inl (List.mem_of_getElem? (i := 0) rfl)) all0)
  have f1_Exa_a1 : Exa Z h46 a1 "java/lang/String" := (E_a1.keep K46)
  have f2_Fld_a1 : Fld Z h46 a1 "java/lang/String" "value" "[B" (.ref r9) := (F_v.keep K46 (ninS ne_12 nin0))
  have f3_Fld_a1 : Fld Z h46 a1 "java/lang/String" "coder" "B" (.int (0 : Int32)) := (F_c.keep K46 (ninS ne_12 nin0))
  have f4_Arv_r9 : Arv Z h46 r9 kq .byte (1 : Int32) ((bs).map Value.int) (.int (0 : Int32)) := (V0.keep K46 (ninS ne_92 nin0))
  have Vr46 : Arv Z h46 r2 k2 .byte (16 : Int32) (((pre ++ bs) ++ List.replicate 15 (0 : Int32)).map Value.int) (.int (0 : Int32)) := by have q := V46; rw [hbl, List.drop_replicate] at q; exact q
  refine own_step (g' := (mkF m 25 #[rv a1, rv r2, iv (0 : Int32), iv (0 : Int32)] [])) st46 ?_
  refine own_st (mkF m 43 #[rv a1, rv r2, iv (0 : Int32), iv (0 : Int32)] []) (fun t k => XS.goto X46.here hx rfl (pc0 := 25) (pc' := 43) rfl (hb hby d24_25) (by decide) (by decide) k) ?_
  refine own_ret X46 hlk (v := none) (fun _ => rfl) (fun fs hr => X46.returnOut hx hret (hb hby d24_43) hr) ?_ (by decide) (by decide)
  show own_Q24_0_1 Z a1 r2 r9 k2 bs kq pre wc wD kD h0 n0 _ T46.heap _
  rw [e46]
  exact ⟨rfl, N46, Kp46, Vr46⟩
theorem d22_0 : decode jdk_68_method_73_code 0 = .ok (.aload_n 0, 1) := by decide +kernel
theorem d22_1 : decode jdk_68_method_73_code 1 = .ok (.aload_n 2, 1) := by decide +kernel
theorem d22_2 : decode jdk_68_method_73_code 2 = .ok (.invokevirtual 397, 3) := by decide +kernel
theorem hw_139 {a0 Z} (hw : own_W a0 Z) : (Jvm.Cond.methodLink "java/lang/AbstractStringBuilder" (397 : Nat) ({ cls := "java/lang/AbstractStringBuilder", name := "inflateIfNeededFor", desc := "(Ljava/lang/String;)V" } : Jvm.MethodName)).before a0 Z = true := hw _ (List.mem_of_getElem? (i := 139) rfl)
theorem hw_143 {a0 Z} (hw : own_W a0 Z) : (Jvm.Cond.code ({ cls := "java/lang/AbstractStringBuilder", name := "inflateIfNeededFor", desc := "(Ljava/lang/String;)V" } : Jvm.MethodName) jdk_68_method_71_code (2 : Nat) (Option.none : Option Jvm.ClassFile.FieldType)).before a0 Z = true := hw _ (List.mem_of_getElem? (i := 143) rfl)
theorem pd_6 : parseMethodDescriptor "(Ljava/lang/String;)V" = some ⟨[(.object "java/lang/String")], none⟩ := by decide +kernel
theorem hw_142 {a0 Z} (hw : own_W a0 Z) : (Jvm.Cond.selects "java/lang/StringBuilder" ({ cls := "java/lang/AbstractStringBuilder", name := "inflateIfNeededFor", desc := "(Ljava/lang/String;)V" } : Jvm.MethodName) ({ cls := "java/lang/AbstractStringBuilder", name := "inflateIfNeededFor", desc := "(Ljava/lang/String;)V" } : Jvm.MethodName)).before a0 Z = true := hw _ (List.mem_of_getElem? (i := 142) rfl)
theorem hw_140 {a0 Z} (hw : own_W a0 Z) : (Jvm.Cond.instanceMethod ({ cls := "java/lang/AbstractStringBuilder", name := "inflateIfNeededFor", desc := "(Ljava/lang/String;)V" } : Jvm.MethodName)).before a0 Z = true := hw _ (List.mem_of_getElem? (i := 140) rfl)
theorem d22_5 : decode jdk_68_method_73_code 5 = .ok (.aload_n 2, 1) := by decide +kernel
theorem d22_6 : decode jdk_68_method_73_code 6 = .ok (.aload_n 0, 1) := by decide +kernel
theorem d22_7 : decode jdk_68_method_73_code 7 = .ok (.getfield 15, 3) := by decide +kernel
theorem d22_10 : decode jdk_68_method_73_code 10 = .ok (.iload_n 1, 1) := by decide +kernel
theorem d22_11 : decode jdk_68_method_73_code 11 = .ok (.aload_n 0, 1) := by decide +kernel
theorem d22_12 : decode jdk_68_method_73_code 12 = .ok (.getfield 22, 3) := by decide +kernel
theorem d22_15 : decode jdk_68_method_73_code 15 = .ok (.invokevirtual 399, 3) := by decide +kernel
theorem hw_145 {a0 Z} (hw : own_W a0 Z) : (Jvm.Cond.methodLink "java/lang/AbstractStringBuilder" (399 : Nat) ({ cls := "java/lang/String", name := "getBytes", desc := "([BIB)V" } : Jvm.MethodName)).before a0 Z = true := hw _ (List.mem_of_getElem? (i := 145) rfl)
theorem hw_149 {a0 Z} (hw : own_W a0 Z) : (Jvm.Cond.code ({ cls := "java/lang/String", name := "getBytes", desc := "([BIB)V" } : Jvm.MethodName) jdk_42_method_147_code (4 : Nat) (Option.none : Option Jvm.ClassFile.FieldType)).before a0 Z = true := hw _ (List.mem_of_getElem? (i := 149) rfl)
theorem pd_7 : parseMethodDescriptor "([BIB)V" = some ⟨[(.array .byte), .int, .byte], none⟩ := by decide +kernel
theorem hw_148 {a0 Z} (hw : own_W a0 Z) : (Jvm.Cond.selects "java/lang/String" ({ cls := "java/lang/String", name := "getBytes", desc := "([BIB)V" } : Jvm.MethodName) ({ cls := "java/lang/String", name := "getBytes", desc := "([BIB)V" } : Jvm.MethodName)).before a0 Z = true := hw _ (List.mem_of_getElem? (i := 148) rfl)
theorem hw_146 {a0 Z} (hw : own_W a0 Z) : (Jvm.Cond.declares ({ cls := "java/lang/String", name := "getBytes", desc := "([BIB)V" } : Jvm.MethodName)).before a0 Z = true := hw _ (List.mem_of_getElem? (i := 146) rfl)
theorem hw_147 {a0 Z} (hw : own_W a0 Z) : (Jvm.Cond.instanceMethod ({ cls := "java/lang/String", name := "getBytes", desc := "([BIB)V" } : Jvm.MethodName)).before a0 Z = true := hw _ (List.mem_of_getElem? (i := 147) rfl)
theorem d22_18 : decode jdk_68_method_73_code 18 = .ok (.return_, 1) := by decide +kernel
theorem own_ef22_0_1 (m : MethodId) (a1 : Addr) (r3 : Addr) : entryFrame m #[(.ref a1), (.int (0 : Int32)), (.ref r3)] 3 = mkF m 0 #[rv a1, iv (0 : Int32), rv r3] [] := by first | (simp [entryFrame, mkF, argsToLocals, Value.category]; done) | rfl
def own_Q22_0_1 (Z : State) (a1 : Addr) (r3 : Addr) (vb : Addr) (kb : ClassId) (r9 : Addr) (bs : List Int32) (kq : ClassId) (pre : List Int32) (wc : Int32) (wD : Addr) (kD : ClassId) (h0 : Heap) (n0 : Nat) (v : Option Value) (h : Heap) (L : List Loc) : Prop := v = none ∧ Fr n0 L ∧ Keep h0 h [vb] ∧ Arv Z h vb kb .byte (16 : Int32) (((pre ++ bs) ++ List.replicate 15 (0 : Int32)).map Value.int) (.int (0 : Int32))
set_option maxRecDepth 65536 in
set_option maxHeartbeats 40000000 in
theorem own_rm22_0_1 (l : Launch) (Z : State) (a0 : Array Value) (hw : own_W a0 Z) (ws : List Jvm.Cond) (a1 : Addr) (r3 : Addr) (vb : Addr) (kb : ClassId) (r9 : Addr) (bs : List Int32) (kq : ClassId) (pre : List Int32) (wc : Int32) (wD : Addr) (kD : ClassId) (h0 : Heap) (n0 : Nat) (Z0 : n0 ≤ h0.size) (O0 : Old Z n0 h0) (SS : own_St Z wc wD kD) (hpre : pre.length = 0) (hbl : bs.length = 1) (E_a1 : Exa Z h0 a1 "java/lang/StringBuilder") (F_v : Fld Z h0 a1 "java/lang/AbstractStringBuilder" "value" "[B" (.ref vb)) (F_c : Fld Z h0 a1 "java/lang/AbstractStringBuilder" "coder" "B" (.int (0 : Int32))) (V0 : Arv Z h0 vb kb .byte (16 : Int32) ((pre ++ List.replicate 16 (0 : Int32)).map Value.int) (.int (0 : Int32))) (E_r3 : Exa Z h0 r3 "java/lang/String") (G_v : Fld Z h0 r3 "java/lang/String" "value" "[B" (.ref r9)) (G_c : Fld Z h0 r3 "java/lang/String" "coder" "B" (.int (0 : Int32))) (V9 : Arv Z h0 r9 kq .byte (1 : Int32) ((bs).map Value.int) (.int (0 : Int32))) (g_vb : n0 ≤ vb) (ne_av : a1 ≠ vb) (ne_rv : r3 ≠ vb) (ne_9v : r9 ≠ vb) :
    MetFree l (⟨"java/lang/AbstractStringBuilder", "putStringAt", "(ILjava/lang/String;)V"⟩ : MethodName) (head1 (Jvm.Cond.code (⟨"java/lang/AbstractStringBuilder", "putStringAt", "(ILjava/lang/String;)V"⟩ : MethodName) jdk_68_method_73_code 3 none :: ws) ({ frames := 2, cells := 0, slots := 0, locals := 33 } : Room)) (fun a U => a = #[(.ref a1), (.int (0 : Int32)), (.ref r3)] ∧ Z.Warmed39 U.vm ∧ U.heap = h0) (fun _ _ _ _ _ => True) (fun _ U o U' => ∃ v L, o = .returned v ∧ own_Q22_0_1 Z a1 r3 vb kb r9 bs kq pre wc wD kD h0 n0 v U'.heap L ∧ FrameEnd U o U' L ({ frames := 2, cells := 0, slots := 0, locals := 33 } : Room).cells ({ frames := 2, cells := 0, slots := 0, locals := 33 } : Room).slots) := by
  refine own_body (plainFor_of_name pn_16) (fun m => own_ef22_0_1 m a1 r3) ?_
  intro p e s m below meth c T0 X0 hx hby hml hZ hown hnm hret hlk e0
  have hown : s.vm.findClass "java/lang/AbstractStringBuilder" = some m.cls := hown
  have hnm : meth.name = "putStringAt" := hnm
  have N0 := Fr.nil n0
  have K0 : Keep h0 h0 [vb] := Keep.refl _ _
  refine own_st (mkF m 1 #[rv a1, iv (0 : Int32), rv r3] [(.ref a1)]) (fun t k => XS.aloadN X0.here hx rfl (hb hby d22_0) rfl rfl k) ?_
  refine own_st (mkF m 2 #[rv a1, iv (0 : Int32), rv r3] [(.ref r3), (.ref a1)]) (fun t k => XS.aloadN X0.here hx rfl (hb hby d22_1) rfl rfl k) ?_
  obtain ⟨cq47, kq47, q47a, q47b, q47c⟩ := isOf hZ e0 E_a1
  obtain ⟨_, _, ⟨T47, L47, k47, n47⟩, -, X47, ⟨Lc47, hQ47, l47, y47, z47⟩, st47⟩ := X0.virtualBack hx (y := (⟨"java/lang/AbstractStringBuilder", "inflateIfNeededFor", "(Ljava/lang/String;)V"⟩ : MethodName)) (z := (⟨"java/lang/AbstractStringBuilder", "inflateIfNeededFor", "(Ljava/lang/String;)V"⟩ : MethodName)) hown (mvT hZ (hw_139 hw)) (mvT hZ (own_declares (hw_140 hw) (hw_143 hw))) (notFace_of_selects (args := #[]) (mvT hZ (hw_142 hw))) (mvT hZ (hw_142 hw)) (mvT hZ (hw_140 hw)) (by decide) (backOf (W := 0) (own_rm23 l Z a0 hw [] a1 r3 wc wD kD h0 n0 Z0 O0 SS F_c E_r3 G_c) hZ (hw_143 hw) (hw_99 hw) (by decide) (by decide)) q47a q47c (g := (mkF m 2 #[rv a1, iv (0 : Int32), rv r3] [(.ref r3), (.ref a1)])) rfl (by rw [hml]; rfl) (Steps.refl _) (argsL := [(.ref r3)]) (rest := []) (lenOf pd_6 rfl) rfl (by show 2 * 0 + _ ≤ _; exact Nat.le_of_eq rfl) (hb hby d22_2) (fun _ _ => ⟨rfl, e0, (by decide : 0 + 0 ≤ _), (by decide : 0 + 0 ≤ _)⟩)
  dsimp only [Pt.U, Pt.locs, Pt.cells, Pt.slots] at X47 l47 y47 z47 st47 hQ47
  subst l47 y47 z47
  obtain ⟨rfl, Nq47, e47⟩ := hQ47
  have N47 := Fr.app N0 Nq47
  refine own_jump (g' := (mkF m 5 #[rv a1, iv (0 : Int32), rv r3] [])) st47 ?_
  refine own_st (mkF m 6 #[rv a1, iv (0 : Int32), rv r3] [(.ref r3)]) (fun t k => XS.aloadN X47.here hx rfl (hb hby d22_5) rfl rfl k) ?_
  refine own_st (mkF m 7 #[rv a1, iv (0 : Int32), rv r3] [(.ref a1), (.ref r3)]) (fun t k => XS.aloadN X47.here hx rfl (hb hby d22_6) rfl rfl k) ?_
  obtain ⟨T48, X48, e48, st48⟩ := getF X47 hx hZ hown (host := "") (Or.inl (hw_103 hw)) Via.refl e47 F_v (g := (mkF m 7 #[rv a1, iv (0 : Int32), rv r3] [(.ref a1), (.ref r3)])) rfl rfl (hb hby d22_7)
  refine own_step (g' := (mkF m 10 #[rv a1, iv (0 : Int32), rv r3] [(.ref vb), (.ref r3)])) st48 ?_
  refine own_st (mkF m 11 #[rv a1, iv (0 : Int32), rv r3] [(.int (0 : Int32)), (.ref vb), (.ref r3)]) (fun t k => XS.iloadN X48.here hx rfl (hb hby d22_10) rfl k) ?_
  refine own_st (mkF m 12 #[rv a1, iv (0 : Int32), rv r3] [(.ref a1), (.int (0 : Int32)), (.ref vb), (.ref r3)]) (fun t k => XS.aloadN X48.here hx rfl (hb hby d22_11) rfl rfl k) ?_
  obtain ⟨T49, X49, e49, st49⟩ := getF X48 hx hZ hown (host := "") (Or.inl (hw_105 hw)) Via.refl e48 F_c (g := (mkF m 12 #[rv a1, iv (0 : Int32), rv r3] [(.ref a1), (.int (0 : Int32)), (.ref vb), (.ref r3)])) rfl rfl (hb hby d22_12)
  refine own_step (g' := (mkF m 15 #[rv a1, iv (0 : Int32), rv r3] [(.int (0 : Int32)), (.int (0 : Int32)), (.ref vb), (.ref r3)])) st49 ?_
  obtain ⟨cq50, kq50, q50a, q50b, q50c⟩ := isOf hZ e49 E_r3
  obtain ⟨_, _, ⟨T50, L50, k50, n50⟩, -, X50, ⟨Lc50, hQ50, l50, y50, z50⟩, st50⟩ := X49.virtualBack hx (y := (⟨"java/lang/String", "getBytes", "([BIB)V"⟩ : MethodName)) (z := (⟨"java/lang/String", "getBytes", "([BIB)V"⟩ : MethodName)) hown (mvT hZ (hw_145 hw)) (mvT hZ (hw_146 hw)) (notFace_of_selects (args := #[]) (mvT hZ (hw_148 hw))) (mvT hZ (hw_148 hw)) (mvT hZ (hw_147 hw)) (by decide) (backOf (W := 0) (own_rm24_0_1 l Z a0 hw [] r3 vb r9 kb bs kq pre wc wD kD h0 n0 Z0 O0 SS hpre hbl E_r3 G_v G_c V9 V0 g_vb ne_9v ne_rv) hZ (hw_149 hw) (hw_59 hw) (by decide) (by decide)) q50a q50c (g := (mkF m 15 #[rv a1, iv (0 : Int32), rv r3] [(.int (0 : Int32)), (.int (0 : Int32)), (.ref vb), (.ref r3)])) rfl (by rw [hml]; rfl) (Steps.refl _) (argsL := [(.ref vb), (.int (0 : Int32)), (.int (0 : Int32))]) (rest := []) (lenOf pd_7 rfl) rfl (by show 2 * 0 + _ ≤ _; exact Nat.le_of_eq rfl) (hb hby d22_15) (fun _ _ => ⟨rfl, e49, (by decide : 0 + 0 ≤ _), (by decide : 0 + 0 ≤ _)⟩)
  dsimp only [Pt.U, Pt.locs, Pt.cells, Pt.slots] at X50 l50 y50 z50 st50 hQ50
  subst l50 y50 z50
  obtain ⟨rfl, Nq50, K50, V50⟩ := hQ50
  have N50 := Fr.app N47 Nq50
  have Z50 : n0 ≤ T50.heap.size := Nat.le_trans Z0 K50.1
  have O50 : Old Z n0 T50.heap := O0.keep K50 (allS g_vb all0)
  have Kp50 : Keep h0 T50.heap [vb] := K0.trans K50 (allS (Or.inl (List.mem_of_getElem? (i := 0) rfl)) all0)
  have f1_Exa_a1 : Exa Z T50.heap a1 "java/lang/StringBuilder" := (E_a1.keep K50)
  have f2_Fld_a1 : Fld Z T50.heap a1 "java/lang/AbstractStringBuilder" "value" "[B" (.ref vb) := (F_v.keep K50 (ninS ne_av nin0))
  have f3_Fld_a1 : Fld Z T50.heap a1 "java/lang/AbstractStringBuilder" "coder" "B" (.int (0 : Int32)) := (F_c.keep K50 (ninS ne_av nin0))
  have f4_Exa_r3 : Exa Z T50.heap r3 "java/lang/String" := (E_r3.keep K50)
  have f5_Fld_r3 : Fld Z T50.heap r3 "java/lang/String" "value" "[B" (.ref r9) := (G_v.keep K50 (ninS ne_rv nin0))
  have f6_Fld_r3 : Fld Z T50.heap r3 "java/lang/String" "coder" "B" (.int (0 : Int32)) := (G_c.keep K50 (ninS ne_rv nin0))
  have f7_Arv_r9 : Arv Z T50.heap r9 kq .byte (1 : Int32) ((bs).map Value.int) (.int (0 : Int32)) := (V9.keep K50 (ninS ne_9v nin0))
  refine own_jump (g' := (mkF m 18 #[rv a1, iv (0 : Int32), rv r3] [])) st50 ?_
  refine own_ret X50 hlk (v := none) (fun _ => rfl) (fun fs hr => X50.returnOut hx hret (hb hby d22_18) hr) ?_ (by decide) (by decide)
  show own_Q22_0_1 Z a1 r3 vb kb r9 bs kq pre wc wD kD h0 n0 _ T50.heap _
  exact ⟨rfl, N50, Kp50, V50⟩
theorem d18_0 : decode jdk_68_method_22_code 0 = .ok (.aload_n 1, 1) := by decide +kernel
theorem d18_1 : decode jdk_68_method_22_code 1 = .ok (.ifnonnull 8, 3) := by decide +kernel
theorem d18_9 : decode jdk_68_method_22_code 9 = .ok (.aload_n 1, 1) := by decide +kernel
theorem d18_10 : decode jdk_68_method_22_code 10 = .ok (.invokevirtual 32, 3) := by decide +kernel
theorem hw_117 {a0 Z} (hw : own_W a0 Z) : (Jvm.Cond.methodLink "java/lang/AbstractStringBuilder" (32 : Nat) ({ cls := "java/lang/String", name := "length", desc := "()I" } : Jvm.MethodName)).before a0 Z = true := hw _ (List.mem_of_getElem? (i := 117) rfl)
theorem hw_121 {a0 Z} (hw : own_W a0 Z) : (Jvm.Cond.code ({ cls := "java/lang/String", name := "length", desc := "()I" } : Jvm.MethodName) jdk_42_method_54_code (1 : Nat) (Option.some Jvm.ClassFile.FieldType.int)).before a0 Z = true := hw _ (List.mem_of_getElem? (i := 121) rfl)
theorem hw_120 {a0 Z} (hw : own_W a0 Z) : (Jvm.Cond.selects "java/lang/String" ({ cls := "java/lang/String", name := "length", desc := "()I" } : Jvm.MethodName) ({ cls := "java/lang/String", name := "length", desc := "()I" } : Jvm.MethodName)).before a0 Z = true := hw _ (List.mem_of_getElem? (i := 120) rfl)
theorem hw_118 {a0 Z} (hw : own_W a0 Z) : (Jvm.Cond.declares ({ cls := "java/lang/String", name := "length", desc := "()I" } : Jvm.MethodName)).before a0 Z = true := hw _ (List.mem_of_getElem? (i := 118) rfl)
theorem hw_119 {a0 Z} (hw : own_W a0 Z) : (Jvm.Cond.instanceMethod ({ cls := "java/lang/String", name := "length", desc := "()I" } : Jvm.MethodName)).before a0 Z = true := hw _ (List.mem_of_getElem? (i := 119) rfl)
theorem d18_13 : decode jdk_68_method_22_code 13 = .ok (.istore_n 2, 1) := by decide +kernel
theorem d18_14 : decode jdk_68_method_22_code 14 = .ok (.aload_n 0, 1) := by decide +kernel
theorem d18_15 : decode jdk_68_method_22_code 15 = .ok (.aload_n 0, 1) := by decide +kernel
theorem d18_16 : decode jdk_68_method_22_code 16 = .ok (.getfield 79, 3) := by decide +kernel
theorem d18_19 : decode jdk_68_method_22_code 19 = .ok (.iload_n 2, 1) := by decide +kernel
theorem d18_20 : decode jdk_68_method_22_code 20 = .ok (.iadd, 1) := by decide +kernel
theorem d18_21 : decode jdk_68_method_22_code 21 = .ok (.invokevirtual 100, 3) := by decide +kernel
theorem hw_129 {a0 Z} (hw : own_W a0 Z) : (Jvm.Cond.methodLink "java/lang/AbstractStringBuilder" (100 : Nat) ({ cls := "java/lang/AbstractStringBuilder", name := "ensureCapacityInternal", desc := "(I)V" } : Jvm.MethodName)).before a0 Z = true := hw _ (List.mem_of_getElem? (i := 129) rfl)
theorem hw_133 {a0 Z} (hw : own_W a0 Z) : (Jvm.Cond.code ({ cls := "java/lang/AbstractStringBuilder", name := "ensureCapacityInternal", desc := "(I)V" } : Jvm.MethodName) jdk_68_method_9_code (3 : Nat) (Option.none : Option Jvm.ClassFile.FieldType)).before a0 Z = true := hw _ (List.mem_of_getElem? (i := 133) rfl)
theorem hw_132 {a0 Z} (hw : own_W a0 Z) : (Jvm.Cond.selects "java/lang/StringBuilder" ({ cls := "java/lang/AbstractStringBuilder", name := "ensureCapacityInternal", desc := "(I)V" } : Jvm.MethodName) ({ cls := "java/lang/AbstractStringBuilder", name := "ensureCapacityInternal", desc := "(I)V" } : Jvm.MethodName)).before a0 Z = true := hw _ (List.mem_of_getElem? (i := 132) rfl)
theorem hw_130 {a0 Z} (hw : own_W a0 Z) : (Jvm.Cond.instanceMethod ({ cls := "java/lang/AbstractStringBuilder", name := "ensureCapacityInternal", desc := "(I)V" } : Jvm.MethodName)).before a0 Z = true := hw _ (List.mem_of_getElem? (i := 130) rfl)
theorem d18_24 : decode jdk_68_method_22_code 24 = .ok (.aload_n 0, 1) := by decide +kernel
theorem d18_25 : decode jdk_68_method_22_code 25 = .ok (.aload_n 0, 1) := by decide +kernel
theorem d18_26 : decode jdk_68_method_22_code 26 = .ok (.getfield 79, 3) := by decide +kernel
theorem d18_29 : decode jdk_68_method_22_code 29 = .ok (.aload_n 1, 1) := by decide +kernel
theorem d18_30 : decode jdk_68_method_22_code 30 = .ok (.invokevirtual 208, 3) := by decide +kernel
theorem hw_134 {a0 Z} (hw : own_W a0 Z) : (Jvm.Cond.methodLink "java/lang/AbstractStringBuilder" (208 : Nat) ({ cls := "java/lang/AbstractStringBuilder", name := "putStringAt", desc := "(ILjava/lang/String;)V" } : Jvm.MethodName)).before a0 Z = true := hw _ (List.mem_of_getElem? (i := 134) rfl)
theorem hw_138 {a0 Z} (hw : own_W a0 Z) : (Jvm.Cond.code ({ cls := "java/lang/AbstractStringBuilder", name := "putStringAt", desc := "(ILjava/lang/String;)V" } : Jvm.MethodName) jdk_68_method_73_code (3 : Nat) (Option.none : Option Jvm.ClassFile.FieldType)).before a0 Z = true := hw _ (List.mem_of_getElem? (i := 138) rfl)
theorem pd_8 : parseMethodDescriptor "(ILjava/lang/String;)V" = some ⟨[.int, (.object "java/lang/String")], none⟩ := by decide +kernel
theorem hw_137 {a0 Z} (hw : own_W a0 Z) : (Jvm.Cond.selects "java/lang/StringBuilder" ({ cls := "java/lang/AbstractStringBuilder", name := "putStringAt", desc := "(ILjava/lang/String;)V" } : Jvm.MethodName) ({ cls := "java/lang/AbstractStringBuilder", name := "putStringAt", desc := "(ILjava/lang/String;)V" } : Jvm.MethodName)).before a0 Z = true := hw _ (List.mem_of_getElem? (i := 137) rfl)
theorem hw_135 {a0 Z} (hw : own_W a0 Z) : (Jvm.Cond.instanceMethod ({ cls := "java/lang/AbstractStringBuilder", name := "putStringAt", desc := "(ILjava/lang/String;)V" } : Jvm.MethodName)).before a0 Z = true := hw _ (List.mem_of_getElem? (i := 135) rfl)
theorem d18_33 : decode jdk_68_method_22_code 33 = .ok (.aload_n 0, 1) := by decide +kernel
theorem d18_34 : decode jdk_68_method_22_code 34 = .ok (.dup, 1) := by decide +kernel
theorem d18_35 : decode jdk_68_method_22_code 35 = .ok (.getfield 79, 3) := by decide +kernel
theorem d18_38 : decode jdk_68_method_22_code 38 = .ok (.iload_n 2, 1) := by decide +kernel
theorem d18_39 : decode jdk_68_method_22_code 39 = .ok (.iadd, 1) := by decide +kernel
theorem d18_40 : decode jdk_68_method_22_code 40 = .ok (.putfield 79, 3) := by decide +kernel
theorem d18_43 : decode jdk_68_method_22_code 43 = .ok (.aload_n 0, 1) := by decide +kernel
theorem d18_44 : decode jdk_68_method_22_code 44 = .ok (.areturn, 1) := by decide +kernel
theorem own_ef18_0_1 (m : MethodId) (a1 : Addr) (r2 : Addr) : entryFrame m #[(.ref a1), (.ref r2)] 3 = mkF m 0 #[rv a1, rv r2, .unset] [] := by first | (simp [entryFrame, mkF, argsToLocals, Value.category]; done) | rfl
def own_Q18_0_1 (Z : State) (a1 : Addr) (r2 : Addr) (v0 : Addr) (k0 : ClassId) (r9 : Addr) (bs : List Int32) (kq : ClassId) (pre : List Int32) (wc : Int32) (wD : Addr) (kD : ClassId) (h0 : Heap) (n0 : Nat) (v : Option Value) (h : Heap) (L : List Loc) : Prop := v = some (.ref a1) ∧ Fr n0 L ∧ Keep h0 h [a1, v0] ∧ Exa Z h a1 "java/lang/StringBuilder" ∧ Fld Z h a1 "java/lang/AbstractStringBuilder" "value" "[B" (.ref v0) ∧ Fld Z h a1 "java/lang/AbstractStringBuilder" "coder" "B" (.int (0 : Int32)) ∧ Fld Z h a1 "java/lang/AbstractStringBuilder" "count" "I" (.int (1 : Int32)) ∧ Arv Z h v0 k0 .byte (16 : Int32) (((pre ++ bs) ++ List.replicate 15 (0 : Int32)).map Value.int) (.int (0 : Int32))
set_option maxRecDepth 65536 in
set_option maxHeartbeats 40000000 in
theorem own_rm18_0_1 (l : Launch) (Z : State) (a0 : Array Value) (hw : own_W a0 Z) (ws : List Jvm.Cond) (a1 : Addr) (r2 : Addr) (v0 : Addr) (k0 : ClassId) (r9 : Addr) (bs : List Int32) (kq : ClassId) (pre : List Int32) (wc : Int32) (wD : Addr) (kD : ClassId) (h0 : Heap) (n0 : Nat) (Z0 : n0 ≤ h0.size) (O0 : Old Z n0 h0) (SS : own_St Z wc wD kD) (hpre : pre.length = 0) (hbl : bs.length = 1) (E_a1 : Exa Z h0 a1 "java/lang/StringBuilder") (F_v : Fld Z h0 a1 "java/lang/AbstractStringBuilder" "value" "[B" (.ref v0)) (F_c : Fld Z h0 a1 "java/lang/AbstractStringBuilder" "coder" "B" (.int (0 : Int32))) (F_n : Fld Z h0 a1 "java/lang/AbstractStringBuilder" "count" "I" (.int (0 : Int32))) (V0 : Arv Z h0 v0 k0 .byte (16 : Int32) ((pre ++ List.replicate 16 (0 : Int32)).map Value.int) (.int (0 : Int32))) (E_r2 : Exa Z h0 r2 "java/lang/String") (G_v : Fld Z h0 r2 "java/lang/String" "value" "[B" (.ref r9)) (G_c : Fld Z h0 r2 "java/lang/String" "coder" "B" (.int (0 : Int32))) (V9 : Arv Z h0 r9 kq .byte (1 : Int32) ((bs).map Value.int) (.int (0 : Int32))) (g_a1 : n0 ≤ a1) (ne_av : a1 ≠ v0) (ne_ar : a1 ≠ r2) (ne_a9 : a1 ≠ r9) (ne_rv : r2 ≠ v0) (ne_9v : r9 ≠ v0) (g_v0 : n0 ≤ v0) :
    MetFree l (⟨"java/lang/AbstractStringBuilder", "append", "(Ljava/lang/String;)Ljava/lang/AbstractStringBuilder;"⟩ : MethodName) (head1 (Jvm.Cond.code (⟨"java/lang/AbstractStringBuilder", "append", "(Ljava/lang/String;)Ljava/lang/AbstractStringBuilder;"⟩ : MethodName) jdk_68_method_22_code 3 (some (.object "java/lang/AbstractStringBuilder")) :: ws) ({ frames := 3, cells := 0, slots := 0, locals := 47 } : Room)) (fun a U => a = #[(.ref a1), (.ref r2)] ∧ Z.Warmed39 U.vm ∧ U.heap = h0) (fun _ _ _ _ _ => True) (fun _ U o U' => ∃ v L, o = .returned v ∧ own_Q18_0_1 Z a1 r2 v0 k0 r9 bs kq pre wc wD kD h0 n0 v U'.heap L ∧ FrameEnd U o U' L ({ frames := 3, cells := 0, slots := 0, locals := 47 } : Room).cells ({ frames := 3, cells := 0, slots := 0, locals := 47 } : Room).slots) := by
  refine own_body (plainFor_of_name pn_16) (fun m => own_ef18_0_1 m a1 r2) ?_
  intro p e s m below meth c T0 X0 hx hby hml hZ hown hnm hret hlk e0
  have hown : s.vm.findClass "java/lang/AbstractStringBuilder" = some m.cls := hown
  have hnm : meth.name = "append" := hnm
  have N0 := Fr.nil n0
  have K0 : Keep h0 h0 [a1, v0] := Keep.refl _ _
  refine own_st (mkF m 1 #[rv a1, rv r2, .unset] [(.ref r2)]) (fun t k => XS.aloadN X0.here hx rfl (hb hby d18_0) rfl rfl k) ?_
  refine own_st (mkF m 9 #[rv a1, rv r2, .unset] []) (fun t k => XS.ifnonnullYes X0.here hx rfl (pc0 := 1) (pc' := 9) rfl (hb hby d18_1) rfl (by decide) (by decide) k) ?_
  refine own_st (mkF m 10 #[rv a1, rv r2, .unset] [(.ref r2)]) (fun t k => XS.aloadN X0.here hx rfl (hb hby d18_9) rfl rfl k) ?_
  obtain ⟨cq51, kq51, q51a, q51b, q51c⟩ := isOf hZ e0 E_r2
  obtain ⟨_, _, ⟨T51, L51, k51, n51⟩, -, X51, ⟨Lc51, hQ51, l51, y51, z51⟩, st51⟩ := X0.virtualBack hx (y := (⟨"java/lang/String", "length", "()I"⟩ : MethodName)) (z := (⟨"java/lang/String", "length", "()I"⟩ : MethodName)) hown (mvT hZ (hw_117 hw)) (mvT hZ (hw_118 hw)) (notFace_of_selects (args := #[]) (mvT hZ (hw_120 hw))) (mvT hZ (hw_120 hw)) (mvT hZ (hw_119 hw)) (by decide) (backOf (W := 0) (own_rm19_1 l Z a0 hw [] r2 r9 bs kq wc wD kD h0 n0 Z0 O0 SS E_r2 G_v G_c V9) hZ (hw_121 hw) (hw_59 hw) (by decide) (by decide)) q51a q51c (g := (mkF m 10 #[rv a1, rv r2, .unset] [(.ref r2)])) rfl (by rw [hml]; rfl) (Steps.refl _) (argsL := []) (rest := []) (lenOf pd_5 rfl) rfl (by show 2 * 0 + _ ≤ _; exact Nat.le_of_eq rfl) (hb hby d18_10) (fun _ _ => ⟨rfl, e0, (by decide : 0 + 0 ≤ _), (by decide : 0 + 0 ≤ _)⟩)
  dsimp only [Pt.U, Pt.locs, Pt.cells, Pt.slots] at X51 l51 y51 z51 st51 hQ51
  subst l51 y51 z51
  obtain ⟨rfl, Nq51, e51⟩ := hQ51
  have N51 := Fr.app N0 Nq51
  refine own_jump (g' := (mkF m 13 #[rv a1, rv r2, .unset] [(.int (1 : Int32))])) st51 ?_
  refine own_st (mkF m 14 #[rv a1, rv r2, iv (1 : Int32)] []) (fun t k => XS.istoreN X51.here hx rfl (hb hby d18_13) rfl (l' := #[rv a1, rv r2, iv (1 : Int32)]) rfl k) ?_
  refine own_st (mkF m 15 #[rv a1, rv r2, iv (1 : Int32)] [(.ref a1)]) (fun t k => XS.aloadN X51.here hx rfl (hb hby d18_14) rfl rfl k) ?_
  refine own_st (mkF m 16 #[rv a1, rv r2, iv (1 : Int32)] [(.ref a1), (.ref a1)]) (fun t k => XS.aloadN X51.here hx rfl (hb hby d18_15) rfl rfl k) ?_
  obtain ⟨T52, X52, e52, st52⟩ := getF X51 hx hZ hown (host := "") (Or.inl (hw_127 hw)) Via.refl e51 F_n (g := (mkF m 16 #[rv a1, rv r2, iv (1 : Int32)] [(.ref a1), (.ref a1)])) rfl rfl (hb hby d18_16)
  refine own_step (g' := (mkF m 19 #[rv a1, rv r2, iv (1 : Int32)] [(.int (0 : Int32)), (.ref a1)])) st52 ?_
  refine own_st (mkF m 20 #[rv a1, rv r2, iv (1 : Int32)] [(.int (1 : Int32)), (.int (0 : Int32)), (.ref a1)]) (fun t k => XS.iloadN X52.here hx rfl (hb hby d18_19) rfl k) ?_
  refine own_st (mkF m 21 #[rv a1, rv r2, iv (1 : Int32)] [(.int ((0 : Int32) + (1 : Int32))), (.ref a1)]) (fun t k => XS.iadd X52.here hx rfl (hb hby d18_20) rfl k) ?_
  rw [show ((0 : Int32) + (1 : Int32)) = (1 : Int32) from by decide]
  obtain ⟨cq53, kq53, q53a, q53b, q53c⟩ := isOf hZ e52 E_a1
  obtain ⟨_, _, ⟨T53, L53, k53, n53⟩, -, X53, ⟨Lc53, hQ53, l53, y53, z53⟩, st53⟩ := X52.virtualBack hx (y := (⟨"java/lang/AbstractStringBuilder", "ensureCapacityInternal", "(I)V"⟩ : MethodName)) (z := (⟨"java/lang/AbstractStringBuilder", "ensureCapacityInternal", "(I)V"⟩ : MethodName)) hown (mvT hZ (hw_129 hw)) (mvT hZ (own_declares (hw_130 hw) (hw_133 hw))) (notFace_of_selects (args := #[]) (mvT hZ (hw_132 hw))) (mvT hZ (hw_132 hw)) (mvT hZ (hw_130 hw)) (by decide) (backOf (W := 0) (own_rm21_0_1 l Z a0 hw [] a1 v0 k0 (pre ++ List.replicate 16 (0 : Int32)) h0 n0 Z0 E_a1 F_v F_c V0) hZ (hw_133 hw) (hw_99 hw) (by decide) (by decide)) q53a q53c (g := (mkF m 21 #[rv a1, rv r2, iv (1 : Int32)] [(.int (1 : Int32)), (.ref a1)])) rfl (by rw [hml]; rfl) (Steps.refl _) (argsL := [(.int (1 : Int32))]) (rest := []) (lenOf pd_3 rfl) rfl (by show 2 * 0 + _ ≤ _; exact Nat.le_of_eq rfl) (hb hby d18_21) (fun _ _ => ⟨rfl, e52, (by decide : 0 + 0 ≤ _), (by decide : 0 + 0 ≤ _)⟩)
  dsimp only [Pt.U, Pt.locs, Pt.cells, Pt.slots] at X53 l53 y53 z53 st53 hQ53
  subst l53 y53 z53
  obtain ⟨rfl, Nq53, e53⟩ := hQ53
  have N53 := Fr.app N51 Nq53
  refine own_jump (g' := (mkF m 24 #[rv a1, rv r2, iv (1 : Int32)] [])) st53 ?_
  refine own_st (mkF m 25 #[rv a1, rv r2, iv (1 : Int32)] [(.ref a1)]) (fun t k => XS.aloadN X53.here hx rfl (hb hby d18_24) rfl rfl k) ?_
  refine own_st (mkF m 26 #[rv a1, rv r2, iv (1 : Int32)] [(.ref a1), (.ref a1)]) (fun t k => XS.aloadN X53.here hx rfl (hb hby d18_25) rfl rfl k) ?_
  obtain ⟨T54, X54, e54, st54⟩ := getF X53 hx hZ hown (host := "") (Or.inl (hw_127 hw)) Via.refl e53 F_n (g := (mkF m 26 #[rv a1, rv r2, iv (1 : Int32)] [(.ref a1), (.ref a1)])) rfl rfl (hb hby d18_26)
  refine own_step (g' := (mkF m 29 #[rv a1, rv r2, iv (1 : Int32)] [(.int (0 : Int32)), (.ref a1)])) st54 ?_
  refine own_st (mkF m 30 #[rv a1, rv r2, iv (1 : Int32)] [(.ref r2), (.int (0 : Int32)), (.ref a1)]) (fun t k => XS.aloadN X54.here hx rfl (hb hby d18_29) rfl rfl k) ?_
  obtain ⟨cq55, kq55, q55a, q55b, q55c⟩ := isOf hZ e54 E_a1
  obtain ⟨_, _, ⟨T55, L55, k55, n55⟩, -, X55, ⟨Lc55, hQ55, l55, y55, z55⟩, st55⟩ := X54.virtualBack hx (y := (⟨"java/lang/AbstractStringBuilder", "putStringAt", "(ILjava/lang/String;)V"⟩ : MethodName)) (z := (⟨"java/lang/AbstractStringBuilder", "putStringAt", "(ILjava/lang/String;)V"⟩ : MethodName)) hown (mvT hZ (hw_134 hw)) (mvT hZ (own_declares (hw_135 hw) (hw_138 hw))) (notFace_of_selects (args := #[]) (mvT hZ (hw_137 hw))) (mvT hZ (hw_137 hw)) (mvT hZ (hw_135 hw)) (by decide) (backOf (W := 0) (own_rm22_0_1 l Z a0 hw [] a1 r2 v0 k0 r9 bs kq pre wc wD kD h0 n0 Z0 O0 SS hpre hbl E_a1 F_v F_c V0 E_r2 G_v G_c V9 g_v0 ne_av ne_rv ne_9v) hZ (hw_138 hw) (hw_99 hw) (by decide) (by decide)) q55a q55c (g := (mkF m 30 #[rv a1, rv r2, iv (1 : Int32)] [(.ref r2), (.int (0 : Int32)), (.ref a1)])) rfl (by rw [hml]; rfl) (Steps.refl _) (argsL := [(.int (0 : Int32)), (.ref r2)]) (rest := []) (lenOf pd_8 rfl) rfl (by show 2 * 0 + _ ≤ _; exact Nat.le_of_eq rfl) (hb hby d18_30) (fun _ _ => ⟨rfl, e54, (by decide : 0 + 0 ≤ _), (by decide : 0 + 0 ≤ _)⟩)
  dsimp only [Pt.U, Pt.locs, Pt.cells, Pt.slots] at X55 l55 y55 z55 st55 hQ55
  subst l55 y55 z55
  obtain ⟨rfl, Nq55, K55, V55⟩ := hQ55
  have N55 := Fr.app N53 Nq55
  have Z55 : n0 ≤ T55.heap.size := Nat.le_trans Z0 K55.1
  have O55 : Old Z n0 T55.heap := O0.keep K55 (allS g_v0 all0)
  have Kp55 : Keep h0 T55.heap [a1, v0] := K0.trans K55 (allS (Or.inl (List.mem_of_getElem? (i := 1) rfl)) all0)
  have f1_Exa_a1 : Exa Z T55.heap a1 "java/lang/StringBuilder" := (E_a1.keep K55)
  have f2_Fld_a1 : Fld Z T55.heap a1 "java/lang/AbstractStringBuilder" "value" "[B" (.ref v0) := (F_v.keep K55 (ninS ne_av nin0))
  have f3_Fld_a1 : Fld Z T55.heap a1 "java/lang/AbstractStringBuilder" "coder" "B" (.int (0 : Int32)) := (F_c.keep K55 (ninS ne_av nin0))
  have f4_Fld_a1 : Fld Z T55.heap a1 "java/lang/AbstractStringBuilder" "count" "I" (.int (0 : Int32)) := (F_n.keep K55 (ninS ne_av nin0))
  have f5_Exa_r2 : Exa Z T55.heap r2 "java/lang/String" := (E_r2.keep K55)
  have f6_Fld_r2 : Fld Z T55.heap r2 "java/lang/String" "value" "[B" (.ref r9) := (G_v.keep K55 (ninS ne_rv nin0))
  have f7_Fld_r2 : Fld Z T55.heap r2 "java/lang/String" "coder" "B" (.int (0 : Int32)) := (G_c.keep K55 (ninS ne_rv nin0))
  have f8_Arv_r9 : Arv Z T55.heap r9 kq .byte (1 : Int32) ((bs).map Value.int) (.int (0 : Int32)) := (V9.keep K55 (ninS ne_9v nin0))
  refine own_jump (g' := (mkF m 33 #[rv a1, rv r2, iv (1 : Int32)] [])) st55 ?_
  refine own_st (mkF m 34 #[rv a1, rv r2, iv (1 : Int32)] [(.ref a1)]) (fun t k => XS.aloadN X55.here hx rfl (hb hby d18_33) rfl rfl k) ?_
  refine own_st (mkF m 35 #[rv a1, rv r2, iv (1 : Int32)] [(.ref a1), (.ref a1)]) (fun t k => XS.dup X55.here hx rfl (hb hby d18_34) rfl rfl k) ?_
  obtain ⟨T56, X56, e56, st56⟩ := getF X55 hx hZ hown (host := "") (Or.inl (hw_127 hw)) Via.refl rfl f4_Fld_a1 (g := (mkF m 35 #[rv a1, rv r2, iv (1 : Int32)] [(.ref a1), (.ref a1)])) rfl rfl (hb hby d18_35)
  refine own_step (g' := (mkF m 38 #[rv a1, rv r2, iv (1 : Int32)] [(.int (0 : Int32)), (.ref a1)])) st56 ?_
  refine own_st (mkF m 39 #[rv a1, rv r2, iv (1 : Int32)] [(.int (1 : Int32)), (.int (0 : Int32)), (.ref a1)]) (fun t k => XS.iloadN X56.here hx rfl (hb hby d18_38) rfl k) ?_
  refine own_st (mkF m 40 #[rv a1, rv r2, iv (1 : Int32)] [(.int ((0 : Int32) + (1 : Int32))), (.ref a1)]) (fun t k => XS.iadd X56.here hx rfl (hb hby d18_39) rfl k) ?_
  rw [show ((0 : Int32) + (1 : Int32)) = (1 : Int32) from by decide]
  obtain ⟨T57, h57, X57, e57, W57, st57⟩ := putF X56 hx hZ hown (host := "") (Or.inl (hw_127 hw)) Via.refl e56 f4_Fld_a1 f1_Exa_a1 (Or.inl (hw_128 hw)) (hw_90 hw) (ty := .int) (by decide) rfl rfl (g := (mkF m 40 #[rv a1, rv r2, iv (1 : Int32)] [(.int (1 : Int32)), (.ref a1)])) rfl rfl (hb hby d18_40)
  have f9_Exa_a1 : Exa Z h57 a1 "java/lang/StringBuilder" := (f1_Exa_a1.wr W57)
  have f10_Fld_a1 : Fld Z h57 a1 "java/lang/AbstractStringBuilder" "value" "[B" (.ref v0) := (f2_Fld_a1.other W57 (Or.inr (slot_ne (a0 := a0) (C := "java/lang/StringBuilder") (Or.inl (hw_104 hw)) (Or.inl (hw_128 hw)) (by decide) (t := (.array .byte)) (t' := .int) (by decide) (by decide))))
  have f11_Fld_a1 : Fld Z h57 a1 "java/lang/AbstractStringBuilder" "coder" "B" (.int (0 : Int32)) := (f3_Fld_a1.other W57 (Or.inr (slot_ne (a0 := a0) (C := "java/lang/StringBuilder") (Or.inl (hw_106 hw)) (Or.inl (hw_128 hw)) (by decide) (t := .byte) (t' := .int) (by decide) (by decide))))
  have f12_Exa_r2 : Exa Z h57 r2 "java/lang/String" := (f5_Exa_r2.wr W57)
  have f13_Fld_r2 : Fld Z h57 r2 "java/lang/String" "value" "[B" (.ref r9) := (f6_Fld_r2.other W57 (Or.inl (Ne.symm ne_ar)))
  have f14_Fld_r2 : Fld Z h57 r2 "java/lang/String" "coder" "B" (.int (0 : Int32)) := (f7_Fld_r2.other W57 (Or.inl (Ne.symm ne_ar)))
  have f15_Arv_r9 : Arv Z h57 r9 kq .byte (1 : Int32) ((bs).map Value.int) (.int (0 : Int32)) := (f8_Arv_r9.other W57 (Ne.symm ne_a9))
  have f16_Arv_v0 : Arv Z h57 v0 k0 .byte (16 : Int32) (((pre ++ bs) ++ List.replicate 15 (0 : Int32)).map Value.int) (.int (0 : Int32)) := (V55.other W57 (Ne.symm ne_av))
  have fw57 : Fld Z h57 a1 "java/lang/AbstractStringBuilder" "count" "I" (.int (1 : Int32)) := f4_Fld_a1.same W57
  have Z57 : n0 ≤ h57.size := Nat.le_trans Z55 (Keep.of_wr W57).1
  have Kp57 : Keep h0 h57 [a1, v0] := Kp55.wr W57 (Or.inl (List.mem_of_getElem? (i := 0) rfl))
  have O57 : Old Z n0 h57 := O55.wr W57 g_a1
  have N57 := Fr.snoc X57 N55 g_a1
  refine own_step (g' := (mkF m 43 #[rv a1, rv r2, iv (1 : Int32)] [])) st57 ?_
  refine own_st (mkF m 44 #[rv a1, rv r2, iv (1 : Int32)] [(.ref a1)]) (fun t k => XS.aloadN X57.here hx rfl (hb hby d18_43) rfl rfl k) ?_
  refine own_ret X57 hlk (v := some (.ref a1)) (fun h => by rw [hret] at h; cases h) (fun fs hr => X57.areturnOut hx (w := (.ref a1)) rfl hret rfl (hb hby d18_44) hr) ?_ (by decide) (by decide)
  show own_Q18_0_1 Z a1 r2 v0 k0 r9 bs kq pre wc wD kD h0 n0 _ T57.heap _
  rw [e57]
  exact ⟨rfl, N57, Kp57, f9_Exa_a1, f10_Fld_a1, f11_Fld_a1, fw57, f16_Arv_v0⟩
theorem d17_0 : decode jdk_67_method_7_code 0 = .ok (.aload_n 0, 1) := by decide +kernel
theorem d17_1 : decode jdk_67_method_7_code 1 = .ok (.aload_n 1, 1) := by decide +kernel
theorem d17_2 : decode jdk_67_method_7_code 2 = .ok (.invokespecial 29, 3) := by decide +kernel
theorem hw_112 {a0 Z} (hw : own_W a0 Z) : (Jvm.Cond.methodLink "java/lang/StringBuilder" (29 : Nat) ({ cls := "java/lang/AbstractStringBuilder", name := "append", desc := "(Ljava/lang/String;)Ljava/lang/AbstractStringBuilder;" } : Jvm.MethodName)).before a0 Z = true := hw _ (List.mem_of_getElem? (i := 112) rfl)
theorem hw_116 {a0 Z} (hw : own_W a0 Z) : (Jvm.Cond.code ({ cls := "java/lang/AbstractStringBuilder", name := "append", desc := "(Ljava/lang/String;)Ljava/lang/AbstractStringBuilder;" } : Jvm.MethodName) jdk_68_method_22_code (3 : Nat) (Option.some (Jvm.ClassFile.FieldType.object "java/lang/AbstractStringBuilder"))).before a0 Z = true := hw _ (List.mem_of_getElem? (i := 116) rfl)
theorem pd_9 : parseMethodDescriptor "(Ljava/lang/String;)Ljava/lang/AbstractStringBuilder;" = some ⟨[(.object "java/lang/String")], some (.object "java/lang/AbstractStringBuilder")⟩ := by decide +kernel
theorem hw_113 {a0 Z} (hw : own_W a0 Z) : (Jvm.Cond.instanceMethod ({ cls := "java/lang/AbstractStringBuilder", name := "append", desc := "(Ljava/lang/String;)Ljava/lang/AbstractStringBuilder;" } : Jvm.MethodName)).before a0 Z = true := hw _ (List.mem_of_getElem? (i := 113) rfl)
theorem d17_5 : decode jdk_67_method_7_code 5 = .ok (.pop, 1) := by decide +kernel
theorem d17_6 : decode jdk_67_method_7_code 6 = .ok (.aload_n 0, 1) := by decide +kernel
theorem d17_7 : decode jdk_67_method_7_code 7 = .ok (.areturn, 1) := by decide +kernel
theorem own_ef17_0_1 (m : MethodId) (a1 : Addr) (r2 : Addr) : entryFrame m #[(.ref a1), (.ref r2)] 2 = mkF m 0 #[rv a1, rv r2] [] := by first | (simp [entryFrame, mkF, argsToLocals, Value.category]; done) | rfl
def own_Q17_0_1 (Z : State) (a1 : Addr) (r2 : Addr) (v0 : Addr) (k0 : ClassId) (r9 : Addr) (bs : List Int32) (kq : ClassId) (pre : List Int32) (wc : Int32) (wD : Addr) (kD : ClassId) (h0 : Heap) (n0 : Nat) (v : Option Value) (h : Heap) (L : List Loc) : Prop := v = some (.ref a1) ∧ Fr n0 L ∧ Keep h0 h [a1, v0] ∧ Exa Z h a1 "java/lang/StringBuilder" ∧ Fld Z h a1 "java/lang/AbstractStringBuilder" "value" "[B" (.ref v0) ∧ Fld Z h a1 "java/lang/AbstractStringBuilder" "coder" "B" (.int (0 : Int32)) ∧ Fld Z h a1 "java/lang/AbstractStringBuilder" "count" "I" (.int (1 : Int32)) ∧ Arv Z h v0 k0 .byte (16 : Int32) (((pre ++ bs) ++ List.replicate 15 (0 : Int32)).map Value.int) (.int (0 : Int32))
set_option maxRecDepth 65536 in
set_option maxHeartbeats 40000000 in
theorem own_rm17_0_1 (l : Launch) (Z : State) (a0 : Array Value) (hw : own_W a0 Z) (ws : List Jvm.Cond) (a1 : Addr) (r2 : Addr) (v0 : Addr) (k0 : ClassId) (r9 : Addr) (bs : List Int32) (kq : ClassId) (pre : List Int32) (wc : Int32) (wD : Addr) (kD : ClassId) (h0 : Heap) (n0 : Nat) (Z0 : n0 ≤ h0.size) (O0 : Old Z n0 h0) (SS : own_St Z wc wD kD) (hpre : pre.length = 0) (hbl : bs.length = 1) (E_a1 : Exa Z h0 a1 "java/lang/StringBuilder") (F_v : Fld Z h0 a1 "java/lang/AbstractStringBuilder" "value" "[B" (.ref v0)) (F_c : Fld Z h0 a1 "java/lang/AbstractStringBuilder" "coder" "B" (.int (0 : Int32))) (F_n : Fld Z h0 a1 "java/lang/AbstractStringBuilder" "count" "I" (.int (0 : Int32))) (V0 : Arv Z h0 v0 k0 .byte (16 : Int32) ((pre ++ List.replicate 16 (0 : Int32)).map Value.int) (.int (0 : Int32))) (E_r2 : Exa Z h0 r2 "java/lang/String") (G_v : Fld Z h0 r2 "java/lang/String" "value" "[B" (.ref r9)) (G_c : Fld Z h0 r2 "java/lang/String" "coder" "B" (.int (0 : Int32))) (V9 : Arv Z h0 r9 kq .byte (1 : Int32) ((bs).map Value.int) (.int (0 : Int32))) (g_a1 : n0 ≤ a1) (ne_av : a1 ≠ v0) (ne_ar : a1 ≠ r2) (ne_a9 : a1 ≠ r9) (ne_rv : r2 ≠ v0) (ne_9v : r9 ≠ v0) (g_v0 : n0 ≤ v0) :
    MetFree l (⟨"java/lang/StringBuilder", "append", "(Ljava/lang/String;)Ljava/lang/StringBuilder;"⟩ : MethodName) (head1 (Jvm.Cond.code (⟨"java/lang/StringBuilder", "append", "(Ljava/lang/String;)Ljava/lang/StringBuilder;"⟩ : MethodName) jdk_67_method_7_code 2 (some (.object "java/lang/StringBuilder")) :: ws) ({ frames := 4, cells := 0, slots := 0, locals := 61 } : Room)) (fun a U => a = #[(.ref a1), (.ref r2)] ∧ Z.Warmed39 U.vm ∧ U.heap = h0) (fun _ _ _ _ _ => True) (fun _ U o U' => ∃ v L, o = .returned v ∧ own_Q17_0_1 Z a1 r2 v0 k0 r9 bs kq pre wc wD kD h0 n0 v U'.heap L ∧ FrameEnd U o U' L ({ frames := 4, cells := 0, slots := 0, locals := 61 } : Room).cells ({ frames := 4, cells := 0, slots := 0, locals := 61 } : Room).slots) := by
  refine own_body (plainFor_of_name pn_15) (fun m => own_ef17_0_1 m a1 r2) ?_
  intro p e s m below meth c T0 X0 hx hby hml hZ hown hnm hret hlk e0
  have hown : s.vm.findClass "java/lang/StringBuilder" = some m.cls := hown
  have hnm : meth.name = "append" := hnm
  have N0 := Fr.nil n0
  have K0 : Keep h0 h0 [a1, v0] := Keep.refl _ _
  refine own_st (mkF m 1 #[rv a1, rv r2] [(.ref a1)]) (fun t k => XS.aloadN X0.here hx rfl (hb hby d17_0) rfl rfl k) ?_
  refine own_st (mkF m 2 #[rv a1, rv r2] [(.ref r2), (.ref a1)]) (fun t k => XS.aloadN X0.here hx rfl (hb hby d17_1) rfl rfl k) ?_
  obtain ⟨_, _, ⟨T58, L58, k58, n58⟩, -, X58, ⟨Lc58, hQ58, l58, y58, z58⟩, st58⟩ := superBack X0 hx hZ (y := (⟨"java/lang/AbstractStringBuilder", "append", "(Ljava/lang/String;)Ljava/lang/AbstractStringBuilder;"⟩ : MethodName)) hown (hw_112 hw) (own_samem (y := (⟨"java/lang/AbstractStringBuilder", "append", "(Ljava/lang/String;)Ljava/lang/AbstractStringBuilder;"⟩ : MethodName)) (hw_113 hw) (y2 := (⟨"java/lang/AbstractStringBuilder", "getValue", "()[B"⟩ : MethodName)) rfl (hw_172 hw) (by decide)) (hw_113 hw) (hw_114 hw) (by decide) (backOf (W := 0) (own_rm18_0_1 l Z a0 hw [] a1 r2 v0 k0 r9 bs kq pre wc wD kD h0 n0 Z0 O0 SS hpre hbl E_a1 F_v F_c F_n V0 E_r2 G_v G_c V9 g_a1 ne_av ne_ar ne_a9 ne_rv ne_9v g_v0) hZ (hw_116 hw) (hw_99 hw) (by decide) (by decide)) e0 (Ins.self E_a1) (g := (mkF m 2 #[rv a1, rv r2] [(.ref r2), (.ref a1)])) rfl (by rw [hml]; rfl) (hw_116 hw) (argsL := [(.ref r2)]) (rest := []) (lenOf pd_9 rfl) rfl (by show 2 * 0 + _ ≤ _; exact Nat.le_of_eq rfl) (hb hby d17_2) (fun _ _ => ⟨rfl, e0, (by decide : 0 + 0 ≤ _), (by decide : 0 + 0 ≤ _)⟩)
  dsimp only [Pt.U, Pt.locs, Pt.cells, Pt.slots] at X58 l58 y58 z58 st58 hQ58
  subst l58 y58 z58
  obtain ⟨rfl, Nq58, K58, Ex58, Fv58, Fc58, Fn58, V58⟩ := hQ58
  have N58 := Fr.app N0 Nq58
  have Z58 : n0 ≤ T58.heap.size := Nat.le_trans Z0 K58.1
  have O58 : Old Z n0 T58.heap := O0.keep K58 (allS g_a1 (allS g_v0 all0))
  have Kp58 : Keep h0 T58.heap [a1, v0] := K0.trans K58 (allS (Or.inl (List.mem_of_getElem? (i := 0) rfl)) (allS (Or.inl (List.mem_of_getElem? (i := 1) rfl)) all0))
  have f1_Exa_a1 : Exa Z T58.heap a1 "java/lang/StringBuilder" := (E_a1.keep K58)
  have f2_Exa_r2 : Exa Z T58.heap r2 "java/lang/String" := (E_r2.keep K58)
  have f3_Fld_r2 : Fld Z T58.heap r2 "java/lang/String" "value" "[B" (.ref r9) := (G_v.keep K58 (ninS (Ne.symm ne_ar) (ninS ne_rv nin0)))
  have f4_Fld_r2 : Fld Z T58.heap r2 "java/lang/String" "coder" "B" (.int (0 : Int32)) := (G_c.keep K58 (ninS (Ne.symm ne_ar) (ninS ne_rv nin0)))
  have f5_Arv_r9 : Arv Z T58.heap r9 kq .byte (1 : Int32) ((bs).map Value.int) (.int (0 : Int32)) := (V9.keep K58 (ninS (Ne.symm ne_a9) (ninS ne_9v nin0)))
  refine own_jump (g' := (mkF m 5 #[rv a1, rv r2] [(.ref a1)])) st58 ?_
  refine own_st (mkF m 6 #[rv a1, rv r2] []) (fun t k => XS.pop X58.here hx rfl (hb hby d17_5) rfl rfl k) ?_
  refine own_st (mkF m 7 #[rv a1, rv r2] [(.ref a1)]) (fun t k => XS.aloadN X58.here hx rfl (hb hby d17_6) rfl rfl k) ?_
  refine own_ret X58 hlk (v := some (.ref a1)) (fun h => by rw [hret] at h; cases h) (fun fs hr => X58.areturnOut hx (w := (.ref a1)) rfl hret rfl (hb hby d17_7) hr) ?_ (by decide) (by decide)
  show own_Q17_0_1 Z a1 r2 v0 k0 r9 bs kq pre wc wD kD h0 n0 _ T58.heap _
  exact ⟨rfl, N58, Kp58, Ex58, Fv58, Fc58, Fn58, V58⟩
theorem own_ef21_1_2 (m : MethodId) (a1 : Addr) : entryFrame m #[(.ref a1), (.int (3 : Int32))] 3 = mkF m 0 #[rv a1, iv (3 : Int32), .unset] [] := by first | (simp [entryFrame, mkF, argsToLocals, Value.category]; done) | rfl
def own_Q21_1_2 (Z : State) (a1 : Addr) (vb : Addr) (kb : ClassId) (es : List Int32) (h0 : Heap) (n0 : Nat) (v : Option Value) (h : Heap) (L : List Loc) : Prop := v = none ∧ Fr n0 L ∧ h = h0
set_option maxRecDepth 65536 in
set_option maxHeartbeats 40000000 in
theorem own_rm21_1_2 (l : Launch) (Z : State) (a0 : Array Value) (hw : own_W a0 Z) (ws : List Jvm.Cond) (a1 : Addr) (vb : Addr) (kb : ClassId) (es : List Int32) (h0 : Heap) (n0 : Nat) (Z0 : n0 ≤ h0.size) (E_a1 : Exa Z h0 a1 "java/lang/StringBuilder") (F_v : Fld Z h0 a1 "java/lang/AbstractStringBuilder" "value" "[B" (.ref vb)) (F_c : Fld Z h0 a1 "java/lang/AbstractStringBuilder" "coder" "B" (.int (0 : Int32))) (V0 : Arv Z h0 vb kb .byte (16 : Int32) ((es).map Value.int) (.int (0 : Int32))) :
    MetFree l (⟨"java/lang/AbstractStringBuilder", "ensureCapacityInternal", "(I)V"⟩ : MethodName) (head1 (Jvm.Cond.code (⟨"java/lang/AbstractStringBuilder", "ensureCapacityInternal", "(I)V"⟩ : MethodName) jdk_68_method_9_code 3 none :: ws) ({ frames := 0, cells := 0, slots := 0, locals := 0 } : Room)) (fun a U => a = #[(.ref a1), (.int (3 : Int32))] ∧ Z.Warmed39 U.vm ∧ U.heap = h0) (fun _ _ _ _ _ => True) (fun _ U o U' => ∃ v L, o = .returned v ∧ own_Q21_1_2 Z a1 vb kb es h0 n0 v U'.heap L ∧ FrameEnd U o U' L ({ frames := 0, cells := 0, slots := 0, locals := 0 } : Room).cells ({ frames := 0, cells := 0, slots := 0, locals := 0 } : Room).slots) := by
  refine own_body (plainFor_of_name pn_16) (fun m => own_ef21_1_2 m a1) ?_
  intro p e s m below meth c T0 X0 hx hby hml hZ hown hnm hret hlk e0
  have hown : s.vm.findClass "java/lang/AbstractStringBuilder" = some m.cls := hown
  have hnm : meth.name = "ensureCapacityInternal" := hnm
  have N0 := Fr.nil n0
  refine own_st (mkF m 1 #[rv a1, iv (3 : Int32), .unset] [(.ref a1)]) (fun t k => XS.aloadN X0.here hx rfl (hb hby d21_0) rfl rfl k) ?_
  obtain ⟨T59, X59, e59, st59⟩ := getF X0 hx hZ hown (host := "") (Or.inl (hw_103 hw)) Via.refl e0 F_v (g := (mkF m 1 #[rv a1, iv (3 : Int32), .unset] [(.ref a1)])) rfl rfl (hb hby d21_1)
  refine own_step (g' := (mkF m 4 #[rv a1, iv (3 : Int32), .unset] [(.ref vb)])) st59 ?_
  obtain ⟨cl60, Ar60, -, S60, M60, -, -⟩ := id V0
  refine own_step (T' := T59) (g' := (mkF m 5 #[rv a1, iv (3 : Int32), .unset] [(.int cl60.slots.size.toInt32)])) (X59.arraylength hx (by rw [e59]; exact Ar60.1) (State.isArrayOf_alike hZ.alike Ar60.2.1) (g := (mkF m 4 #[rv a1, iv (3 : Int32), .unset] [(.ref vb)])) rfl rfl (hb hby d21_4)) ?_
  rw [len_of S60 M60]
  refine own_st (mkF m 6 #[rv a1, iv (3 : Int32), .unset] [(.ref a1), (.int (16 : Int32))]) (fun t k => XS.aloadN X59.here hx rfl (hb hby d21_5) rfl rfl k) ?_
  obtain ⟨T61, X61, e61, st61⟩ := getF X59 hx hZ hown (host := "") (Or.inl (hw_105 hw)) Via.refl e59 F_c (g := (mkF m 6 #[rv a1, iv (3 : Int32), .unset] [(.ref a1), (.int (16 : Int32))])) rfl rfl (hb hby d21_6)
  refine own_step (g' := (mkF m 9 #[rv a1, iv (3 : Int32), .unset] [(.int (0 : Int32)), (.int (16 : Int32))])) st61 ?_
  refine own_st (mkF m 10 #[rv a1, iv (3 : Int32), .unset] [(.int ((16 : Int32) >>> ((0 : Int32) &&& 31)))]) (fun t k => XS.ishr X61.here hx rfl (hb hby d21_9) rfl k) ?_
  rw [show ((16 : Int32) >>> ((0 : Int32) &&& 31)) = (16 : Int32) from by decide]
  refine own_st (mkF m 11 #[rv a1, iv (3 : Int32), iv (16 : Int32)] []) (fun t k => XS.istoreN X61.here hx rfl (hb hby d21_10) rfl (l' := #[rv a1, iv (3 : Int32), iv (16 : Int32)]) rfl k) ?_
  refine own_st (mkF m 12 #[rv a1, iv (3 : Int32), iv (16 : Int32)] [(.int (3 : Int32))]) (fun t k => XS.iloadN X61.here hx rfl (hb hby d21_11) rfl k) ?_
  refine own_st (mkF m 13 #[rv a1, iv (3 : Int32), iv (16 : Int32)] [(.int (16 : Int32)), (.int (3 : Int32))]) (fun t k => XS.iloadN X61.here hx rfl (hb hby d21_12) rfl k) ?_
  refine own_st (mkF m 14 #[rv a1, iv (3 : Int32), iv (16 : Int32)] [(.int ((3 : Int32) - (16 : Int32)))]) (fun t k => XS.isub X61.here hx rfl (hb hby d21_13) rfl k) ?_
  rw [show ((3 : Int32) - (16 : Int32)) = (-13 : Int32) from by decide]
  refine own_st (mkF m 38 #[rv a1, iv (3 : Int32), iv (16 : Int32)] []) (fun t k => XS.ifYes X61.here hx rfl (pc0 := 14) (pc' := 38) rfl (hb hby d21_14) rfl ((if0 _ _).trans (flt (by decide : ¬ ((0 : Int32) < (-13 : Int32)))).2.2.2) (by decide) (by decide) k) ?_
  refine own_ret X61 hlk (v := none) (fun _ => rfl) (fun fs hr => X61.returnOut hx hret (hb hby d21_38) hr) ?_ (by decide) (by decide)
  show own_Q21_1_2 Z a1 vb kb es h0 n0 _ T61.heap _
  rw [e61]
  exact ⟨rfl, N0, rfl⟩
theorem own_ef24_1_2 (m : MethodId) (a1 : Addr) (r2 : Addr) : entryFrame m #[(.ref a1), (.ref r2), (.int (1 : Int32)), (.int (0 : Int32))] 4 = mkF m 0 #[rv a1, rv r2, iv (1 : Int32), iv (0 : Int32)] [] := by first | (simp [entryFrame, mkF, argsToLocals, Value.category]; done) | rfl
def own_Q24_1_2 (Z : State) (a1 : Addr) (r2 : Addr) (r9 : Addr) (k2 : ClassId) (bs : List Int32) (kq : ClassId) (pre : List Int32) (wc : Int32) (wD : Addr) (kD : ClassId) (h0 : Heap) (n0 : Nat) (v : Option Value) (h : Heap) (L : List Loc) : Prop := v = none ∧ Fr n0 L ∧ Keep h0 h [r2] ∧ Arv Z h r2 k2 .byte (16 : Int32) (((pre ++ bs) ++ List.replicate 13 (0 : Int32)).map Value.int) (.int (0 : Int32))
set_option maxRecDepth 65536 in
set_option maxHeartbeats 40000000 in
theorem own_rm24_1_2 (l : Launch) (Z : State) (a0 : Array Value) (hw : own_W a0 Z) (ws : List Jvm.Cond) (a1 : Addr) (r2 : Addr) (r9 : Addr) (k2 : ClassId) (bs : List Int32) (kq : ClassId) (pre : List Int32) (wc : Int32) (wD : Addr) (kD : ClassId) (h0 : Heap) (n0 : Nat) (Z0 : n0 ≤ h0.size) (O0 : Old Z n0 h0) (SS : own_St Z wc wD kD) (hpre : pre.length = 1) (hbl : bs.length = 2) (E_a1 : Exa Z h0 a1 "java/lang/String") (F_v : Fld Z h0 a1 "java/lang/String" "value" "[B" (.ref r9)) (F_c : Fld Z h0 a1 "java/lang/String" "coder" "B" (.int (0 : Int32))) (V0 : Arv Z h0 r9 kq .byte (2 : Int32) ((bs).map Value.int) (.int (0 : Int32))) (V2 : Arv Z h0 r2 k2 .byte (16 : Int32) ((pre ++ List.replicate 15 (0 : Int32)).map Value.int) (.int (0 : Int32))) (g_r2 : n0 ≤ r2) (ne_92 : r9 ≠ r2) (ne_12 : a1 ≠ r2) :
    MetFree l (⟨"java/lang/String", "getBytes", "([BIB)V"⟩ : MethodName) (head1 (Jvm.Cond.code (⟨"java/lang/String", "getBytes", "([BIB)V"⟩ : MethodName) jdk_42_method_147_code 4 none :: ws) ({ frames := 1, cells := 0, slots := 0, locals := 18 } : Room)) (fun a U => a = #[(.ref a1), (.ref r2), (.int (1 : Int32)), (.int (0 : Int32))] ∧ Z.Warmed39 U.vm ∧ U.heap = h0) (fun _ _ _ _ _ => True) (fun _ U o U' => ∃ v L, o = .returned v ∧ own_Q24_1_2 Z a1 r2 r9 k2 bs kq pre wc wD kD h0 n0 v U'.heap L ∧ FrameEnd U o U' L ({ frames := 1, cells := 0, slots := 0, locals := 18 } : Room).cells ({ frames := 1, cells := 0, slots := 0, locals := 18 } : Room).slots) := by
  refine own_body (plainFor_of_name pn_12) (fun m => own_ef24_1_2 m a1 r2) ?_
  intro p e s m below meth c T0 X0 hx hby hml hZ hown hnm hret hlk e0
  have hown : s.vm.findClass "java/lang/String" = some m.cls := hown
  have hnm : meth.name = "getBytes" := hnm
  have N0 := Fr.nil n0
  have K0 : Keep h0 h0 [r2] := Keep.refl _ _
  refine own_st (mkF m 1 #[rv a1, rv r2, iv (1 : Int32), iv (0 : Int32)] [(.ref a1)]) (fun t k => XS.aloadN X0.here hx rfl (hb hby d24_0) rfl rfl k) ?_
  obtain ⟨cq62, kq62, q62a, q62b, q62c⟩ := isOf hZ e0 E_a1
  obtain ⟨_, _, ⟨T62, L62, k62, n62⟩, -, X62, ⟨Lc62, hQ62, l62, y62, z62⟩, st62⟩ := X0.virtualBack hx (y := (⟨"java/lang/String", "coder", "()B"⟩ : MethodName)) (z := (⟨"java/lang/String", "coder", "()B"⟩ : MethodName)) hown (mvT hZ (hw_122 hw)) (mvT hZ (hw_123 hw)) (notFace_of_selects (args := #[]) (mvT hZ (hw_125 hw))) (mvT hZ (hw_125 hw)) (mvT hZ (hw_124 hw)) (by decide) (backOf (W := 0) (own_rm20 l Z a0 hw [] a1 wc wD kD h0 n0 Z0 O0 SS F_c) hZ (hw_126 hw) (hw_59 hw) (by decide) (by decide)) q62a q62c (g := (mkF m 1 #[rv a1, rv r2, iv (1 : Int32), iv (0 : Int32)] [(.ref a1)])) rfl (by rw [hml]; rfl) (Steps.refl _) (argsL := []) (rest := []) (lenOf pd_4 rfl) rfl (by show 2 * 0 + _ ≤ _; exact Nat.le_of_eq rfl) (hb hby d24_1) (fun _ _ => ⟨rfl, e0, (by decide : 0 + 0 ≤ _), (by decide : 0 + 0 ≤ _)⟩)
  dsimp only [Pt.U, Pt.locs, Pt.cells, Pt.slots] at X62 l62 y62 z62 st62 hQ62
  subst l62 y62 z62
  obtain ⟨rfl, Nq62, e62⟩ := hQ62
  have N62 := Fr.app N0 Nq62
  refine own_jump (g' := (mkF m 4 #[rv a1, rv r2, iv (1 : Int32), iv (0 : Int32)] [(.int (0 : Int32))])) st62 ?_
  refine own_st (mkF m 5 #[rv a1, rv r2, iv (1 : Int32), iv (0 : Int32)] [(.int (0 : Int32)), (.int (0 : Int32))]) (fun t k => XS.iloadN X62.here hx rfl (hb hby d24_4) rfl k) ?_
  refine own_st (mkF m 8 #[rv a1, rv r2, iv (1 : Int32), iv (0 : Int32)] []) (fun t k => XS.icmpNo X62.here hx rfl (hb hby d24_5) rfl (teq (by decide : (0 : Int32) = (0 : Int32))).2 k) ?_
  refine own_st (mkF m 9 #[rv a1, rv r2, iv (1 : Int32), iv (0 : Int32)] [(.ref a1)]) (fun t k => XS.aloadN X62.here hx rfl (hb hby d24_8) rfl rfl k) ?_
  obtain ⟨T63, X63, e63, st63⟩ := getF X62 hx hZ hown (host := "") (Or.inl (hw_77 hw)) Via.refl e62 F_v (g := (mkF m 9 #[rv a1, rv r2, iv (1 : Int32), iv (0 : Int32)] [(.ref a1)])) rfl rfl (hb hby d24_9)
  refine own_step (g' := (mkF m 12 #[rv a1, rv r2, iv (1 : Int32), iv (0 : Int32)] [(.ref r9)])) st63 ?_
  refine own_st (mkF m 13 #[rv a1, rv r2, iv (1 : Int32), iv (0 : Int32)] [(.int (0 : Int32)), (.ref r9)]) (fun t k => XS.iconst X63.here hx rfl (hb hby d24_12) k) ?_
  refine own_st (mkF m 14 #[rv a1, rv r2, iv (1 : Int32), iv (0 : Int32)] [(.ref r2), (.int (0 : Int32)), (.ref r9)]) (fun t k => XS.aloadN X63.here hx rfl (hb hby d24_13) rfl rfl k) ?_
  refine own_st (mkF m 15 #[rv a1, rv r2, iv (1 : Int32), iv (0 : Int32)] [(.int (1 : Int32)), (.ref r2), (.int (0 : Int32)), (.ref r9)]) (fun t k => XS.iloadN X63.here hx rfl (hb hby d24_14) rfl k) ?_
  refine own_st (mkF m 16 #[rv a1, rv r2, iv (1 : Int32), iv (0 : Int32)] [(.int (0 : Int32)), (.int (1 : Int32)), (.ref r2), (.int (0 : Int32)), (.ref r9)]) (fun t k => XS.iloadN X63.here hx rfl (hb hby d24_15) rfl k) ?_
  refine own_st (mkF m 17 #[rv a1, rv r2, iv (1 : Int32), iv (0 : Int32)] [(.int ((1 : Int32) <<< ((0 : Int32) &&& 31))), (.ref r2), (.int (0 : Int32)), (.ref r9)]) (fun t k => XS.ishl X63.here hx rfl (hb hby d24_16) rfl k) ?_
  rw [show ((1 : Int32) <<< ((0 : Int32) &&& 31)) = (1 : Int32) from by decide]
  refine own_st (mkF m 18 #[rv a1, rv r2, iv (1 : Int32), iv (0 : Int32)] [(.ref a1), (.int (1 : Int32)), (.ref r2), (.int (0 : Int32)), (.ref r9)]) (fun t k => XS.aloadN X63.here hx rfl (hb hby d24_17) rfl rfl k) ?_
  obtain ⟨T64, X64, e64, st64⟩ := getF X63 hx hZ hown (host := "") (Or.inl (hw_77 hw)) Via.refl e63 F_v (g := (mkF m 18 #[rv a1, rv r2, iv (1 : Int32), iv (0 : Int32)] [(.ref a1), (.int (1 : Int32)), (.ref r2), (.int (0 : Int32)), (.ref r9)])) rfl rfl (hb hby d24_18)
  refine own_step (g' := (mkF m 21 #[rv a1, rv r2, iv (1 : Int32), iv (0 : Int32)] [(.ref r9), (.int (1 : Int32)), (.ref r2), (.int (0 : Int32)), (.ref r9)])) st64 ?_
  obtain ⟨cl65, Ar65, -, S65, M65, -, -⟩ := id V0
  refine own_step (T' := T64) (g' := (mkF m 22 #[rv a1, rv r2, iv (1 : Int32), iv (0 : Int32)] [(.int cl65.slots.size.toInt32), (.int (1 : Int32)), (.ref r2), (.int (0 : Int32)), (.ref r9)])) (X64.arraylength hx (by rw [e64]; exact Ar65.1) (State.isArrayOf_alike hZ.alike Ar65.2.1) (g := (mkF m 21 #[rv a1, rv r2, iv (1 : Int32), iv (0 : Int32)] [(.ref r9), (.int (1 : Int32)), (.ref r2), (.int (0 : Int32)), (.ref r9)])) rfl rfl (hb hby d24_21)) ?_
  rw [len_of S65 M65]
  obtain ⟨T66, h66, Lc66, X66, e66, N66, K66, V66, st66⟩ := own_copyAt (pre := pre) (rs := List.replicate 15 (0 : Int32)) X64 hx hZ hown (hw_150 hw) (hw_153 hw) (hw_151 hw) (hw_152 hw) e64 V0 V2 (by rw [hpre]; rfl) (by rw [hbl]; rfl) (by rw [hbl]; rfl) (by simp [hpre]) (by rw [hbl]; simp) (n0 := n0) N62 g_r2 (g := (mkF m 22 #[rv a1, rv r2, iv (1 : Int32), iv (0 : Int32)] [(.int (2 : Int32)), (.int (1 : Int32)), (.ref r2), (.int (0 : Int32)), (.ref r9)])) rfl (by rw [hml]; rfl) rfl (hb hby d24_22) (by decide) (W := 0) (by show 2 * 0 + _ ≤ _; exact Nat.le_of_eq rfl) (by decide)
  have Z66 : n0 ≤ h66.size := Nat.le_trans Z0 K66.1
  have O66 : Old Z n0 h66 := O0.keep K66 (allS g_r2 all0)
  have Kp66 : Keep h0 h66 [r2] := K0.trans K66 (allS (Or.inl (List.mem_of_getElem? (i := 0) rfl)) all0)
  have f1_Exa_a1 : Exa Z h66 a1 "java/lang/String" := (E_a1.keep K66)
  have f2_Fld_a1 : Fld Z h66 a1 "java/lang/String" "value" "[B" (.ref r9) := (F_v.keep K66 (ninS ne_12 nin0))
  have f3_Fld_a1 : Fld Z h66 a1 "java/lang/String" "coder" "B" (.int (0 : Int32)) := (F_c.keep K66 (ninS ne_12 nin0))
  have f4_Arv_r9 : Arv Z h66 r9 kq .byte (2 : Int32) ((bs).map Value.int) (.int (0 : Int32)) := (V0.keep K66 (ninS ne_92 nin0))
  have Vr66 : Arv Z h66 r2 k2 .byte (16 : Int32) (((pre ++ bs) ++ List.replicate 13 (0 : Int32)).map Value.int) (.int (0 : Int32)) := by have q := V66; rw [hbl, List.drop_replicate] at q; exact q
  refine own_step (g' := (mkF m 25 #[rv a1, rv r2, iv (1 : Int32), iv (0 : Int32)] [])) st66 ?_
  refine own_st (mkF m 43 #[rv a1, rv r2, iv (1 : Int32), iv (0 : Int32)] []) (fun t k => XS.goto X66.here hx rfl (pc0 := 25) (pc' := 43) rfl (hb hby d24_25) (by decide) (by decide) k) ?_
  refine own_ret X66 hlk (v := none) (fun _ => rfl) (fun fs hr => X66.returnOut hx hret (hb hby d24_43) hr) ?_ (by decide) (by decide)
  show own_Q24_1_2 Z a1 r2 r9 k2 bs kq pre wc wD kD h0 n0 _ T66.heap _
  rw [e66]
  exact ⟨rfl, N66, Kp66, Vr66⟩
theorem own_ef22_1_2 (m : MethodId) (a1 : Addr) (r3 : Addr) : entryFrame m #[(.ref a1), (.int (1 : Int32)), (.ref r3)] 3 = mkF m 0 #[rv a1, iv (1 : Int32), rv r3] [] := by first | (simp [entryFrame, mkF, argsToLocals, Value.category]; done) | rfl
def own_Q22_1_2 (Z : State) (a1 : Addr) (r3 : Addr) (vb : Addr) (kb : ClassId) (r9 : Addr) (bs : List Int32) (kq : ClassId) (pre : List Int32) (wc : Int32) (wD : Addr) (kD : ClassId) (h0 : Heap) (n0 : Nat) (v : Option Value) (h : Heap) (L : List Loc) : Prop := v = none ∧ Fr n0 L ∧ Keep h0 h [vb] ∧ Arv Z h vb kb .byte (16 : Int32) (((pre ++ bs) ++ List.replicate 13 (0 : Int32)).map Value.int) (.int (0 : Int32))
set_option maxRecDepth 65536 in
set_option maxHeartbeats 40000000 in
theorem own_rm22_1_2 (l : Launch) (Z : State) (a0 : Array Value) (hw : own_W a0 Z) (ws : List Jvm.Cond) (a1 : Addr) (r3 : Addr) (vb : Addr) (kb : ClassId) (r9 : Addr) (bs : List Int32) (kq : ClassId) (pre : List Int32) (wc : Int32) (wD : Addr) (kD : ClassId) (h0 : Heap) (n0 : Nat) (Z0 : n0 ≤ h0.size) (O0 : Old Z n0 h0) (SS : own_St Z wc wD kD) (hpre : pre.length = 1) (hbl : bs.length = 2) (E_a1 : Exa Z h0 a1 "java/lang/StringBuilder") (F_v : Fld Z h0 a1 "java/lang/AbstractStringBuilder" "value" "[B" (.ref vb)) (F_c : Fld Z h0 a1 "java/lang/AbstractStringBuilder" "coder" "B" (.int (0 : Int32))) (V0 : Arv Z h0 vb kb .byte (16 : Int32) ((pre ++ List.replicate 15 (0 : Int32)).map Value.int) (.int (0 : Int32))) (E_r3 : Exa Z h0 r3 "java/lang/String") (G_v : Fld Z h0 r3 "java/lang/String" "value" "[B" (.ref r9)) (G_c : Fld Z h0 r3 "java/lang/String" "coder" "B" (.int (0 : Int32))) (V9 : Arv Z h0 r9 kq .byte (2 : Int32) ((bs).map Value.int) (.int (0 : Int32))) (g_vb : n0 ≤ vb) (ne_av : a1 ≠ vb) (ne_rv : r3 ≠ vb) (ne_9v : r9 ≠ vb) :
    MetFree l (⟨"java/lang/AbstractStringBuilder", "putStringAt", "(ILjava/lang/String;)V"⟩ : MethodName) (head1 (Jvm.Cond.code (⟨"java/lang/AbstractStringBuilder", "putStringAt", "(ILjava/lang/String;)V"⟩ : MethodName) jdk_68_method_73_code 3 none :: ws) ({ frames := 2, cells := 0, slots := 0, locals := 33 } : Room)) (fun a U => a = #[(.ref a1), (.int (1 : Int32)), (.ref r3)] ∧ Z.Warmed39 U.vm ∧ U.heap = h0) (fun _ _ _ _ _ => True) (fun _ U o U' => ∃ v L, o = .returned v ∧ own_Q22_1_2 Z a1 r3 vb kb r9 bs kq pre wc wD kD h0 n0 v U'.heap L ∧ FrameEnd U o U' L ({ frames := 2, cells := 0, slots := 0, locals := 33 } : Room).cells ({ frames := 2, cells := 0, slots := 0, locals := 33 } : Room).slots) := by
  refine own_body (plainFor_of_name pn_16) (fun m => own_ef22_1_2 m a1 r3) ?_
  intro p e s m below meth c T0 X0 hx hby hml hZ hown hnm hret hlk e0
  have hown : s.vm.findClass "java/lang/AbstractStringBuilder" = some m.cls := hown
  have hnm : meth.name = "putStringAt" := hnm
  have N0 := Fr.nil n0
  have K0 : Keep h0 h0 [vb] := Keep.refl _ _
  refine own_st (mkF m 1 #[rv a1, iv (1 : Int32), rv r3] [(.ref a1)]) (fun t k => XS.aloadN X0.here hx rfl (hb hby d22_0) rfl rfl k) ?_
  refine own_st (mkF m 2 #[rv a1, iv (1 : Int32), rv r3] [(.ref r3), (.ref a1)]) (fun t k => XS.aloadN X0.here hx rfl (hb hby d22_1) rfl rfl k) ?_
  obtain ⟨cq67, kq67, q67a, q67b, q67c⟩ := isOf hZ e0 E_a1
  obtain ⟨_, _, ⟨T67, L67, k67, n67⟩, -, X67, ⟨Lc67, hQ67, l67, y67, z67⟩, st67⟩ := X0.virtualBack hx (y := (⟨"java/lang/AbstractStringBuilder", "inflateIfNeededFor", "(Ljava/lang/String;)V"⟩ : MethodName)) (z := (⟨"java/lang/AbstractStringBuilder", "inflateIfNeededFor", "(Ljava/lang/String;)V"⟩ : MethodName)) hown (mvT hZ (hw_139 hw)) (mvT hZ (own_declares (hw_140 hw) (hw_143 hw))) (notFace_of_selects (args := #[]) (mvT hZ (hw_142 hw))) (mvT hZ (hw_142 hw)) (mvT hZ (hw_140 hw)) (by decide) (backOf (W := 0) (own_rm23 l Z a0 hw [] a1 r3 wc wD kD h0 n0 Z0 O0 SS F_c E_r3 G_c) hZ (hw_143 hw) (hw_99 hw) (by decide) (by decide)) q67a q67c (g := (mkF m 2 #[rv a1, iv (1 : Int32), rv r3] [(.ref r3), (.ref a1)])) rfl (by rw [hml]; rfl) (Steps.refl _) (argsL := [(.ref r3)]) (rest := []) (lenOf pd_6 rfl) rfl (by show 2 * 0 + _ ≤ _; exact Nat.le_of_eq rfl) (hb hby d22_2) (fun _ _ => ⟨rfl, e0, (by decide : 0 + 0 ≤ _), (by decide : 0 + 0 ≤ _)⟩)
  dsimp only [Pt.U, Pt.locs, Pt.cells, Pt.slots] at X67 l67 y67 z67 st67 hQ67
  subst l67 y67 z67
  obtain ⟨rfl, Nq67, e67⟩ := hQ67
  have N67 := Fr.app N0 Nq67
  refine own_jump (g' := (mkF m 5 #[rv a1, iv (1 : Int32), rv r3] [])) st67 ?_
  refine own_st (mkF m 6 #[rv a1, iv (1 : Int32), rv r3] [(.ref r3)]) (fun t k => XS.aloadN X67.here hx rfl (hb hby d22_5) rfl rfl k) ?_
  refine own_st (mkF m 7 #[rv a1, iv (1 : Int32), rv r3] [(.ref a1), (.ref r3)]) (fun t k => XS.aloadN X67.here hx rfl (hb hby d22_6) rfl rfl k) ?_
  obtain ⟨T68, X68, e68, st68⟩ := getF X67 hx hZ hown (host := "") (Or.inl (hw_103 hw)) Via.refl e67 F_v (g := (mkF m 7 #[rv a1, iv (1 : Int32), rv r3] [(.ref a1), (.ref r3)])) rfl rfl (hb hby d22_7)
  refine own_step (g' := (mkF m 10 #[rv a1, iv (1 : Int32), rv r3] [(.ref vb), (.ref r3)])) st68 ?_
  refine own_st (mkF m 11 #[rv a1, iv (1 : Int32), rv r3] [(.int (1 : Int32)), (.ref vb), (.ref r3)]) (fun t k => XS.iloadN X68.here hx rfl (hb hby d22_10) rfl k) ?_
  refine own_st (mkF m 12 #[rv a1, iv (1 : Int32), rv r3] [(.ref a1), (.int (1 : Int32)), (.ref vb), (.ref r3)]) (fun t k => XS.aloadN X68.here hx rfl (hb hby d22_11) rfl rfl k) ?_
  obtain ⟨T69, X69, e69, st69⟩ := getF X68 hx hZ hown (host := "") (Or.inl (hw_105 hw)) Via.refl e68 F_c (g := (mkF m 12 #[rv a1, iv (1 : Int32), rv r3] [(.ref a1), (.int (1 : Int32)), (.ref vb), (.ref r3)])) rfl rfl (hb hby d22_12)
  refine own_step (g' := (mkF m 15 #[rv a1, iv (1 : Int32), rv r3] [(.int (0 : Int32)), (.int (1 : Int32)), (.ref vb), (.ref r3)])) st69 ?_
  obtain ⟨cq70, kq70, q70a, q70b, q70c⟩ := isOf hZ e69 E_r3
  obtain ⟨_, _, ⟨T70, L70, k70, n70⟩, -, X70, ⟨Lc70, hQ70, l70, y70, z70⟩, st70⟩ := X69.virtualBack hx (y := (⟨"java/lang/String", "getBytes", "([BIB)V"⟩ : MethodName)) (z := (⟨"java/lang/String", "getBytes", "([BIB)V"⟩ : MethodName)) hown (mvT hZ (hw_145 hw)) (mvT hZ (hw_146 hw)) (notFace_of_selects (args := #[]) (mvT hZ (hw_148 hw))) (mvT hZ (hw_148 hw)) (mvT hZ (hw_147 hw)) (by decide) (backOf (W := 0) (own_rm24_1_2 l Z a0 hw [] r3 vb r9 kb bs kq pre wc wD kD h0 n0 Z0 O0 SS hpre hbl E_r3 G_v G_c V9 V0 g_vb ne_9v ne_rv) hZ (hw_149 hw) (hw_59 hw) (by decide) (by decide)) q70a q70c (g := (mkF m 15 #[rv a1, iv (1 : Int32), rv r3] [(.int (0 : Int32)), (.int (1 : Int32)), (.ref vb), (.ref r3)])) rfl (by rw [hml]; rfl) (Steps.refl _) (argsL := [(.ref vb), (.int (1 : Int32)), (.int (0 : Int32))]) (rest := []) (lenOf pd_7 rfl) rfl (by show 2 * 0 + _ ≤ _; exact Nat.le_of_eq rfl) (hb hby d22_15) (fun _ _ => ⟨rfl, e69, (by decide : 0 + 0 ≤ _), (by decide : 0 + 0 ≤ _)⟩)
  dsimp only [Pt.U, Pt.locs, Pt.cells, Pt.slots] at X70 l70 y70 z70 st70 hQ70
  subst l70 y70 z70
  obtain ⟨rfl, Nq70, K70, V70⟩ := hQ70
  have N70 := Fr.app N67 Nq70
  have Z70 : n0 ≤ T70.heap.size := Nat.le_trans Z0 K70.1
  have O70 : Old Z n0 T70.heap := O0.keep K70 (allS g_vb all0)
  have Kp70 : Keep h0 T70.heap [vb] := K0.trans K70 (allS (Or.inl (List.mem_of_getElem? (i := 0) rfl)) all0)
  have f1_Exa_a1 : Exa Z T70.heap a1 "java/lang/StringBuilder" := (E_a1.keep K70)
  have f2_Fld_a1 : Fld Z T70.heap a1 "java/lang/AbstractStringBuilder" "value" "[B" (.ref vb) := (F_v.keep K70 (ninS ne_av nin0))
  have f3_Fld_a1 : Fld Z T70.heap a1 "java/lang/AbstractStringBuilder" "coder" "B" (.int (0 : Int32)) := (F_c.keep K70 (ninS ne_av nin0))
  have f4_Exa_r3 : Exa Z T70.heap r3 "java/lang/String" := (E_r3.keep K70)
  have f5_Fld_r3 : Fld Z T70.heap r3 "java/lang/String" "value" "[B" (.ref r9) := (G_v.keep K70 (ninS ne_rv nin0))
  have f6_Fld_r3 : Fld Z T70.heap r3 "java/lang/String" "coder" "B" (.int (0 : Int32)) := (G_c.keep K70 (ninS ne_rv nin0))
  have f7_Arv_r9 : Arv Z T70.heap r9 kq .byte (2 : Int32) ((bs).map Value.int) (.int (0 : Int32)) := (V9.keep K70 (ninS ne_9v nin0))
  refine own_jump (g' := (mkF m 18 #[rv a1, iv (1 : Int32), rv r3] [])) st70 ?_
  refine own_ret X70 hlk (v := none) (fun _ => rfl) (fun fs hr => X70.returnOut hx hret (hb hby d22_18) hr) ?_ (by decide) (by decide)
  show own_Q22_1_2 Z a1 r3 vb kb r9 bs kq pre wc wD kD h0 n0 _ T70.heap _
  exact ⟨rfl, N70, Kp70, V70⟩
theorem own_ef18_1_2 (m : MethodId) (a1 : Addr) (r2 : Addr) : entryFrame m #[(.ref a1), (.ref r2)] 3 = mkF m 0 #[rv a1, rv r2, .unset] [] := by first | (simp [entryFrame, mkF, argsToLocals, Value.category]; done) | rfl
def own_Q18_1_2 (Z : State) (a1 : Addr) (r2 : Addr) (v0 : Addr) (k0 : ClassId) (r9 : Addr) (bs : List Int32) (kq : ClassId) (pre : List Int32) (wc : Int32) (wD : Addr) (kD : ClassId) (h0 : Heap) (n0 : Nat) (v : Option Value) (h : Heap) (L : List Loc) : Prop := v = some (.ref a1) ∧ Fr n0 L ∧ Keep h0 h [a1, v0] ∧ Exa Z h a1 "java/lang/StringBuilder" ∧ Fld Z h a1 "java/lang/AbstractStringBuilder" "value" "[B" (.ref v0) ∧ Fld Z h a1 "java/lang/AbstractStringBuilder" "coder" "B" (.int (0 : Int32)) ∧ Fld Z h a1 "java/lang/AbstractStringBuilder" "count" "I" (.int (3 : Int32)) ∧ Arv Z h v0 k0 .byte (16 : Int32) (((pre ++ bs) ++ List.replicate 13 (0 : Int32)).map Value.int) (.int (0 : Int32))
set_option maxRecDepth 65536 in
set_option maxHeartbeats 40000000 in
theorem own_rm18_1_2 (l : Launch) (Z : State) (a0 : Array Value) (hw : own_W a0 Z) (ws : List Jvm.Cond) (a1 : Addr) (r2 : Addr) (v0 : Addr) (k0 : ClassId) (r9 : Addr) (bs : List Int32) (kq : ClassId) (pre : List Int32) (wc : Int32) (wD : Addr) (kD : ClassId) (h0 : Heap) (n0 : Nat) (Z0 : n0 ≤ h0.size) (O0 : Old Z n0 h0) (SS : own_St Z wc wD kD) (hpre : pre.length = 1) (hbl : bs.length = 2) (E_a1 : Exa Z h0 a1 "java/lang/StringBuilder") (F_v : Fld Z h0 a1 "java/lang/AbstractStringBuilder" "value" "[B" (.ref v0)) (F_c : Fld Z h0 a1 "java/lang/AbstractStringBuilder" "coder" "B" (.int (0 : Int32))) (F_n : Fld Z h0 a1 "java/lang/AbstractStringBuilder" "count" "I" (.int (1 : Int32))) (V0 : Arv Z h0 v0 k0 .byte (16 : Int32) ((pre ++ List.replicate 15 (0 : Int32)).map Value.int) (.int (0 : Int32))) (E_r2 : Exa Z h0 r2 "java/lang/String") (G_v : Fld Z h0 r2 "java/lang/String" "value" "[B" (.ref r9)) (G_c : Fld Z h0 r2 "java/lang/String" "coder" "B" (.int (0 : Int32))) (V9 : Arv Z h0 r9 kq .byte (2 : Int32) ((bs).map Value.int) (.int (0 : Int32))) (g_a1 : n0 ≤ a1) (ne_av : a1 ≠ v0) (ne_ar : a1 ≠ r2) (ne_a9 : a1 ≠ r9) (ne_rv : r2 ≠ v0) (ne_9v : r9 ≠ v0) (g_v0 : n0 ≤ v0) :
    MetFree l (⟨"java/lang/AbstractStringBuilder", "append", "(Ljava/lang/String;)Ljava/lang/AbstractStringBuilder;"⟩ : MethodName) (head1 (Jvm.Cond.code (⟨"java/lang/AbstractStringBuilder", "append", "(Ljava/lang/String;)Ljava/lang/AbstractStringBuilder;"⟩ : MethodName) jdk_68_method_22_code 3 (some (.object "java/lang/AbstractStringBuilder")) :: ws) ({ frames := 3, cells := 0, slots := 0, locals := 47 } : Room)) (fun a U => a = #[(.ref a1), (.ref r2)] ∧ Z.Warmed39 U.vm ∧ U.heap = h0) (fun _ _ _ _ _ => True) (fun _ U o U' => ∃ v L, o = .returned v ∧ own_Q18_1_2 Z a1 r2 v0 k0 r9 bs kq pre wc wD kD h0 n0 v U'.heap L ∧ FrameEnd U o U' L ({ frames := 3, cells := 0, slots := 0, locals := 47 } : Room).cells ({ frames := 3, cells := 0, slots := 0, locals := 47 } : Room).slots) := by
  refine own_body (plainFor_of_name pn_16) (fun m => own_ef18_1_2 m a1 r2) ?_
  intro p e s m below meth c T0 X0 hx hby hml hZ hown hnm hret hlk e0
  have hown : s.vm.findClass "java/lang/AbstractStringBuilder" = some m.cls := hown
  have hnm : meth.name = "append" := hnm
  have N0 := Fr.nil n0
  have K0 : Keep h0 h0 [a1, v0] := Keep.refl _ _
  refine own_st (mkF m 1 #[rv a1, rv r2, .unset] [(.ref r2)]) (fun t k => XS.aloadN X0.here hx rfl (hb hby d18_0) rfl rfl k) ?_
  refine own_st (mkF m 9 #[rv a1, rv r2, .unset] []) (fun t k => XS.ifnonnullYes X0.here hx rfl (pc0 := 1) (pc' := 9) rfl (hb hby d18_1) rfl (by decide) (by decide) k) ?_
  refine own_st (mkF m 10 #[rv a1, rv r2, .unset] [(.ref r2)]) (fun t k => XS.aloadN X0.here hx rfl (hb hby d18_9) rfl rfl k) ?_
  obtain ⟨cq71, kq71, q71a, q71b, q71c⟩ := isOf hZ e0 E_r2
  obtain ⟨_, _, ⟨T71, L71, k71, n71⟩, -, X71, ⟨Lc71, hQ71, l71, y71, z71⟩, st71⟩ := X0.virtualBack hx (y := (⟨"java/lang/String", "length", "()I"⟩ : MethodName)) (z := (⟨"java/lang/String", "length", "()I"⟩ : MethodName)) hown (mvT hZ (hw_117 hw)) (mvT hZ (hw_118 hw)) (notFace_of_selects (args := #[]) (mvT hZ (hw_120 hw))) (mvT hZ (hw_120 hw)) (mvT hZ (hw_119 hw)) (by decide) (backOf (W := 0) (own_rm19_2 l Z a0 hw [] r2 r9 bs kq wc wD kD h0 n0 Z0 O0 SS E_r2 G_v G_c V9) hZ (hw_121 hw) (hw_59 hw) (by decide) (by decide)) q71a q71c (g := (mkF m 10 #[rv a1, rv r2, .unset] [(.ref r2)])) rfl (by rw [hml]; rfl) (Steps.refl _) (argsL := []) (rest := []) (lenOf pd_5 rfl) rfl (by show 2 * 0 + _ ≤ _; exact Nat.le_of_eq rfl) (hb hby d18_10) (fun _ _ => ⟨rfl, e0, (by decide : 0 + 0 ≤ _), (by decide : 0 + 0 ≤ _)⟩)
  dsimp only [Pt.U, Pt.locs, Pt.cells, Pt.slots] at X71 l71 y71 z71 st71 hQ71
  subst l71 y71 z71
  obtain ⟨rfl, Nq71, e71⟩ := hQ71
  have N71 := Fr.app N0 Nq71
  refine own_jump (g' := (mkF m 13 #[rv a1, rv r2, .unset] [(.int (2 : Int32))])) st71 ?_
  refine own_st (mkF m 14 #[rv a1, rv r2, iv (2 : Int32)] []) (fun t k => XS.istoreN X71.here hx rfl (hb hby d18_13) rfl (l' := #[rv a1, rv r2, iv (2 : Int32)]) rfl k) ?_
  refine own_st (mkF m 15 #[rv a1, rv r2, iv (2 : Int32)] [(.ref a1)]) (fun t k => XS.aloadN X71.here hx rfl (hb hby d18_14) rfl rfl k) ?_
  refine own_st (mkF m 16 #[rv a1, rv r2, iv (2 : Int32)] [(.ref a1), (.ref a1)]) (fun t k => XS.aloadN X71.here hx rfl (hb hby d18_15) rfl rfl k) ?_
  obtain ⟨T72, X72, e72, st72⟩ := getF X71 hx hZ hown (host := "") (Or.inl (hw_127 hw)) Via.refl e71 F_n (g := (mkF m 16 #[rv a1, rv r2, iv (2 : Int32)] [(.ref a1), (.ref a1)])) rfl rfl (hb hby d18_16)
  refine own_step (g' := (mkF m 19 #[rv a1, rv r2, iv (2 : Int32)] [(.int (1 : Int32)), (.ref a1)])) st72 ?_
  refine own_st (mkF m 20 #[rv a1, rv r2, iv (2 : Int32)] [(.int (2 : Int32)), (.int (1 : Int32)), (.ref a1)]) (fun t k => XS.iloadN X72.here hx rfl (hb hby d18_19) rfl k) ?_
  refine own_st (mkF m 21 #[rv a1, rv r2, iv (2 : Int32)] [(.int ((1 : Int32) + (2 : Int32))), (.ref a1)]) (fun t k => XS.iadd X72.here hx rfl (hb hby d18_20) rfl k) ?_
  rw [show ((1 : Int32) + (2 : Int32)) = (3 : Int32) from by decide]
  obtain ⟨cq73, kq73, q73a, q73b, q73c⟩ := isOf hZ e72 E_a1
  obtain ⟨_, _, ⟨T73, L73, k73, n73⟩, -, X73, ⟨Lc73, hQ73, l73, y73, z73⟩, st73⟩ := X72.virtualBack hx (y := (⟨"java/lang/AbstractStringBuilder", "ensureCapacityInternal", "(I)V"⟩ : MethodName)) (z := (⟨"java/lang/AbstractStringBuilder", "ensureCapacityInternal", "(I)V"⟩ : MethodName)) hown (mvT hZ (hw_129 hw)) (mvT hZ (own_declares (hw_130 hw) (hw_133 hw))) (notFace_of_selects (args := #[]) (mvT hZ (hw_132 hw))) (mvT hZ (hw_132 hw)) (mvT hZ (hw_130 hw)) (by decide) (backOf (W := 0) (own_rm21_1_2 l Z a0 hw [] a1 v0 k0 (pre ++ List.replicate 15 (0 : Int32)) h0 n0 Z0 E_a1 F_v F_c V0) hZ (hw_133 hw) (hw_99 hw) (by decide) (by decide)) q73a q73c (g := (mkF m 21 #[rv a1, rv r2, iv (2 : Int32)] [(.int (3 : Int32)), (.ref a1)])) rfl (by rw [hml]; rfl) (Steps.refl _) (argsL := [(.int (3 : Int32))]) (rest := []) (lenOf pd_3 rfl) rfl (by show 2 * 0 + _ ≤ _; exact Nat.le_of_eq rfl) (hb hby d18_21) (fun _ _ => ⟨rfl, e72, (by decide : 0 + 0 ≤ _), (by decide : 0 + 0 ≤ _)⟩)
  dsimp only [Pt.U, Pt.locs, Pt.cells, Pt.slots] at X73 l73 y73 z73 st73 hQ73
  subst l73 y73 z73
  obtain ⟨rfl, Nq73, e73⟩ := hQ73
  have N73 := Fr.app N71 Nq73
  refine own_jump (g' := (mkF m 24 #[rv a1, rv r2, iv (2 : Int32)] [])) st73 ?_
  refine own_st (mkF m 25 #[rv a1, rv r2, iv (2 : Int32)] [(.ref a1)]) (fun t k => XS.aloadN X73.here hx rfl (hb hby d18_24) rfl rfl k) ?_
  refine own_st (mkF m 26 #[rv a1, rv r2, iv (2 : Int32)] [(.ref a1), (.ref a1)]) (fun t k => XS.aloadN X73.here hx rfl (hb hby d18_25) rfl rfl k) ?_
  obtain ⟨T74, X74, e74, st74⟩ := getF X73 hx hZ hown (host := "") (Or.inl (hw_127 hw)) Via.refl e73 F_n (g := (mkF m 26 #[rv a1, rv r2, iv (2 : Int32)] [(.ref a1), (.ref a1)])) rfl rfl (hb hby d18_26)
  refine own_step (g' := (mkF m 29 #[rv a1, rv r2, iv (2 : Int32)] [(.int (1 : Int32)), (.ref a1)])) st74 ?_
  refine own_st (mkF m 30 #[rv a1, rv r2, iv (2 : Int32)] [(.ref r2), (.int (1 : Int32)), (.ref a1)]) (fun t k => XS.aloadN X74.here hx rfl (hb hby d18_29) rfl rfl k) ?_
  obtain ⟨cq75, kq75, q75a, q75b, q75c⟩ := isOf hZ e74 E_a1
  obtain ⟨_, _, ⟨T75, L75, k75, n75⟩, -, X75, ⟨Lc75, hQ75, l75, y75, z75⟩, st75⟩ := X74.virtualBack hx (y := (⟨"java/lang/AbstractStringBuilder", "putStringAt", "(ILjava/lang/String;)V"⟩ : MethodName)) (z := (⟨"java/lang/AbstractStringBuilder", "putStringAt", "(ILjava/lang/String;)V"⟩ : MethodName)) hown (mvT hZ (hw_134 hw)) (mvT hZ (own_declares (hw_135 hw) (hw_138 hw))) (notFace_of_selects (args := #[]) (mvT hZ (hw_137 hw))) (mvT hZ (hw_137 hw)) (mvT hZ (hw_135 hw)) (by decide) (backOf (W := 0) (own_rm22_1_2 l Z a0 hw [] a1 r2 v0 k0 r9 bs kq pre wc wD kD h0 n0 Z0 O0 SS hpre hbl E_a1 F_v F_c V0 E_r2 G_v G_c V9 g_v0 ne_av ne_rv ne_9v) hZ (hw_138 hw) (hw_99 hw) (by decide) (by decide)) q75a q75c (g := (mkF m 30 #[rv a1, rv r2, iv (2 : Int32)] [(.ref r2), (.int (1 : Int32)), (.ref a1)])) rfl (by rw [hml]; rfl) (Steps.refl _) (argsL := [(.int (1 : Int32)), (.ref r2)]) (rest := []) (lenOf pd_8 rfl) rfl (by show 2 * 0 + _ ≤ _; exact Nat.le_of_eq rfl) (hb hby d18_30) (fun _ _ => ⟨rfl, e74, (by decide : 0 + 0 ≤ _), (by decide : 0 + 0 ≤ _)⟩)
  dsimp only [Pt.U, Pt.locs, Pt.cells, Pt.slots] at X75 l75 y75 z75 st75 hQ75
  subst l75 y75 z75
  obtain ⟨rfl, Nq75, K75, V75⟩ := hQ75
  have N75 := Fr.app N73 Nq75
  have Z75 : n0 ≤ T75.heap.size := Nat.le_trans Z0 K75.1
  have O75 : Old Z n0 T75.heap := O0.keep K75 (allS g_v0 all0)
  have Kp75 : Keep h0 T75.heap [a1, v0] := K0.trans K75 (allS (Or.inl (List.mem_of_getElem? (i := 1) rfl)) all0)
  have f1_Exa_a1 : Exa Z T75.heap a1 "java/lang/StringBuilder" := (E_a1.keep K75)
  have f2_Fld_a1 : Fld Z T75.heap a1 "java/lang/AbstractStringBuilder" "value" "[B" (.ref v0) := (F_v.keep K75 (ninS ne_av nin0))
  have f3_Fld_a1 : Fld Z T75.heap a1 "java/lang/AbstractStringBuilder" "coder" "B" (.int (0 : Int32)) := (F_c.keep K75 (ninS ne_av nin0))
  have f4_Fld_a1 : Fld Z T75.heap a1 "java/lang/AbstractStringBuilder" "count" "I" (.int (1 : Int32)) := (F_n.keep K75 (ninS ne_av nin0))
  have f5_Exa_r2 : Exa Z T75.heap r2 "java/lang/String" := (E_r2.keep K75)
  have f6_Fld_r2 : Fld Z T75.heap r2 "java/lang/String" "value" "[B" (.ref r9) := (G_v.keep K75 (ninS ne_rv nin0))
  have f7_Fld_r2 : Fld Z T75.heap r2 "java/lang/String" "coder" "B" (.int (0 : Int32)) := (G_c.keep K75 (ninS ne_rv nin0))
  have f8_Arv_r9 : Arv Z T75.heap r9 kq .byte (2 : Int32) ((bs).map Value.int) (.int (0 : Int32)) := (V9.keep K75 (ninS ne_9v nin0))
  refine own_jump (g' := (mkF m 33 #[rv a1, rv r2, iv (2 : Int32)] [])) st75 ?_
  refine own_st (mkF m 34 #[rv a1, rv r2, iv (2 : Int32)] [(.ref a1)]) (fun t k => XS.aloadN X75.here hx rfl (hb hby d18_33) rfl rfl k) ?_
  refine own_st (mkF m 35 #[rv a1, rv r2, iv (2 : Int32)] [(.ref a1), (.ref a1)]) (fun t k => XS.dup X75.here hx rfl (hb hby d18_34) rfl rfl k) ?_
  obtain ⟨T76, X76, e76, st76⟩ := getF X75 hx hZ hown (host := "") (Or.inl (hw_127 hw)) Via.refl rfl f4_Fld_a1 (g := (mkF m 35 #[rv a1, rv r2, iv (2 : Int32)] [(.ref a1), (.ref a1)])) rfl rfl (hb hby d18_35)
  refine own_step (g' := (mkF m 38 #[rv a1, rv r2, iv (2 : Int32)] [(.int (1 : Int32)), (.ref a1)])) st76 ?_
  refine own_st (mkF m 39 #[rv a1, rv r2, iv (2 : Int32)] [(.int (2 : Int32)), (.int (1 : Int32)), (.ref a1)]) (fun t k => XS.iloadN X76.here hx rfl (hb hby d18_38) rfl k) ?_
  refine own_st (mkF m 40 #[rv a1, rv r2, iv (2 : Int32)] [(.int ((1 : Int32) + (2 : Int32))), (.ref a1)]) (fun t k => XS.iadd X76.here hx rfl (hb hby d18_39) rfl k) ?_
  rw [show ((1 : Int32) + (2 : Int32)) = (3 : Int32) from by decide]
  obtain ⟨T77, h77, X77, e77, W77, st77⟩ := putF X76 hx hZ hown (host := "") (Or.inl (hw_127 hw)) Via.refl e76 f4_Fld_a1 f1_Exa_a1 (Or.inl (hw_128 hw)) (hw_90 hw) (ty := .int) (by decide) rfl rfl (g := (mkF m 40 #[rv a1, rv r2, iv (2 : Int32)] [(.int (3 : Int32)), (.ref a1)])) rfl rfl (hb hby d18_40)
  have f9_Exa_a1 : Exa Z h77 a1 "java/lang/StringBuilder" := (f1_Exa_a1.wr W77)
  have f10_Fld_a1 : Fld Z h77 a1 "java/lang/AbstractStringBuilder" "value" "[B" (.ref v0) := (f2_Fld_a1.other W77 (Or.inr (slot_ne (a0 := a0) (C := "java/lang/StringBuilder") (Or.inl (hw_104 hw)) (Or.inl (hw_128 hw)) (by decide) (t := (.array .byte)) (t' := .int) (by decide) (by decide))))
  have f11_Fld_a1 : Fld Z h77 a1 "java/lang/AbstractStringBuilder" "coder" "B" (.int (0 : Int32)) := (f3_Fld_a1.other W77 (Or.inr (slot_ne (a0 := a0) (C := "java/lang/StringBuilder") (Or.inl (hw_106 hw)) (Or.inl (hw_128 hw)) (by decide) (t := .byte) (t' := .int) (by decide) (by decide))))
  have f12_Exa_r2 : Exa Z h77 r2 "java/lang/String" := (f5_Exa_r2.wr W77)
  have f13_Fld_r2 : Fld Z h77 r2 "java/lang/String" "value" "[B" (.ref r9) := (f6_Fld_r2.other W77 (Or.inl (Ne.symm ne_ar)))
  have f14_Fld_r2 : Fld Z h77 r2 "java/lang/String" "coder" "B" (.int (0 : Int32)) := (f7_Fld_r2.other W77 (Or.inl (Ne.symm ne_ar)))
  have f15_Arv_r9 : Arv Z h77 r9 kq .byte (2 : Int32) ((bs).map Value.int) (.int (0 : Int32)) := (f8_Arv_r9.other W77 (Ne.symm ne_a9))
  have f16_Arv_v0 : Arv Z h77 v0 k0 .byte (16 : Int32) (((pre ++ bs) ++ List.replicate 13 (0 : Int32)).map Value.int) (.int (0 : Int32)) := (V75.other W77 (Ne.symm ne_av))
  have fw77 : Fld Z h77 a1 "java/lang/AbstractStringBuilder" "count" "I" (.int (3 : Int32)) := f4_Fld_a1.same W77
  have Z77 : n0 ≤ h77.size := Nat.le_trans Z75 (Keep.of_wr W77).1
  have Kp77 : Keep h0 h77 [a1, v0] := Kp75.wr W77 (Or.inl (List.mem_of_getElem? (i := 0) rfl))
  have O77 : Old Z n0 h77 := O75.wr W77 g_a1
  have N77 := Fr.snoc X77 N75 g_a1
  refine own_step (g' := (mkF m 43 #[rv a1, rv r2, iv (2 : Int32)] [])) st77 ?_
  refine own_st (mkF m 44 #[rv a1, rv r2, iv (2 : Int32)] [(.ref a1)]) (fun t k => XS.aloadN X77.here hx rfl (hb hby d18_43) rfl rfl k) ?_
  refine own_ret X77 hlk (v := some (.ref a1)) (fun h => by rw [hret] at h; cases h) (fun fs hr => X77.areturnOut hx (w := (.ref a1)) rfl hret rfl (hb hby d18_44) hr) ?_ (by decide) (by decide)
  show own_Q18_1_2 Z a1 r2 v0 k0 r9 bs kq pre wc wD kD h0 n0 _ T77.heap _
  rw [e77]
  exact ⟨rfl, N77, Kp77, f9_Exa_a1, f10_Fld_a1, f11_Fld_a1, fw77, f16_Arv_v0⟩
theorem own_ef17_1_2 (m : MethodId) (a1 : Addr) (r2 : Addr) : entryFrame m #[(.ref a1), (.ref r2)] 2 = mkF m 0 #[rv a1, rv r2] [] := by first | (simp [entryFrame, mkF, argsToLocals, Value.category]; done) | rfl
def own_Q17_1_2 (Z : State) (a1 : Addr) (r2 : Addr) (v0 : Addr) (k0 : ClassId) (r9 : Addr) (bs : List Int32) (kq : ClassId) (pre : List Int32) (wc : Int32) (wD : Addr) (kD : ClassId) (h0 : Heap) (n0 : Nat) (v : Option Value) (h : Heap) (L : List Loc) : Prop := v = some (.ref a1) ∧ Fr n0 L ∧ Keep h0 h [a1, v0] ∧ Exa Z h a1 "java/lang/StringBuilder" ∧ Fld Z h a1 "java/lang/AbstractStringBuilder" "value" "[B" (.ref v0) ∧ Fld Z h a1 "java/lang/AbstractStringBuilder" "coder" "B" (.int (0 : Int32)) ∧ Fld Z h a1 "java/lang/AbstractStringBuilder" "count" "I" (.int (3 : Int32)) ∧ Arv Z h v0 k0 .byte (16 : Int32) (((pre ++ bs) ++ List.replicate 13 (0 : Int32)).map Value.int) (.int (0 : Int32))
set_option maxRecDepth 65536 in
set_option maxHeartbeats 40000000 in
theorem own_rm17_1_2 (l : Launch) (Z : State) (a0 : Array Value) (hw : own_W a0 Z) (ws : List Jvm.Cond) (a1 : Addr) (r2 : Addr) (v0 : Addr) (k0 : ClassId) (r9 : Addr) (bs : List Int32) (kq : ClassId) (pre : List Int32) (wc : Int32) (wD : Addr) (kD : ClassId) (h0 : Heap) (n0 : Nat) (Z0 : n0 ≤ h0.size) (O0 : Old Z n0 h0) (SS : own_St Z wc wD kD) (hpre : pre.length = 1) (hbl : bs.length = 2) (E_a1 : Exa Z h0 a1 "java/lang/StringBuilder") (F_v : Fld Z h0 a1 "java/lang/AbstractStringBuilder" "value" "[B" (.ref v0)) (F_c : Fld Z h0 a1 "java/lang/AbstractStringBuilder" "coder" "B" (.int (0 : Int32))) (F_n : Fld Z h0 a1 "java/lang/AbstractStringBuilder" "count" "I" (.int (1 : Int32))) (V0 : Arv Z h0 v0 k0 .byte (16 : Int32) ((pre ++ List.replicate 15 (0 : Int32)).map Value.int) (.int (0 : Int32))) (E_r2 : Exa Z h0 r2 "java/lang/String") (G_v : Fld Z h0 r2 "java/lang/String" "value" "[B" (.ref r9)) (G_c : Fld Z h0 r2 "java/lang/String" "coder" "B" (.int (0 : Int32))) (V9 : Arv Z h0 r9 kq .byte (2 : Int32) ((bs).map Value.int) (.int (0 : Int32))) (g_a1 : n0 ≤ a1) (ne_av : a1 ≠ v0) (ne_ar : a1 ≠ r2) (ne_a9 : a1 ≠ r9) (ne_rv : r2 ≠ v0) (ne_9v : r9 ≠ v0) (g_v0 : n0 ≤ v0) :
    MetFree l (⟨"java/lang/StringBuilder", "append", "(Ljava/lang/String;)Ljava/lang/StringBuilder;"⟩ : MethodName) (head1 (Jvm.Cond.code (⟨"java/lang/StringBuilder", "append", "(Ljava/lang/String;)Ljava/lang/StringBuilder;"⟩ : MethodName) jdk_67_method_7_code 2 (some (.object "java/lang/StringBuilder")) :: ws) ({ frames := 4, cells := 0, slots := 0, locals := 61 } : Room)) (fun a U => a = #[(.ref a1), (.ref r2)] ∧ Z.Warmed39 U.vm ∧ U.heap = h0) (fun _ _ _ _ _ => True) (fun _ U o U' => ∃ v L, o = .returned v ∧ own_Q17_1_2 Z a1 r2 v0 k0 r9 bs kq pre wc wD kD h0 n0 v U'.heap L ∧ FrameEnd U o U' L ({ frames := 4, cells := 0, slots := 0, locals := 61 } : Room).cells ({ frames := 4, cells := 0, slots := 0, locals := 61 } : Room).slots) := by
  refine own_body (plainFor_of_name pn_15) (fun m => own_ef17_1_2 m a1 r2) ?_
  intro p e s m below meth c T0 X0 hx hby hml hZ hown hnm hret hlk e0
  have hown : s.vm.findClass "java/lang/StringBuilder" = some m.cls := hown
  have hnm : meth.name = "append" := hnm
  have N0 := Fr.nil n0
  have K0 : Keep h0 h0 [a1, v0] := Keep.refl _ _
  refine own_st (mkF m 1 #[rv a1, rv r2] [(.ref a1)]) (fun t k => XS.aloadN X0.here hx rfl (hb hby d17_0) rfl rfl k) ?_
  refine own_st (mkF m 2 #[rv a1, rv r2] [(.ref r2), (.ref a1)]) (fun t k => XS.aloadN X0.here hx rfl (hb hby d17_1) rfl rfl k) ?_
  obtain ⟨_, _, ⟨T78, L78, k78, n78⟩, -, X78, ⟨Lc78, hQ78, l78, y78, z78⟩, st78⟩ := superBack X0 hx hZ (y := (⟨"java/lang/AbstractStringBuilder", "append", "(Ljava/lang/String;)Ljava/lang/AbstractStringBuilder;"⟩ : MethodName)) hown (hw_112 hw) (own_samem (y := (⟨"java/lang/AbstractStringBuilder", "append", "(Ljava/lang/String;)Ljava/lang/AbstractStringBuilder;"⟩ : MethodName)) (hw_113 hw) (y2 := (⟨"java/lang/AbstractStringBuilder", "getValue", "()[B"⟩ : MethodName)) rfl (hw_172 hw) (by decide)) (hw_113 hw) (hw_114 hw) (by decide) (backOf (W := 0) (own_rm18_1_2 l Z a0 hw [] a1 r2 v0 k0 r9 bs kq pre wc wD kD h0 n0 Z0 O0 SS hpre hbl E_a1 F_v F_c F_n V0 E_r2 G_v G_c V9 g_a1 ne_av ne_ar ne_a9 ne_rv ne_9v g_v0) hZ (hw_116 hw) (hw_99 hw) (by decide) (by decide)) e0 (Ins.self E_a1) (g := (mkF m 2 #[rv a1, rv r2] [(.ref r2), (.ref a1)])) rfl (by rw [hml]; rfl) (hw_116 hw) (argsL := [(.ref r2)]) (rest := []) (lenOf pd_9 rfl) rfl (by show 2 * 0 + _ ≤ _; exact Nat.le_of_eq rfl) (hb hby d17_2) (fun _ _ => ⟨rfl, e0, (by decide : 0 + 0 ≤ _), (by decide : 0 + 0 ≤ _)⟩)
  dsimp only [Pt.U, Pt.locs, Pt.cells, Pt.slots] at X78 l78 y78 z78 st78 hQ78
  subst l78 y78 z78
  obtain ⟨rfl, Nq78, K78, Ex78, Fv78, Fc78, Fn78, V78⟩ := hQ78
  have N78 := Fr.app N0 Nq78
  have Z78 : n0 ≤ T78.heap.size := Nat.le_trans Z0 K78.1
  have O78 : Old Z n0 T78.heap := O0.keep K78 (allS g_a1 (allS g_v0 all0))
  have Kp78 : Keep h0 T78.heap [a1, v0] := K0.trans K78 (allS (Or.inl (List.mem_of_getElem? (i := 0) rfl)) (allS (Or.inl (List.mem_of_getElem? (i := 1) rfl)) all0))
  have f1_Exa_a1 : Exa Z T78.heap a1 "java/lang/StringBuilder" := (E_a1.keep K78)
  have f2_Exa_r2 : Exa Z T78.heap r2 "java/lang/String" := (E_r2.keep K78)
  have f3_Fld_r2 : Fld Z T78.heap r2 "java/lang/String" "value" "[B" (.ref r9) := (G_v.keep K78 (ninS (Ne.symm ne_ar) (ninS ne_rv nin0)))
  have f4_Fld_r2 : Fld Z T78.heap r2 "java/lang/String" "coder" "B" (.int (0 : Int32)) := (G_c.keep K78 (ninS (Ne.symm ne_ar) (ninS ne_rv nin0)))
  have f5_Arv_r9 : Arv Z T78.heap r9 kq .byte (2 : Int32) ((bs).map Value.int) (.int (0 : Int32)) := (V9.keep K78 (ninS (Ne.symm ne_a9) (ninS ne_9v nin0)))
  refine own_jump (g' := (mkF m 5 #[rv a1, rv r2] [(.ref a1)])) st78 ?_
  refine own_st (mkF m 6 #[rv a1, rv r2] []) (fun t k => XS.pop X78.here hx rfl (hb hby d17_5) rfl rfl k) ?_
  refine own_st (mkF m 7 #[rv a1, rv r2] [(.ref a1)]) (fun t k => XS.aloadN X78.here hx rfl (hb hby d17_6) rfl rfl k) ?_
  refine own_ret X78 hlk (v := some (.ref a1)) (fun h => by rw [hret] at h; cases h) (fun fs hr => X78.areturnOut hx (w := (.ref a1)) rfl hret rfl (hb hby d17_7) hr) ?_ (by decide) (by decide)
  show own_Q17_1_2 Z a1 r2 v0 k0 r9 bs kq pre wc wD kD h0 n0 _ T78.heap _
  exact ⟨rfl, N78, Kp78, Ex78, Fv78, Fc78, Fn78, V78⟩
theorem own_ef21_3_1 (m : MethodId) (a1 : Addr) : entryFrame m #[(.ref a1), (.int (4 : Int32))] 3 = mkF m 0 #[rv a1, iv (4 : Int32), .unset] [] := by first | (simp [entryFrame, mkF, argsToLocals, Value.category]; done) | rfl
def own_Q21_3_1 (Z : State) (a1 : Addr) (vb : Addr) (kb : ClassId) (es : List Int32) (h0 : Heap) (n0 : Nat) (v : Option Value) (h : Heap) (L : List Loc) : Prop := v = none ∧ Fr n0 L ∧ h = h0
set_option maxRecDepth 65536 in
set_option maxHeartbeats 40000000 in
theorem own_rm21_3_1 (l : Launch) (Z : State) (a0 : Array Value) (hw : own_W a0 Z) (ws : List Jvm.Cond) (a1 : Addr) (vb : Addr) (kb : ClassId) (es : List Int32) (h0 : Heap) (n0 : Nat) (Z0 : n0 ≤ h0.size) (E_a1 : Exa Z h0 a1 "java/lang/StringBuilder") (F_v : Fld Z h0 a1 "java/lang/AbstractStringBuilder" "value" "[B" (.ref vb)) (F_c : Fld Z h0 a1 "java/lang/AbstractStringBuilder" "coder" "B" (.int (0 : Int32))) (V0 : Arv Z h0 vb kb .byte (16 : Int32) ((es).map Value.int) (.int (0 : Int32))) :
    MetFree l (⟨"java/lang/AbstractStringBuilder", "ensureCapacityInternal", "(I)V"⟩ : MethodName) (head1 (Jvm.Cond.code (⟨"java/lang/AbstractStringBuilder", "ensureCapacityInternal", "(I)V"⟩ : MethodName) jdk_68_method_9_code 3 none :: ws) ({ frames := 0, cells := 0, slots := 0, locals := 0 } : Room)) (fun a U => a = #[(.ref a1), (.int (4 : Int32))] ∧ Z.Warmed39 U.vm ∧ U.heap = h0) (fun _ _ _ _ _ => True) (fun _ U o U' => ∃ v L, o = .returned v ∧ own_Q21_3_1 Z a1 vb kb es h0 n0 v U'.heap L ∧ FrameEnd U o U' L ({ frames := 0, cells := 0, slots := 0, locals := 0 } : Room).cells ({ frames := 0, cells := 0, slots := 0, locals := 0 } : Room).slots) := by
  refine own_body (plainFor_of_name pn_16) (fun m => own_ef21_3_1 m a1) ?_
  intro p e s m below meth c T0 X0 hx hby hml hZ hown hnm hret hlk e0
  have hown : s.vm.findClass "java/lang/AbstractStringBuilder" = some m.cls := hown
  have hnm : meth.name = "ensureCapacityInternal" := hnm
  have N0 := Fr.nil n0
  refine own_st (mkF m 1 #[rv a1, iv (4 : Int32), .unset] [(.ref a1)]) (fun t k => XS.aloadN X0.here hx rfl (hb hby d21_0) rfl rfl k) ?_
  obtain ⟨T79, X79, e79, st79⟩ := getF X0 hx hZ hown (host := "") (Or.inl (hw_103 hw)) Via.refl e0 F_v (g := (mkF m 1 #[rv a1, iv (4 : Int32), .unset] [(.ref a1)])) rfl rfl (hb hby d21_1)
  refine own_step (g' := (mkF m 4 #[rv a1, iv (4 : Int32), .unset] [(.ref vb)])) st79 ?_
  obtain ⟨cl80, Ar80, -, S80, M80, -, -⟩ := id V0
  refine own_step (T' := T79) (g' := (mkF m 5 #[rv a1, iv (4 : Int32), .unset] [(.int cl80.slots.size.toInt32)])) (X79.arraylength hx (by rw [e79]; exact Ar80.1) (State.isArrayOf_alike hZ.alike Ar80.2.1) (g := (mkF m 4 #[rv a1, iv (4 : Int32), .unset] [(.ref vb)])) rfl rfl (hb hby d21_4)) ?_
  rw [len_of S80 M80]
  refine own_st (mkF m 6 #[rv a1, iv (4 : Int32), .unset] [(.ref a1), (.int (16 : Int32))]) (fun t k => XS.aloadN X79.here hx rfl (hb hby d21_5) rfl rfl k) ?_
  obtain ⟨T81, X81, e81, st81⟩ := getF X79 hx hZ hown (host := "") (Or.inl (hw_105 hw)) Via.refl e79 F_c (g := (mkF m 6 #[rv a1, iv (4 : Int32), .unset] [(.ref a1), (.int (16 : Int32))])) rfl rfl (hb hby d21_6)
  refine own_step (g' := (mkF m 9 #[rv a1, iv (4 : Int32), .unset] [(.int (0 : Int32)), (.int (16 : Int32))])) st81 ?_
  refine own_st (mkF m 10 #[rv a1, iv (4 : Int32), .unset] [(.int ((16 : Int32) >>> ((0 : Int32) &&& 31)))]) (fun t k => XS.ishr X81.here hx rfl (hb hby d21_9) rfl k) ?_
  rw [show ((16 : Int32) >>> ((0 : Int32) &&& 31)) = (16 : Int32) from by decide]
  refine own_st (mkF m 11 #[rv a1, iv (4 : Int32), iv (16 : Int32)] []) (fun t k => XS.istoreN X81.here hx rfl (hb hby d21_10) rfl (l' := #[rv a1, iv (4 : Int32), iv (16 : Int32)]) rfl k) ?_
  refine own_st (mkF m 12 #[rv a1, iv (4 : Int32), iv (16 : Int32)] [(.int (4 : Int32))]) (fun t k => XS.iloadN X81.here hx rfl (hb hby d21_11) rfl k) ?_
  refine own_st (mkF m 13 #[rv a1, iv (4 : Int32), iv (16 : Int32)] [(.int (16 : Int32)), (.int (4 : Int32))]) (fun t k => XS.iloadN X81.here hx rfl (hb hby d21_12) rfl k) ?_
  refine own_st (mkF m 14 #[rv a1, iv (4 : Int32), iv (16 : Int32)] [(.int ((4 : Int32) - (16 : Int32)))]) (fun t k => XS.isub X81.here hx rfl (hb hby d21_13) rfl k) ?_
  rw [show ((4 : Int32) - (16 : Int32)) = (-12 : Int32) from by decide]
  refine own_st (mkF m 38 #[rv a1, iv (4 : Int32), iv (16 : Int32)] []) (fun t k => XS.ifYes X81.here hx rfl (pc0 := 14) (pc' := 38) rfl (hb hby d21_14) rfl ((if0 _ _).trans (flt (by decide : ¬ ((0 : Int32) < (-12 : Int32)))).2.2.2) (by decide) (by decide) k) ?_
  refine own_ret X81 hlk (v := none) (fun _ => rfl) (fun fs hr => X81.returnOut hx hret (hb hby d21_38) hr) ?_ (by decide) (by decide)
  show own_Q21_3_1 Z a1 vb kb es h0 n0 _ T81.heap _
  rw [e81]
  exact ⟨rfl, N0, rfl⟩
theorem own_ef24_3_1 (m : MethodId) (a1 : Addr) (r2 : Addr) : entryFrame m #[(.ref a1), (.ref r2), (.int (3 : Int32)), (.int (0 : Int32))] 4 = mkF m 0 #[rv a1, rv r2, iv (3 : Int32), iv (0 : Int32)] [] := by first | (simp [entryFrame, mkF, argsToLocals, Value.category]; done) | rfl
def own_Q24_3_1 (Z : State) (a1 : Addr) (r2 : Addr) (r9 : Addr) (k2 : ClassId) (bs : List Int32) (kq : ClassId) (pre : List Int32) (wc : Int32) (wD : Addr) (kD : ClassId) (h0 : Heap) (n0 : Nat) (v : Option Value) (h : Heap) (L : List Loc) : Prop := v = none ∧ Fr n0 L ∧ Keep h0 h [r2] ∧ Arv Z h r2 k2 .byte (16 : Int32) (((pre ++ bs) ++ List.replicate 12 (0 : Int32)).map Value.int) (.int (0 : Int32))
set_option maxRecDepth 65536 in
set_option maxHeartbeats 40000000 in
theorem own_rm24_3_1 (l : Launch) (Z : State) (a0 : Array Value) (hw : own_W a0 Z) (ws : List Jvm.Cond) (a1 : Addr) (r2 : Addr) (r9 : Addr) (k2 : ClassId) (bs : List Int32) (kq : ClassId) (pre : List Int32) (wc : Int32) (wD : Addr) (kD : ClassId) (h0 : Heap) (n0 : Nat) (Z0 : n0 ≤ h0.size) (O0 : Old Z n0 h0) (SS : own_St Z wc wD kD) (hpre : pre.length = 3) (hbl : bs.length = 1) (E_a1 : Exa Z h0 a1 "java/lang/String") (F_v : Fld Z h0 a1 "java/lang/String" "value" "[B" (.ref r9)) (F_c : Fld Z h0 a1 "java/lang/String" "coder" "B" (.int (0 : Int32))) (V0 : Arv Z h0 r9 kq .byte (1 : Int32) ((bs).map Value.int) (.int (0 : Int32))) (V2 : Arv Z h0 r2 k2 .byte (16 : Int32) ((pre ++ List.replicate 13 (0 : Int32)).map Value.int) (.int (0 : Int32))) (g_r2 : n0 ≤ r2) (ne_92 : r9 ≠ r2) (ne_12 : a1 ≠ r2) :
    MetFree l (⟨"java/lang/String", "getBytes", "([BIB)V"⟩ : MethodName) (head1 (Jvm.Cond.code (⟨"java/lang/String", "getBytes", "([BIB)V"⟩ : MethodName) jdk_42_method_147_code 4 none :: ws) ({ frames := 1, cells := 0, slots := 0, locals := 18 } : Room)) (fun a U => a = #[(.ref a1), (.ref r2), (.int (3 : Int32)), (.int (0 : Int32))] ∧ Z.Warmed39 U.vm ∧ U.heap = h0) (fun _ _ _ _ _ => True) (fun _ U o U' => ∃ v L, o = .returned v ∧ own_Q24_3_1 Z a1 r2 r9 k2 bs kq pre wc wD kD h0 n0 v U'.heap L ∧ FrameEnd U o U' L ({ frames := 1, cells := 0, slots := 0, locals := 18 } : Room).cells ({ frames := 1, cells := 0, slots := 0, locals := 18 } : Room).slots) := by
  refine own_body (plainFor_of_name pn_12) (fun m => own_ef24_3_1 m a1 r2) ?_
  intro p e s m below meth c T0 X0 hx hby hml hZ hown hnm hret hlk e0
  have hown : s.vm.findClass "java/lang/String" = some m.cls := hown
  have hnm : meth.name = "getBytes" := hnm
  have N0 := Fr.nil n0
  have K0 : Keep h0 h0 [r2] := Keep.refl _ _
  refine own_st (mkF m 1 #[rv a1, rv r2, iv (3 : Int32), iv (0 : Int32)] [(.ref a1)]) (fun t k => XS.aloadN X0.here hx rfl (hb hby d24_0) rfl rfl k) ?_
  obtain ⟨cq82, kq82, q82a, q82b, q82c⟩ := isOf hZ e0 E_a1
  obtain ⟨_, _, ⟨T82, L82, k82, n82⟩, -, X82, ⟨Lc82, hQ82, l82, y82, z82⟩, st82⟩ := X0.virtualBack hx (y := (⟨"java/lang/String", "coder", "()B"⟩ : MethodName)) (z := (⟨"java/lang/String", "coder", "()B"⟩ : MethodName)) hown (mvT hZ (hw_122 hw)) (mvT hZ (hw_123 hw)) (notFace_of_selects (args := #[]) (mvT hZ (hw_125 hw))) (mvT hZ (hw_125 hw)) (mvT hZ (hw_124 hw)) (by decide) (backOf (W := 0) (own_rm20 l Z a0 hw [] a1 wc wD kD h0 n0 Z0 O0 SS F_c) hZ (hw_126 hw) (hw_59 hw) (by decide) (by decide)) q82a q82c (g := (mkF m 1 #[rv a1, rv r2, iv (3 : Int32), iv (0 : Int32)] [(.ref a1)])) rfl (by rw [hml]; rfl) (Steps.refl _) (argsL := []) (rest := []) (lenOf pd_4 rfl) rfl (by show 2 * 0 + _ ≤ _; exact Nat.le_of_eq rfl) (hb hby d24_1) (fun _ _ => ⟨rfl, e0, (by decide : 0 + 0 ≤ _), (by decide : 0 + 0 ≤ _)⟩)
  dsimp only [Pt.U, Pt.locs, Pt.cells, Pt.slots] at X82 l82 y82 z82 st82 hQ82
  subst l82 y82 z82
  obtain ⟨rfl, Nq82, e82⟩ := hQ82
  have N82 := Fr.app N0 Nq82
  refine own_jump (g' := (mkF m 4 #[rv a1, rv r2, iv (3 : Int32), iv (0 : Int32)] [(.int (0 : Int32))])) st82 ?_
  refine own_st (mkF m 5 #[rv a1, rv r2, iv (3 : Int32), iv (0 : Int32)] [(.int (0 : Int32)), (.int (0 : Int32))]) (fun t k => XS.iloadN X82.here hx rfl (hb hby d24_4) rfl k) ?_
  refine own_st (mkF m 8 #[rv a1, rv r2, iv (3 : Int32), iv (0 : Int32)] []) (fun t k => XS.icmpNo X82.here hx rfl (hb hby d24_5) rfl (teq (by decide : (0 : Int32) = (0 : Int32))).2 k) ?_
  refine own_st (mkF m 9 #[rv a1, rv r2, iv (3 : Int32), iv (0 : Int32)] [(.ref a1)]) (fun t k => XS.aloadN X82.here hx rfl (hb hby d24_8) rfl rfl k) ?_
  obtain ⟨T83, X83, e83, st83⟩ := getF X82 hx hZ hown (host := "") (Or.inl (hw_77 hw)) Via.refl e82 F_v (g := (mkF m 9 #[rv a1, rv r2, iv (3 : Int32), iv (0 : Int32)] [(.ref a1)])) rfl rfl (hb hby d24_9)
  refine own_step (g' := (mkF m 12 #[rv a1, rv r2, iv (3 : Int32), iv (0 : Int32)] [(.ref r9)])) st83 ?_
  refine own_st (mkF m 13 #[rv a1, rv r2, iv (3 : Int32), iv (0 : Int32)] [(.int (0 : Int32)), (.ref r9)]) (fun t k => XS.iconst X83.here hx rfl (hb hby d24_12) k) ?_
  refine own_st (mkF m 14 #[rv a1, rv r2, iv (3 : Int32), iv (0 : Int32)] [(.ref r2), (.int (0 : Int32)), (.ref r9)]) (fun t k => XS.aloadN X83.here hx rfl (hb hby d24_13) rfl rfl k) ?_
  refine own_st (mkF m 15 #[rv a1, rv r2, iv (3 : Int32), iv (0 : Int32)] [(.int (3 : Int32)), (.ref r2), (.int (0 : Int32)), (.ref r9)]) (fun t k => XS.iloadN X83.here hx rfl (hb hby d24_14) rfl k) ?_
  refine own_st (mkF m 16 #[rv a1, rv r2, iv (3 : Int32), iv (0 : Int32)] [(.int (0 : Int32)), (.int (3 : Int32)), (.ref r2), (.int (0 : Int32)), (.ref r9)]) (fun t k => XS.iloadN X83.here hx rfl (hb hby d24_15) rfl k) ?_
  refine own_st (mkF m 17 #[rv a1, rv r2, iv (3 : Int32), iv (0 : Int32)] [(.int ((3 : Int32) <<< ((0 : Int32) &&& 31))), (.ref r2), (.int (0 : Int32)), (.ref r9)]) (fun t k => XS.ishl X83.here hx rfl (hb hby d24_16) rfl k) ?_
  rw [show ((3 : Int32) <<< ((0 : Int32) &&& 31)) = (3 : Int32) from by decide]
  refine own_st (mkF m 18 #[rv a1, rv r2, iv (3 : Int32), iv (0 : Int32)] [(.ref a1), (.int (3 : Int32)), (.ref r2), (.int (0 : Int32)), (.ref r9)]) (fun t k => XS.aloadN X83.here hx rfl (hb hby d24_17) rfl rfl k) ?_
  obtain ⟨T84, X84, e84, st84⟩ := getF X83 hx hZ hown (host := "") (Or.inl (hw_77 hw)) Via.refl e83 F_v (g := (mkF m 18 #[rv a1, rv r2, iv (3 : Int32), iv (0 : Int32)] [(.ref a1), (.int (3 : Int32)), (.ref r2), (.int (0 : Int32)), (.ref r9)])) rfl rfl (hb hby d24_18)
  refine own_step (g' := (mkF m 21 #[rv a1, rv r2, iv (3 : Int32), iv (0 : Int32)] [(.ref r9), (.int (3 : Int32)), (.ref r2), (.int (0 : Int32)), (.ref r9)])) st84 ?_
  obtain ⟨cl85, Ar85, -, S85, M85, -, -⟩ := id V0
  refine own_step (T' := T84) (g' := (mkF m 22 #[rv a1, rv r2, iv (3 : Int32), iv (0 : Int32)] [(.int cl85.slots.size.toInt32), (.int (3 : Int32)), (.ref r2), (.int (0 : Int32)), (.ref r9)])) (X84.arraylength hx (by rw [e84]; exact Ar85.1) (State.isArrayOf_alike hZ.alike Ar85.2.1) (g := (mkF m 21 #[rv a1, rv r2, iv (3 : Int32), iv (0 : Int32)] [(.ref r9), (.int (3 : Int32)), (.ref r2), (.int (0 : Int32)), (.ref r9)])) rfl rfl (hb hby d24_21)) ?_
  rw [len_of S85 M85]
  obtain ⟨T86, h86, Lc86, X86, e86, N86, K86, V86, st86⟩ := own_copyAt (pre := pre) (rs := List.replicate 13 (0 : Int32)) X84 hx hZ hown (hw_150 hw) (hw_153 hw) (hw_151 hw) (hw_152 hw) e84 V0 V2 (by rw [hpre]; rfl) (by rw [hbl]; rfl) (by rw [hbl]; rfl) (by simp [hpre]) (by rw [hbl]; simp) (n0 := n0) N82 g_r2 (g := (mkF m 22 #[rv a1, rv r2, iv (3 : Int32), iv (0 : Int32)] [(.int (1 : Int32)), (.int (3 : Int32)), (.ref r2), (.int (0 : Int32)), (.ref r9)])) rfl (by rw [hml]; rfl) rfl (hb hby d24_22) (by decide) (W := 0) (by show 2 * 0 + _ ≤ _; exact Nat.le_of_eq rfl) (by decide)
  have Z86 : n0 ≤ h86.size := Nat.le_trans Z0 K86.1
  have O86 : Old Z n0 h86 := O0.keep K86 (allS g_r2 all0)
  have Kp86 : Keep h0 h86 [r2] := K0.trans K86 (allS (Or.inl (List.mem_of_getElem? (i := 0) rfl)) all0)
  have f1_Exa_a1 : Exa Z h86 a1 "java/lang/String" := (E_a1.keep K86)
  have f2_Fld_a1 : Fld Z h86 a1 "java/lang/String" "value" "[B" (.ref r9) := (F_v.keep K86 (ninS ne_12 nin0))
  have f3_Fld_a1 : Fld Z h86 a1 "java/lang/String" "coder" "B" (.int (0 : Int32)) := (F_c.keep K86 (ninS ne_12 nin0))
  have f4_Arv_r9 : Arv Z h86 r9 kq .byte (1 : Int32) ((bs).map Value.int) (.int (0 : Int32)) := (V0.keep K86 (ninS ne_92 nin0))
  have Vr86 : Arv Z h86 r2 k2 .byte (16 : Int32) (((pre ++ bs) ++ List.replicate 12 (0 : Int32)).map Value.int) (.int (0 : Int32)) := by have q := V86; rw [hbl, List.drop_replicate] at q; exact q
  refine own_step (g' := (mkF m 25 #[rv a1, rv r2, iv (3 : Int32), iv (0 : Int32)] [])) st86 ?_
  refine own_st (mkF m 43 #[rv a1, rv r2, iv (3 : Int32), iv (0 : Int32)] []) (fun t k => XS.goto X86.here hx rfl (pc0 := 25) (pc' := 43) rfl (hb hby d24_25) (by decide) (by decide) k) ?_
  refine own_ret X86 hlk (v := none) (fun _ => rfl) (fun fs hr => X86.returnOut hx hret (hb hby d24_43) hr) ?_ (by decide) (by decide)
  show own_Q24_3_1 Z a1 r2 r9 k2 bs kq pre wc wD kD h0 n0 _ T86.heap _
  rw [e86]
  exact ⟨rfl, N86, Kp86, Vr86⟩
theorem own_ef22_3_1 (m : MethodId) (a1 : Addr) (r3 : Addr) : entryFrame m #[(.ref a1), (.int (3 : Int32)), (.ref r3)] 3 = mkF m 0 #[rv a1, iv (3 : Int32), rv r3] [] := by first | (simp [entryFrame, mkF, argsToLocals, Value.category]; done) | rfl
def own_Q22_3_1 (Z : State) (a1 : Addr) (r3 : Addr) (vb : Addr) (kb : ClassId) (r9 : Addr) (bs : List Int32) (kq : ClassId) (pre : List Int32) (wc : Int32) (wD : Addr) (kD : ClassId) (h0 : Heap) (n0 : Nat) (v : Option Value) (h : Heap) (L : List Loc) : Prop := v = none ∧ Fr n0 L ∧ Keep h0 h [vb] ∧ Arv Z h vb kb .byte (16 : Int32) (((pre ++ bs) ++ List.replicate 12 (0 : Int32)).map Value.int) (.int (0 : Int32))
set_option maxRecDepth 65536 in
set_option maxHeartbeats 40000000 in
theorem own_rm22_3_1 (l : Launch) (Z : State) (a0 : Array Value) (hw : own_W a0 Z) (ws : List Jvm.Cond) (a1 : Addr) (r3 : Addr) (vb : Addr) (kb : ClassId) (r9 : Addr) (bs : List Int32) (kq : ClassId) (pre : List Int32) (wc : Int32) (wD : Addr) (kD : ClassId) (h0 : Heap) (n0 : Nat) (Z0 : n0 ≤ h0.size) (O0 : Old Z n0 h0) (SS : own_St Z wc wD kD) (hpre : pre.length = 3) (hbl : bs.length = 1) (E_a1 : Exa Z h0 a1 "java/lang/StringBuilder") (F_v : Fld Z h0 a1 "java/lang/AbstractStringBuilder" "value" "[B" (.ref vb)) (F_c : Fld Z h0 a1 "java/lang/AbstractStringBuilder" "coder" "B" (.int (0 : Int32))) (V0 : Arv Z h0 vb kb .byte (16 : Int32) ((pre ++ List.replicate 13 (0 : Int32)).map Value.int) (.int (0 : Int32))) (E_r3 : Exa Z h0 r3 "java/lang/String") (G_v : Fld Z h0 r3 "java/lang/String" "value" "[B" (.ref r9)) (G_c : Fld Z h0 r3 "java/lang/String" "coder" "B" (.int (0 : Int32))) (V9 : Arv Z h0 r9 kq .byte (1 : Int32) ((bs).map Value.int) (.int (0 : Int32))) (g_vb : n0 ≤ vb) (ne_av : a1 ≠ vb) (ne_rv : r3 ≠ vb) (ne_9v : r9 ≠ vb) :
    MetFree l (⟨"java/lang/AbstractStringBuilder", "putStringAt", "(ILjava/lang/String;)V"⟩ : MethodName) (head1 (Jvm.Cond.code (⟨"java/lang/AbstractStringBuilder", "putStringAt", "(ILjava/lang/String;)V"⟩ : MethodName) jdk_68_method_73_code 3 none :: ws) ({ frames := 2, cells := 0, slots := 0, locals := 33 } : Room)) (fun a U => a = #[(.ref a1), (.int (3 : Int32)), (.ref r3)] ∧ Z.Warmed39 U.vm ∧ U.heap = h0) (fun _ _ _ _ _ => True) (fun _ U o U' => ∃ v L, o = .returned v ∧ own_Q22_3_1 Z a1 r3 vb kb r9 bs kq pre wc wD kD h0 n0 v U'.heap L ∧ FrameEnd U o U' L ({ frames := 2, cells := 0, slots := 0, locals := 33 } : Room).cells ({ frames := 2, cells := 0, slots := 0, locals := 33 } : Room).slots) := by
  refine own_body (plainFor_of_name pn_16) (fun m => own_ef22_3_1 m a1 r3) ?_
  intro p e s m below meth c T0 X0 hx hby hml hZ hown hnm hret hlk e0
  have hown : s.vm.findClass "java/lang/AbstractStringBuilder" = some m.cls := hown
  have hnm : meth.name = "putStringAt" := hnm
  have N0 := Fr.nil n0
  have K0 : Keep h0 h0 [vb] := Keep.refl _ _
  refine own_st (mkF m 1 #[rv a1, iv (3 : Int32), rv r3] [(.ref a1)]) (fun t k => XS.aloadN X0.here hx rfl (hb hby d22_0) rfl rfl k) ?_
  refine own_st (mkF m 2 #[rv a1, iv (3 : Int32), rv r3] [(.ref r3), (.ref a1)]) (fun t k => XS.aloadN X0.here hx rfl (hb hby d22_1) rfl rfl k) ?_
  obtain ⟨cq87, kq87, q87a, q87b, q87c⟩ := isOf hZ e0 E_a1
  obtain ⟨_, _, ⟨T87, L87, k87, n87⟩, -, X87, ⟨Lc87, hQ87, l87, y87, z87⟩, st87⟩ := X0.virtualBack hx (y := (⟨"java/lang/AbstractStringBuilder", "inflateIfNeededFor", "(Ljava/lang/String;)V"⟩ : MethodName)) (z := (⟨"java/lang/AbstractStringBuilder", "inflateIfNeededFor", "(Ljava/lang/String;)V"⟩ : MethodName)) hown (mvT hZ (hw_139 hw)) (mvT hZ (own_declares (hw_140 hw) (hw_143 hw))) (notFace_of_selects (args := #[]) (mvT hZ (hw_142 hw))) (mvT hZ (hw_142 hw)) (mvT hZ (hw_140 hw)) (by decide) (backOf (W := 0) (own_rm23 l Z a0 hw [] a1 r3 wc wD kD h0 n0 Z0 O0 SS F_c E_r3 G_c) hZ (hw_143 hw) (hw_99 hw) (by decide) (by decide)) q87a q87c (g := (mkF m 2 #[rv a1, iv (3 : Int32), rv r3] [(.ref r3), (.ref a1)])) rfl (by rw [hml]; rfl) (Steps.refl _) (argsL := [(.ref r3)]) (rest := []) (lenOf pd_6 rfl) rfl (by show 2 * 0 + _ ≤ _; exact Nat.le_of_eq rfl) (hb hby d22_2) (fun _ _ => ⟨rfl, e0, (by decide : 0 + 0 ≤ _), (by decide : 0 + 0 ≤ _)⟩)
  dsimp only [Pt.U, Pt.locs, Pt.cells, Pt.slots] at X87 l87 y87 z87 st87 hQ87
  subst l87 y87 z87
  obtain ⟨rfl, Nq87, e87⟩ := hQ87
  have N87 := Fr.app N0 Nq87
  refine own_jump (g' := (mkF m 5 #[rv a1, iv (3 : Int32), rv r3] [])) st87 ?_
  refine own_st (mkF m 6 #[rv a1, iv (3 : Int32), rv r3] [(.ref r3)]) (fun t k => XS.aloadN X87.here hx rfl (hb hby d22_5) rfl rfl k) ?_
  refine own_st (mkF m 7 #[rv a1, iv (3 : Int32), rv r3] [(.ref a1), (.ref r3)]) (fun t k => XS.aloadN X87.here hx rfl (hb hby d22_6) rfl rfl k) ?_
  obtain ⟨T88, X88, e88, st88⟩ := getF X87 hx hZ hown (host := "") (Or.inl (hw_103 hw)) Via.refl e87 F_v (g := (mkF m 7 #[rv a1, iv (3 : Int32), rv r3] [(.ref a1), (.ref r3)])) rfl rfl (hb hby d22_7)
  refine own_step (g' := (mkF m 10 #[rv a1, iv (3 : Int32), rv r3] [(.ref vb), (.ref r3)])) st88 ?_
  refine own_st (mkF m 11 #[rv a1, iv (3 : Int32), rv r3] [(.int (3 : Int32)), (.ref vb), (.ref r3)]) (fun t k => XS.iloadN X88.here hx rfl (hb hby d22_10) rfl k) ?_
  refine own_st (mkF m 12 #[rv a1, iv (3 : Int32), rv r3] [(.ref a1), (.int (3 : Int32)), (.ref vb), (.ref r3)]) (fun t k => XS.aloadN X88.here hx rfl (hb hby d22_11) rfl rfl k) ?_
  obtain ⟨T89, X89, e89, st89⟩ := getF X88 hx hZ hown (host := "") (Or.inl (hw_105 hw)) Via.refl e88 F_c (g := (mkF m 12 #[rv a1, iv (3 : Int32), rv r3] [(.ref a1), (.int (3 : Int32)), (.ref vb), (.ref r3)])) rfl rfl (hb hby d22_12)
  refine own_step (g' := (mkF m 15 #[rv a1, iv (3 : Int32), rv r3] [(.int (0 : Int32)), (.int (3 : Int32)), (.ref vb), (.ref r3)])) st89 ?_
  obtain ⟨cq90, kq90, q90a, q90b, q90c⟩ := isOf hZ e89 E_r3
  obtain ⟨_, _, ⟨T90, L90, k90, n90⟩, -, X90, ⟨Lc90, hQ90, l90, y90, z90⟩, st90⟩ := X89.virtualBack hx (y := (⟨"java/lang/String", "getBytes", "([BIB)V"⟩ : MethodName)) (z := (⟨"java/lang/String", "getBytes", "([BIB)V"⟩ : MethodName)) hown (mvT hZ (hw_145 hw)) (mvT hZ (hw_146 hw)) (notFace_of_selects (args := #[]) (mvT hZ (hw_148 hw))) (mvT hZ (hw_148 hw)) (mvT hZ (hw_147 hw)) (by decide) (backOf (W := 0) (own_rm24_3_1 l Z a0 hw [] r3 vb r9 kb bs kq pre wc wD kD h0 n0 Z0 O0 SS hpre hbl E_r3 G_v G_c V9 V0 g_vb ne_9v ne_rv) hZ (hw_149 hw) (hw_59 hw) (by decide) (by decide)) q90a q90c (g := (mkF m 15 #[rv a1, iv (3 : Int32), rv r3] [(.int (0 : Int32)), (.int (3 : Int32)), (.ref vb), (.ref r3)])) rfl (by rw [hml]; rfl) (Steps.refl _) (argsL := [(.ref vb), (.int (3 : Int32)), (.int (0 : Int32))]) (rest := []) (lenOf pd_7 rfl) rfl (by show 2 * 0 + _ ≤ _; exact Nat.le_of_eq rfl) (hb hby d22_15) (fun _ _ => ⟨rfl, e89, (by decide : 0 + 0 ≤ _), (by decide : 0 + 0 ≤ _)⟩)
  dsimp only [Pt.U, Pt.locs, Pt.cells, Pt.slots] at X90 l90 y90 z90 st90 hQ90
  subst l90 y90 z90
  obtain ⟨rfl, Nq90, K90, V90⟩ := hQ90
  have N90 := Fr.app N87 Nq90
  have Z90 : n0 ≤ T90.heap.size := Nat.le_trans Z0 K90.1
  have O90 : Old Z n0 T90.heap := O0.keep K90 (allS g_vb all0)
  have Kp90 : Keep h0 T90.heap [vb] := K0.trans K90 (allS (Or.inl (List.mem_of_getElem? (i := 0) rfl)) all0)
  have f1_Exa_a1 : Exa Z T90.heap a1 "java/lang/StringBuilder" := (E_a1.keep K90)
  have f2_Fld_a1 : Fld Z T90.heap a1 "java/lang/AbstractStringBuilder" "value" "[B" (.ref vb) := (F_v.keep K90 (ninS ne_av nin0))
  have f3_Fld_a1 : Fld Z T90.heap a1 "java/lang/AbstractStringBuilder" "coder" "B" (.int (0 : Int32)) := (F_c.keep K90 (ninS ne_av nin0))
  have f4_Exa_r3 : Exa Z T90.heap r3 "java/lang/String" := (E_r3.keep K90)
  have f5_Fld_r3 : Fld Z T90.heap r3 "java/lang/String" "value" "[B" (.ref r9) := (G_v.keep K90 (ninS ne_rv nin0))
  have f6_Fld_r3 : Fld Z T90.heap r3 "java/lang/String" "coder" "B" (.int (0 : Int32)) := (G_c.keep K90 (ninS ne_rv nin0))
  have f7_Arv_r9 : Arv Z T90.heap r9 kq .byte (1 : Int32) ((bs).map Value.int) (.int (0 : Int32)) := (V9.keep K90 (ninS ne_9v nin0))
  refine own_jump (g' := (mkF m 18 #[rv a1, iv (3 : Int32), rv r3] [])) st90 ?_
  refine own_ret X90 hlk (v := none) (fun _ => rfl) (fun fs hr => X90.returnOut hx hret (hb hby d22_18) hr) ?_ (by decide) (by decide)
  show own_Q22_3_1 Z a1 r3 vb kb r9 bs kq pre wc wD kD h0 n0 _ T90.heap _
  exact ⟨rfl, N90, Kp90, V90⟩
theorem own_ef18_3_1 (m : MethodId) (a1 : Addr) (r2 : Addr) : entryFrame m #[(.ref a1), (.ref r2)] 3 = mkF m 0 #[rv a1, rv r2, .unset] [] := by first | (simp [entryFrame, mkF, argsToLocals, Value.category]; done) | rfl
def own_Q18_3_1 (Z : State) (a1 : Addr) (r2 : Addr) (v0 : Addr) (k0 : ClassId) (r9 : Addr) (bs : List Int32) (kq : ClassId) (pre : List Int32) (wc : Int32) (wD : Addr) (kD : ClassId) (h0 : Heap) (n0 : Nat) (v : Option Value) (h : Heap) (L : List Loc) : Prop := v = some (.ref a1) ∧ Fr n0 L ∧ Keep h0 h [a1, v0] ∧ Exa Z h a1 "java/lang/StringBuilder" ∧ Fld Z h a1 "java/lang/AbstractStringBuilder" "value" "[B" (.ref v0) ∧ Fld Z h a1 "java/lang/AbstractStringBuilder" "coder" "B" (.int (0 : Int32)) ∧ Fld Z h a1 "java/lang/AbstractStringBuilder" "count" "I" (.int (4 : Int32)) ∧ Arv Z h v0 k0 .byte (16 : Int32) (((pre ++ bs) ++ List.replicate 12 (0 : Int32)).map Value.int) (.int (0 : Int32))
set_option maxRecDepth 65536 in
set_option maxHeartbeats 40000000 in
theorem own_rm18_3_1 (l : Launch) (Z : State) (a0 : Array Value) (hw : own_W a0 Z) (ws : List Jvm.Cond) (a1 : Addr) (r2 : Addr) (v0 : Addr) (k0 : ClassId) (r9 : Addr) (bs : List Int32) (kq : ClassId) (pre : List Int32) (wc : Int32) (wD : Addr) (kD : ClassId) (h0 : Heap) (n0 : Nat) (Z0 : n0 ≤ h0.size) (O0 : Old Z n0 h0) (SS : own_St Z wc wD kD) (hpre : pre.length = 3) (hbl : bs.length = 1) (E_a1 : Exa Z h0 a1 "java/lang/StringBuilder") (F_v : Fld Z h0 a1 "java/lang/AbstractStringBuilder" "value" "[B" (.ref v0)) (F_c : Fld Z h0 a1 "java/lang/AbstractStringBuilder" "coder" "B" (.int (0 : Int32))) (F_n : Fld Z h0 a1 "java/lang/AbstractStringBuilder" "count" "I" (.int (3 : Int32))) (V0 : Arv Z h0 v0 k0 .byte (16 : Int32) ((pre ++ List.replicate 13 (0 : Int32)).map Value.int) (.int (0 : Int32))) (E_r2 : Exa Z h0 r2 "java/lang/String") (G_v : Fld Z h0 r2 "java/lang/String" "value" "[B" (.ref r9)) (G_c : Fld Z h0 r2 "java/lang/String" "coder" "B" (.int (0 : Int32))) (V9 : Arv Z h0 r9 kq .byte (1 : Int32) ((bs).map Value.int) (.int (0 : Int32))) (g_a1 : n0 ≤ a1) (ne_av : a1 ≠ v0) (ne_ar : a1 ≠ r2) (ne_a9 : a1 ≠ r9) (ne_rv : r2 ≠ v0) (ne_9v : r9 ≠ v0) (g_v0 : n0 ≤ v0) :
    MetFree l (⟨"java/lang/AbstractStringBuilder", "append", "(Ljava/lang/String;)Ljava/lang/AbstractStringBuilder;"⟩ : MethodName) (head1 (Jvm.Cond.code (⟨"java/lang/AbstractStringBuilder", "append", "(Ljava/lang/String;)Ljava/lang/AbstractStringBuilder;"⟩ : MethodName) jdk_68_method_22_code 3 (some (.object "java/lang/AbstractStringBuilder")) :: ws) ({ frames := 3, cells := 0, slots := 0, locals := 47 } : Room)) (fun a U => a = #[(.ref a1), (.ref r2)] ∧ Z.Warmed39 U.vm ∧ U.heap = h0) (fun _ _ _ _ _ => True) (fun _ U o U' => ∃ v L, o = .returned v ∧ own_Q18_3_1 Z a1 r2 v0 k0 r9 bs kq pre wc wD kD h0 n0 v U'.heap L ∧ FrameEnd U o U' L ({ frames := 3, cells := 0, slots := 0, locals := 47 } : Room).cells ({ frames := 3, cells := 0, slots := 0, locals := 47 } : Room).slots) := by
  refine own_body (plainFor_of_name pn_16) (fun m => own_ef18_3_1 m a1 r2) ?_
  intro p e s m below meth c T0 X0 hx hby hml hZ hown hnm hret hlk e0
  have hown : s.vm.findClass "java/lang/AbstractStringBuilder" = some m.cls := hown
  have hnm : meth.name = "append" := hnm
  have N0 := Fr.nil n0
  have K0 : Keep h0 h0 [a1, v0] := Keep.refl _ _
  refine own_st (mkF m 1 #[rv a1, rv r2, .unset] [(.ref r2)]) (fun t k => XS.aloadN X0.here hx rfl (hb hby d18_0) rfl rfl k) ?_
  refine own_st (mkF m 9 #[rv a1, rv r2, .unset] []) (fun t k => XS.ifnonnullYes X0.here hx rfl (pc0 := 1) (pc' := 9) rfl (hb hby d18_1) rfl (by decide) (by decide) k) ?_
  refine own_st (mkF m 10 #[rv a1, rv r2, .unset] [(.ref r2)]) (fun t k => XS.aloadN X0.here hx rfl (hb hby d18_9) rfl rfl k) ?_
  obtain ⟨cq91, kq91, q91a, q91b, q91c⟩ := isOf hZ e0 E_r2
  obtain ⟨_, _, ⟨T91, L91, k91, n91⟩, -, X91, ⟨Lc91, hQ91, l91, y91, z91⟩, st91⟩ := X0.virtualBack hx (y := (⟨"java/lang/String", "length", "()I"⟩ : MethodName)) (z := (⟨"java/lang/String", "length", "()I"⟩ : MethodName)) hown (mvT hZ (hw_117 hw)) (mvT hZ (hw_118 hw)) (notFace_of_selects (args := #[]) (mvT hZ (hw_120 hw))) (mvT hZ (hw_120 hw)) (mvT hZ (hw_119 hw)) (by decide) (backOf (W := 0) (own_rm19_1 l Z a0 hw [] r2 r9 bs kq wc wD kD h0 n0 Z0 O0 SS E_r2 G_v G_c V9) hZ (hw_121 hw) (hw_59 hw) (by decide) (by decide)) q91a q91c (g := (mkF m 10 #[rv a1, rv r2, .unset] [(.ref r2)])) rfl (by rw [hml]; rfl) (Steps.refl _) (argsL := []) (rest := []) (lenOf pd_5 rfl) rfl (by show 2 * 0 + _ ≤ _; exact Nat.le_of_eq rfl) (hb hby d18_10) (fun _ _ => ⟨rfl, e0, (by decide : 0 + 0 ≤ _), (by decide : 0 + 0 ≤ _)⟩)
  dsimp only [Pt.U, Pt.locs, Pt.cells, Pt.slots] at X91 l91 y91 z91 st91 hQ91
  subst l91 y91 z91
  obtain ⟨rfl, Nq91, e91⟩ := hQ91
  have N91 := Fr.app N0 Nq91
  refine own_jump (g' := (mkF m 13 #[rv a1, rv r2, .unset] [(.int (1 : Int32))])) st91 ?_
  refine own_st (mkF m 14 #[rv a1, rv r2, iv (1 : Int32)] []) (fun t k => XS.istoreN X91.here hx rfl (hb hby d18_13) rfl (l' := #[rv a1, rv r2, iv (1 : Int32)]) rfl k) ?_
  refine own_st (mkF m 15 #[rv a1, rv r2, iv (1 : Int32)] [(.ref a1)]) (fun t k => XS.aloadN X91.here hx rfl (hb hby d18_14) rfl rfl k) ?_
  refine own_st (mkF m 16 #[rv a1, rv r2, iv (1 : Int32)] [(.ref a1), (.ref a1)]) (fun t k => XS.aloadN X91.here hx rfl (hb hby d18_15) rfl rfl k) ?_
  obtain ⟨T92, X92, e92, st92⟩ := getF X91 hx hZ hown (host := "") (Or.inl (hw_127 hw)) Via.refl e91 F_n (g := (mkF m 16 #[rv a1, rv r2, iv (1 : Int32)] [(.ref a1), (.ref a1)])) rfl rfl (hb hby d18_16)
  refine own_step (g' := (mkF m 19 #[rv a1, rv r2, iv (1 : Int32)] [(.int (3 : Int32)), (.ref a1)])) st92 ?_
  refine own_st (mkF m 20 #[rv a1, rv r2, iv (1 : Int32)] [(.int (1 : Int32)), (.int (3 : Int32)), (.ref a1)]) (fun t k => XS.iloadN X92.here hx rfl (hb hby d18_19) rfl k) ?_
  refine own_st (mkF m 21 #[rv a1, rv r2, iv (1 : Int32)] [(.int ((3 : Int32) + (1 : Int32))), (.ref a1)]) (fun t k => XS.iadd X92.here hx rfl (hb hby d18_20) rfl k) ?_
  rw [show ((3 : Int32) + (1 : Int32)) = (4 : Int32) from by decide]
  obtain ⟨cq93, kq93, q93a, q93b, q93c⟩ := isOf hZ e92 E_a1
  obtain ⟨_, _, ⟨T93, L93, k93, n93⟩, -, X93, ⟨Lc93, hQ93, l93, y93, z93⟩, st93⟩ := X92.virtualBack hx (y := (⟨"java/lang/AbstractStringBuilder", "ensureCapacityInternal", "(I)V"⟩ : MethodName)) (z := (⟨"java/lang/AbstractStringBuilder", "ensureCapacityInternal", "(I)V"⟩ : MethodName)) hown (mvT hZ (hw_129 hw)) (mvT hZ (own_declares (hw_130 hw) (hw_133 hw))) (notFace_of_selects (args := #[]) (mvT hZ (hw_132 hw))) (mvT hZ (hw_132 hw)) (mvT hZ (hw_130 hw)) (by decide) (backOf (W := 0) (own_rm21_3_1 l Z a0 hw [] a1 v0 k0 (pre ++ List.replicate 13 (0 : Int32)) h0 n0 Z0 E_a1 F_v F_c V0) hZ (hw_133 hw) (hw_99 hw) (by decide) (by decide)) q93a q93c (g := (mkF m 21 #[rv a1, rv r2, iv (1 : Int32)] [(.int (4 : Int32)), (.ref a1)])) rfl (by rw [hml]; rfl) (Steps.refl _) (argsL := [(.int (4 : Int32))]) (rest := []) (lenOf pd_3 rfl) rfl (by show 2 * 0 + _ ≤ _; exact Nat.le_of_eq rfl) (hb hby d18_21) (fun _ _ => ⟨rfl, e92, (by decide : 0 + 0 ≤ _), (by decide : 0 + 0 ≤ _)⟩)
  dsimp only [Pt.U, Pt.locs, Pt.cells, Pt.slots] at X93 l93 y93 z93 st93 hQ93
  subst l93 y93 z93
  obtain ⟨rfl, Nq93, e93⟩ := hQ93
  have N93 := Fr.app N91 Nq93
  refine own_jump (g' := (mkF m 24 #[rv a1, rv r2, iv (1 : Int32)] [])) st93 ?_
  refine own_st (mkF m 25 #[rv a1, rv r2, iv (1 : Int32)] [(.ref a1)]) (fun t k => XS.aloadN X93.here hx rfl (hb hby d18_24) rfl rfl k) ?_
  refine own_st (mkF m 26 #[rv a1, rv r2, iv (1 : Int32)] [(.ref a1), (.ref a1)]) (fun t k => XS.aloadN X93.here hx rfl (hb hby d18_25) rfl rfl k) ?_
  obtain ⟨T94, X94, e94, st94⟩ := getF X93 hx hZ hown (host := "") (Or.inl (hw_127 hw)) Via.refl e93 F_n (g := (mkF m 26 #[rv a1, rv r2, iv (1 : Int32)] [(.ref a1), (.ref a1)])) rfl rfl (hb hby d18_26)
  refine own_step (g' := (mkF m 29 #[rv a1, rv r2, iv (1 : Int32)] [(.int (3 : Int32)), (.ref a1)])) st94 ?_
  refine own_st (mkF m 30 #[rv a1, rv r2, iv (1 : Int32)] [(.ref r2), (.int (3 : Int32)), (.ref a1)]) (fun t k => XS.aloadN X94.here hx rfl (hb hby d18_29) rfl rfl k) ?_
  obtain ⟨cq95, kq95, q95a, q95b, q95c⟩ := isOf hZ e94 E_a1
  obtain ⟨_, _, ⟨T95, L95, k95, n95⟩, -, X95, ⟨Lc95, hQ95, l95, y95, z95⟩, st95⟩ := X94.virtualBack hx (y := (⟨"java/lang/AbstractStringBuilder", "putStringAt", "(ILjava/lang/String;)V"⟩ : MethodName)) (z := (⟨"java/lang/AbstractStringBuilder", "putStringAt", "(ILjava/lang/String;)V"⟩ : MethodName)) hown (mvT hZ (hw_134 hw)) (mvT hZ (own_declares (hw_135 hw) (hw_138 hw))) (notFace_of_selects (args := #[]) (mvT hZ (hw_137 hw))) (mvT hZ (hw_137 hw)) (mvT hZ (hw_135 hw)) (by decide) (backOf (W := 0) (own_rm22_3_1 l Z a0 hw [] a1 r2 v0 k0 r9 bs kq pre wc wD kD h0 n0 Z0 O0 SS hpre hbl E_a1 F_v F_c V0 E_r2 G_v G_c V9 g_v0 ne_av ne_rv ne_9v) hZ (hw_138 hw) (hw_99 hw) (by decide) (by decide)) q95a q95c (g := (mkF m 30 #[rv a1, rv r2, iv (1 : Int32)] [(.ref r2), (.int (3 : Int32)), (.ref a1)])) rfl (by rw [hml]; rfl) (Steps.refl _) (argsL := [(.int (3 : Int32)), (.ref r2)]) (rest := []) (lenOf pd_8 rfl) rfl (by show 2 * 0 + _ ≤ _; exact Nat.le_of_eq rfl) (hb hby d18_30) (fun _ _ => ⟨rfl, e94, (by decide : 0 + 0 ≤ _), (by decide : 0 + 0 ≤ _)⟩)
  dsimp only [Pt.U, Pt.locs, Pt.cells, Pt.slots] at X95 l95 y95 z95 st95 hQ95
  subst l95 y95 z95
  obtain ⟨rfl, Nq95, K95, V95⟩ := hQ95
  have N95 := Fr.app N93 Nq95
  have Z95 : n0 ≤ T95.heap.size := Nat.le_trans Z0 K95.1
  have O95 : Old Z n0 T95.heap := O0.keep K95 (allS g_v0 all0)
  have Kp95 : Keep h0 T95.heap [a1, v0] := K0.trans K95 (allS (Or.inl (List.mem_of_getElem? (i := 1) rfl)) all0)
  have f1_Exa_a1 : Exa Z T95.heap a1 "java/lang/StringBuilder" := (E_a1.keep K95)
  have f2_Fld_a1 : Fld Z T95.heap a1 "java/lang/AbstractStringBuilder" "value" "[B" (.ref v0) := (F_v.keep K95 (ninS ne_av nin0))
  have f3_Fld_a1 : Fld Z T95.heap a1 "java/lang/AbstractStringBuilder" "coder" "B" (.int (0 : Int32)) := (F_c.keep K95 (ninS ne_av nin0))
  have f4_Fld_a1 : Fld Z T95.heap a1 "java/lang/AbstractStringBuilder" "count" "I" (.int (3 : Int32)) := (F_n.keep K95 (ninS ne_av nin0))
  have f5_Exa_r2 : Exa Z T95.heap r2 "java/lang/String" := (E_r2.keep K95)
  have f6_Fld_r2 : Fld Z T95.heap r2 "java/lang/String" "value" "[B" (.ref r9) := (G_v.keep K95 (ninS ne_rv nin0))
  have f7_Fld_r2 : Fld Z T95.heap r2 "java/lang/String" "coder" "B" (.int (0 : Int32)) := (G_c.keep K95 (ninS ne_rv nin0))
  have f8_Arv_r9 : Arv Z T95.heap r9 kq .byte (1 : Int32) ((bs).map Value.int) (.int (0 : Int32)) := (V9.keep K95 (ninS ne_9v nin0))
  refine own_jump (g' := (mkF m 33 #[rv a1, rv r2, iv (1 : Int32)] [])) st95 ?_
  refine own_st (mkF m 34 #[rv a1, rv r2, iv (1 : Int32)] [(.ref a1)]) (fun t k => XS.aloadN X95.here hx rfl (hb hby d18_33) rfl rfl k) ?_
  refine own_st (mkF m 35 #[rv a1, rv r2, iv (1 : Int32)] [(.ref a1), (.ref a1)]) (fun t k => XS.dup X95.here hx rfl (hb hby d18_34) rfl rfl k) ?_
  obtain ⟨T96, X96, e96, st96⟩ := getF X95 hx hZ hown (host := "") (Or.inl (hw_127 hw)) Via.refl rfl f4_Fld_a1 (g := (mkF m 35 #[rv a1, rv r2, iv (1 : Int32)] [(.ref a1), (.ref a1)])) rfl rfl (hb hby d18_35)
  refine own_step (g' := (mkF m 38 #[rv a1, rv r2, iv (1 : Int32)] [(.int (3 : Int32)), (.ref a1)])) st96 ?_
  refine own_st (mkF m 39 #[rv a1, rv r2, iv (1 : Int32)] [(.int (1 : Int32)), (.int (3 : Int32)), (.ref a1)]) (fun t k => XS.iloadN X96.here hx rfl (hb hby d18_38) rfl k) ?_
  refine own_st (mkF m 40 #[rv a1, rv r2, iv (1 : Int32)] [(.int ((3 : Int32) + (1 : Int32))), (.ref a1)]) (fun t k => XS.iadd X96.here hx rfl (hb hby d18_39) rfl k) ?_
  rw [show ((3 : Int32) + (1 : Int32)) = (4 : Int32) from by decide]
  obtain ⟨T97, h97, X97, e97, W97, st97⟩ := putF X96 hx hZ hown (host := "") (Or.inl (hw_127 hw)) Via.refl e96 f4_Fld_a1 f1_Exa_a1 (Or.inl (hw_128 hw)) (hw_90 hw) (ty := .int) (by decide) rfl rfl (g := (mkF m 40 #[rv a1, rv r2, iv (1 : Int32)] [(.int (4 : Int32)), (.ref a1)])) rfl rfl (hb hby d18_40)
  have f9_Exa_a1 : Exa Z h97 a1 "java/lang/StringBuilder" := (f1_Exa_a1.wr W97)
  have f10_Fld_a1 : Fld Z h97 a1 "java/lang/AbstractStringBuilder" "value" "[B" (.ref v0) := (f2_Fld_a1.other W97 (Or.inr (slot_ne (a0 := a0) (C := "java/lang/StringBuilder") (Or.inl (hw_104 hw)) (Or.inl (hw_128 hw)) (by decide) (t := (.array .byte)) (t' := .int) (by decide) (by decide))))
  have f11_Fld_a1 : Fld Z h97 a1 "java/lang/AbstractStringBuilder" "coder" "B" (.int (0 : Int32)) := (f3_Fld_a1.other W97 (Or.inr (slot_ne (a0 := a0) (C := "java/lang/StringBuilder") (Or.inl (hw_106 hw)) (Or.inl (hw_128 hw)) (by decide) (t := .byte) (t' := .int) (by decide) (by decide))))
  have f12_Exa_r2 : Exa Z h97 r2 "java/lang/String" := (f5_Exa_r2.wr W97)
  have f13_Fld_r2 : Fld Z h97 r2 "java/lang/String" "value" "[B" (.ref r9) := (f6_Fld_r2.other W97 (Or.inl (Ne.symm ne_ar)))
  have f14_Fld_r2 : Fld Z h97 r2 "java/lang/String" "coder" "B" (.int (0 : Int32)) := (f7_Fld_r2.other W97 (Or.inl (Ne.symm ne_ar)))
  have f15_Arv_r9 : Arv Z h97 r9 kq .byte (1 : Int32) ((bs).map Value.int) (.int (0 : Int32)) := (f8_Arv_r9.other W97 (Ne.symm ne_a9))
  have f16_Arv_v0 : Arv Z h97 v0 k0 .byte (16 : Int32) (((pre ++ bs) ++ List.replicate 12 (0 : Int32)).map Value.int) (.int (0 : Int32)) := (V95.other W97 (Ne.symm ne_av))
  have fw97 : Fld Z h97 a1 "java/lang/AbstractStringBuilder" "count" "I" (.int (4 : Int32)) := f4_Fld_a1.same W97
  have Z97 : n0 ≤ h97.size := Nat.le_trans Z95 (Keep.of_wr W97).1
  have Kp97 : Keep h0 h97 [a1, v0] := Kp95.wr W97 (Or.inl (List.mem_of_getElem? (i := 0) rfl))
  have O97 : Old Z n0 h97 := O95.wr W97 g_a1
  have N97 := Fr.snoc X97 N95 g_a1
  refine own_step (g' := (mkF m 43 #[rv a1, rv r2, iv (1 : Int32)] [])) st97 ?_
  refine own_st (mkF m 44 #[rv a1, rv r2, iv (1 : Int32)] [(.ref a1)]) (fun t k => XS.aloadN X97.here hx rfl (hb hby d18_43) rfl rfl k) ?_
  refine own_ret X97 hlk (v := some (.ref a1)) (fun h => by rw [hret] at h; cases h) (fun fs hr => X97.areturnOut hx (w := (.ref a1)) rfl hret rfl (hb hby d18_44) hr) ?_ (by decide) (by decide)
  show own_Q18_3_1 Z a1 r2 v0 k0 r9 bs kq pre wc wD kD h0 n0 _ T97.heap _
  rw [e97]
  exact ⟨rfl, N97, Kp97, f9_Exa_a1, f10_Fld_a1, f11_Fld_a1, fw97, f16_Arv_v0⟩
theorem own_ef17_3_1 (m : MethodId) (a1 : Addr) (r2 : Addr) : entryFrame m #[(.ref a1), (.ref r2)] 2 = mkF m 0 #[rv a1, rv r2] [] := by first | (simp [entryFrame, mkF, argsToLocals, Value.category]; done) | rfl
def own_Q17_3_1 (Z : State) (a1 : Addr) (r2 : Addr) (v0 : Addr) (k0 : ClassId) (r9 : Addr) (bs : List Int32) (kq : ClassId) (pre : List Int32) (wc : Int32) (wD : Addr) (kD : ClassId) (h0 : Heap) (n0 : Nat) (v : Option Value) (h : Heap) (L : List Loc) : Prop := v = some (.ref a1) ∧ Fr n0 L ∧ Keep h0 h [a1, v0] ∧ Exa Z h a1 "java/lang/StringBuilder" ∧ Fld Z h a1 "java/lang/AbstractStringBuilder" "value" "[B" (.ref v0) ∧ Fld Z h a1 "java/lang/AbstractStringBuilder" "coder" "B" (.int (0 : Int32)) ∧ Fld Z h a1 "java/lang/AbstractStringBuilder" "count" "I" (.int (4 : Int32)) ∧ Arv Z h v0 k0 .byte (16 : Int32) (((pre ++ bs) ++ List.replicate 12 (0 : Int32)).map Value.int) (.int (0 : Int32))
set_option maxRecDepth 65536 in
set_option maxHeartbeats 40000000 in
theorem own_rm17_3_1 (l : Launch) (Z : State) (a0 : Array Value) (hw : own_W a0 Z) (ws : List Jvm.Cond) (a1 : Addr) (r2 : Addr) (v0 : Addr) (k0 : ClassId) (r9 : Addr) (bs : List Int32) (kq : ClassId) (pre : List Int32) (wc : Int32) (wD : Addr) (kD : ClassId) (h0 : Heap) (n0 : Nat) (Z0 : n0 ≤ h0.size) (O0 : Old Z n0 h0) (SS : own_St Z wc wD kD) (hpre : pre.length = 3) (hbl : bs.length = 1) (E_a1 : Exa Z h0 a1 "java/lang/StringBuilder") (F_v : Fld Z h0 a1 "java/lang/AbstractStringBuilder" "value" "[B" (.ref v0)) (F_c : Fld Z h0 a1 "java/lang/AbstractStringBuilder" "coder" "B" (.int (0 : Int32))) (F_n : Fld Z h0 a1 "java/lang/AbstractStringBuilder" "count" "I" (.int (3 : Int32))) (V0 : Arv Z h0 v0 k0 .byte (16 : Int32) ((pre ++ List.replicate 13 (0 : Int32)).map Value.int) (.int (0 : Int32))) (E_r2 : Exa Z h0 r2 "java/lang/String") (G_v : Fld Z h0 r2 "java/lang/String" "value" "[B" (.ref r9)) (G_c : Fld Z h0 r2 "java/lang/String" "coder" "B" (.int (0 : Int32))) (V9 : Arv Z h0 r9 kq .byte (1 : Int32) ((bs).map Value.int) (.int (0 : Int32))) (g_a1 : n0 ≤ a1) (ne_av : a1 ≠ v0) (ne_ar : a1 ≠ r2) (ne_a9 : a1 ≠ r9) (ne_rv : r2 ≠ v0) (ne_9v : r9 ≠ v0) (g_v0 : n0 ≤ v0) :
    MetFree l (⟨"java/lang/StringBuilder", "append", "(Ljava/lang/String;)Ljava/lang/StringBuilder;"⟩ : MethodName) (head1 (Jvm.Cond.code (⟨"java/lang/StringBuilder", "append", "(Ljava/lang/String;)Ljava/lang/StringBuilder;"⟩ : MethodName) jdk_67_method_7_code 2 (some (.object "java/lang/StringBuilder")) :: ws) ({ frames := 4, cells := 0, slots := 0, locals := 61 } : Room)) (fun a U => a = #[(.ref a1), (.ref r2)] ∧ Z.Warmed39 U.vm ∧ U.heap = h0) (fun _ _ _ _ _ => True) (fun _ U o U' => ∃ v L, o = .returned v ∧ own_Q17_3_1 Z a1 r2 v0 k0 r9 bs kq pre wc wD kD h0 n0 v U'.heap L ∧ FrameEnd U o U' L ({ frames := 4, cells := 0, slots := 0, locals := 61 } : Room).cells ({ frames := 4, cells := 0, slots := 0, locals := 61 } : Room).slots) := by
  refine own_body (plainFor_of_name pn_15) (fun m => own_ef17_3_1 m a1 r2) ?_
  intro p e s m below meth c T0 X0 hx hby hml hZ hown hnm hret hlk e0
  have hown : s.vm.findClass "java/lang/StringBuilder" = some m.cls := hown
  have hnm : meth.name = "append" := hnm
  have N0 := Fr.nil n0
  have K0 : Keep h0 h0 [a1, v0] := Keep.refl _ _
  refine own_st (mkF m 1 #[rv a1, rv r2] [(.ref a1)]) (fun t k => XS.aloadN X0.here hx rfl (hb hby d17_0) rfl rfl k) ?_
  refine own_st (mkF m 2 #[rv a1, rv r2] [(.ref r2), (.ref a1)]) (fun t k => XS.aloadN X0.here hx rfl (hb hby d17_1) rfl rfl k) ?_
  obtain ⟨_, _, ⟨T98, L98, k98, n98⟩, -, X98, ⟨Lc98, hQ98, l98, y98, z98⟩, st98⟩ := superBack X0 hx hZ (y := (⟨"java/lang/AbstractStringBuilder", "append", "(Ljava/lang/String;)Ljava/lang/AbstractStringBuilder;"⟩ : MethodName)) hown (hw_112 hw) (own_samem (y := (⟨"java/lang/AbstractStringBuilder", "append", "(Ljava/lang/String;)Ljava/lang/AbstractStringBuilder;"⟩ : MethodName)) (hw_113 hw) (y2 := (⟨"java/lang/AbstractStringBuilder", "getValue", "()[B"⟩ : MethodName)) rfl (hw_172 hw) (by decide)) (hw_113 hw) (hw_114 hw) (by decide) (backOf (W := 0) (own_rm18_3_1 l Z a0 hw [] a1 r2 v0 k0 r9 bs kq pre wc wD kD h0 n0 Z0 O0 SS hpre hbl E_a1 F_v F_c F_n V0 E_r2 G_v G_c V9 g_a1 ne_av ne_ar ne_a9 ne_rv ne_9v g_v0) hZ (hw_116 hw) (hw_99 hw) (by decide) (by decide)) e0 (Ins.self E_a1) (g := (mkF m 2 #[rv a1, rv r2] [(.ref r2), (.ref a1)])) rfl (by rw [hml]; rfl) (hw_116 hw) (argsL := [(.ref r2)]) (rest := []) (lenOf pd_9 rfl) rfl (by show 2 * 0 + _ ≤ _; exact Nat.le_of_eq rfl) (hb hby d17_2) (fun _ _ => ⟨rfl, e0, (by decide : 0 + 0 ≤ _), (by decide : 0 + 0 ≤ _)⟩)
  dsimp only [Pt.U, Pt.locs, Pt.cells, Pt.slots] at X98 l98 y98 z98 st98 hQ98
  subst l98 y98 z98
  obtain ⟨rfl, Nq98, K98, Ex98, Fv98, Fc98, Fn98, V98⟩ := hQ98
  have N98 := Fr.app N0 Nq98
  have Z98 : n0 ≤ T98.heap.size := Nat.le_trans Z0 K98.1
  have O98 : Old Z n0 T98.heap := O0.keep K98 (allS g_a1 (allS g_v0 all0))
  have Kp98 : Keep h0 T98.heap [a1, v0] := K0.trans K98 (allS (Or.inl (List.mem_of_getElem? (i := 0) rfl)) (allS (Or.inl (List.mem_of_getElem? (i := 1) rfl)) all0))
  have f1_Exa_a1 : Exa Z T98.heap a1 "java/lang/StringBuilder" := (E_a1.keep K98)
  have f2_Exa_r2 : Exa Z T98.heap r2 "java/lang/String" := (E_r2.keep K98)
  have f3_Fld_r2 : Fld Z T98.heap r2 "java/lang/String" "value" "[B" (.ref r9) := (G_v.keep K98 (ninS (Ne.symm ne_ar) (ninS ne_rv nin0)))
  have f4_Fld_r2 : Fld Z T98.heap r2 "java/lang/String" "coder" "B" (.int (0 : Int32)) := (G_c.keep K98 (ninS (Ne.symm ne_ar) (ninS ne_rv nin0)))
  have f5_Arv_r9 : Arv Z T98.heap r9 kq .byte (1 : Int32) ((bs).map Value.int) (.int (0 : Int32)) := (V9.keep K98 (ninS (Ne.symm ne_a9) (ninS ne_9v nin0)))
  refine own_jump (g' := (mkF m 5 #[rv a1, rv r2] [(.ref a1)])) st98 ?_
  refine own_st (mkF m 6 #[rv a1, rv r2] []) (fun t k => XS.pop X98.here hx rfl (hb hby d17_5) rfl rfl k) ?_
  refine own_st (mkF m 7 #[rv a1, rv r2] [(.ref a1)]) (fun t k => XS.aloadN X98.here hx rfl (hb hby d17_6) rfl rfl k) ?_
  refine own_ret X98 hlk (v := some (.ref a1)) (fun h => by rw [hret] at h; cases h) (fun fs hr => X98.areturnOut hx (w := (.ref a1)) rfl hret rfl (hb hby d17_7) hr) ?_ (by decide) (by decide)
  show own_Q17_3_1 Z a1 r2 v0 k0 r9 bs kq pre wc wD kD h0 n0 _ T98.heap _
  exact ⟨rfl, N98, Kp98, Ex98, Fv98, Fc98, Fn98, V98⟩
theorem d44_0 : decode jdk_48_method_27_code 0 = .ok (.iload_n 0, 1) := by decide +kernel
theorem d44_1 : decode jdk_48_method_27_code 1 = .ok (.iload_n 1, 1) := by decide +kernel
theorem d44_2 : decode jdk_48_method_27_code 2 = .ok (.iload_n 2, 1) := by decide +kernel
theorem d44_3 : decode jdk_48_method_27_code 3 = .ok (.invokestatic 194, 3) := by decide +kernel
theorem hw_253 {a0 Z} (hw : own_W a0 Z) : (Jvm.Cond.methodLink "jdk/internal/util/ArraysSupport" (194 : Nat) ({ cls := "java/lang/Math", name := "max", desc := "(II)I" } : Jvm.MethodName)).before a0 Z = true := hw _ (List.mem_of_getElem? (i := 253) rfl)
theorem hw_229 {a0 Z} (hw : own_W a0 Z) : (Jvm.Cond.code ({ cls := "java/lang/Math", name := "max", desc := "(II)I" } : Jvm.MethodName) jdk_29_method_65_code (2 : Nat) (Option.some Jvm.ClassFile.FieldType.int)).before a0 Z = true := hw _ (List.mem_of_getElem? (i := 229) rfl)
theorem hw_199 {a0 Z} (hw : own_W a0 Z) : (Jvm.Cond.initialized "java/lang/Math").before a0 Z = true := hw _ (List.mem_of_getElem? (i := 199) rfl)
theorem pd_10 : parseMethodDescriptor "(II)I" = some ⟨[.int, .int], some .int⟩ := by decide +kernel
theorem hw_228 {a0 Z} (hw : own_W a0 Z) : (Jvm.Cond.static ({ cls := "java/lang/Math", name := "max", desc := "(II)I" } : Jvm.MethodName)).before a0 Z = true := hw _ (List.mem_of_getElem? (i := 228) rfl)
theorem d44_6 : decode jdk_48_method_27_code 6 = .ok (.iadd, 1) := by decide +kernel
theorem d44_7 : decode jdk_48_method_27_code 7 = .ok (.istore_n 3, 1) := by decide +kernel
theorem d44_8 : decode jdk_48_method_27_code 8 = .ok (.iconst 0, 1) := by decide +kernel
theorem d44_9 : decode jdk_48_method_27_code 9 = .ok (.iload_n 3, 1) := by decide +kernel
theorem d44_10 : decode jdk_48_method_27_code 10 = .ok (.if_icmp .ge 11, 3) := by decide +kernel
theorem d44_13 : decode jdk_48_method_27_code 13 = .ok (.iload_n 3, 1) := by decide +kernel
theorem d44_14 : decode jdk_48_method_27_code 14 = .ok (.ldc 200, 2) := by decide +kernel
theorem hw_254 {a0 Z} (hw : own_W a0 Z) : (Jvm.Cond.constant "jdk/internal/util/ArraysSupport" (200 : Nat) (2147483639 : Int32)).before a0 Z = true := hw _ (List.mem_of_getElem? (i := 254) rfl)
theorem d44_16 : decode jdk_48_method_27_code 16 = .ok (.if_icmp .gt 5, 3) := by decide +kernel
theorem d44_19 : decode jdk_48_method_27_code 19 = .ok (.iload_n 3, 1) := by decide +kernel
theorem d44_20 : decode jdk_48_method_27_code 20 = .ok (.ireturn, 1) := by decide +kernel
theorem pn_44 : plainName "jdk/internal/util/ArraysSupport" = true := by first | (simp [plainName, overriddenIn]; done) | decide +kernel
theorem own_ef44 (m : MethodId)  : entryFrame m #[(.int (16 : Int32)), (.int (4 : Int32)), (.int (18 : Int32))] 4 = mkF m 0 #[iv (16 : Int32), iv (4 : Int32), iv (18 : Int32), .unset] [] := by first | (simp [entryFrame, mkF, argsToLocals, Value.category]; done) | rfl
def own_Q44 (Z : State)  (h0 : Heap) (n0 : Nat) (v : Option Value) (h : Heap) (L : List Loc) : Prop := v = some (.int (34 : Int32)) ∧ Fr n0 L ∧ h = h0
set_option maxRecDepth 65536 in
set_option maxHeartbeats 40000000 in
theorem own_rm44 (l : Launch) (Z : State) (a0 : Array Value) (hw : own_W a0 Z) (ws : List Jvm.Cond)  (h0 : Heap) (n0 : Nat) (Z0 : n0 ≤ h0.size) :
    MetFree l (⟨"jdk/internal/util/ArraysSupport", "newLength", "(III)I"⟩ : MethodName) (head1 (Jvm.Cond.code (⟨"jdk/internal/util/ArraysSupport", "newLength", "(III)I"⟩ : MethodName) jdk_48_method_27_code 4 (some .int) :: ws) ({ frames := 1, cells := 0, slots := 0, locals := 14 } : Room)) (fun a U => a = #[(.int (16 : Int32)), (.int (4 : Int32)), (.int (18 : Int32))] ∧ Z.Warmed39 U.vm ∧ U.heap = h0) (fun _ _ _ _ _ => True) (fun _ U o U' => ∃ v L, o = .returned v ∧ own_Q44 Z h0 n0 v U'.heap L ∧ FrameEnd U o U' L ({ frames := 1, cells := 0, slots := 0, locals := 14 } : Room).cells ({ frames := 1, cells := 0, slots := 0, locals := 14 } : Room).slots) := by
  refine own_body (plainFor_of_name pn_44) (fun m => own_ef44 m ) ?_
  intro p e s m below meth c T0 X0 hx hby hml hZ hown hnm hret hlk e0
  have hown : s.vm.findClass "jdk/internal/util/ArraysSupport" = some m.cls := hown
  have hnm : meth.name = "newLength" := hnm
  have N0 := Fr.nil n0
  refine own_st (mkF m 1 #[iv (16 : Int32), iv (4 : Int32), iv (18 : Int32), .unset] [(.int (16 : Int32))]) (fun t k => XS.iloadN X0.here hx rfl (hb hby d44_0) rfl k) ?_
  refine own_st (mkF m 2 #[iv (16 : Int32), iv (4 : Int32), iv (18 : Int32), .unset] [(.int (4 : Int32)), (.int (16 : Int32))]) (fun t k => XS.iloadN X0.here hx rfl (hb hby d44_1) rfl k) ?_
  refine own_st (mkF m 3 #[iv (16 : Int32), iv (4 : Int32), iv (18 : Int32), .unset] [(.int (18 : Int32)), (.int (4 : Int32)), (.int (16 : Int32))]) (fun t k => XS.iloadN X0.here hx rfl (hb hby d44_2) rfl k) ?_
  obtain ⟨_, _, ⟨T99, L99, k99, n99⟩, -, X99, ⟨Lc99, hQ99, l99, y99, z99⟩, st99⟩ := Jvm.LawKit.callS X0 hx (y := (⟨"java/lang/Math", "max", "(II)I"⟩ : MethodName)) hown (mvT hZ (hw_253 hw)) (mvT hZ (hw_228 hw)) (mvT hZ (hw_199 hw)) (mvT hZ (hw_229 hw)) (by decide) (backOf (W := 1) (own_rm40 l Z a0 hw [] (4 : Int32) (18 : Int32) h0 n0 Z0) hZ (hw_229 hw) (hw_199 hw) (by decide) (by decide)) (g := (mkF m 3 #[iv (16 : Int32), iv (4 : Int32), iv (18 : Int32), .unset] [(.int (18 : Int32)), (.int (4 : Int32)), (.int (16 : Int32))])) rfl (by rw [hml]; rfl) (argsL := [(.int (4 : Int32)), (.int (18 : Int32))]) (rest := [(.int (16 : Int32))]) (lenOf pd_10 rfl) rfl (by show 2 * 0 + _ ≤ _; exact Nat.le_of_eq rfl) (hb hby d44_3) (fun _ _ => ⟨rfl, e0, (by decide : 0 + 0 ≤ _), (by decide : 0 + 0 ≤ _)⟩)
  dsimp only [Pt.U, Pt.locs, Pt.cells, Pt.slots] at X99 l99 y99 z99 st99 hQ99
  subst l99 y99 z99
  obtain ⟨rfl, Nq99, e99⟩ := hQ99
  have N99 := Fr.app N0 Nq99
  refine own_step (g' := (mkF m 6 #[iv (16 : Int32), iv (4 : Int32), iv (18 : Int32), .unset] [(.int (own_max32 (4 : Int32) (18 : Int32))), (.int (16 : Int32))])) st99 ?_
  rw [show (own_max32 (4 : Int32) (18 : Int32)) = (18 : Int32) from by decide]
  refine own_st (mkF m 7 #[iv (16 : Int32), iv (4 : Int32), iv (18 : Int32), .unset] [(.int ((16 : Int32) + (18 : Int32)))]) (fun t k => XS.iadd X99.here hx rfl (hb hby d44_6) rfl k) ?_
  rw [show ((16 : Int32) + (18 : Int32)) = (34 : Int32) from by decide]
  refine own_st (mkF m 8 #[iv (16 : Int32), iv (4 : Int32), iv (18 : Int32), iv (34 : Int32)] []) (fun t k => XS.istoreN X99.here hx rfl (hb hby d44_7) rfl (l' := #[iv (16 : Int32), iv (4 : Int32), iv (18 : Int32), iv (34 : Int32)]) rfl k) ?_
  refine own_st (mkF m 9 #[iv (16 : Int32), iv (4 : Int32), iv (18 : Int32), iv (34 : Int32)] [(.int (0 : Int32))]) (fun t k => XS.iconst X99.here hx rfl (hb hby d44_8) k) ?_
  refine own_st (mkF m 10 #[iv (16 : Int32), iv (4 : Int32), iv (18 : Int32), iv (34 : Int32)] [(.int (34 : Int32)), (.int (0 : Int32))]) (fun t k => XS.iloadN X99.here hx rfl (hb hby d44_9) rfl k) ?_
  refine own_st (mkF m 13 #[iv (16 : Int32), iv (4 : Int32), iv (18 : Int32), iv (34 : Int32)] []) (fun t k => XS.icmpNo X99.here hx rfl (hb hby d44_10) rfl (tlt (by decide : (0 : Int32) < (34 : Int32))).2.1 k) ?_
  refine own_st (mkF m 14 #[iv (16 : Int32), iv (4 : Int32), iv (18 : Int32), iv (34 : Int32)] [(.int (34 : Int32))]) (fun t k => XS.iloadN X99.here hx rfl (hb hby d44_13) rfl k) ?_
  refine own_st (mkF m 16 #[iv (16 : Int32), iv (4 : Int32), iv (18 : Int32), iv (34 : Int32)] [(.int (2147483639 : Int32)), (.int (34 : Int32))]) (fun t k => X99.ldcInt hx hown (mvT hZ (hw_254 hw)) (g := (mkF m 14 #[iv (16 : Int32), iv (4 : Int32), iv (18 : Int32), iv (34 : Int32)] [(.int (34 : Int32))])) rfl (hb hby d44_14) _ k) ?_
  refine own_st (mkF m 19 #[iv (16 : Int32), iv (4 : Int32), iv (18 : Int32), iv (34 : Int32)] []) (fun t k => XS.icmpNo X99.here hx rfl (hb hby d44_16) rfl (flt (by decide : ¬ ((2147483639 : Int32) < (34 : Int32)))).2.2.1 k) ?_
  refine own_st (mkF m 20 #[iv (16 : Int32), iv (4 : Int32), iv (18 : Int32), iv (34 : Int32)] [(.int (34 : Int32))]) (fun t k => XS.iloadN X99.here hx rfl (hb hby d44_19) rfl k) ?_
  refine own_ret X99 hlk (v := some (.int (34 : Int32))) (fun h => by rw [hret] at h; cases h) (fun fs hr => X99.ireturnOut hx hret rfl (Or.inl rfl) (hb hby d44_20) hr) ?_ (by decide) (by decide)
  show own_Q44 Z h0 n0 _ T99.heap _
  rw [e99]
  exact ⟨rfl, N99, rfl⟩
theorem d43_0 : decode jdk_68_method_10_code 0 = .ok (.aload_n 0, 1) := by decide +kernel
theorem d43_1 : decode jdk_68_method_10_code 1 = .ok (.getfield 15, 3) := by decide +kernel
theorem d43_4 : decode jdk_68_method_10_code 4 = .ok (.arraylength, 1) := by decide +kernel
theorem d43_5 : decode jdk_68_method_10_code 5 = .ok (.istore_n 2, 1) := by decide +kernel
theorem d43_6 : decode jdk_68_method_10_code 6 = .ok (.iload_n 1, 1) := by decide +kernel
theorem d43_7 : decode jdk_68_method_10_code 7 = .ok (.aload_n 0, 1) := by decide +kernel
theorem d43_8 : decode jdk_68_method_10_code 8 = .ok (.getfield 22, 3) := by decide +kernel
theorem d43_11 : decode jdk_68_method_10_code 11 = .ok (.ishl, 1) := by decide +kernel
theorem d43_12 : decode jdk_68_method_10_code 12 = .ok (.istore_n 3, 1) := by decide +kernel
theorem d43_13 : decode jdk_68_method_10_code 13 = .ok (.iload_n 3, 1) := by decide +kernel
theorem d43_14 : decode jdk_68_method_10_code 14 = .ok (.iload_n 2, 1) := by decide +kernel
theorem d43_15 : decode jdk_68_method_10_code 15 = .ok (.isub, 1) := by decide +kernel
theorem d43_16 : decode jdk_68_method_10_code 16 = .ok (.istore 4, 2) := by decide +kernel
theorem d43_18 : decode jdk_68_method_10_code 18 = .ok (.iload_n 2, 1) := by decide +kernel
theorem d43_19 : decode jdk_68_method_10_code 19 = .ok (.iload 4, 2) := by decide +kernel
theorem d43_21 : decode jdk_68_method_10_code 21 = .ok (.iload_n 2, 1) := by decide +kernel
theorem d43_22 : decode jdk_68_method_10_code 22 = .ok (.iconst 2, 1) := by decide +kernel
theorem d43_23 : decode jdk_68_method_10_code 23 = .ok (.aload_n 0, 1) := by decide +kernel
theorem d43_24 : decode jdk_68_method_10_code 24 = .ok (.getfield 22, 3) := by decide +kernel
theorem d43_27 : decode jdk_68_method_10_code 27 = .ok (.ishl, 1) := by decide +kernel
theorem d43_28 : decode jdk_68_method_10_code 28 = .ok (.iadd, 1) := by decide +kernel
theorem d43_29 : decode jdk_68_method_10_code 29 = .ok (.invokestatic 114, 3) := by decide +kernel
theorem hw_249 {a0 Z} (hw : own_W a0 Z) : (Jvm.Cond.methodLink "java/lang/AbstractStringBuilder" (114 : Nat) ({ cls := "jdk/internal/util/ArraysSupport", name := "newLength", desc := "(III)I" } : Jvm.MethodName)).before a0 Z = true := hw _ (List.mem_of_getElem? (i := 249) rfl)
theorem hw_252 {a0 Z} (hw : own_W a0 Z) : (Jvm.Cond.code ({ cls := "jdk/internal/util/ArraysSupport", name := "newLength", desc := "(III)I" } : Jvm.MethodName) jdk_48_method_27_code (4 : Nat) (Option.some Jvm.ClassFile.FieldType.int)).before a0 Z = true := hw _ (List.mem_of_getElem? (i := 252) rfl)
theorem hw_251 {a0 Z} (hw : own_W a0 Z) : (Jvm.Cond.initialized "jdk/internal/util/ArraysSupport").before a0 Z = true := hw _ (List.mem_of_getElem? (i := 251) rfl)
theorem pd_11 : parseMethodDescriptor "(III)I" = some ⟨[.int, .int, .int], some .int⟩ := by decide +kernel
theorem hw_250 {a0 Z} (hw : own_W a0 Z) : (Jvm.Cond.static ({ cls := "jdk/internal/util/ArraysSupport", name := "newLength", desc := "(III)I" } : Jvm.MethodName)).before a0 Z = true := hw _ (List.mem_of_getElem? (i := 250) rfl)
theorem d43_32 : decode jdk_68_method_10_code 32 = .ok (.istore 5, 2) := by decide +kernel
theorem d43_34 : decode jdk_68_method_10_code 34 = .ok (.iload 5, 2) := by decide +kernel
theorem d43_36 : decode jdk_68_method_10_code 36 = .ok (.ldc 39, 2) := by decide +kernel
theorem hw_255 {a0 Z} (hw : own_W a0 Z) : (Jvm.Cond.constant "java/lang/AbstractStringBuilder" (39 : Nat) (2147483647 : Int32)).before a0 Z = true := hw _ (List.mem_of_getElem? (i := 255) rfl)
theorem d43_38 : decode jdk_68_method_10_code 38 = .ok (.if_icmp .ne 13, 3) := by decide +kernel
theorem d43_51 : decode jdk_68_method_10_code 51 = .ok (.iload 5, 2) := by decide +kernel
theorem d43_53 : decode jdk_68_method_10_code 53 = .ok (.aload_n 0, 1) := by decide +kernel
theorem d43_54 : decode jdk_68_method_10_code 54 = .ok (.getfield 22, 3) := by decide +kernel
theorem d43_57 : decode jdk_68_method_10_code 57 = .ok (.ishr, 1) := by decide +kernel
theorem d43_58 : decode jdk_68_method_10_code 58 = .ok (.ireturn, 1) := by decide +kernel
theorem own_ef43 (m : MethodId) (a1 : Addr) : entryFrame m #[(.ref a1), (.int (20 : Int32))] 6 = mkF m 0 #[rv a1, iv (20 : Int32), .unset, .unset, .unset, .unset] [] := by first | (simp [entryFrame, mkF, argsToLocals, Value.category]; done) | rfl
def own_Q43 (Z : State) (a1 : Addr) (vb : Addr) (kb : ClassId) (es : List Int32) (h0 : Heap) (n0 : Nat) (v : Option Value) (h : Heap) (L : List Loc) : Prop := v = some (.int (34 : Int32)) ∧ Fr n0 L ∧ h = h0
set_option maxRecDepth 65536 in
set_option maxHeartbeats 40000000 in
theorem own_rm43 (l : Launch) (Z : State) (a0 : Array Value) (hw : own_W a0 Z) (ws : List Jvm.Cond) (a1 : Addr) (vb : Addr) (kb : ClassId) (es : List Int32) (h0 : Heap) (n0 : Nat) (Z0 : n0 ≤ h0.size) (E_a1 : Exa Z h0 a1 "java/lang/StringBuilder") (F_v : Fld Z h0 a1 "java/lang/AbstractStringBuilder" "value" "[B" (.ref vb)) (F_c : Fld Z h0 a1 "java/lang/AbstractStringBuilder" "coder" "B" (.int (0 : Int32))) (V0 : Arv Z h0 vb kb .byte (16 : Int32) ((es).map Value.int) (.int (0 : Int32))) :
    MetFree l (⟨"java/lang/AbstractStringBuilder", "newCapacity", "(I)I"⟩ : MethodName) (head1 (Jvm.Cond.code (⟨"java/lang/AbstractStringBuilder", "newCapacity", "(I)I"⟩ : MethodName) jdk_68_method_10_code 6 (some .int) :: ws) ({ frames := 2, cells := 0, slots := 0, locals := 29 } : Room)) (fun a U => a = #[(.ref a1), (.int (20 : Int32))] ∧ Z.Warmed39 U.vm ∧ U.heap = h0) (fun _ _ _ _ _ => True) (fun _ U o U' => ∃ v L, o = .returned v ∧ own_Q43 Z a1 vb kb es h0 n0 v U'.heap L ∧ FrameEnd U o U' L ({ frames := 2, cells := 0, slots := 0, locals := 29 } : Room).cells ({ frames := 2, cells := 0, slots := 0, locals := 29 } : Room).slots) := by
  refine own_body (plainFor_of_name pn_16) (fun m => own_ef43 m a1) ?_
  intro p e s m below meth c T0 X0 hx hby hml hZ hown hnm hret hlk e0
  have hown : s.vm.findClass "java/lang/AbstractStringBuilder" = some m.cls := hown
  have hnm : meth.name = "newCapacity" := hnm
  have N0 := Fr.nil n0
  refine own_st (mkF m 1 #[rv a1, iv (20 : Int32), .unset, .unset, .unset, .unset] [(.ref a1)]) (fun t k => XS.aloadN X0.here hx rfl (hb hby d43_0) rfl rfl k) ?_
  obtain ⟨T100, X100, e100, st100⟩ := getF X0 hx hZ hown (host := "") (Or.inl (hw_103 hw)) Via.refl e0 F_v (g := (mkF m 1 #[rv a1, iv (20 : Int32), .unset, .unset, .unset, .unset] [(.ref a1)])) rfl rfl (hb hby d43_1)
  refine own_step (g' := (mkF m 4 #[rv a1, iv (20 : Int32), .unset, .unset, .unset, .unset] [(.ref vb)])) st100 ?_
  obtain ⟨cl101, Ar101, -, S101, M101, -, -⟩ := id V0
  refine own_step (T' := T100) (g' := (mkF m 5 #[rv a1, iv (20 : Int32), .unset, .unset, .unset, .unset] [(.int cl101.slots.size.toInt32)])) (X100.arraylength hx (by rw [e100]; exact Ar101.1) (State.isArrayOf_alike hZ.alike Ar101.2.1) (g := (mkF m 4 #[rv a1, iv (20 : Int32), .unset, .unset, .unset, .unset] [(.ref vb)])) rfl rfl (hb hby d43_4)) ?_
  rw [len_of S101 M101]
  refine own_st (mkF m 6 #[rv a1, iv (20 : Int32), iv (16 : Int32), .unset, .unset, .unset] []) (fun t k => XS.istoreN X100.here hx rfl (hb hby d43_5) rfl (l' := #[rv a1, iv (20 : Int32), iv (16 : Int32), .unset, .unset, .unset]) rfl k) ?_
  refine own_st (mkF m 7 #[rv a1, iv (20 : Int32), iv (16 : Int32), .unset, .unset, .unset] [(.int (20 : Int32))]) (fun t k => XS.iloadN X100.here hx rfl (hb hby d43_6) rfl k) ?_
  refine own_st (mkF m 8 #[rv a1, iv (20 : Int32), iv (16 : Int32), .unset, .unset, .unset] [(.ref a1), (.int (20 : Int32))]) (fun t k => XS.aloadN X100.here hx rfl (hb hby d43_7) rfl rfl k) ?_
  obtain ⟨T102, X102, e102, st102⟩ := getF X100 hx hZ hown (host := "") (Or.inl (hw_105 hw)) Via.refl e100 F_c (g := (mkF m 8 #[rv a1, iv (20 : Int32), iv (16 : Int32), .unset, .unset, .unset] [(.ref a1), (.int (20 : Int32))])) rfl rfl (hb hby d43_8)
  refine own_step (g' := (mkF m 11 #[rv a1, iv (20 : Int32), iv (16 : Int32), .unset, .unset, .unset] [(.int (0 : Int32)), (.int (20 : Int32))])) st102 ?_
  refine own_st (mkF m 12 #[rv a1, iv (20 : Int32), iv (16 : Int32), .unset, .unset, .unset] [(.int ((20 : Int32) <<< ((0 : Int32) &&& 31)))]) (fun t k => XS.ishl X102.here hx rfl (hb hby d43_11) rfl k) ?_
  rw [show ((20 : Int32) <<< ((0 : Int32) &&& 31)) = (20 : Int32) from by decide]
  refine own_st (mkF m 13 #[rv a1, iv (20 : Int32), iv (16 : Int32), iv (20 : Int32), .unset, .unset] []) (fun t k => XS.istoreN X102.here hx rfl (hb hby d43_12) rfl (l' := #[rv a1, iv (20 : Int32), iv (16 : Int32), iv (20 : Int32), .unset, .unset]) rfl k) ?_
  refine own_st (mkF m 14 #[rv a1, iv (20 : Int32), iv (16 : Int32), iv (20 : Int32), .unset, .unset] [(.int (20 : Int32))]) (fun t k => XS.iloadN X102.here hx rfl (hb hby d43_13) rfl k) ?_
  refine own_st (mkF m 15 #[rv a1, iv (20 : Int32), iv (16 : Int32), iv (20 : Int32), .unset, .unset] [(.int (16 : Int32)), (.int (20 : Int32))]) (fun t k => XS.iloadN X102.here hx rfl (hb hby d43_14) rfl k) ?_
  refine own_st (mkF m 16 #[rv a1, iv (20 : Int32), iv (16 : Int32), iv (20 : Int32), .unset, .unset] [(.int ((20 : Int32) - (16 : Int32)))]) (fun t k => XS.isub X102.here hx rfl (hb hby d43_15) rfl k) ?_
  rw [show ((20 : Int32) - (16 : Int32)) = (4 : Int32) from by decide]
  refine own_st (mkF m 18 #[rv a1, iv (20 : Int32), iv (16 : Int32), iv (20 : Int32), iv (4 : Int32), .unset] []) (fun t k => XS.istore X102.here hx rfl (hb hby d43_16) rfl (l' := #[rv a1, iv (20 : Int32), iv (16 : Int32), iv (20 : Int32), iv (4 : Int32), .unset]) rfl k) ?_
  refine own_st (mkF m 19 #[rv a1, iv (20 : Int32), iv (16 : Int32), iv (20 : Int32), iv (4 : Int32), .unset] [(.int (16 : Int32))]) (fun t k => XS.iloadN X102.here hx rfl (hb hby d43_18) rfl k) ?_
  refine own_st (mkF m 21 #[rv a1, iv (20 : Int32), iv (16 : Int32), iv (20 : Int32), iv (4 : Int32), .unset] [(.int (4 : Int32)), (.int (16 : Int32))]) (fun t k => XS.iload X102.here hx rfl (hb hby d43_19) rfl k) ?_
  refine own_st (mkF m 22 #[rv a1, iv (20 : Int32), iv (16 : Int32), iv (20 : Int32), iv (4 : Int32), .unset] [(.int (16 : Int32)), (.int (4 : Int32)), (.int (16 : Int32))]) (fun t k => XS.iloadN X102.here hx rfl (hb hby d43_21) rfl k) ?_
  refine own_st (mkF m 23 #[rv a1, iv (20 : Int32), iv (16 : Int32), iv (20 : Int32), iv (4 : Int32), .unset] [(.int (2 : Int32)), (.int (16 : Int32)), (.int (4 : Int32)), (.int (16 : Int32))]) (fun t k => XS.iconst X102.here hx rfl (hb hby d43_22) k) ?_
  refine own_st (mkF m 24 #[rv a1, iv (20 : Int32), iv (16 : Int32), iv (20 : Int32), iv (4 : Int32), .unset] [(.ref a1), (.int (2 : Int32)), (.int (16 : Int32)), (.int (4 : Int32)), (.int (16 : Int32))]) (fun t k => XS.aloadN X102.here hx rfl (hb hby d43_23) rfl rfl k) ?_
  obtain ⟨T103, X103, e103, st103⟩ := getF X102 hx hZ hown (host := "") (Or.inl (hw_105 hw)) Via.refl e102 F_c (g := (mkF m 24 #[rv a1, iv (20 : Int32), iv (16 : Int32), iv (20 : Int32), iv (4 : Int32), .unset] [(.ref a1), (.int (2 : Int32)), (.int (16 : Int32)), (.int (4 : Int32)), (.int (16 : Int32))])) rfl rfl (hb hby d43_24)
  refine own_step (g' := (mkF m 27 #[rv a1, iv (20 : Int32), iv (16 : Int32), iv (20 : Int32), iv (4 : Int32), .unset] [(.int (0 : Int32)), (.int (2 : Int32)), (.int (16 : Int32)), (.int (4 : Int32)), (.int (16 : Int32))])) st103 ?_
  refine own_st (mkF m 28 #[rv a1, iv (20 : Int32), iv (16 : Int32), iv (20 : Int32), iv (4 : Int32), .unset] [(.int ((2 : Int32) <<< ((0 : Int32) &&& 31))), (.int (16 : Int32)), (.int (4 : Int32)), (.int (16 : Int32))]) (fun t k => XS.ishl X103.here hx rfl (hb hby d43_27) rfl k) ?_
  rw [show ((2 : Int32) <<< ((0 : Int32) &&& 31)) = (2 : Int32) from by decide]
  refine own_st (mkF m 29 #[rv a1, iv (20 : Int32), iv (16 : Int32), iv (20 : Int32), iv (4 : Int32), .unset] [(.int ((16 : Int32) + (2 : Int32))), (.int (4 : Int32)), (.int (16 : Int32))]) (fun t k => XS.iadd X103.here hx rfl (hb hby d43_28) rfl k) ?_
  rw [show ((16 : Int32) + (2 : Int32)) = (18 : Int32) from by decide]
  obtain ⟨_, _, ⟨T104, L104, k104, n104⟩, -, X104, ⟨Lc104, hQ104, l104, y104, z104⟩, st104⟩ := Jvm.LawKit.callS X103 hx (y := (⟨"jdk/internal/util/ArraysSupport", "newLength", "(III)I"⟩ : MethodName)) hown (mvT hZ (hw_249 hw)) (mvT hZ (hw_250 hw)) (mvT hZ (hw_251 hw)) (mvT hZ (hw_252 hw)) (by decide) (backOf (W := 0) (own_rm44 l Z a0 hw [] h0 n0 Z0) hZ (hw_252 hw) (hw_251 hw) (by decide) (by decide)) (g := (mkF m 29 #[rv a1, iv (20 : Int32), iv (16 : Int32), iv (20 : Int32), iv (4 : Int32), .unset] [(.int (18 : Int32)), (.int (4 : Int32)), (.int (16 : Int32))])) rfl (by rw [hml]; rfl) (argsL := [(.int (16 : Int32)), (.int (4 : Int32)), (.int (18 : Int32))]) (rest := []) (lenOf pd_11 rfl) rfl (by show 2 * 0 + _ ≤ _; exact Nat.le_of_eq rfl) (hb hby d43_29) (fun _ _ => ⟨rfl, e103, (by decide : 0 + 0 ≤ _), (by decide : 0 + 0 ≤ _)⟩)
  dsimp only [Pt.U, Pt.locs, Pt.cells, Pt.slots] at X104 l104 y104 z104 st104 hQ104
  subst l104 y104 z104
  obtain ⟨rfl, Nq104, e104⟩ := hQ104
  have N104 := Fr.app N0 Nq104
  refine own_step (g' := (mkF m 32 #[rv a1, iv (20 : Int32), iv (16 : Int32), iv (20 : Int32), iv (4 : Int32), .unset] [(.int (34 : Int32))])) st104 ?_
  refine own_st (mkF m 34 #[rv a1, iv (20 : Int32), iv (16 : Int32), iv (20 : Int32), iv (4 : Int32), iv (34 : Int32)] []) (fun t k => XS.istore X104.here hx rfl (hb hby d43_32) rfl (l' := #[rv a1, iv (20 : Int32), iv (16 : Int32), iv (20 : Int32), iv (4 : Int32), iv (34 : Int32)]) rfl k) ?_
  refine own_st (mkF m 36 #[rv a1, iv (20 : Int32), iv (16 : Int32), iv (20 : Int32), iv (4 : Int32), iv (34 : Int32)] [(.int (34 : Int32))]) (fun t k => XS.iload X104.here hx rfl (hb hby d43_34) rfl k) ?_
  refine own_st (mkF m 38 #[rv a1, iv (20 : Int32), iv (16 : Int32), iv (20 : Int32), iv (4 : Int32), iv (34 : Int32)] [(.int (2147483647 : Int32)), (.int (34 : Int32))]) (fun t k => X104.ldcInt hx hown (mvT hZ (hw_255 hw)) (g := (mkF m 36 #[rv a1, iv (20 : Int32), iv (16 : Int32), iv (20 : Int32), iv (4 : Int32), iv (34 : Int32)] [(.int (34 : Int32))])) rfl (hb hby d43_36) _ k) ?_
  refine own_st (mkF m 51 #[rv a1, iv (20 : Int32), iv (16 : Int32), iv (20 : Int32), iv (4 : Int32), iv (34 : Int32)] []) (fun t k => XS.icmpYes X104.here hx rfl (pc0 := 38) (pc' := 51) rfl (hb hby d43_38) rfl (feq (by decide : ¬ ((34 : Int32) = (2147483647 : Int32)))).2 (by decide) (by decide) k) ?_
  refine own_st (mkF m 53 #[rv a1, iv (20 : Int32), iv (16 : Int32), iv (20 : Int32), iv (4 : Int32), iv (34 : Int32)] [(.int (34 : Int32))]) (fun t k => XS.iload X104.here hx rfl (hb hby d43_51) rfl k) ?_
  refine own_st (mkF m 54 #[rv a1, iv (20 : Int32), iv (16 : Int32), iv (20 : Int32), iv (4 : Int32), iv (34 : Int32)] [(.ref a1), (.int (34 : Int32))]) (fun t k => XS.aloadN X104.here hx rfl (hb hby d43_53) rfl rfl k) ?_
  obtain ⟨T105, X105, e105, st105⟩ := getF X104 hx hZ hown (host := "") (Or.inl (hw_105 hw)) Via.refl e104 F_c (g := (mkF m 54 #[rv a1, iv (20 : Int32), iv (16 : Int32), iv (20 : Int32), iv (4 : Int32), iv (34 : Int32)] [(.ref a1), (.int (34 : Int32))])) rfl rfl (hb hby d43_54)
  refine own_step (g' := (mkF m 57 #[rv a1, iv (20 : Int32), iv (16 : Int32), iv (20 : Int32), iv (4 : Int32), iv (34 : Int32)] [(.int (0 : Int32)), (.int (34 : Int32))])) st105 ?_
  refine own_st (mkF m 58 #[rv a1, iv (20 : Int32), iv (16 : Int32), iv (20 : Int32), iv (4 : Int32), iv (34 : Int32)] [(.int ((34 : Int32) >>> ((0 : Int32) &&& 31)))]) (fun t k => XS.ishr X105.here hx rfl (hb hby d43_57) rfl k) ?_
  rw [show ((34 : Int32) >>> ((0 : Int32) &&& 31)) = (34 : Int32) from by decide]
  refine own_ret X105 hlk (v := some (.int (34 : Int32))) (fun h => by rw [hret] at h; cases h) (fun fs hr => X105.ireturnOut hx hret rfl (Or.inl rfl) (hb hby d43_58) hr) ?_ (by decide) (by decide)
  show own_Q43 Z a1 vb kb es h0 n0 _ T105.heap _
  rw [e105]
  exact ⟨rfl, N104, rfl⟩
theorem d45_0 : decode jdk_65_method_121_code 0 = .ok (.iload_n 1, 1) := by decide +kernel
theorem d45_1 : decode jdk_65_method_121_code 1 = .ok (.aload_n 0, 1) := by decide +kernel
theorem d45_2 : decode jdk_65_method_121_code 2 = .ok (.arraylength, 1) := by decide +kernel
theorem d45_3 : decode jdk_65_method_121_code 3 = .ok (.if_icmp .ne 11, 3) := by decide +kernel
theorem d45_14 : decode jdk_65_method_121_code 14 = .ok (.iload_n 1, 1) := by decide +kernel
theorem d45_15 : decode jdk_65_method_121_code 15 = .ok (.newarray .byte, 2) := by decide +kernel
theorem d45_17 : decode jdk_65_method_121_code 17 = .ok (.astore_n 2, 1) := by decide +kernel
theorem d45_18 : decode jdk_65_method_121_code 18 = .ok (.aload_n 0, 1) := by decide +kernel
theorem d45_19 : decode jdk_65_method_121_code 19 = .ok (.iconst 0, 1) := by decide +kernel
theorem d45_20 : decode jdk_65_method_121_code 20 = .ok (.aload_n 2, 1) := by decide +kernel
theorem d45_21 : decode jdk_65_method_121_code 21 = .ok (.iconst 0, 1) := by decide +kernel
theorem d45_22 : decode jdk_65_method_121_code 22 = .ok (.aload_n 0, 1) := by decide +kernel
theorem d45_23 : decode jdk_65_method_121_code 23 = .ok (.arraylength, 1) := by decide +kernel
theorem d45_24 : decode jdk_65_method_121_code 24 = .ok (.iload_n 1, 1) := by decide +kernel
theorem d45_25 : decode jdk_65_method_121_code 25 = .ok (.invokestatic 304, 3) := by decide +kernel
theorem hw_197 {a0 Z} (hw : own_W a0 Z) : (Jvm.Cond.methodLink "java/util/Arrays" (304 : Nat) ({ cls := "java/lang/Math", name := "min", desc := "(II)I" } : Jvm.MethodName)).before a0 Z = true := hw _ (List.mem_of_getElem? (i := 197) rfl)
theorem hw_200 {a0 Z} (hw : own_W a0 Z) : (Jvm.Cond.code ({ cls := "java/lang/Math", name := "min", desc := "(II)I" } : Jvm.MethodName) jdk_29_method_69_code (2 : Nat) (Option.some Jvm.ClassFile.FieldType.int)).before a0 Z = true := hw _ (List.mem_of_getElem? (i := 200) rfl)
theorem hw_198 {a0 Z} (hw : own_W a0 Z) : (Jvm.Cond.static ({ cls := "java/lang/Math", name := "min", desc := "(II)I" } : Jvm.MethodName)).before a0 Z = true := hw _ (List.mem_of_getElem? (i := 198) rfl)
theorem d45_28 : decode jdk_65_method_121_code 28 = .ok (.invokestatic 150, 3) := by decide +kernel
theorem hw_201 {a0 Z} (hw : own_W a0 Z) : (Jvm.Cond.methodLink "java/util/Arrays" (150 : Nat) ({ cls := "java/lang/System", name := "arraycopy", desc := "(Ljava/lang/Object;ILjava/lang/Object;II)V" } : Jvm.MethodName)).before a0 Z = true := hw _ (List.mem_of_getElem? (i := 201) rfl)
theorem d45_31 : decode jdk_65_method_121_code 31 = .ok (.aload_n 2, 1) := by decide +kernel
theorem d45_32 : decode jdk_65_method_121_code 32 = .ok (.areturn, 1) := by decide +kernel
theorem pn_45 : plainName "java/util/Arrays" = true := by first | (simp [plainName, overriddenIn]; done) | decide +kernel
theorem own_ef45 (m : MethodId) (r1 : Addr) : entryFrame m #[(.ref r1), (.int (34 : Int32))] 3 = mkF m 0 #[rv r1, iv (34 : Int32), .unset] [] := by first | (simp [entryFrame, mkF, argsToLocals, Value.category]; done) | rfl
def own_Q45 (Z : State) (r1 : Addr) (kb : ClassId) (es : List Int32) (h0 : Heap) (n0 : Nat) (v : Option Value) (h : Heap) (L : List Loc) : Prop := ∃ (vb : Addr) (kb : ClassId), v = some (.ref vb) ∧ Fr n0 L ∧ Keep h0 h [] ∧ h0.size ≤ vb ∧ Arv Z h vb kb .byte (34 : Int32) ((es ++ List.replicate 18 (0 : Int32)).map Value.int) (.int (0 : Int32))
set_option maxRecDepth 65536 in
set_option maxHeartbeats 40000000 in
theorem own_rm45 (l : Launch) (Z : State) (a0 : Array Value) (hw : own_W a0 Z) (ws : List Jvm.Cond) (r1 : Addr) (kb : ClassId) (es : List Int32) (h0 : Heap) (n0 : Nat) (Z0 : n0 ≤ h0.size) (hes : es.length = 16) (V0 : Arv Z h0 r1 kb .byte (16 : Int32) ((es).map Value.int) (.int (0 : Int32))) :
    MetFree l (⟨"java/util/Arrays", "copyOf", "([BI)[B"⟩ : MethodName) (head1 (Jvm.Cond.code (⟨"java/util/Arrays", "copyOf", "([BI)[B"⟩ : MethodName) jdk_65_method_121_code 3 (some (.array .byte)) :: ws) ({ frames := 1, cells := 1, slots := 34, locals := 18 } : Room)) (fun a U => a = #[(.ref r1), (.int (34 : Int32))] ∧ Z.Warmed39 U.vm ∧ U.heap = h0) (fun _ _ _ _ _ => True) (fun _ U o U' => ∃ v L, o = .returned v ∧ own_Q45 Z r1 kb es h0 n0 v U'.heap L ∧ FrameEnd U o U' L ({ frames := 1, cells := 1, slots := 34, locals := 18 } : Room).cells ({ frames := 1, cells := 1, slots := 34, locals := 18 } : Room).slots) := by
  refine own_body (plainFor_of_name pn_45) (fun m => own_ef45 m r1) ?_
  intro p e s m below meth c T0 X0 hx hby hml hZ hown hnm hret hlk e0
  have hown : s.vm.findClass "java/util/Arrays" = some m.cls := hown
  have hnm : meth.name = "copyOf" := hnm
  have N0 := Fr.nil n0
  have K0 : Keep h0 h0 [] := Keep.refl _ _
  refine own_st (mkF m 1 #[rv r1, iv (34 : Int32), .unset] [(.int (34 : Int32))]) (fun t k => XS.iloadN X0.here hx rfl (hb hby d45_0) rfl k) ?_
  refine own_st (mkF m 2 #[rv r1, iv (34 : Int32), .unset] [(.ref r1), (.int (34 : Int32))]) (fun t k => XS.aloadN X0.here hx rfl (hb hby d45_1) rfl rfl k) ?_
  obtain ⟨cl106, Ar106, -, S106, M106, -, -⟩ := id V0
  refine own_step (T' := T0) (g' := (mkF m 3 #[rv r1, iv (34 : Int32), .unset] [(.int cl106.slots.size.toInt32), (.int (34 : Int32))])) (X0.arraylength hx (by rw [e0]; exact Ar106.1) (State.isArrayOf_alike hZ.alike Ar106.2.1) (g := (mkF m 2 #[rv r1, iv (34 : Int32), .unset] [(.ref r1), (.int (34 : Int32))])) rfl rfl (hb hby d45_2)) ?_
  rw [len_of S106 M106]
  refine own_st (mkF m 14 #[rv r1, iv (34 : Int32), .unset] []) (fun t k => XS.icmpYes X0.here hx rfl (pc0 := 3) (pc' := 14) rfl (hb hby d45_3) rfl (feq (by decide : ¬ ((34 : Int32) = (16 : Int32)))).2 (by decide) (by decide) k) ?_
  refine own_st (mkF m 15 #[rv r1, iv (34 : Int32), .unset] [(.int (34 : Int32))]) (fun t k => XS.iloadN X0.here hx rfl (hb hby d45_14) rfl k) ?_
  obtain ⟨T107, h107, k107, X107, e107, E107, A107, B107, st107⟩ := newPE (aty := .byte) X0 hx hZ (hw_71 hw) e0 (g := (mkF m 15 #[rv r1, iv (34 : Int32), .unset] [(.int (34 : Int32))])) rfl (hb hby d45_15) rfl (by decide) (cap := 34) (by decide) (by decide) (by decide) (by decide) (ad := "[B") (by decide)
  obtain ⟨b107, g107⟩ : ∃ z, z = h0.size := ⟨_, rfl⟩
  rw [← g107] at A107 B107 st107
  have E_107 : Ext h0 h107 := E107
  have g_b107 : n0 ≤ b107 := Nat.le_trans Z0 (Nat.le_of_eq g107.symm)
  have ne_r1_b107 : r1 ≠ b107 := Nat.ne_of_lt (Nat.lt_of_lt_of_le V0.lt (Nat.le_of_eq g107.symm))
  have sz_b107 : h0.size ≤ b107 := Nat.le_trans K0.1 (Nat.le_of_eq g107.symm)
  have Kp107 : Keep h0 h107 [] := K0.ext E107
  have Z107 : n0 ≤ h107.size := Nat.le_trans Z0 E107.1
  have f1_Arv_r1 : Arv Z h107 r1 kb .byte (16 : Int32) ((es).map Value.int) (.int (0 : Int32)) := (V0.ext E107)
  have V107 : Arv Z h107 b107 k107 .byte (34 : Int32) ((List.replicate 34 (0 : Int32)).map Value.int) (.int (0 : Int32)) := (Arv.new A107 (by decide)).pad (own_pad0 34)
  refine own_step (g' := (mkF m 17 #[rv r1, iv (34 : Int32), .unset] [(.ref b107)])) st107 ?_
  refine own_st (mkF m 18 #[rv r1, iv (34 : Int32), rv b107] []) (fun t k => XS.astoreN X107.here hx rfl (hb hby d45_17) rfl rfl (l' := #[rv r1, iv (34 : Int32), rv b107]) rfl k) ?_
  refine own_st (mkF m 19 #[rv r1, iv (34 : Int32), rv b107] [(.ref r1)]) (fun t k => XS.aloadN X107.here hx rfl (hb hby d45_18) rfl rfl k) ?_
  refine own_st (mkF m 20 #[rv r1, iv (34 : Int32), rv b107] [(.int (0 : Int32)), (.ref r1)]) (fun t k => XS.iconst X107.here hx rfl (hb hby d45_19) k) ?_
  refine own_st (mkF m 21 #[rv r1, iv (34 : Int32), rv b107] [(.ref b107), (.int (0 : Int32)), (.ref r1)]) (fun t k => XS.aloadN X107.here hx rfl (hb hby d45_20) rfl rfl k) ?_
  refine own_st (mkF m 22 #[rv r1, iv (34 : Int32), rv b107] [(.int (0 : Int32)), (.ref b107), (.int (0 : Int32)), (.ref r1)]) (fun t k => XS.iconst X107.here hx rfl (hb hby d45_21) k) ?_
  refine own_st (mkF m 23 #[rv r1, iv (34 : Int32), rv b107] [(.ref r1), (.int (0 : Int32)), (.ref b107), (.int (0 : Int32)), (.ref r1)]) (fun t k => XS.aloadN X107.here hx rfl (hb hby d45_22) rfl rfl k) ?_
  obtain ⟨cl108, Ar108, -, S108, M108, -, -⟩ := id f1_Arv_r1
  refine own_step (T' := T107) (g' := (mkF m 24 #[rv r1, iv (34 : Int32), rv b107] [(.int cl108.slots.size.toInt32), (.int (0 : Int32)), (.ref b107), (.int (0 : Int32)), (.ref r1)])) (X107.arraylength hx (by rw [e107]; exact Ar108.1) (State.isArrayOf_alike hZ.alike Ar108.2.1) (g := (mkF m 23 #[rv r1, iv (34 : Int32), rv b107] [(.ref r1), (.int (0 : Int32)), (.ref b107), (.int (0 : Int32)), (.ref r1)])) rfl rfl (hb hby d45_23)) ?_
  rw [len_of S108 M108]
  refine own_st (mkF m 25 #[rv r1, iv (34 : Int32), rv b107] [(.int (34 : Int32)), (.int (16 : Int32)), (.int (0 : Int32)), (.ref b107), (.int (0 : Int32)), (.ref r1)]) (fun t k => XS.iloadN X107.here hx rfl (hb hby d45_24) rfl k) ?_
  obtain ⟨_, _, ⟨T109, L109, k109, n109⟩, -, X109, ⟨Lc109, hQ109, l109, y109, z109⟩, st109⟩ := Jvm.LawKit.callS X107 hx (y := (⟨"java/lang/Math", "min", "(II)I"⟩ : MethodName)) hown (mvT hZ (hw_197 hw)) (mvT hZ (hw_198 hw)) (mvT hZ (hw_199 hw)) (mvT hZ (hw_200 hw)) (by decide) (backOf (W := 4) (own_rm35 l Z a0 hw [] (16 : Int32) (34 : Int32) h107 n0 Z107) hZ (hw_200 hw) (hw_199 hw) (by decide) (by decide)) (g := (mkF m 25 #[rv r1, iv (34 : Int32), rv b107] [(.int (34 : Int32)), (.int (16 : Int32)), (.int (0 : Int32)), (.ref b107), (.int (0 : Int32)), (.ref r1)])) rfl (by rw [hml]; rfl) (argsL := [(.int (16 : Int32)), (.int (34 : Int32))]) (rest := [(.int (0 : Int32)), (.ref b107), (.int (0 : Int32)), (.ref r1)]) (lenOf pd_10 rfl) rfl (by show 2 * 0 + _ ≤ _; exact Nat.le_of_eq rfl) (hb hby d45_25) (fun _ _ => ⟨rfl, e107, (by decide : 1 + 0 ≤ _), (by decide : 34 + 0 ≤ _)⟩)
  dsimp only [Pt.U, Pt.locs, Pt.cells, Pt.slots] at X109 l109 y109 z109 st109 hQ109
  subst l109 y109 z109
  obtain ⟨rfl, Nq109, e109⟩ := hQ109
  have N109 := Fr.app N0 Nq109
  refine own_step (g' := (mkF m 28 #[rv r1, iv (34 : Int32), rv b107] [(.int (own_min32 (16 : Int32) (34 : Int32))), (.int (0 : Int32)), (.ref b107), (.int (0 : Int32)), (.ref r1)])) st109 ?_
  rw [show (own_min32 (16 : Int32) (34 : Int32)) = (16 : Int32) from by decide]
  obtain ⟨T110, h110, Lc110, X110, e110, N110, K110, V110, st110⟩ := own_copyAt (pre := []) (rs := List.replicate 34 (0 : Int32)) X109 hx hZ hown (hw_201 hw) (hw_153 hw) (hw_151 hw) (hw_152 hw) e109 f1_Arv_r1 V107 rfl (by rw [hes]; rfl) (by rw [hes]; rfl) rfl (by rw [hes]; simp) (n0 := n0) N109 g_b107 (g := (mkF m 28 #[rv r1, iv (34 : Int32), rv b107] [(.int (16 : Int32)), (.int (0 : Int32)), (.ref b107), (.int (0 : Int32)), (.ref r1)])) rfl (by rw [hml]; rfl) rfl (hb hby d45_28) (by decide) (W := 0) (by show 2 * 0 + _ ≤ _; exact Nat.le_of_eq rfl) (by decide)
  have Z110 : n0 ≤ h110.size := Nat.le_trans Z107 K110.1
  have Kp110 : Keep h0 h110 [] := Kp107.trans K110 (allS (Or.inr sz_b107) all0)
  have f2_Arv_r1 : Arv Z h110 r1 kb .byte (16 : Int32) ((es).map Value.int) (.int (0 : Int32)) := (f1_Arv_r1.keep K110 (ninS ne_r1_b107 nin0))
  have f3_Exa_b107 : Exa Z h110 b107 "[B" := (B107.keep K110)
  have Vr110 : Arv Z h110 b107 k107 .byte (34 : Int32) ((es ++ List.replicate 18 (0 : Int32)).map Value.int) (.int (0 : Int32)) := by have q := V110; rw [hes, List.drop_replicate] at q; exact q
  refine own_step (g' := (mkF m 31 #[rv r1, iv (34 : Int32), rv b107] [])) st110 ?_
  refine own_st (mkF m 32 #[rv r1, iv (34 : Int32), rv b107] [(.ref b107)]) (fun t k => XS.aloadN X110.here hx rfl (hb hby d45_31) rfl rfl k) ?_
  refine own_ret X110 hlk (v := some (.ref b107)) (fun h => by rw [hret] at h; cases h) (fun fs hr => X110.areturnOut hx (w := (.ref b107)) rfl hret rfl (hb hby d45_32) hr) ?_ (by decide) (by decide)
  show own_Q45 Z r1 kb es h0 n0 _ T110.heap _
  rw [e110]
  exact ⟨b107, k107, rfl, N110, Kp110, sz_b107, Vr110⟩
theorem d21_17 : decode jdk_68_method_9_code 17 = .ok (.aload_n 0, 1) := by decide +kernel
theorem d21_18 : decode jdk_68_method_9_code 18 = .ok (.aload_n 0, 1) := by decide +kernel
theorem d21_19 : decode jdk_68_method_9_code 19 = .ok (.getfield 15, 3) := by decide +kernel
theorem d21_22 : decode jdk_68_method_9_code 22 = .ok (.aload_n 0, 1) := by decide +kernel
theorem d21_23 : decode jdk_68_method_9_code 23 = .ok (.iload_n 1, 1) := by decide +kernel
theorem d21_24 : decode jdk_68_method_9_code 24 = .ok (.invokevirtual 104, 3) := by decide +kernel
theorem hw_244 {a0 Z} (hw : own_W a0 Z) : (Jvm.Cond.methodLink "java/lang/AbstractStringBuilder" (104 : Nat) ({ cls := "java/lang/AbstractStringBuilder", name := "newCapacity", desc := "(I)I" } : Jvm.MethodName)).before a0 Z = true := hw _ (List.mem_of_getElem? (i := 244) rfl)
theorem hw_248 {a0 Z} (hw : own_W a0 Z) : (Jvm.Cond.code ({ cls := "java/lang/AbstractStringBuilder", name := "newCapacity", desc := "(I)I" } : Jvm.MethodName) jdk_68_method_10_code (6 : Nat) (Option.some Jvm.ClassFile.FieldType.int)).before a0 Z = true := hw _ (List.mem_of_getElem? (i := 248) rfl)
theorem pd_12 : parseMethodDescriptor "(I)I" = some ⟨[.int], some .int⟩ := by decide +kernel
theorem hw_247 {a0 Z} (hw : own_W a0 Z) : (Jvm.Cond.selects "java/lang/StringBuilder" ({ cls := "java/lang/AbstractStringBuilder", name := "newCapacity", desc := "(I)I" } : Jvm.MethodName) ({ cls := "java/lang/AbstractStringBuilder", name := "newCapacity", desc := "(I)I" } : Jvm.MethodName)).before a0 Z = true := hw _ (List.mem_of_getElem? (i := 247) rfl)
theorem hw_245 {a0 Z} (hw : own_W a0 Z) : (Jvm.Cond.instanceMethod ({ cls := "java/lang/AbstractStringBuilder", name := "newCapacity", desc := "(I)I" } : Jvm.MethodName)).before a0 Z = true := hw _ (List.mem_of_getElem? (i := 245) rfl)
theorem d21_27 : decode jdk_68_method_9_code 27 = .ok (.aload_n 0, 1) := by decide +kernel
theorem d21_28 : decode jdk_68_method_9_code 28 = .ok (.getfield 22, 3) := by decide +kernel
theorem d21_31 : decode jdk_68_method_9_code 31 = .ok (.ishl, 1) := by decide +kernel
theorem d21_32 : decode jdk_68_method_9_code 32 = .ok (.invokestatic 108, 3) := by decide +kernel
theorem hw_256 {a0 Z} (hw : own_W a0 Z) : (Jvm.Cond.methodLink "java/lang/AbstractStringBuilder" (108 : Nat) ({ cls := "java/util/Arrays", name := "copyOf", desc := "([BI)[B" } : Jvm.MethodName)).before a0 Z = true := hw _ (List.mem_of_getElem? (i := 256) rfl)
theorem hw_258 {a0 Z} (hw : own_W a0 Z) : (Jvm.Cond.code ({ cls := "java/util/Arrays", name := "copyOf", desc := "([BI)[B" } : Jvm.MethodName) jdk_65_method_121_code (3 : Nat) (Option.some (Jvm.ClassFile.FieldType.array Jvm.ClassFile.FieldType.byte))).before a0 Z = true := hw _ (List.mem_of_getElem? (i := 258) rfl)
theorem hw_189 {a0 Z} (hw : own_W a0 Z) : (Jvm.Cond.initialized "java/util/Arrays").before a0 Z = true := hw _ (List.mem_of_getElem? (i := 189) rfl)
theorem pd_13 : parseMethodDescriptor "([BI)[B" = some ⟨[(.array .byte), .int], some (.array .byte)⟩ := by decide +kernel
theorem hw_257 {a0 Z} (hw : own_W a0 Z) : (Jvm.Cond.static ({ cls := "java/util/Arrays", name := "copyOf", desc := "([BI)[B" } : Jvm.MethodName)).before a0 Z = true := hw _ (List.mem_of_getElem? (i := 257) rfl)
theorem d21_35 : decode jdk_68_method_9_code 35 = .ok (.putfield 15, 3) := by decide +kernel
theorem own_ef21_3_17 (m : MethodId) (a1 : Addr) : entryFrame m #[(.ref a1), (.int (20 : Int32))] 3 = mkF m 0 #[rv a1, iv (20 : Int32), .unset] [] := by first | (simp [entryFrame, mkF, argsToLocals, Value.category]; done) | rfl
def own_Q21_3_17 (Z : State) (a1 : Addr) (v0 : Addr) (k0 : ClassId) (pre : List Int32) (h0 : Heap) (n0 : Nat) (v : Option Value) (h : Heap) (L : List Loc) : Prop := ∃ (vb : Addr) (kb : ClassId), v = none ∧ Fr n0 L ∧ Keep h0 h [a1] ∧ h0.size ≤ vb ∧ Exa Z h a1 "java/lang/StringBuilder" ∧ Fld Z h a1 "java/lang/AbstractStringBuilder" "value" "[B" (.ref vb) ∧ Fld Z h a1 "java/lang/AbstractStringBuilder" "coder" "B" (.int (0 : Int32)) ∧ Fld Z h a1 "java/lang/AbstractStringBuilder" "count" "I" (.int (3 : Int32)) ∧ Arv Z h vb kb .byte (34 : Int32) ((pre ++ List.replicate 31 (0 : Int32)).map Value.int) (.int (0 : Int32))
set_option maxRecDepth 65536 in
set_option maxHeartbeats 40000000 in
theorem own_rm21_3_17 (l : Launch) (Z : State) (a0 : Array Value) (hw : own_W a0 Z) (ws : List Jvm.Cond) (a1 : Addr) (v0 : Addr) (k0 : ClassId) (pre : List Int32) (h0 : Heap) (n0 : Nat) (Z0 : n0 ≤ h0.size) (hpre : pre.length = 3) (E_a1 : Exa Z h0 a1 "java/lang/StringBuilder") (F_v : Fld Z h0 a1 "java/lang/AbstractStringBuilder" "value" "[B" (.ref v0)) (F_c : Fld Z h0 a1 "java/lang/AbstractStringBuilder" "coder" "B" (.int (0 : Int32))) (F_n : Fld Z h0 a1 "java/lang/AbstractStringBuilder" "count" "I" (.int (3 : Int32))) (V0 : Arv Z h0 v0 k0 .byte (16 : Int32) ((pre ++ List.replicate 13 (0 : Int32)).map Value.int) (.int (0 : Int32))) (g_a1 : n0 ≤ a1) (ne_av : a1 ≠ v0) :
    MetFree l (⟨"java/lang/AbstractStringBuilder", "ensureCapacityInternal", "(I)V"⟩ : MethodName) (head1 (Jvm.Cond.code (⟨"java/lang/AbstractStringBuilder", "ensureCapacityInternal", "(I)V"⟩ : MethodName) jdk_68_method_9_code 3 none :: ws) ({ frames := 3, cells := 1, slots := 34, locals := 48 } : Room)) (fun a U => a = #[(.ref a1), (.int (20 : Int32))] ∧ Z.Warmed39 U.vm ∧ U.heap = h0) (fun _ _ _ _ _ => True) (fun _ U o U' => ∃ v L, o = .returned v ∧ own_Q21_3_17 Z a1 v0 k0 pre h0 n0 v U'.heap L ∧ FrameEnd U o U' L ({ frames := 3, cells := 1, slots := 34, locals := 48 } : Room).cells ({ frames := 3, cells := 1, slots := 34, locals := 48 } : Room).slots) := by
  refine own_body (plainFor_of_name pn_16) (fun m => own_ef21_3_17 m a1) ?_
  intro p e s m below meth c T0 X0 hx hby hml hZ hown hnm hret hlk e0
  have hown : s.vm.findClass "java/lang/AbstractStringBuilder" = some m.cls := hown
  have hnm : meth.name = "ensureCapacityInternal" := hnm
  have N0 := Fr.nil n0
  have K0 : Keep h0 h0 [a1] := Keep.refl _ _
  refine own_st (mkF m 1 #[rv a1, iv (20 : Int32), .unset] [(.ref a1)]) (fun t k => XS.aloadN X0.here hx rfl (hb hby d21_0) rfl rfl k) ?_
  obtain ⟨T111, X111, e111, st111⟩ := getF X0 hx hZ hown (host := "") (Or.inl (hw_103 hw)) Via.refl e0 F_v (g := (mkF m 1 #[rv a1, iv (20 : Int32), .unset] [(.ref a1)])) rfl rfl (hb hby d21_1)
  refine own_step (g' := (mkF m 4 #[rv a1, iv (20 : Int32), .unset] [(.ref v0)])) st111 ?_
  obtain ⟨cl112, Ar112, -, S112, M112, -, -⟩ := id V0
  refine own_step (T' := T111) (g' := (mkF m 5 #[rv a1, iv (20 : Int32), .unset] [(.int cl112.slots.size.toInt32)])) (X111.arraylength hx (by rw [e111]; exact Ar112.1) (State.isArrayOf_alike hZ.alike Ar112.2.1) (g := (mkF m 4 #[rv a1, iv (20 : Int32), .unset] [(.ref v0)])) rfl rfl (hb hby d21_4)) ?_
  rw [len_of S112 M112]
  refine own_st (mkF m 6 #[rv a1, iv (20 : Int32), .unset] [(.ref a1), (.int (16 : Int32))]) (fun t k => XS.aloadN X111.here hx rfl (hb hby d21_5) rfl rfl k) ?_
  obtain ⟨T113, X113, e113, st113⟩ := getF X111 hx hZ hown (host := "") (Or.inl (hw_105 hw)) Via.refl e111 F_c (g := (mkF m 6 #[rv a1, iv (20 : Int32), .unset] [(.ref a1), (.int (16 : Int32))])) rfl rfl (hb hby d21_6)
  refine own_step (g' := (mkF m 9 #[rv a1, iv (20 : Int32), .unset] [(.int (0 : Int32)), (.int (16 : Int32))])) st113 ?_
  refine own_st (mkF m 10 #[rv a1, iv (20 : Int32), .unset] [(.int ((16 : Int32) >>> ((0 : Int32) &&& 31)))]) (fun t k => XS.ishr X113.here hx rfl (hb hby d21_9) rfl k) ?_
  rw [show ((16 : Int32) >>> ((0 : Int32) &&& 31)) = (16 : Int32) from by decide]
  refine own_st (mkF m 11 #[rv a1, iv (20 : Int32), iv (16 : Int32)] []) (fun t k => XS.istoreN X113.here hx rfl (hb hby d21_10) rfl (l' := #[rv a1, iv (20 : Int32), iv (16 : Int32)]) rfl k) ?_
  refine own_st (mkF m 12 #[rv a1, iv (20 : Int32), iv (16 : Int32)] [(.int (20 : Int32))]) (fun t k => XS.iloadN X113.here hx rfl (hb hby d21_11) rfl k) ?_
  refine own_st (mkF m 13 #[rv a1, iv (20 : Int32), iv (16 : Int32)] [(.int (16 : Int32)), (.int (20 : Int32))]) (fun t k => XS.iloadN X113.here hx rfl (hb hby d21_12) rfl k) ?_
  refine own_st (mkF m 14 #[rv a1, iv (20 : Int32), iv (16 : Int32)] [(.int ((20 : Int32) - (16 : Int32)))]) (fun t k => XS.isub X113.here hx rfl (hb hby d21_13) rfl k) ?_
  rw [show ((20 : Int32) - (16 : Int32)) = (4 : Int32) from by decide]
  refine own_st (mkF m 17 #[rv a1, iv (20 : Int32), iv (16 : Int32)] []) (fun t k => XS.ifNo X113.here hx rfl (hb hby d21_14) rfl ((if0 _ _).trans (tlt (by decide : (0 : Int32) < (4 : Int32))).2.2.2) k) ?_
  refine own_st (mkF m 18 #[rv a1, iv (20 : Int32), iv (16 : Int32)] [(.ref a1)]) (fun t k => XS.aloadN X113.here hx rfl (hb hby d21_17) rfl rfl k) ?_
  refine own_st (mkF m 19 #[rv a1, iv (20 : Int32), iv (16 : Int32)] [(.ref a1), (.ref a1)]) (fun t k => XS.aloadN X113.here hx rfl (hb hby d21_18) rfl rfl k) ?_
  obtain ⟨T114, X114, e114, st114⟩ := getF X113 hx hZ hown (host := "") (Or.inl (hw_103 hw)) Via.refl e113 F_v (g := (mkF m 19 #[rv a1, iv (20 : Int32), iv (16 : Int32)] [(.ref a1), (.ref a1)])) rfl rfl (hb hby d21_19)
  refine own_step (g' := (mkF m 22 #[rv a1, iv (20 : Int32), iv (16 : Int32)] [(.ref v0), (.ref a1)])) st114 ?_
  refine own_st (mkF m 23 #[rv a1, iv (20 : Int32), iv (16 : Int32)] [(.ref a1), (.ref v0), (.ref a1)]) (fun t k => XS.aloadN X114.here hx rfl (hb hby d21_22) rfl rfl k) ?_
  refine own_st (mkF m 24 #[rv a1, iv (20 : Int32), iv (16 : Int32)] [(.int (20 : Int32)), (.ref a1), (.ref v0), (.ref a1)]) (fun t k => XS.iloadN X114.here hx rfl (hb hby d21_23) rfl k) ?_
  obtain ⟨cq115, kq115, q115a, q115b, q115c⟩ := isOf hZ e114 E_a1
  obtain ⟨_, _, ⟨T115, L115, k115, n115⟩, -, X115, ⟨Lc115, hQ115, l115, y115, z115⟩, st115⟩ := X114.virtualBack hx (y := (⟨"java/lang/AbstractStringBuilder", "newCapacity", "(I)I"⟩ : MethodName)) (z := (⟨"java/lang/AbstractStringBuilder", "newCapacity", "(I)I"⟩ : MethodName)) hown (mvT hZ (hw_244 hw)) (mvT hZ (own_declares (hw_245 hw) (hw_248 hw))) (notFace_of_selects (args := #[]) (mvT hZ (hw_247 hw))) (mvT hZ (hw_247 hw)) (mvT hZ (hw_245 hw)) (by decide) (backOf (W := 2) (own_rm43 l Z a0 hw [] a1 v0 k0 (pre ++ List.replicate 13 (0 : Int32)) h0 n0 Z0 E_a1 F_v F_c V0) hZ (hw_248 hw) (hw_99 hw) (by decide) (by decide)) q115a q115c (g := (mkF m 24 #[rv a1, iv (20 : Int32), iv (16 : Int32)] [(.int (20 : Int32)), (.ref a1), (.ref v0), (.ref a1)])) rfl (by rw [hml]; rfl) (Steps.refl _) (argsL := [(.int (20 : Int32))]) (rest := [(.ref v0), (.ref a1)]) (lenOf pd_12 rfl) rfl (by show 2 * 0 + _ ≤ _; exact Nat.le_of_eq rfl) (hb hby d21_24) (fun _ _ => ⟨rfl, e114, (by decide : 0 + 0 ≤ _), (by decide : 0 + 0 ≤ _)⟩)
  dsimp only [Pt.U, Pt.locs, Pt.cells, Pt.slots] at X115 l115 y115 z115 st115 hQ115
  subst l115 y115 z115
  obtain ⟨rfl, Nq115, e115⟩ := hQ115
  have N115 := Fr.app N0 Nq115
  refine own_jump (g' := (mkF m 27 #[rv a1, iv (20 : Int32), iv (16 : Int32)] [(.int (34 : Int32)), (.ref v0), (.ref a1)])) st115 ?_
  refine own_st (mkF m 28 #[rv a1, iv (20 : Int32), iv (16 : Int32)] [(.ref a1), (.int (34 : Int32)), (.ref v0), (.ref a1)]) (fun t k => XS.aloadN X115.here hx rfl (hb hby d21_27) rfl rfl k) ?_
  obtain ⟨T116, X116, e116, st116⟩ := getF X115 hx hZ hown (host := "") (Or.inl (hw_105 hw)) Via.refl e115 F_c (g := (mkF m 28 #[rv a1, iv (20 : Int32), iv (16 : Int32)] [(.ref a1), (.int (34 : Int32)), (.ref v0), (.ref a1)])) rfl rfl (hb hby d21_28)
  refine own_step (g' := (mkF m 31 #[rv a1, iv (20 : Int32), iv (16 : Int32)] [(.int (0 : Int32)), (.int (34 : Int32)), (.ref v0), (.ref a1)])) st116 ?_
  refine own_st (mkF m 32 #[rv a1, iv (20 : Int32), iv (16 : Int32)] [(.int ((34 : Int32) <<< ((0 : Int32) &&& 31))), (.ref v0), (.ref a1)]) (fun t k => XS.ishl X116.here hx rfl (hb hby d21_31) rfl k) ?_
  rw [show ((34 : Int32) <<< ((0 : Int32) &&& 31)) = (34 : Int32) from by decide]
  obtain ⟨_, _, ⟨T117, L117, k117, n117⟩, -, X117, ⟨Lc117, hQ117, l117, y117, z117⟩, st117⟩ := Jvm.LawKit.callS X116 hx (y := (⟨"java/util/Arrays", "copyOf", "([BI)[B"⟩ : MethodName)) hown (mvT hZ (hw_256 hw)) (mvT hZ (hw_257 hw)) (mvT hZ (hw_189 hw)) (mvT hZ (hw_258 hw)) (by decide) (backOf (W := 1) (own_rm45 l Z a0 hw [] v0 k0 (pre ++ List.replicate 13 (0 : Int32)) h0 n0 Z0 (by simp [hpre]) V0) hZ (hw_258 hw) (hw_189 hw) (by decide) (by decide)) (g := (mkF m 32 #[rv a1, iv (20 : Int32), iv (16 : Int32)] [(.int (34 : Int32)), (.ref v0), (.ref a1)])) rfl (by rw [hml]; rfl) (argsL := [(.ref v0), (.int (34 : Int32))]) (rest := [(.ref a1)]) (lenOf pd_13 rfl) rfl (by show 2 * 0 + _ ≤ _; exact Nat.le_of_eq rfl) (hb hby d21_32) (fun _ _ => ⟨rfl, e116, (by decide : 0 + 1 ≤ _), (by decide : 0 + 34 ≤ _)⟩)
  dsimp only [Pt.U, Pt.locs, Pt.cells, Pt.slots] at X117 l117 y117 z117 st117 hQ117
  subst l117 y117 z117
  obtain ⟨vb117, kb117, rfl, Nq117, K117, gb117, V117⟩ := hQ117
  have N117 := Fr.app N115 Nq117
  have g_vb117 : n0 ≤ vb117 := Nat.le_trans Z0 gb117
  have ne_a1_vb117 : a1 ≠ vb117 := Nat.ne_of_lt (Nat.lt_of_lt_of_le E_a1.lt gb117)
  have ne_v0_vb117 : v0 ≠ vb117 := Nat.ne_of_lt (Nat.lt_of_lt_of_le V0.lt gb117)
  have sz_vb117 : h0.size ≤ vb117 := Nat.le_trans K0.1 gb117
  have Z117 : n0 ≤ T117.heap.size := Nat.le_trans Z0 K117.1
  have Kp117 : Keep h0 T117.heap [a1] := K0.trans K117 all0
  have f1_Exa_a1 : Exa Z T117.heap a1 "java/lang/StringBuilder" := (E_a1.keep K117)
  have f2_Fld_a1 : Fld Z T117.heap a1 "java/lang/AbstractStringBuilder" "value" "[B" (.ref v0) := (F_v.keep K117 nin0)
  have f3_Fld_a1 : Fld Z T117.heap a1 "java/lang/AbstractStringBuilder" "coder" "B" (.int (0 : Int32)) := (F_c.keep K117 nin0)
  have f4_Fld_a1 : Fld Z T117.heap a1 "java/lang/AbstractStringBuilder" "count" "I" (.int (3 : Int32)) := (F_n.keep K117 nin0)
  have f5_Arv_v0 : Arv Z T117.heap v0 k0 .byte (16 : Int32) ((pre ++ List.replicate 13 (0 : Int32)).map Value.int) (.int (0 : Int32)) := (V0.keep K117 nin0)
  refine own_step (g' := (mkF m 35 #[rv a1, iv (20 : Int32), iv (16 : Int32)] [(.ref vb117), (.ref a1)])) st117 ?_
  have Vg : Arv Z T117.heap vb117 kb117 .byte (34 : Int32) ((pre ++ List.replicate 31 (0 : Int32)).map Value.int) (.int (0 : Int32)) := by have q := V117; rw [own_rep] at q; exact q
  obtain ⟨T118, h118, X118, e118, W118, st118⟩ := putF X117 hx hZ hown (host := "") (Or.inl (hw_103 hw)) Via.refl rfl f2_Fld_a1 f1_Exa_a1 (Or.inl (hw_104 hw)) (hw_90 hw) (ty := (.array .byte)) (by decide) rfl rfl (g := (mkF m 35 #[rv a1, iv (20 : Int32), iv (16 : Int32)] [(.ref vb117), (.ref a1)])) rfl rfl (hb hby d21_35)
  have f6_Exa_a1 : Exa Z h118 a1 "java/lang/StringBuilder" := (f1_Exa_a1.wr W118)
  have f7_Fld_a1 : Fld Z h118 a1 "java/lang/AbstractStringBuilder" "coder" "B" (.int (0 : Int32)) := (f3_Fld_a1.other W118 (Or.inr (slot_ne (a0 := a0) (C := "java/lang/StringBuilder") (Or.inl (hw_106 hw)) (Or.inl (hw_104 hw)) (by decide) (t := .byte) (t' := (.array .byte)) (by decide) (by decide))))
  have f8_Fld_a1 : Fld Z h118 a1 "java/lang/AbstractStringBuilder" "count" "I" (.int (3 : Int32)) := (f4_Fld_a1.other W118 (Or.inr (slot_ne (a0 := a0) (C := "java/lang/StringBuilder") (Or.inl (hw_128 hw)) (Or.inl (hw_104 hw)) (by decide) (t := .int) (t' := (.array .byte)) (by decide) (by decide))))
  have f9_Arv_v0 : Arv Z h118 v0 k0 .byte (16 : Int32) ((pre ++ List.replicate 13 (0 : Int32)).map Value.int) (.int (0 : Int32)) := (f5_Arv_v0.other W118 (Ne.symm ne_av))
  have f10_Arv_vb117 : Arv Z h118 vb117 kb117 .byte (34 : Int32) ((pre ++ List.replicate 31 (0 : Int32)).map Value.int) (.int (0 : Int32)) := (Vg.other W118 (Ne.symm ne_a1_vb117))
  have fw118 : Fld Z h118 a1 "java/lang/AbstractStringBuilder" "value" "[B" (.ref vb117) := f2_Fld_a1.same W118
  have Z118 : n0 ≤ h118.size := Nat.le_trans Z117 (Keep.of_wr W118).1
  have Kp118 : Keep h0 h118 [a1] := Kp117.wr W118 (Or.inl (List.mem_of_getElem? (i := 0) rfl))
  have N118 := Fr.snoc X118 N117 g_a1
  refine own_step (g' := (mkF m 38 #[rv a1, iv (20 : Int32), iv (16 : Int32)] [])) st118 ?_
  refine own_ret X118 hlk (v := none) (fun _ => rfl) (fun fs hr => X118.returnOut hx hret (hb hby d21_38) hr) ?_ (by decide) (by decide)
  show own_Q21_3_17 Z a1 v0 k0 pre h0 n0 _ T118.heap _
  rw [e118]
  exact ⟨vb117, kb117, rfl, N118, Kp118, sz_vb117, f6_Exa_a1, fw118, f7_Fld_a1, f8_Fld_a1, f10_Arv_vb117⟩
theorem own_ef24_3_17 (m : MethodId) (a1 : Addr) (r2 : Addr) : entryFrame m #[(.ref a1), (.ref r2), (.int (3 : Int32)), (.int (0 : Int32))] 4 = mkF m 0 #[rv a1, rv r2, iv (3 : Int32), iv (0 : Int32)] [] := by first | (simp [entryFrame, mkF, argsToLocals, Value.category]; done) | rfl
def own_Q24_3_17 (Z : State) (a1 : Addr) (r2 : Addr) (r9 : Addr) (k2 : ClassId) (bs : List Int32) (kq : ClassId) (pre : List Int32) (wc : Int32) (wD : Addr) (kD : ClassId) (h0 : Heap) (n0 : Nat) (v : Option Value) (h : Heap) (L : List Loc) : Prop := v = none ∧ Fr n0 L ∧ Keep h0 h [r2] ∧ Arv Z h r2 k2 .byte (34 : Int32) (((pre ++ bs) ++ List.replicate 14 (0 : Int32)).map Value.int) (.int (0 : Int32))
set_option maxRecDepth 65536 in
set_option maxHeartbeats 40000000 in
theorem own_rm24_3_17 (l : Launch) (Z : State) (a0 : Array Value) (hw : own_W a0 Z) (ws : List Jvm.Cond) (a1 : Addr) (r2 : Addr) (r9 : Addr) (k2 : ClassId) (bs : List Int32) (kq : ClassId) (pre : List Int32) (wc : Int32) (wD : Addr) (kD : ClassId) (h0 : Heap) (n0 : Nat) (Z0 : n0 ≤ h0.size) (O0 : Old Z n0 h0) (SS : own_St Z wc wD kD) (hpre : pre.length = 3) (hbl : bs.length = 17) (E_a1 : Exa Z h0 a1 "java/lang/String") (F_v : Fld Z h0 a1 "java/lang/String" "value" "[B" (.ref r9)) (F_c : Fld Z h0 a1 "java/lang/String" "coder" "B" (.int (0 : Int32))) (V0 : Arv Z h0 r9 kq .byte (17 : Int32) ((bs).map Value.int) (.int (0 : Int32))) (V2 : Arv Z h0 r2 k2 .byte (34 : Int32) ((pre ++ List.replicate 31 (0 : Int32)).map Value.int) (.int (0 : Int32))) (g_r2 : n0 ≤ r2) (ne_92 : r9 ≠ r2) (ne_12 : a1 ≠ r2) :
    MetFree l (⟨"java/lang/String", "getBytes", "([BIB)V"⟩ : MethodName) (head1 (Jvm.Cond.code (⟨"java/lang/String", "getBytes", "([BIB)V"⟩ : MethodName) jdk_42_method_147_code 4 none :: ws) ({ frames := 1, cells := 0, slots := 0, locals := 18 } : Room)) (fun a U => a = #[(.ref a1), (.ref r2), (.int (3 : Int32)), (.int (0 : Int32))] ∧ Z.Warmed39 U.vm ∧ U.heap = h0) (fun _ _ _ _ _ => True) (fun _ U o U' => ∃ v L, o = .returned v ∧ own_Q24_3_17 Z a1 r2 r9 k2 bs kq pre wc wD kD h0 n0 v U'.heap L ∧ FrameEnd U o U' L ({ frames := 1, cells := 0, slots := 0, locals := 18 } : Room).cells ({ frames := 1, cells := 0, slots := 0, locals := 18 } : Room).slots) := by
  refine own_body (plainFor_of_name pn_12) (fun m => own_ef24_3_17 m a1 r2) ?_
  intro p e s m below meth c T0 X0 hx hby hml hZ hown hnm hret hlk e0
  have hown : s.vm.findClass "java/lang/String" = some m.cls := hown
  have hnm : meth.name = "getBytes" := hnm
  have N0 := Fr.nil n0
  have K0 : Keep h0 h0 [r2] := Keep.refl _ _
  refine own_st (mkF m 1 #[rv a1, rv r2, iv (3 : Int32), iv (0 : Int32)] [(.ref a1)]) (fun t k => XS.aloadN X0.here hx rfl (hb hby d24_0) rfl rfl k) ?_
  obtain ⟨cq119, kq119, q119a, q119b, q119c⟩ := isOf hZ e0 E_a1
  obtain ⟨_, _, ⟨T119, L119, k119, n119⟩, -, X119, ⟨Lc119, hQ119, l119, y119, z119⟩, st119⟩ := X0.virtualBack hx (y := (⟨"java/lang/String", "coder", "()B"⟩ : MethodName)) (z := (⟨"java/lang/String", "coder", "()B"⟩ : MethodName)) hown (mvT hZ (hw_122 hw)) (mvT hZ (hw_123 hw)) (notFace_of_selects (args := #[]) (mvT hZ (hw_125 hw))) (mvT hZ (hw_125 hw)) (mvT hZ (hw_124 hw)) (by decide) (backOf (W := 0) (own_rm20 l Z a0 hw [] a1 wc wD kD h0 n0 Z0 O0 SS F_c) hZ (hw_126 hw) (hw_59 hw) (by decide) (by decide)) q119a q119c (g := (mkF m 1 #[rv a1, rv r2, iv (3 : Int32), iv (0 : Int32)] [(.ref a1)])) rfl (by rw [hml]; rfl) (Steps.refl _) (argsL := []) (rest := []) (lenOf pd_4 rfl) rfl (by show 2 * 0 + _ ≤ _; exact Nat.le_of_eq rfl) (hb hby d24_1) (fun _ _ => ⟨rfl, e0, (by decide : 0 + 0 ≤ _), (by decide : 0 + 0 ≤ _)⟩)
  dsimp only [Pt.U, Pt.locs, Pt.cells, Pt.slots] at X119 l119 y119 z119 st119 hQ119
  subst l119 y119 z119
  obtain ⟨rfl, Nq119, e119⟩ := hQ119
  have N119 := Fr.app N0 Nq119
  refine own_jump (g' := (mkF m 4 #[rv a1, rv r2, iv (3 : Int32), iv (0 : Int32)] [(.int (0 : Int32))])) st119 ?_
  refine own_st (mkF m 5 #[rv a1, rv r2, iv (3 : Int32), iv (0 : Int32)] [(.int (0 : Int32)), (.int (0 : Int32))]) (fun t k => XS.iloadN X119.here hx rfl (hb hby d24_4) rfl k) ?_
  refine own_st (mkF m 8 #[rv a1, rv r2, iv (3 : Int32), iv (0 : Int32)] []) (fun t k => XS.icmpNo X119.here hx rfl (hb hby d24_5) rfl (teq (by decide : (0 : Int32) = (0 : Int32))).2 k) ?_
  refine own_st (mkF m 9 #[rv a1, rv r2, iv (3 : Int32), iv (0 : Int32)] [(.ref a1)]) (fun t k => XS.aloadN X119.here hx rfl (hb hby d24_8) rfl rfl k) ?_
  obtain ⟨T120, X120, e120, st120⟩ := getF X119 hx hZ hown (host := "") (Or.inl (hw_77 hw)) Via.refl e119 F_v (g := (mkF m 9 #[rv a1, rv r2, iv (3 : Int32), iv (0 : Int32)] [(.ref a1)])) rfl rfl (hb hby d24_9)
  refine own_step (g' := (mkF m 12 #[rv a1, rv r2, iv (3 : Int32), iv (0 : Int32)] [(.ref r9)])) st120 ?_
  refine own_st (mkF m 13 #[rv a1, rv r2, iv (3 : Int32), iv (0 : Int32)] [(.int (0 : Int32)), (.ref r9)]) (fun t k => XS.iconst X120.here hx rfl (hb hby d24_12) k) ?_
  refine own_st (mkF m 14 #[rv a1, rv r2, iv (3 : Int32), iv (0 : Int32)] [(.ref r2), (.int (0 : Int32)), (.ref r9)]) (fun t k => XS.aloadN X120.here hx rfl (hb hby d24_13) rfl rfl k) ?_
  refine own_st (mkF m 15 #[rv a1, rv r2, iv (3 : Int32), iv (0 : Int32)] [(.int (3 : Int32)), (.ref r2), (.int (0 : Int32)), (.ref r9)]) (fun t k => XS.iloadN X120.here hx rfl (hb hby d24_14) rfl k) ?_
  refine own_st (mkF m 16 #[rv a1, rv r2, iv (3 : Int32), iv (0 : Int32)] [(.int (0 : Int32)), (.int (3 : Int32)), (.ref r2), (.int (0 : Int32)), (.ref r9)]) (fun t k => XS.iloadN X120.here hx rfl (hb hby d24_15) rfl k) ?_
  refine own_st (mkF m 17 #[rv a1, rv r2, iv (3 : Int32), iv (0 : Int32)] [(.int ((3 : Int32) <<< ((0 : Int32) &&& 31))), (.ref r2), (.int (0 : Int32)), (.ref r9)]) (fun t k => XS.ishl X120.here hx rfl (hb hby d24_16) rfl k) ?_
  rw [show ((3 : Int32) <<< ((0 : Int32) &&& 31)) = (3 : Int32) from by decide]
  refine own_st (mkF m 18 #[rv a1, rv r2, iv (3 : Int32), iv (0 : Int32)] [(.ref a1), (.int (3 : Int32)), (.ref r2), (.int (0 : Int32)), (.ref r9)]) (fun t k => XS.aloadN X120.here hx rfl (hb hby d24_17) rfl rfl k) ?_
  obtain ⟨T121, X121, e121, st121⟩ := getF X120 hx hZ hown (host := "") (Or.inl (hw_77 hw)) Via.refl e120 F_v (g := (mkF m 18 #[rv a1, rv r2, iv (3 : Int32), iv (0 : Int32)] [(.ref a1), (.int (3 : Int32)), (.ref r2), (.int (0 : Int32)), (.ref r9)])) rfl rfl (hb hby d24_18)
  refine own_step (g' := (mkF m 21 #[rv a1, rv r2, iv (3 : Int32), iv (0 : Int32)] [(.ref r9), (.int (3 : Int32)), (.ref r2), (.int (0 : Int32)), (.ref r9)])) st121 ?_
  obtain ⟨cl122, Ar122, -, S122, M122, -, -⟩ := id V0
  refine own_step (T' := T121) (g' := (mkF m 22 #[rv a1, rv r2, iv (3 : Int32), iv (0 : Int32)] [(.int cl122.slots.size.toInt32), (.int (3 : Int32)), (.ref r2), (.int (0 : Int32)), (.ref r9)])) (X121.arraylength hx (by rw [e121]; exact Ar122.1) (State.isArrayOf_alike hZ.alike Ar122.2.1) (g := (mkF m 21 #[rv a1, rv r2, iv (3 : Int32), iv (0 : Int32)] [(.ref r9), (.int (3 : Int32)), (.ref r2), (.int (0 : Int32)), (.ref r9)])) rfl rfl (hb hby d24_21)) ?_
  rw [len_of S122 M122]
  obtain ⟨T123, h123, Lc123, X123, e123, N123, K123, V123, st123⟩ := own_copyAt (pre := pre) (rs := List.replicate 31 (0 : Int32)) X121 hx hZ hown (hw_150 hw) (hw_153 hw) (hw_151 hw) (hw_152 hw) e121 V0 V2 (by rw [hpre]; rfl) (by rw [hbl]; rfl) (by rw [hbl]; rfl) (by simp [hpre]) (by rw [hbl]; simp) (n0 := n0) N119 g_r2 (g := (mkF m 22 #[rv a1, rv r2, iv (3 : Int32), iv (0 : Int32)] [(.int (17 : Int32)), (.int (3 : Int32)), (.ref r2), (.int (0 : Int32)), (.ref r9)])) rfl (by rw [hml]; rfl) rfl (hb hby d24_22) (by decide) (W := 0) (by show 2 * 0 + _ ≤ _; exact Nat.le_of_eq rfl) (by decide)
  have Z123 : n0 ≤ h123.size := Nat.le_trans Z0 K123.1
  have O123 : Old Z n0 h123 := O0.keep K123 (allS g_r2 all0)
  have Kp123 : Keep h0 h123 [r2] := K0.trans K123 (allS (Or.inl (List.mem_of_getElem? (i := 0) rfl)) all0)
  have f1_Exa_a1 : Exa Z h123 a1 "java/lang/String" := (E_a1.keep K123)
  have f2_Fld_a1 : Fld Z h123 a1 "java/lang/String" "value" "[B" (.ref r9) := (F_v.keep K123 (ninS ne_12 nin0))
  have f3_Fld_a1 : Fld Z h123 a1 "java/lang/String" "coder" "B" (.int (0 : Int32)) := (F_c.keep K123 (ninS ne_12 nin0))
  have f4_Arv_r9 : Arv Z h123 r9 kq .byte (17 : Int32) ((bs).map Value.int) (.int (0 : Int32)) := (V0.keep K123 (ninS ne_92 nin0))
  have Vr123 : Arv Z h123 r2 k2 .byte (34 : Int32) (((pre ++ bs) ++ List.replicate 14 (0 : Int32)).map Value.int) (.int (0 : Int32)) := by have q := V123; rw [hbl, List.drop_replicate] at q; exact q
  refine own_step (g' := (mkF m 25 #[rv a1, rv r2, iv (3 : Int32), iv (0 : Int32)] [])) st123 ?_
  refine own_st (mkF m 43 #[rv a1, rv r2, iv (3 : Int32), iv (0 : Int32)] []) (fun t k => XS.goto X123.here hx rfl (pc0 := 25) (pc' := 43) rfl (hb hby d24_25) (by decide) (by decide) k) ?_
  refine own_ret X123 hlk (v := none) (fun _ => rfl) (fun fs hr => X123.returnOut hx hret (hb hby d24_43) hr) ?_ (by decide) (by decide)
  show own_Q24_3_17 Z a1 r2 r9 k2 bs kq pre wc wD kD h0 n0 _ T123.heap _
  rw [e123]
  exact ⟨rfl, N123, Kp123, Vr123⟩
theorem own_ef22_3_17 (m : MethodId) (a1 : Addr) (r3 : Addr) : entryFrame m #[(.ref a1), (.int (3 : Int32)), (.ref r3)] 3 = mkF m 0 #[rv a1, iv (3 : Int32), rv r3] [] := by first | (simp [entryFrame, mkF, argsToLocals, Value.category]; done) | rfl
def own_Q22_3_17 (Z : State) (a1 : Addr) (r3 : Addr) (vb : Addr) (kb : ClassId) (r9 : Addr) (bs : List Int32) (kq : ClassId) (pre : List Int32) (wc : Int32) (wD : Addr) (kD : ClassId) (h0 : Heap) (n0 : Nat) (v : Option Value) (h : Heap) (L : List Loc) : Prop := v = none ∧ Fr n0 L ∧ Keep h0 h [vb] ∧ Arv Z h vb kb .byte (34 : Int32) (((pre ++ bs) ++ List.replicate 14 (0 : Int32)).map Value.int) (.int (0 : Int32))
set_option maxRecDepth 65536 in
set_option maxHeartbeats 40000000 in
theorem own_rm22_3_17 (l : Launch) (Z : State) (a0 : Array Value) (hw : own_W a0 Z) (ws : List Jvm.Cond) (a1 : Addr) (r3 : Addr) (vb : Addr) (kb : ClassId) (r9 : Addr) (bs : List Int32) (kq : ClassId) (pre : List Int32) (wc : Int32) (wD : Addr) (kD : ClassId) (h0 : Heap) (n0 : Nat) (Z0 : n0 ≤ h0.size) (O0 : Old Z n0 h0) (SS : own_St Z wc wD kD) (hpre : pre.length = 3) (hbl : bs.length = 17) (E_a1 : Exa Z h0 a1 "java/lang/StringBuilder") (F_v : Fld Z h0 a1 "java/lang/AbstractStringBuilder" "value" "[B" (.ref vb)) (F_c : Fld Z h0 a1 "java/lang/AbstractStringBuilder" "coder" "B" (.int (0 : Int32))) (V0 : Arv Z h0 vb kb .byte (34 : Int32) ((pre ++ List.replicate 31 (0 : Int32)).map Value.int) (.int (0 : Int32))) (E_r3 : Exa Z h0 r3 "java/lang/String") (G_v : Fld Z h0 r3 "java/lang/String" "value" "[B" (.ref r9)) (G_c : Fld Z h0 r3 "java/lang/String" "coder" "B" (.int (0 : Int32))) (V9 : Arv Z h0 r9 kq .byte (17 : Int32) ((bs).map Value.int) (.int (0 : Int32))) (g_vb : n0 ≤ vb) (ne_av : a1 ≠ vb) (ne_rv : r3 ≠ vb) (ne_9v : r9 ≠ vb) :
    MetFree l (⟨"java/lang/AbstractStringBuilder", "putStringAt", "(ILjava/lang/String;)V"⟩ : MethodName) (head1 (Jvm.Cond.code (⟨"java/lang/AbstractStringBuilder", "putStringAt", "(ILjava/lang/String;)V"⟩ : MethodName) jdk_68_method_73_code 3 none :: ws) ({ frames := 2, cells := 0, slots := 0, locals := 33 } : Room)) (fun a U => a = #[(.ref a1), (.int (3 : Int32)), (.ref r3)] ∧ Z.Warmed39 U.vm ∧ U.heap = h0) (fun _ _ _ _ _ => True) (fun _ U o U' => ∃ v L, o = .returned v ∧ own_Q22_3_17 Z a1 r3 vb kb r9 bs kq pre wc wD kD h0 n0 v U'.heap L ∧ FrameEnd U o U' L ({ frames := 2, cells := 0, slots := 0, locals := 33 } : Room).cells ({ frames := 2, cells := 0, slots := 0, locals := 33 } : Room).slots) := by
  refine own_body (plainFor_of_name pn_16) (fun m => own_ef22_3_17 m a1 r3) ?_
  intro p e s m below meth c T0 X0 hx hby hml hZ hown hnm hret hlk e0
  have hown : s.vm.findClass "java/lang/AbstractStringBuilder" = some m.cls := hown
  have hnm : meth.name = "putStringAt" := hnm
  have N0 := Fr.nil n0
  have K0 : Keep h0 h0 [vb] := Keep.refl _ _
  refine own_st (mkF m 1 #[rv a1, iv (3 : Int32), rv r3] [(.ref a1)]) (fun t k => XS.aloadN X0.here hx rfl (hb hby d22_0) rfl rfl k) ?_
  refine own_st (mkF m 2 #[rv a1, iv (3 : Int32), rv r3] [(.ref r3), (.ref a1)]) (fun t k => XS.aloadN X0.here hx rfl (hb hby d22_1) rfl rfl k) ?_
  obtain ⟨cq124, kq124, q124a, q124b, q124c⟩ := isOf hZ e0 E_a1
  obtain ⟨_, _, ⟨T124, L124, k124, n124⟩, -, X124, ⟨Lc124, hQ124, l124, y124, z124⟩, st124⟩ := X0.virtualBack hx (y := (⟨"java/lang/AbstractStringBuilder", "inflateIfNeededFor", "(Ljava/lang/String;)V"⟩ : MethodName)) (z := (⟨"java/lang/AbstractStringBuilder", "inflateIfNeededFor", "(Ljava/lang/String;)V"⟩ : MethodName)) hown (mvT hZ (hw_139 hw)) (mvT hZ (own_declares (hw_140 hw) (hw_143 hw))) (notFace_of_selects (args := #[]) (mvT hZ (hw_142 hw))) (mvT hZ (hw_142 hw)) (mvT hZ (hw_140 hw)) (by decide) (backOf (W := 0) (own_rm23 l Z a0 hw [] a1 r3 wc wD kD h0 n0 Z0 O0 SS F_c E_r3 G_c) hZ (hw_143 hw) (hw_99 hw) (by decide) (by decide)) q124a q124c (g := (mkF m 2 #[rv a1, iv (3 : Int32), rv r3] [(.ref r3), (.ref a1)])) rfl (by rw [hml]; rfl) (Steps.refl _) (argsL := [(.ref r3)]) (rest := []) (lenOf pd_6 rfl) rfl (by show 2 * 0 + _ ≤ _; exact Nat.le_of_eq rfl) (hb hby d22_2) (fun _ _ => ⟨rfl, e0, (by decide : 0 + 0 ≤ _), (by decide : 0 + 0 ≤ _)⟩)
  dsimp only [Pt.U, Pt.locs, Pt.cells, Pt.slots] at X124 l124 y124 z124 st124 hQ124
  subst l124 y124 z124
  obtain ⟨rfl, Nq124, e124⟩ := hQ124
  have N124 := Fr.app N0 Nq124
  refine own_jump (g' := (mkF m 5 #[rv a1, iv (3 : Int32), rv r3] [])) st124 ?_
  refine own_st (mkF m 6 #[rv a1, iv (3 : Int32), rv r3] [(.ref r3)]) (fun t k => XS.aloadN X124.here hx rfl (hb hby d22_5) rfl rfl k) ?_
  refine own_st (mkF m 7 #[rv a1, iv (3 : Int32), rv r3] [(.ref a1), (.ref r3)]) (fun t k => XS.aloadN X124.here hx rfl (hb hby d22_6) rfl rfl k) ?_
  obtain ⟨T125, X125, e125, st125⟩ := getF X124 hx hZ hown (host := "") (Or.inl (hw_103 hw)) Via.refl e124 F_v (g := (mkF m 7 #[rv a1, iv (3 : Int32), rv r3] [(.ref a1), (.ref r3)])) rfl rfl (hb hby d22_7)
  refine own_step (g' := (mkF m 10 #[rv a1, iv (3 : Int32), rv r3] [(.ref vb), (.ref r3)])) st125 ?_
  refine own_st (mkF m 11 #[rv a1, iv (3 : Int32), rv r3] [(.int (3 : Int32)), (.ref vb), (.ref r3)]) (fun t k => XS.iloadN X125.here hx rfl (hb hby d22_10) rfl k) ?_
  refine own_st (mkF m 12 #[rv a1, iv (3 : Int32), rv r3] [(.ref a1), (.int (3 : Int32)), (.ref vb), (.ref r3)]) (fun t k => XS.aloadN X125.here hx rfl (hb hby d22_11) rfl rfl k) ?_
  obtain ⟨T126, X126, e126, st126⟩ := getF X125 hx hZ hown (host := "") (Or.inl (hw_105 hw)) Via.refl e125 F_c (g := (mkF m 12 #[rv a1, iv (3 : Int32), rv r3] [(.ref a1), (.int (3 : Int32)), (.ref vb), (.ref r3)])) rfl rfl (hb hby d22_12)
  refine own_step (g' := (mkF m 15 #[rv a1, iv (3 : Int32), rv r3] [(.int (0 : Int32)), (.int (3 : Int32)), (.ref vb), (.ref r3)])) st126 ?_
  obtain ⟨cq127, kq127, q127a, q127b, q127c⟩ := isOf hZ e126 E_r3
  obtain ⟨_, _, ⟨T127, L127, k127, n127⟩, -, X127, ⟨Lc127, hQ127, l127, y127, z127⟩, st127⟩ := X126.virtualBack hx (y := (⟨"java/lang/String", "getBytes", "([BIB)V"⟩ : MethodName)) (z := (⟨"java/lang/String", "getBytes", "([BIB)V"⟩ : MethodName)) hown (mvT hZ (hw_145 hw)) (mvT hZ (hw_146 hw)) (notFace_of_selects (args := #[]) (mvT hZ (hw_148 hw))) (mvT hZ (hw_148 hw)) (mvT hZ (hw_147 hw)) (by decide) (backOf (W := 0) (own_rm24_3_17 l Z a0 hw [] r3 vb r9 kb bs kq pre wc wD kD h0 n0 Z0 O0 SS hpre hbl E_r3 G_v G_c V9 V0 g_vb ne_9v ne_rv) hZ (hw_149 hw) (hw_59 hw) (by decide) (by decide)) q127a q127c (g := (mkF m 15 #[rv a1, iv (3 : Int32), rv r3] [(.int (0 : Int32)), (.int (3 : Int32)), (.ref vb), (.ref r3)])) rfl (by rw [hml]; rfl) (Steps.refl _) (argsL := [(.ref vb), (.int (3 : Int32)), (.int (0 : Int32))]) (rest := []) (lenOf pd_7 rfl) rfl (by show 2 * 0 + _ ≤ _; exact Nat.le_of_eq rfl) (hb hby d22_15) (fun _ _ => ⟨rfl, e126, (by decide : 0 + 0 ≤ _), (by decide : 0 + 0 ≤ _)⟩)
  dsimp only [Pt.U, Pt.locs, Pt.cells, Pt.slots] at X127 l127 y127 z127 st127 hQ127
  subst l127 y127 z127
  obtain ⟨rfl, Nq127, K127, V127⟩ := hQ127
  have N127 := Fr.app N124 Nq127
  have Z127 : n0 ≤ T127.heap.size := Nat.le_trans Z0 K127.1
  have O127 : Old Z n0 T127.heap := O0.keep K127 (allS g_vb all0)
  have Kp127 : Keep h0 T127.heap [vb] := K0.trans K127 (allS (Or.inl (List.mem_of_getElem? (i := 0) rfl)) all0)
  have f1_Exa_a1 : Exa Z T127.heap a1 "java/lang/StringBuilder" := (E_a1.keep K127)
  have f2_Fld_a1 : Fld Z T127.heap a1 "java/lang/AbstractStringBuilder" "value" "[B" (.ref vb) := (F_v.keep K127 (ninS ne_av nin0))
  have f3_Fld_a1 : Fld Z T127.heap a1 "java/lang/AbstractStringBuilder" "coder" "B" (.int (0 : Int32)) := (F_c.keep K127 (ninS ne_av nin0))
  have f4_Exa_r3 : Exa Z T127.heap r3 "java/lang/String" := (E_r3.keep K127)
  have f5_Fld_r3 : Fld Z T127.heap r3 "java/lang/String" "value" "[B" (.ref r9) := (G_v.keep K127 (ninS ne_rv nin0))
  have f6_Fld_r3 : Fld Z T127.heap r3 "java/lang/String" "coder" "B" (.int (0 : Int32)) := (G_c.keep K127 (ninS ne_rv nin0))
  have f7_Arv_r9 : Arv Z T127.heap r9 kq .byte (17 : Int32) ((bs).map Value.int) (.int (0 : Int32)) := (V9.keep K127 (ninS ne_9v nin0))
  refine own_jump (g' := (mkF m 18 #[rv a1, iv (3 : Int32), rv r3] [])) st127 ?_
  refine own_ret X127 hlk (v := none) (fun _ => rfl) (fun fs hr => X127.returnOut hx hret (hb hby d22_18) hr) ?_ (by decide) (by decide)
  show own_Q22_3_17 Z a1 r3 vb kb r9 bs kq pre wc wD kD h0 n0 _ T127.heap _
  exact ⟨rfl, N127, Kp127, V127⟩
theorem own_ef18_3_17 (m : MethodId) (a1 : Addr) (r2 : Addr) : entryFrame m #[(.ref a1), (.ref r2)] 3 = mkF m 0 #[rv a1, rv r2, .unset] [] := by first | (simp [entryFrame, mkF, argsToLocals, Value.category]; done) | rfl
def own_Q18_3_17 (Z : State) (a1 : Addr) (r2 : Addr) (v0 : Addr) (k0 : ClassId) (r9 : Addr) (bs : List Int32) (kq : ClassId) (pre : List Int32) (wc : Int32) (wD : Addr) (kD : ClassId) (h0 : Heap) (n0 : Nat) (v : Option Value) (h : Heap) (L : List Loc) : Prop := ∃ (vb : Addr) (kb : ClassId), v = some (.ref a1) ∧ Fr n0 L ∧ Keep h0 h [a1] ∧ h0.size ≤ vb ∧ Exa Z h a1 "java/lang/StringBuilder" ∧ Fld Z h a1 "java/lang/AbstractStringBuilder" "value" "[B" (.ref vb) ∧ Fld Z h a1 "java/lang/AbstractStringBuilder" "coder" "B" (.int (0 : Int32)) ∧ Fld Z h a1 "java/lang/AbstractStringBuilder" "count" "I" (.int (20 : Int32)) ∧ Arv Z h vb kb .byte (34 : Int32) (((pre ++ bs) ++ List.replicate 14 (0 : Int32)).map Value.int) (.int (0 : Int32))
set_option maxRecDepth 65536 in
set_option maxHeartbeats 40000000 in
theorem own_rm18_3_17 (l : Launch) (Z : State) (a0 : Array Value) (hw : own_W a0 Z) (ws : List Jvm.Cond) (a1 : Addr) (r2 : Addr) (v0 : Addr) (k0 : ClassId) (r9 : Addr) (bs : List Int32) (kq : ClassId) (pre : List Int32) (wc : Int32) (wD : Addr) (kD : ClassId) (h0 : Heap) (n0 : Nat) (Z0 : n0 ≤ h0.size) (O0 : Old Z n0 h0) (SS : own_St Z wc wD kD) (hpre : pre.length = 3) (hbl : bs.length = 17) (E_a1 : Exa Z h0 a1 "java/lang/StringBuilder") (F_v : Fld Z h0 a1 "java/lang/AbstractStringBuilder" "value" "[B" (.ref v0)) (F_c : Fld Z h0 a1 "java/lang/AbstractStringBuilder" "coder" "B" (.int (0 : Int32))) (F_n : Fld Z h0 a1 "java/lang/AbstractStringBuilder" "count" "I" (.int (3 : Int32))) (V0 : Arv Z h0 v0 k0 .byte (16 : Int32) ((pre ++ List.replicate 13 (0 : Int32)).map Value.int) (.int (0 : Int32))) (E_r2 : Exa Z h0 r2 "java/lang/String") (G_v : Fld Z h0 r2 "java/lang/String" "value" "[B" (.ref r9)) (G_c : Fld Z h0 r2 "java/lang/String" "coder" "B" (.int (0 : Int32))) (V9 : Arv Z h0 r9 kq .byte (17 : Int32) ((bs).map Value.int) (.int (0 : Int32))) (g_a1 : n0 ≤ a1) (ne_av : a1 ≠ v0) (ne_ar : a1 ≠ r2) (ne_a9 : a1 ≠ r9) :
    MetFree l (⟨"java/lang/AbstractStringBuilder", "append", "(Ljava/lang/String;)Ljava/lang/AbstractStringBuilder;"⟩ : MethodName) (head1 (Jvm.Cond.code (⟨"java/lang/AbstractStringBuilder", "append", "(Ljava/lang/String;)Ljava/lang/AbstractStringBuilder;"⟩ : MethodName) jdk_68_method_22_code 3 (some (.object "java/lang/AbstractStringBuilder")) :: ws) ({ frames := 4, cells := 1, slots := 34, locals := 62 } : Room)) (fun a U => a = #[(.ref a1), (.ref r2)] ∧ Z.Warmed39 U.vm ∧ U.heap = h0) (fun _ _ _ _ _ => True) (fun _ U o U' => ∃ v L, o = .returned v ∧ own_Q18_3_17 Z a1 r2 v0 k0 r9 bs kq pre wc wD kD h0 n0 v U'.heap L ∧ FrameEnd U o U' L ({ frames := 4, cells := 1, slots := 34, locals := 62 } : Room).cells ({ frames := 4, cells := 1, slots := 34, locals := 62 } : Room).slots) := by
  refine own_body (plainFor_of_name pn_16) (fun m => own_ef18_3_17 m a1 r2) ?_
  intro p e s m below meth c T0 X0 hx hby hml hZ hown hnm hret hlk e0
  have hown : s.vm.findClass "java/lang/AbstractStringBuilder" = some m.cls := hown
  have hnm : meth.name = "append" := hnm
  have N0 := Fr.nil n0
  have K0 : Keep h0 h0 [a1] := Keep.refl _ _
  refine own_st (mkF m 1 #[rv a1, rv r2, .unset] [(.ref r2)]) (fun t k => XS.aloadN X0.here hx rfl (hb hby d18_0) rfl rfl k) ?_
  refine own_st (mkF m 9 #[rv a1, rv r2, .unset] []) (fun t k => XS.ifnonnullYes X0.here hx rfl (pc0 := 1) (pc' := 9) rfl (hb hby d18_1) rfl (by decide) (by decide) k) ?_
  refine own_st (mkF m 10 #[rv a1, rv r2, .unset] [(.ref r2)]) (fun t k => XS.aloadN X0.here hx rfl (hb hby d18_9) rfl rfl k) ?_
  obtain ⟨cq128, kq128, q128a, q128b, q128c⟩ := isOf hZ e0 E_r2
  obtain ⟨_, _, ⟨T128, L128, k128, n128⟩, -, X128, ⟨Lc128, hQ128, l128, y128, z128⟩, st128⟩ := X0.virtualBack hx (y := (⟨"java/lang/String", "length", "()I"⟩ : MethodName)) (z := (⟨"java/lang/String", "length", "()I"⟩ : MethodName)) hown (mvT hZ (hw_117 hw)) (mvT hZ (hw_118 hw)) (notFace_of_selects (args := #[]) (mvT hZ (hw_120 hw))) (mvT hZ (hw_120 hw)) (mvT hZ (hw_119 hw)) (by decide) (backOf (W := 0) (own_rm19_17 l Z a0 hw [] r2 r9 bs kq wc wD kD h0 n0 Z0 O0 SS E_r2 G_v G_c V9) hZ (hw_121 hw) (hw_59 hw) (by decide) (by decide)) q128a q128c (g := (mkF m 10 #[rv a1, rv r2, .unset] [(.ref r2)])) rfl (by rw [hml]; rfl) (Steps.refl _) (argsL := []) (rest := []) (lenOf pd_5 rfl) rfl (by show 2 * 0 + _ ≤ _; exact Nat.le_of_eq rfl) (hb hby d18_10) (fun _ _ => ⟨rfl, e0, (by decide : 0 + 0 ≤ _), (by decide : 0 + 0 ≤ _)⟩)
  dsimp only [Pt.U, Pt.locs, Pt.cells, Pt.slots] at X128 l128 y128 z128 st128 hQ128
  subst l128 y128 z128
  obtain ⟨rfl, Nq128, e128⟩ := hQ128
  have N128 := Fr.app N0 Nq128
  refine own_jump (g' := (mkF m 13 #[rv a1, rv r2, .unset] [(.int (17 : Int32))])) st128 ?_
  refine own_st (mkF m 14 #[rv a1, rv r2, iv (17 : Int32)] []) (fun t k => XS.istoreN X128.here hx rfl (hb hby d18_13) rfl (l' := #[rv a1, rv r2, iv (17 : Int32)]) rfl k) ?_
  refine own_st (mkF m 15 #[rv a1, rv r2, iv (17 : Int32)] [(.ref a1)]) (fun t k => XS.aloadN X128.here hx rfl (hb hby d18_14) rfl rfl k) ?_
  refine own_st (mkF m 16 #[rv a1, rv r2, iv (17 : Int32)] [(.ref a1), (.ref a1)]) (fun t k => XS.aloadN X128.here hx rfl (hb hby d18_15) rfl rfl k) ?_
  obtain ⟨T129, X129, e129, st129⟩ := getF X128 hx hZ hown (host := "") (Or.inl (hw_127 hw)) Via.refl e128 F_n (g := (mkF m 16 #[rv a1, rv r2, iv (17 : Int32)] [(.ref a1), (.ref a1)])) rfl rfl (hb hby d18_16)
  refine own_step (g' := (mkF m 19 #[rv a1, rv r2, iv (17 : Int32)] [(.int (3 : Int32)), (.ref a1)])) st129 ?_
  refine own_st (mkF m 20 #[rv a1, rv r2, iv (17 : Int32)] [(.int (17 : Int32)), (.int (3 : Int32)), (.ref a1)]) (fun t k => XS.iloadN X129.here hx rfl (hb hby d18_19) rfl k) ?_
  refine own_st (mkF m 21 #[rv a1, rv r2, iv (17 : Int32)] [(.int ((3 : Int32) + (17 : Int32))), (.ref a1)]) (fun t k => XS.iadd X129.here hx rfl (hb hby d18_20) rfl k) ?_
  rw [show ((3 : Int32) + (17 : Int32)) = (20 : Int32) from by decide]
  obtain ⟨cq130, kq130, q130a, q130b, q130c⟩ := isOf hZ e129 E_a1
  obtain ⟨_, _, ⟨T130, L130, k130, n130⟩, -, X130, ⟨Lc130, hQ130, l130, y130, z130⟩, st130⟩ := X129.virtualBack hx (y := (⟨"java/lang/AbstractStringBuilder", "ensureCapacityInternal", "(I)V"⟩ : MethodName)) (z := (⟨"java/lang/AbstractStringBuilder", "ensureCapacityInternal", "(I)V"⟩ : MethodName)) hown (mvT hZ (hw_129 hw)) (mvT hZ (own_declares (hw_130 hw) (hw_133 hw))) (notFace_of_selects (args := #[]) (mvT hZ (hw_132 hw))) (mvT hZ (hw_132 hw)) (mvT hZ (hw_130 hw)) (by decide) (backOf (W := 0) (own_rm21_3_17 l Z a0 hw [] a1 v0 k0 pre h0 n0 Z0 hpre E_a1 F_v F_c F_n V0 g_a1 ne_av) hZ (hw_133 hw) (hw_99 hw) (by decide) (by decide)) q130a q130c (g := (mkF m 21 #[rv a1, rv r2, iv (17 : Int32)] [(.int (20 : Int32)), (.ref a1)])) rfl (by rw [hml]; rfl) (Steps.refl _) (argsL := [(.int (20 : Int32))]) (rest := []) (lenOf pd_3 rfl) rfl (by show 2 * 0 + _ ≤ _; exact Nat.le_of_eq rfl) (hb hby d18_21) (fun _ _ => ⟨rfl, e129, (by decide : 0 + 1 ≤ _), (by decide : 0 + 34 ≤ _)⟩)
  dsimp only [Pt.U, Pt.locs, Pt.cells, Pt.slots] at X130 l130 y130 z130 st130 hQ130
  subst l130 y130 z130
  obtain ⟨vb130, kb130, rfl, Nq130, K130, gb130, Ex130, Fv130, Fc130, Fn130, V130⟩ := hQ130
  have N130 := Fr.app N128 Nq130
  have g_vb130 : n0 ≤ vb130 := Nat.le_trans Z0 gb130
  have ne_a1_vb130 : a1 ≠ vb130 := Nat.ne_of_lt (Nat.lt_of_lt_of_le E_a1.lt gb130)
  have ne_v0_vb130 : v0 ≠ vb130 := Nat.ne_of_lt (Nat.lt_of_lt_of_le V0.lt gb130)
  have ne_r2_vb130 : r2 ≠ vb130 := Nat.ne_of_lt (Nat.lt_of_lt_of_le E_r2.lt gb130)
  have ne_r9_vb130 : r9 ≠ vb130 := Nat.ne_of_lt (Nat.lt_of_lt_of_le V9.lt gb130)
  have sz_vb130 : h0.size ≤ vb130 := Nat.le_trans K0.1 gb130
  have Z130 : n0 ≤ T130.heap.size := Nat.le_trans Z0 K130.1
  have O130 : Old Z n0 T130.heap := O0.keep K130 (allS g_a1 all0)
  have Kp130 : Keep h0 T130.heap [a1] := K0.trans K130 (allS (Or.inl (List.mem_of_getElem? (i := 0) rfl)) all0)
  have f1_Exa_a1 : Exa Z T130.heap a1 "java/lang/StringBuilder" := (E_a1.keep K130)
  have f2_Arv_v0 : Arv Z T130.heap v0 k0 .byte (16 : Int32) ((pre ++ List.replicate 13 (0 : Int32)).map Value.int) (.int (0 : Int32)) := (V0.keep K130 (ninS (Ne.symm ne_av) nin0))
  have f3_Exa_r2 : Exa Z T130.heap r2 "java/lang/String" := (E_r2.keep K130)
  have f4_Fld_r2 : Fld Z T130.heap r2 "java/lang/String" "value" "[B" (.ref r9) := (G_v.keep K130 (ninS (Ne.symm ne_ar) nin0))
  have f5_Fld_r2 : Fld Z T130.heap r2 "java/lang/String" "coder" "B" (.int (0 : Int32)) := (G_c.keep K130 (ninS (Ne.symm ne_ar) nin0))
  have f6_Arv_r9 : Arv Z T130.heap r9 kq .byte (17 : Int32) ((bs).map Value.int) (.int (0 : Int32)) := (V9.keep K130 (ninS (Ne.symm ne_a9) nin0))
  refine own_jump (g' := (mkF m 24 #[rv a1, rv r2, iv (17 : Int32)] [])) st130 ?_
  refine own_st (mkF m 25 #[rv a1, rv r2, iv (17 : Int32)] [(.ref a1)]) (fun t k => XS.aloadN X130.here hx rfl (hb hby d18_24) rfl rfl k) ?_
  refine own_st (mkF m 26 #[rv a1, rv r2, iv (17 : Int32)] [(.ref a1), (.ref a1)]) (fun t k => XS.aloadN X130.here hx rfl (hb hby d18_25) rfl rfl k) ?_
  obtain ⟨T131, X131, e131, st131⟩ := getF X130 hx hZ hown (host := "") (Or.inl (hw_127 hw)) Via.refl rfl Fn130 (g := (mkF m 26 #[rv a1, rv r2, iv (17 : Int32)] [(.ref a1), (.ref a1)])) rfl rfl (hb hby d18_26)
  refine own_step (g' := (mkF m 29 #[rv a1, rv r2, iv (17 : Int32)] [(.int (3 : Int32)), (.ref a1)])) st131 ?_
  refine own_st (mkF m 30 #[rv a1, rv r2, iv (17 : Int32)] [(.ref r2), (.int (3 : Int32)), (.ref a1)]) (fun t k => XS.aloadN X131.here hx rfl (hb hby d18_29) rfl rfl k) ?_
  obtain ⟨cq132, kq132, q132a, q132b, q132c⟩ := isOf hZ e131 Ex130
  obtain ⟨_, _, ⟨T132, L132, k132, n132⟩, -, X132, ⟨Lc132, hQ132, l132, y132, z132⟩, st132⟩ := X131.virtualBack hx (y := (⟨"java/lang/AbstractStringBuilder", "putStringAt", "(ILjava/lang/String;)V"⟩ : MethodName)) (z := (⟨"java/lang/AbstractStringBuilder", "putStringAt", "(ILjava/lang/String;)V"⟩ : MethodName)) hown (mvT hZ (hw_134 hw)) (mvT hZ (own_declares (hw_135 hw) (hw_138 hw))) (notFace_of_selects (args := #[]) (mvT hZ (hw_137 hw))) (mvT hZ (hw_137 hw)) (mvT hZ (hw_135 hw)) (by decide) (backOf (W := 0) (own_rm22_3_17 l Z a0 hw [] a1 r2 vb130 kb130 r9 bs kq pre wc wD kD T130.heap n0 Z130 O130 SS hpre hbl Ex130 Fv130 Fc130 V130 f3_Exa_r2 f4_Fld_r2 f5_Fld_r2 f6_Arv_r9 g_vb130 ne_a1_vb130 ne_r2_vb130 ne_r9_vb130) hZ (hw_138 hw) (hw_99 hw) (by decide) (by decide)) q132a q132c (g := (mkF m 30 #[rv a1, rv r2, iv (17 : Int32)] [(.ref r2), (.int (3 : Int32)), (.ref a1)])) rfl (by rw [hml]; rfl) (Steps.refl _) (argsL := [(.int (3 : Int32)), (.ref r2)]) (rest := []) (lenOf pd_8 rfl) rfl (by show 2 * 0 + _ ≤ _; exact Nat.le_of_eq rfl) (hb hby d18_30) (fun _ _ => ⟨rfl, e131, (by decide : 1 + 0 ≤ _), (by decide : 34 + 0 ≤ _)⟩)
  dsimp only [Pt.U, Pt.locs, Pt.cells, Pt.slots] at X132 l132 y132 z132 st132 hQ132
  subst l132 y132 z132
  obtain ⟨rfl, Nq132, K132, V132⟩ := hQ132
  have N132 := Fr.app N130 Nq132
  have Z132 : n0 ≤ T132.heap.size := Nat.le_trans Z130 K132.1
  have O132 : Old Z n0 T132.heap := O130.keep K132 (allS g_vb130 all0)
  have Kp132 : Keep h0 T132.heap [a1] := Kp130.trans K132 (allS (Or.inr sz_vb130) all0)
  have f7_Exa_a1 : Exa Z T132.heap a1 "java/lang/StringBuilder" := (Ex130.keep K132)
  have f8_Arv_v0 : Arv Z T132.heap v0 k0 .byte (16 : Int32) ((pre ++ List.replicate 13 (0 : Int32)).map Value.int) (.int (0 : Int32)) := (f2_Arv_v0.keep K132 (ninS ne_v0_vb130 nin0))
  have f9_Exa_r2 : Exa Z T132.heap r2 "java/lang/String" := (f3_Exa_r2.keep K132)
  have f10_Fld_r2 : Fld Z T132.heap r2 "java/lang/String" "value" "[B" (.ref r9) := (f4_Fld_r2.keep K132 (ninS ne_r2_vb130 nin0))
  have f11_Fld_r2 : Fld Z T132.heap r2 "java/lang/String" "coder" "B" (.int (0 : Int32)) := (f5_Fld_r2.keep K132 (ninS ne_r2_vb130 nin0))
  have f12_Arv_r9 : Arv Z T132.heap r9 kq .byte (17 : Int32) ((bs).map Value.int) (.int (0 : Int32)) := (f6_Arv_r9.keep K132 (ninS ne_r9_vb130 nin0))
  have f13_Fld_a1 : Fld Z T132.heap a1 "java/lang/AbstractStringBuilder" "value" "[B" (.ref vb130) := (Fv130.keep K132 (ninS ne_a1_vb130 nin0))
  have f14_Fld_a1 : Fld Z T132.heap a1 "java/lang/AbstractStringBuilder" "coder" "B" (.int (0 : Int32)) := (Fc130.keep K132 (ninS ne_a1_vb130 nin0))
  have f15_Fld_a1 : Fld Z T132.heap a1 "java/lang/AbstractStringBuilder" "count" "I" (.int (3 : Int32)) := (Fn130.keep K132 (ninS ne_a1_vb130 nin0))
  refine own_jump (g' := (mkF m 33 #[rv a1, rv r2, iv (17 : Int32)] [])) st132 ?_
  refine own_st (mkF m 34 #[rv a1, rv r2, iv (17 : Int32)] [(.ref a1)]) (fun t k => XS.aloadN X132.here hx rfl (hb hby d18_33) rfl rfl k) ?_
  refine own_st (mkF m 35 #[rv a1, rv r2, iv (17 : Int32)] [(.ref a1), (.ref a1)]) (fun t k => XS.dup X132.here hx rfl (hb hby d18_34) rfl rfl k) ?_
  obtain ⟨T133, X133, e133, st133⟩ := getF X132 hx hZ hown (host := "") (Or.inl (hw_127 hw)) Via.refl rfl f15_Fld_a1 (g := (mkF m 35 #[rv a1, rv r2, iv (17 : Int32)] [(.ref a1), (.ref a1)])) rfl rfl (hb hby d18_35)
  refine own_step (g' := (mkF m 38 #[rv a1, rv r2, iv (17 : Int32)] [(.int (3 : Int32)), (.ref a1)])) st133 ?_
  refine own_st (mkF m 39 #[rv a1, rv r2, iv (17 : Int32)] [(.int (17 : Int32)), (.int (3 : Int32)), (.ref a1)]) (fun t k => XS.iloadN X133.here hx rfl (hb hby d18_38) rfl k) ?_
  refine own_st (mkF m 40 #[rv a1, rv r2, iv (17 : Int32)] [(.int ((3 : Int32) + (17 : Int32))), (.ref a1)]) (fun t k => XS.iadd X133.here hx rfl (hb hby d18_39) rfl k) ?_
  rw [show ((3 : Int32) + (17 : Int32)) = (20 : Int32) from by decide]
  obtain ⟨T134, h134, X134, e134, W134, st134⟩ := putF X133 hx hZ hown (host := "") (Or.inl (hw_127 hw)) Via.refl e133 f15_Fld_a1 f7_Exa_a1 (Or.inl (hw_128 hw)) (hw_90 hw) (ty := .int) (by decide) rfl rfl (g := (mkF m 40 #[rv a1, rv r2, iv (17 : Int32)] [(.int (20 : Int32)), (.ref a1)])) rfl rfl (hb hby d18_40)
  have f16_Exa_a1 : Exa Z h134 a1 "java/lang/StringBuilder" := (f7_Exa_a1.wr W134)
  have f17_Arv_v0 : Arv Z h134 v0 k0 .byte (16 : Int32) ((pre ++ List.replicate 13 (0 : Int32)).map Value.int) (.int (0 : Int32)) := (f8_Arv_v0.other W134 (Ne.symm ne_av))
  have f18_Exa_r2 : Exa Z h134 r2 "java/lang/String" := (f9_Exa_r2.wr W134)
  have f19_Fld_r2 : Fld Z h134 r2 "java/lang/String" "value" "[B" (.ref r9) := (f10_Fld_r2.other W134 (Or.inl (Ne.symm ne_ar)))
  have f20_Fld_r2 : Fld Z h134 r2 "java/lang/String" "coder" "B" (.int (0 : Int32)) := (f11_Fld_r2.other W134 (Or.inl (Ne.symm ne_ar)))
  have f21_Arv_r9 : Arv Z h134 r9 kq .byte (17 : Int32) ((bs).map Value.int) (.int (0 : Int32)) := (f12_Arv_r9.other W134 (Ne.symm ne_a9))
  have f22_Fld_a1 : Fld Z h134 a1 "java/lang/AbstractStringBuilder" "value" "[B" (.ref vb130) := (f13_Fld_a1.other W134 (Or.inr (slot_ne (a0 := a0) (C := "java/lang/StringBuilder") (Or.inl (hw_104 hw)) (Or.inl (hw_128 hw)) (by decide) (t := (.array .byte)) (t' := .int) (by decide) (by decide))))
  have f23_Fld_a1 : Fld Z h134 a1 "java/lang/AbstractStringBuilder" "coder" "B" (.int (0 : Int32)) := (f14_Fld_a1.other W134 (Or.inr (slot_ne (a0 := a0) (C := "java/lang/StringBuilder") (Or.inl (hw_106 hw)) (Or.inl (hw_128 hw)) (by decide) (t := .byte) (t' := .int) (by decide) (by decide))))
  have f24_Arv_vb130 : Arv Z h134 vb130 kb130 .byte (34 : Int32) (((pre ++ bs) ++ List.replicate 14 (0 : Int32)).map Value.int) (.int (0 : Int32)) := (V132.other W134 (Ne.symm ne_a1_vb130))
  have fw134 : Fld Z h134 a1 "java/lang/AbstractStringBuilder" "count" "I" (.int (20 : Int32)) := f15_Fld_a1.same W134
  have Z134 : n0 ≤ h134.size := Nat.le_trans Z132 (Keep.of_wr W134).1
  have Kp134 : Keep h0 h134 [a1] := Kp132.wr W134 (Or.inl (List.mem_of_getElem? (i := 0) rfl))
  have O134 : Old Z n0 h134 := O132.wr W134 g_a1
  have N134 := Fr.snoc X134 N132 g_a1
  refine own_step (g' := (mkF m 43 #[rv a1, rv r2, iv (17 : Int32)] [])) st134 ?_
  refine own_st (mkF m 44 #[rv a1, rv r2, iv (17 : Int32)] [(.ref a1)]) (fun t k => XS.aloadN X134.here hx rfl (hb hby d18_43) rfl rfl k) ?_
  refine own_ret X134 hlk (v := some (.ref a1)) (fun h => by rw [hret] at h; cases h) (fun fs hr => X134.areturnOut hx (w := (.ref a1)) rfl hret rfl (hb hby d18_44) hr) ?_ (by decide) (by decide)
  show own_Q18_3_17 Z a1 r2 v0 k0 r9 bs kq pre wc wD kD h0 n0 _ T134.heap _
  rw [e134]
  exact ⟨vb130, kb130, rfl, N134, Kp134, sz_vb130, f16_Exa_a1, f22_Fld_a1, f23_Fld_a1, fw134, f24_Arv_vb130⟩
theorem own_ef17_3_17 (m : MethodId) (a1 : Addr) (r2 : Addr) : entryFrame m #[(.ref a1), (.ref r2)] 2 = mkF m 0 #[rv a1, rv r2] [] := by first | (simp [entryFrame, mkF, argsToLocals, Value.category]; done) | rfl
def own_Q17_3_17 (Z : State) (a1 : Addr) (r2 : Addr) (v0 : Addr) (k0 : ClassId) (r9 : Addr) (bs : List Int32) (kq : ClassId) (pre : List Int32) (wc : Int32) (wD : Addr) (kD : ClassId) (h0 : Heap) (n0 : Nat) (v : Option Value) (h : Heap) (L : List Loc) : Prop := ∃ (vb : Addr) (kb : ClassId), v = some (.ref a1) ∧ Fr n0 L ∧ Keep h0 h [a1] ∧ h0.size ≤ vb ∧ Exa Z h a1 "java/lang/StringBuilder" ∧ Fld Z h a1 "java/lang/AbstractStringBuilder" "value" "[B" (.ref vb) ∧ Fld Z h a1 "java/lang/AbstractStringBuilder" "coder" "B" (.int (0 : Int32)) ∧ Fld Z h a1 "java/lang/AbstractStringBuilder" "count" "I" (.int (20 : Int32)) ∧ Arv Z h vb kb .byte (34 : Int32) (((pre ++ bs) ++ List.replicate 14 (0 : Int32)).map Value.int) (.int (0 : Int32))
set_option maxRecDepth 65536 in
set_option maxHeartbeats 40000000 in
theorem own_rm17_3_17 (l : Launch) (Z : State) (a0 : Array Value) (hw : own_W a0 Z) (ws : List Jvm.Cond) (a1 : Addr) (r2 : Addr) (v0 : Addr) (k0 : ClassId) (r9 : Addr) (bs : List Int32) (kq : ClassId) (pre : List Int32) (wc : Int32) (wD : Addr) (kD : ClassId) (h0 : Heap) (n0 : Nat) (Z0 : n0 ≤ h0.size) (O0 : Old Z n0 h0) (SS : own_St Z wc wD kD) (hpre : pre.length = 3) (hbl : bs.length = 17) (E_a1 : Exa Z h0 a1 "java/lang/StringBuilder") (F_v : Fld Z h0 a1 "java/lang/AbstractStringBuilder" "value" "[B" (.ref v0)) (F_c : Fld Z h0 a1 "java/lang/AbstractStringBuilder" "coder" "B" (.int (0 : Int32))) (F_n : Fld Z h0 a1 "java/lang/AbstractStringBuilder" "count" "I" (.int (3 : Int32))) (V0 : Arv Z h0 v0 k0 .byte (16 : Int32) ((pre ++ List.replicate 13 (0 : Int32)).map Value.int) (.int (0 : Int32))) (E_r2 : Exa Z h0 r2 "java/lang/String") (G_v : Fld Z h0 r2 "java/lang/String" "value" "[B" (.ref r9)) (G_c : Fld Z h0 r2 "java/lang/String" "coder" "B" (.int (0 : Int32))) (V9 : Arv Z h0 r9 kq .byte (17 : Int32) ((bs).map Value.int) (.int (0 : Int32))) (g_a1 : n0 ≤ a1) (ne_av : a1 ≠ v0) (ne_ar : a1 ≠ r2) (ne_a9 : a1 ≠ r9) :
    MetFree l (⟨"java/lang/StringBuilder", "append", "(Ljava/lang/String;)Ljava/lang/StringBuilder;"⟩ : MethodName) (head1 (Jvm.Cond.code (⟨"java/lang/StringBuilder", "append", "(Ljava/lang/String;)Ljava/lang/StringBuilder;"⟩ : MethodName) jdk_67_method_7_code 2 (some (.object "java/lang/StringBuilder")) :: ws) ({ frames := 5, cells := 1, slots := 34, locals := 76 } : Room)) (fun a U => a = #[(.ref a1), (.ref r2)] ∧ Z.Warmed39 U.vm ∧ U.heap = h0) (fun _ _ _ _ _ => True) (fun _ U o U' => ∃ v L, o = .returned v ∧ own_Q17_3_17 Z a1 r2 v0 k0 r9 bs kq pre wc wD kD h0 n0 v U'.heap L ∧ FrameEnd U o U' L ({ frames := 5, cells := 1, slots := 34, locals := 76 } : Room).cells ({ frames := 5, cells := 1, slots := 34, locals := 76 } : Room).slots) := by
  refine own_body (plainFor_of_name pn_15) (fun m => own_ef17_3_17 m a1 r2) ?_
  intro p e s m below meth c T0 X0 hx hby hml hZ hown hnm hret hlk e0
  have hown : s.vm.findClass "java/lang/StringBuilder" = some m.cls := hown
  have hnm : meth.name = "append" := hnm
  have N0 := Fr.nil n0
  have K0 : Keep h0 h0 [a1] := Keep.refl _ _
  refine own_st (mkF m 1 #[rv a1, rv r2] [(.ref a1)]) (fun t k => XS.aloadN X0.here hx rfl (hb hby d17_0) rfl rfl k) ?_
  refine own_st (mkF m 2 #[rv a1, rv r2] [(.ref r2), (.ref a1)]) (fun t k => XS.aloadN X0.here hx rfl (hb hby d17_1) rfl rfl k) ?_
  obtain ⟨_, _, ⟨T135, L135, k135, n135⟩, -, X135, ⟨Lc135, hQ135, l135, y135, z135⟩, st135⟩ := superBack X0 hx hZ (y := (⟨"java/lang/AbstractStringBuilder", "append", "(Ljava/lang/String;)Ljava/lang/AbstractStringBuilder;"⟩ : MethodName)) hown (hw_112 hw) (own_samem (y := (⟨"java/lang/AbstractStringBuilder", "append", "(Ljava/lang/String;)Ljava/lang/AbstractStringBuilder;"⟩ : MethodName)) (hw_113 hw) (y2 := (⟨"java/lang/AbstractStringBuilder", "getValue", "()[B"⟩ : MethodName)) rfl (hw_172 hw) (by decide)) (hw_113 hw) (hw_114 hw) (by decide) (backOf (W := 0) (own_rm18_3_17 l Z a0 hw [] a1 r2 v0 k0 r9 bs kq pre wc wD kD h0 n0 Z0 O0 SS hpre hbl E_a1 F_v F_c F_n V0 E_r2 G_v G_c V9 g_a1 ne_av ne_ar ne_a9) hZ (hw_116 hw) (hw_99 hw) (by decide) (by decide)) e0 (Ins.self E_a1) (g := (mkF m 2 #[rv a1, rv r2] [(.ref r2), (.ref a1)])) rfl (by rw [hml]; rfl) (hw_116 hw) (argsL := [(.ref r2)]) (rest := []) (lenOf pd_9 rfl) rfl (by show 2 * 0 + _ ≤ _; exact Nat.le_of_eq rfl) (hb hby d17_2) (fun _ _ => ⟨rfl, e0, (by decide : 0 + 1 ≤ _), (by decide : 0 + 34 ≤ _)⟩)
  dsimp only [Pt.U, Pt.locs, Pt.cells, Pt.slots] at X135 l135 y135 z135 st135 hQ135
  subst l135 y135 z135
  obtain ⟨vb135, kb135, rfl, Nq135, K135, gb135, Ex135, Fv135, Fc135, Fn135, V135⟩ := hQ135
  have N135 := Fr.app N0 Nq135
  have g_vb135 : n0 ≤ vb135 := Nat.le_trans Z0 gb135
  have ne_a1_vb135 : a1 ≠ vb135 := Nat.ne_of_lt (Nat.lt_of_lt_of_le E_a1.lt gb135)
  have ne_v0_vb135 : v0 ≠ vb135 := Nat.ne_of_lt (Nat.lt_of_lt_of_le V0.lt gb135)
  have ne_r2_vb135 : r2 ≠ vb135 := Nat.ne_of_lt (Nat.lt_of_lt_of_le E_r2.lt gb135)
  have ne_r9_vb135 : r9 ≠ vb135 := Nat.ne_of_lt (Nat.lt_of_lt_of_le V9.lt gb135)
  have sz_vb135 : h0.size ≤ vb135 := Nat.le_trans K0.1 gb135
  have Z135 : n0 ≤ T135.heap.size := Nat.le_trans Z0 K135.1
  have O135 : Old Z n0 T135.heap := O0.keep K135 (allS g_a1 all0)
  have Kp135 : Keep h0 T135.heap [a1] := K0.trans K135 (allS (Or.inl (List.mem_of_getElem? (i := 0) rfl)) all0)
  have f1_Exa_a1 : Exa Z T135.heap a1 "java/lang/StringBuilder" := (E_a1.keep K135)
  have f2_Arv_v0 : Arv Z T135.heap v0 k0 .byte (16 : Int32) ((pre ++ List.replicate 13 (0 : Int32)).map Value.int) (.int (0 : Int32)) := (V0.keep K135 (ninS (Ne.symm ne_av) nin0))
  have f3_Exa_r2 : Exa Z T135.heap r2 "java/lang/String" := (E_r2.keep K135)
  have f4_Fld_r2 : Fld Z T135.heap r2 "java/lang/String" "value" "[B" (.ref r9) := (G_v.keep K135 (ninS (Ne.symm ne_ar) nin0))
  have f5_Fld_r2 : Fld Z T135.heap r2 "java/lang/String" "coder" "B" (.int (0 : Int32)) := (G_c.keep K135 (ninS (Ne.symm ne_ar) nin0))
  have f6_Arv_r9 : Arv Z T135.heap r9 kq .byte (17 : Int32) ((bs).map Value.int) (.int (0 : Int32)) := (V9.keep K135 (ninS (Ne.symm ne_a9) nin0))
  refine own_jump (g' := (mkF m 5 #[rv a1, rv r2] [(.ref a1)])) st135 ?_
  refine own_st (mkF m 6 #[rv a1, rv r2] []) (fun t k => XS.pop X135.here hx rfl (hb hby d17_5) rfl rfl k) ?_
  refine own_st (mkF m 7 #[rv a1, rv r2] [(.ref a1)]) (fun t k => XS.aloadN X135.here hx rfl (hb hby d17_6) rfl rfl k) ?_
  refine own_ret X135 hlk (v := some (.ref a1)) (fun h => by rw [hret] at h; cases h) (fun fs hr => X135.areturnOut hx (w := (.ref a1)) rfl hret rfl (hb hby d17_7) hr) ?_ (by decide) (by decide)
  show own_Q17_3_17 Z a1 r2 v0 k0 r9 bs kq pre wc wD kD h0 n0 _ T135.heap _
  exact ⟨vb135, kb135, rfl, N135, Kp135, sz_vb135, Ex135, Fv135, Fc135, Fn135, V135⟩
theorem d34_0 : decode jdk_65_method_131_code 0 = .ok (.iload_n 1, 1) := by decide +kernel
theorem d34_1 : decode jdk_65_method_131_code 1 = .ok (.iload_n 0, 1) := by decide +kernel
theorem d34_2 : decode jdk_65_method_131_code 2 = .ok (.if_icmp .ge 35, 3) := by decide +kernel
theorem d34_37 : decode jdk_65_method_131_code 37 = .ok (.return_, 1) := by decide +kernel
theorem own_ef34_t4 (m : MethodId)  : entryFrame m #[(.int (0 : Int32)), (.int (4 : Int32))] 2 = mkF m 0 #[iv (0 : Int32), iv (4 : Int32)] [] := by first | (simp [entryFrame, mkF, argsToLocals, Value.category]; done) | rfl
def own_Q34_t4 (Z : State)  (h0 : Heap) (n0 : Nat) (v : Option Value) (h : Heap) (L : List Loc) : Prop := v = none ∧ Fr n0 L ∧ h = h0
set_option maxRecDepth 65536 in
set_option maxHeartbeats 40000000 in
theorem own_rm34_t4 (l : Launch) (Z : State) (a0 : Array Value) (hw : own_W a0 Z) (ws : List Jvm.Cond)  (h0 : Heap) (n0 : Nat) (Z0 : n0 ≤ h0.size) :
    MetFree l (⟨"java/util/Arrays", "checkLength", "(II)V"⟩ : MethodName) (head1 (Jvm.Cond.code (⟨"java/util/Arrays", "checkLength", "(II)V"⟩ : MethodName) jdk_65_method_131_code 2 none :: ws) ({ frames := 0, cells := 0, slots := 0, locals := 0 } : Room)) (fun a U => a = #[(.int (0 : Int32)), (.int (4 : Int32))] ∧ Z.Warmed39 U.vm ∧ U.heap = h0) (fun _ _ _ _ _ => True) (fun _ U o U' => ∃ v L, o = .returned v ∧ own_Q34_t4 Z h0 n0 v U'.heap L ∧ FrameEnd U o U' L ({ frames := 0, cells := 0, slots := 0, locals := 0 } : Room).cells ({ frames := 0, cells := 0, slots := 0, locals := 0 } : Room).slots) := by
  refine own_body (plainFor_of_name pn_45) (fun m => own_ef34_t4 m ) ?_
  intro p e s m below meth c T0 X0 hx hby hml hZ hown hnm hret hlk e0
  have hown : s.vm.findClass "java/util/Arrays" = some m.cls := hown
  have hnm : meth.name = "checkLength" := hnm
  have N0 := Fr.nil n0
  refine own_st (mkF m 1 #[iv (0 : Int32), iv (4 : Int32)] [(.int (4 : Int32))]) (fun t k => XS.iloadN X0.here hx rfl (hb hby d34_0) rfl k) ?_
  refine own_st (mkF m 2 #[iv (0 : Int32), iv (4 : Int32)] [(.int (0 : Int32)), (.int (4 : Int32))]) (fun t k => XS.iloadN X0.here hx rfl (hb hby d34_1) rfl k) ?_
  refine own_st (mkF m 37 #[iv (0 : Int32), iv (4 : Int32)] []) (fun t k => XS.icmpYes X0.here hx rfl (pc0 := 2) (pc' := 37) rfl (hb hby d34_2) rfl (flt (by decide : ¬ ((4 : Int32) < (0 : Int32)))).2.1 (by decide) (by decide) k) ?_
  refine own_ret X0 hlk (v := none) (fun _ => rfl) (fun fs hr => X0.returnOut hx hret (hb hby d34_37) hr) ?_ (by decide) (by decide)
  show own_Q34_t4 Z h0 n0 _ T0.heap _
  rw [e0]
  exact ⟨rfl, N0, rfl⟩
theorem d33_0 : decode jdk_65_method_133_code 0 = .ok (.iload_n 1, 1) := by decide +kernel
theorem d33_1 : decode jdk_65_method_133_code 1 = .ok (.iload_n 2, 1) := by decide +kernel
theorem d33_2 : decode jdk_65_method_133_code 2 = .ok (.invokestatic 343, 3) := by decide +kernel
theorem hw_194 {a0 Z} (hw : own_W a0 Z) : (Jvm.Cond.methodLink "java/util/Arrays" (343 : Nat) ({ cls := "java/util/Arrays", name := "checkLength", desc := "(II)V" } : Jvm.MethodName)).before a0 Z = true := hw _ (List.mem_of_getElem? (i := 194) rfl)
theorem hw_196 {a0 Z} (hw : own_W a0 Z) : (Jvm.Cond.code ({ cls := "java/util/Arrays", name := "checkLength", desc := "(II)V" } : Jvm.MethodName) jdk_65_method_131_code (2 : Nat) (Option.none : Option Jvm.ClassFile.FieldType)).before a0 Z = true := hw _ (List.mem_of_getElem? (i := 196) rfl)
theorem pd_14 : parseMethodDescriptor "(II)V" = some ⟨[.int, .int], none⟩ := by decide +kernel
theorem hw_195 {a0 Z} (hw : own_W a0 Z) : (Jvm.Cond.static ({ cls := "java/util/Arrays", name := "checkLength", desc := "(II)V" } : Jvm.MethodName)).before a0 Z = true := hw _ (List.mem_of_getElem? (i := 195) rfl)
theorem d33_5 : decode jdk_65_method_133_code 5 = .ok (.iload_n 2, 1) := by decide +kernel
theorem d33_6 : decode jdk_65_method_133_code 6 = .ok (.iload_n 1, 1) := by decide +kernel
theorem d33_7 : decode jdk_65_method_133_code 7 = .ok (.isub, 1) := by decide +kernel
theorem d33_8 : decode jdk_65_method_133_code 8 = .ok (.istore_n 3, 1) := by decide +kernel
theorem d33_9 : decode jdk_65_method_133_code 9 = .ok (.iload_n 3, 1) := by decide +kernel
theorem d33_10 : decode jdk_65_method_133_code 10 = .ok (.newarray .byte, 2) := by decide +kernel
theorem d33_12 : decode jdk_65_method_133_code 12 = .ok (.astore 4, 2) := by decide +kernel
theorem d33_14 : decode jdk_65_method_133_code 14 = .ok (.aload_n 0, 1) := by decide +kernel
theorem d33_15 : decode jdk_65_method_133_code 15 = .ok (.iload_n 1, 1) := by decide +kernel
theorem d33_16 : decode jdk_65_method_133_code 16 = .ok (.aload 4, 2) := by decide +kernel
theorem d33_18 : decode jdk_65_method_133_code 18 = .ok (.iconst 0, 1) := by decide +kernel
theorem d33_19 : decode jdk_65_method_133_code 19 = .ok (.aload_n 0, 1) := by decide +kernel
theorem d33_20 : decode jdk_65_method_133_code 20 = .ok (.arraylength, 1) := by decide +kernel
theorem d33_21 : decode jdk_65_method_133_code 21 = .ok (.iload_n 1, 1) := by decide +kernel
theorem d33_22 : decode jdk_65_method_133_code 22 = .ok (.isub, 1) := by decide +kernel
theorem d33_23 : decode jdk_65_method_133_code 23 = .ok (.iload_n 3, 1) := by decide +kernel
theorem d33_24 : decode jdk_65_method_133_code 24 = .ok (.invokestatic 304, 3) := by decide +kernel
theorem d33_27 : decode jdk_65_method_133_code 27 = .ok (.invokestatic 150, 3) := by decide +kernel
theorem d33_30 : decode jdk_65_method_133_code 30 = .ok (.aload 4, 2) := by decide +kernel
theorem d33_32 : decode jdk_65_method_133_code 32 = .ok (.areturn, 1) := by decide +kernel
theorem own_ef33_t4 (m : MethodId) (r1 : Addr) : entryFrame m #[(.ref r1), (.int (0 : Int32)), (.int (4 : Int32))] 5 = mkF m 0 #[rv r1, iv (0 : Int32), iv (4 : Int32), .unset, .unset] [] := by first | (simp [entryFrame, mkF, argsToLocals, Value.category]; done) | rfl
def own_Q33_t4 (Z : State) (r1 : Addr) (kb : ClassId) (es : List Int32) (h0 : Heap) (n0 : Nat) (v : Option Value) (h : Heap) (L : List Loc) : Prop := ∃ (ba : Addr) (kb : ClassId), v = some (.ref ba) ∧ Fr n0 L ∧ Keep h0 h [] ∧ h0.size ≤ ba ∧ Arv Z h ba kb .byte (4 : Int32) ((es.take 4).map Value.int) (.int (0 : Int32)) ∧ Exa Z h ba "[B"
set_option maxRecDepth 65536 in
set_option maxHeartbeats 40000000 in
theorem own_rm33_t4 (l : Launch) (Z : State) (a0 : Array Value) (hw : own_W a0 Z) (ws : List Jvm.Cond) (r1 : Addr) (kb : ClassId) (es : List Int32) (h0 : Heap) (n0 : Nat) (Z0 : n0 ≤ h0.size) (hes : es.length = 16) (V0 : Arv Z h0 r1 kb .byte (16 : Int32) ((es).map Value.int) (.int (0 : Int32))) :
    MetFree l (⟨"java/util/Arrays", "copyOfRangeByte", "([BII)[B"⟩ : MethodName) (head1 (Jvm.Cond.code (⟨"java/util/Arrays", "copyOfRangeByte", "([BII)[B"⟩ : MethodName) jdk_65_method_133_code 5 (some (.array .byte)) :: ws) ({ frames := 1, cells := 1, slots := 4, locals := 18 } : Room)) (fun a U => a = #[(.ref r1), (.int (0 : Int32)), (.int (4 : Int32))] ∧ Z.Warmed39 U.vm ∧ U.heap = h0) (fun _ _ _ _ _ => True) (fun _ U o U' => ∃ v L, o = .returned v ∧ own_Q33_t4 Z r1 kb es h0 n0 v U'.heap L ∧ FrameEnd U o U' L ({ frames := 1, cells := 1, slots := 4, locals := 18 } : Room).cells ({ frames := 1, cells := 1, slots := 4, locals := 18 } : Room).slots) := by
  refine own_body (plainFor_of_name pn_45) (fun m => own_ef33_t4 m r1) ?_
  intro p e s m below meth c T0 X0 hx hby hml hZ hown hnm hret hlk e0
  have hown : s.vm.findClass "java/util/Arrays" = some m.cls := hown
  have hnm : meth.name = "copyOfRangeByte" := hnm
  have N0 := Fr.nil n0
  have K0 : Keep h0 h0 [] := Keep.refl _ _
  refine own_st (mkF m 1 #[rv r1, iv (0 : Int32), iv (4 : Int32), .unset, .unset] [(.int (0 : Int32))]) (fun t k => XS.iloadN X0.here hx rfl (hb hby d33_0) rfl k) ?_
  refine own_st (mkF m 2 #[rv r1, iv (0 : Int32), iv (4 : Int32), .unset, .unset] [(.int (4 : Int32)), (.int (0 : Int32))]) (fun t k => XS.iloadN X0.here hx rfl (hb hby d33_1) rfl k) ?_
  obtain ⟨_, _, ⟨T136, L136, k136, n136⟩, -, X136, ⟨Lc136, hQ136, l136, y136, z136⟩, st136⟩ := Jvm.LawKit.callS X0 hx (y := (⟨"java/util/Arrays", "checkLength", "(II)V"⟩ : MethodName)) hown (mvT hZ (hw_194 hw)) (mvT hZ (hw_195 hw)) (mvT hZ (hw_189 hw)) (mvT hZ (hw_196 hw)) (by decide) (backOf (W := 0) (own_rm34_t4 l Z a0 hw [] h0 n0 Z0) hZ (hw_196 hw) (hw_189 hw) (by decide) (by decide)) (g := (mkF m 2 #[rv r1, iv (0 : Int32), iv (4 : Int32), .unset, .unset] [(.int (4 : Int32)), (.int (0 : Int32))])) rfl (by rw [hml]; rfl) (argsL := [(.int (0 : Int32)), (.int (4 : Int32))]) (rest := []) (lenOf pd_14 rfl) rfl (by show 2 * 0 + _ ≤ _; exact Nat.le_of_eq rfl) (hb hby d33_2) (fun _ _ => ⟨rfl, e0, (by decide : 0 + 0 ≤ _), (by decide : 0 + 0 ≤ _)⟩)
  dsimp only [Pt.U, Pt.locs, Pt.cells, Pt.slots] at X136 l136 y136 z136 st136 hQ136
  subst l136 y136 z136
  obtain ⟨rfl, Nq136, e136⟩ := hQ136
  have N136 := Fr.app N0 Nq136
  refine own_step (g' := (mkF m 5 #[rv r1, iv (0 : Int32), iv (4 : Int32), .unset, .unset] [])) st136 ?_
  refine own_st (mkF m 6 #[rv r1, iv (0 : Int32), iv (4 : Int32), .unset, .unset] [(.int (4 : Int32))]) (fun t k => XS.iloadN X136.here hx rfl (hb hby d33_5) rfl k) ?_
  refine own_st (mkF m 7 #[rv r1, iv (0 : Int32), iv (4 : Int32), .unset, .unset] [(.int (0 : Int32)), (.int (4 : Int32))]) (fun t k => XS.iloadN X136.here hx rfl (hb hby d33_6) rfl k) ?_
  refine own_st (mkF m 8 #[rv r1, iv (0 : Int32), iv (4 : Int32), .unset, .unset] [(.int ((4 : Int32) - (0 : Int32)))]) (fun t k => XS.isub X136.here hx rfl (hb hby d33_7) rfl k) ?_
  rw [show ((4 : Int32) - (0 : Int32)) = (4 : Int32) from by decide]
  refine own_st (mkF m 9 #[rv r1, iv (0 : Int32), iv (4 : Int32), iv (4 : Int32), .unset] []) (fun t k => XS.istoreN X136.here hx rfl (hb hby d33_8) rfl (l' := #[rv r1, iv (0 : Int32), iv (4 : Int32), iv (4 : Int32), .unset]) rfl k) ?_
  refine own_st (mkF m 10 #[rv r1, iv (0 : Int32), iv (4 : Int32), iv (4 : Int32), .unset] [(.int (4 : Int32))]) (fun t k => XS.iloadN X136.here hx rfl (hb hby d33_9) rfl k) ?_
  obtain ⟨T137, h137, k137, X137, e137, E137, A137, B137, st137⟩ := newPE (aty := .byte) X136 hx hZ (hw_71 hw) e136 (g := (mkF m 10 #[rv r1, iv (0 : Int32), iv (4 : Int32), iv (4 : Int32), .unset] [(.int (4 : Int32))])) rfl (hb hby d33_10) rfl (by decide) (cap := 4) (by decide) (by decide) (by decide) (by decide) (ad := "[B") (by decide)
  obtain ⟨b137, g137⟩ : ∃ z, z = h0.size := ⟨_, rfl⟩
  rw [← g137] at A137 B137 st137
  have E_137 : Ext h0 h137 := E137
  have g_b137 : n0 ≤ b137 := Nat.le_trans Z0 (Nat.le_of_eq g137.symm)
  have ne_r1_b137 : r1 ≠ b137 := Nat.ne_of_lt (Nat.lt_of_lt_of_le V0.lt (Nat.le_of_eq g137.symm))
  have sz_b137 : h0.size ≤ b137 := Nat.le_trans K0.1 (Nat.le_of_eq g137.symm)
  have Kp137 : Keep h0 h137 [] := K0.ext E137
  have Z137 : n0 ≤ h137.size := Nat.le_trans Z0 E137.1
  have f1_Arv_r1 : Arv Z h137 r1 kb .byte (16 : Int32) ((es).map Value.int) (.int (0 : Int32)) := (V0.ext E137)
  have V137 : Arv Z h137 b137 k137 .byte (4 : Int32) ((List.replicate 4 (0 : Int32)).map Value.int) (.int (0 : Int32)) := (Arv.new A137 (by decide)).pad (own_pad0 4)
  refine own_step (g' := (mkF m 12 #[rv r1, iv (0 : Int32), iv (4 : Int32), iv (4 : Int32), .unset] [(.ref b137)])) st137 ?_
  refine own_st (mkF m 14 #[rv r1, iv (0 : Int32), iv (4 : Int32), iv (4 : Int32), rv b137] []) (fun t k => XS.astore X137.here hx rfl (hb hby d33_12) rfl rfl (l' := #[rv r1, iv (0 : Int32), iv (4 : Int32), iv (4 : Int32), rv b137]) rfl k) ?_
  refine own_st (mkF m 15 #[rv r1, iv (0 : Int32), iv (4 : Int32), iv (4 : Int32), rv b137] [(.ref r1)]) (fun t k => XS.aloadN X137.here hx rfl (hb hby d33_14) rfl rfl k) ?_
  refine own_st (mkF m 16 #[rv r1, iv (0 : Int32), iv (4 : Int32), iv (4 : Int32), rv b137] [(.int (0 : Int32)), (.ref r1)]) (fun t k => XS.iloadN X137.here hx rfl (hb hby d33_15) rfl k) ?_
  refine own_st (mkF m 18 #[rv r1, iv (0 : Int32), iv (4 : Int32), iv (4 : Int32), rv b137] [(.ref b137), (.int (0 : Int32)), (.ref r1)]) (fun t k => XS.aload X137.here hx rfl (hb hby d33_16) rfl rfl k) ?_
  refine own_st (mkF m 19 #[rv r1, iv (0 : Int32), iv (4 : Int32), iv (4 : Int32), rv b137] [(.int (0 : Int32)), (.ref b137), (.int (0 : Int32)), (.ref r1)]) (fun t k => XS.iconst X137.here hx rfl (hb hby d33_18) k) ?_
  refine own_st (mkF m 20 #[rv r1, iv (0 : Int32), iv (4 : Int32), iv (4 : Int32), rv b137] [(.ref r1), (.int (0 : Int32)), (.ref b137), (.int (0 : Int32)), (.ref r1)]) (fun t k => XS.aloadN X137.here hx rfl (hb hby d33_19) rfl rfl k) ?_
  obtain ⟨cl138, Ar138, -, S138, M138, -, -⟩ := id f1_Arv_r1
  refine own_step (T' := T137) (g' := (mkF m 21 #[rv r1, iv (0 : Int32), iv (4 : Int32), iv (4 : Int32), rv b137] [(.int cl138.slots.size.toInt32), (.int (0 : Int32)), (.ref b137), (.int (0 : Int32)), (.ref r1)])) (X137.arraylength hx (by rw [e137]; exact Ar138.1) (State.isArrayOf_alike hZ.alike Ar138.2.1) (g := (mkF m 20 #[rv r1, iv (0 : Int32), iv (4 : Int32), iv (4 : Int32), rv b137] [(.ref r1), (.int (0 : Int32)), (.ref b137), (.int (0 : Int32)), (.ref r1)])) rfl rfl (hb hby d33_20)) ?_
  rw [len_of S138 M138]
  refine own_st (mkF m 22 #[rv r1, iv (0 : Int32), iv (4 : Int32), iv (4 : Int32), rv b137] [(.int (0 : Int32)), (.int (16 : Int32)), (.int (0 : Int32)), (.ref b137), (.int (0 : Int32)), (.ref r1)]) (fun t k => XS.iloadN X137.here hx rfl (hb hby d33_21) rfl k) ?_
  refine own_st (mkF m 23 #[rv r1, iv (0 : Int32), iv (4 : Int32), iv (4 : Int32), rv b137] [(.int ((16 : Int32) - (0 : Int32))), (.int (0 : Int32)), (.ref b137), (.int (0 : Int32)), (.ref r1)]) (fun t k => XS.isub X137.here hx rfl (hb hby d33_22) rfl k) ?_
  rw [show ((16 : Int32) - (0 : Int32)) = (16 : Int32) from by decide]
  refine own_st (mkF m 24 #[rv r1, iv (0 : Int32), iv (4 : Int32), iv (4 : Int32), rv b137] [(.int (4 : Int32)), (.int (16 : Int32)), (.int (0 : Int32)), (.ref b137), (.int (0 : Int32)), (.ref r1)]) (fun t k => XS.iloadN X137.here hx rfl (hb hby d33_23) rfl k) ?_
  obtain ⟨_, _, ⟨T139, L139, k139, n139⟩, -, X139, ⟨Lc139, hQ139, l139, y139, z139⟩, st139⟩ := Jvm.LawKit.callS X137 hx (y := (⟨"java/lang/Math", "min", "(II)I"⟩ : MethodName)) hown (mvT hZ (hw_197 hw)) (mvT hZ (hw_198 hw)) (mvT hZ (hw_199 hw)) (mvT hZ (hw_200 hw)) (by decide) (backOf (W := 4) (own_rm35 l Z a0 hw [] (16 : Int32) (4 : Int32) h137 n0 Z137) hZ (hw_200 hw) (hw_199 hw) (by decide) (by decide)) (g := (mkF m 24 #[rv r1, iv (0 : Int32), iv (4 : Int32), iv (4 : Int32), rv b137] [(.int (4 : Int32)), (.int (16 : Int32)), (.int (0 : Int32)), (.ref b137), (.int (0 : Int32)), (.ref r1)])) rfl (by rw [hml]; rfl) (argsL := [(.int (16 : Int32)), (.int (4 : Int32))]) (rest := [(.int (0 : Int32)), (.ref b137), (.int (0 : Int32)), (.ref r1)]) (lenOf pd_10 rfl) rfl (by show 2 * 0 + _ ≤ _; exact Nat.le_of_eq rfl) (hb hby d33_24) (fun _ _ => ⟨rfl, e137, (by decide : 1 + 0 ≤ _), (by decide : 4 + 0 ≤ _)⟩)
  dsimp only [Pt.U, Pt.locs, Pt.cells, Pt.slots] at X139 l139 y139 z139 st139 hQ139
  subst l139 y139 z139
  obtain ⟨rfl, Nq139, e139⟩ := hQ139
  have N139 := Fr.app N136 Nq139
  refine own_step (g' := (mkF m 27 #[rv r1, iv (0 : Int32), iv (4 : Int32), iv (4 : Int32), rv b137] [(.int (own_min32 (16 : Int32) (4 : Int32))), (.int (0 : Int32)), (.ref b137), (.int (0 : Int32)), (.ref r1)])) st139 ?_
  rw [show (own_min32 (16 : Int32) (4 : Int32)) = (4 : Int32) from by decide]
  obtain ⟨T140, h140, Lc140, X140, e140, N140, K140, V140, st140⟩ := own_copy X139 hx hZ hown (hw_201 hw) (hw_153 hw) (hw_151 hw) (hw_152 hw) e139 f1_Arv_r1 V137 4 (show (4 : Int32).toInt = ((4 : Nat) : Int) from rfl) (by rw [hes]; rfl) rfl (by omega) (by simp) (n0 := n0) N139 g_b137 (g := (mkF m 27 #[rv r1, iv (0 : Int32), iv (4 : Int32), iv (4 : Int32), rv b137] [(.int (4 : Int32)), (.int (0 : Int32)), (.ref b137), (.int (0 : Int32)), (.ref r1)])) rfl (by rw [hml]; rfl) rfl (hb hby d33_27) (by decide) (W := 0) (by show 2 * 0 + _ ≤ _; exact Nat.le_of_eq rfl) (by decide)
  have Z140 : n0 ≤ h140.size := Nat.le_trans Z137 K140.1
  have Kp140 : Keep h0 h140 [] := Kp137.trans K140 (allS (Or.inr sz_b137) all0)
  have f2_Arv_r1 : Arv Z h140 r1 kb .byte (16 : Int32) ((es).map Value.int) (.int (0 : Int32)) := (f1_Arv_r1.keep K140 (ninS ne_r1_b137 nin0))
  have f3_Exa_b137 : Exa Z h140 b137 "[B" := (B137.keep K140)
  refine own_step (g' := (mkF m 30 #[rv r1, iv (0 : Int32), iv (4 : Int32), iv (4 : Int32), rv b137] [])) st140 ?_
  refine own_st (mkF m 32 #[rv r1, iv (0 : Int32), iv (4 : Int32), iv (4 : Int32), rv b137] [(.ref b137)]) (fun t k => XS.aload X140.here hx rfl (hb hby d33_30) rfl rfl k) ?_
  have Vz : Arv Z h140 b137 k137 .byte (4 : Int32) ((es.take 4).map Value.int) (.int (0 : Int32)) := by have q := V140; simpa using q
  refine own_ret X140 hlk (v := some (.ref b137)) (fun h => by rw [hret] at h; cases h) (fun fs hr => X140.areturnOut hx (w := (.ref b137)) rfl hret rfl (hb hby d33_32) hr) ?_ (by decide) (by decide)
  show own_Q33_t4 Z r1 kb es h0 n0 _ T140.heap _
  rw [e140]
  exact ⟨b137, k137, rfl, N140, Kp140, sz_b137, Vz, f3_Exa_b137⟩
theorem d32_0 : decode jdk_65_method_132_code 0 = .ok (.iload_n 1, 1) := by decide +kernel
theorem d32_1 : decode jdk_65_method_132_code 1 = .ok (.ifCond .ne 9, 3) := by decide +kernel
theorem d32_4 : decode jdk_65_method_132_code 4 = .ok (.iload_n 2, 1) := by decide +kernel
theorem d32_5 : decode jdk_65_method_132_code 5 = .ok (.aload_n 0, 1) := by decide +kernel
theorem d32_6 : decode jdk_65_method_132_code 6 = .ok (.arraylength, 1) := by decide +kernel
theorem d32_7 : decode jdk_65_method_132_code 7 = .ok (.if_icmp .eq 10, 3) := by decide +kernel
theorem d32_10 : decode jdk_65_method_132_code 10 = .ok (.aload_n 0, 1) := by decide +kernel
theorem d32_11 : decode jdk_65_method_132_code 11 = .ok (.iload_n 1, 1) := by decide +kernel
theorem d32_12 : decode jdk_65_method_132_code 12 = .ok (.iload_n 2, 1) := by decide +kernel
theorem d32_13 : decode jdk_65_method_132_code 13 = .ok (.invokestatic 339, 3) := by decide +kernel
theorem hw_191 {a0 Z} (hw : own_W a0 Z) : (Jvm.Cond.methodLink "java/util/Arrays" (339 : Nat) ({ cls := "java/util/Arrays", name := "copyOfRangeByte", desc := "([BII)[B" } : Jvm.MethodName)).before a0 Z = true := hw _ (List.mem_of_getElem? (i := 191) rfl)
theorem hw_193 {a0 Z} (hw : own_W a0 Z) : (Jvm.Cond.code ({ cls := "java/util/Arrays", name := "copyOfRangeByte", desc := "([BII)[B" } : Jvm.MethodName) jdk_65_method_133_code (5 : Nat) (Option.some (Jvm.ClassFile.FieldType.array Jvm.ClassFile.FieldType.byte))).before a0 Z = true := hw _ (List.mem_of_getElem? (i := 193) rfl)
theorem pd_15 : parseMethodDescriptor "([BII)[B" = some ⟨[(.array .byte), .int, .int], some (.array .byte)⟩ := by decide +kernel
theorem hw_192 {a0 Z} (hw : own_W a0 Z) : (Jvm.Cond.static ({ cls := "java/util/Arrays", name := "copyOfRangeByte", desc := "([BII)[B" } : Jvm.MethodName)).before a0 Z = true := hw _ (List.mem_of_getElem? (i := 192) rfl)
theorem d32_16 : decode jdk_65_method_132_code 16 = .ok (.areturn, 1) := by decide +kernel
theorem own_ef32_t4 (m : MethodId) (r1 : Addr) : entryFrame m #[(.ref r1), (.int (0 : Int32)), (.int (4 : Int32))] 3 = mkF m 0 #[rv r1, iv (0 : Int32), iv (4 : Int32)] [] := by first | (simp [entryFrame, mkF, argsToLocals, Value.category]; done) | rfl
def own_Q32_t4 (Z : State) (r1 : Addr) (kb : ClassId) (es : List Int32) (h0 : Heap) (n0 : Nat) (v : Option Value) (h : Heap) (L : List Loc) : Prop := ∃ (ba : Addr) (kb : ClassId), v = some (.ref ba) ∧ Fr n0 L ∧ Keep h0 h [] ∧ h0.size ≤ ba ∧ Arv Z h ba kb .byte (4 : Int32) ((es.take 4).map Value.int) (.int (0 : Int32)) ∧ Exa Z h ba "[B"
set_option maxRecDepth 65536 in
set_option maxHeartbeats 40000000 in
theorem own_rm32_t4 (l : Launch) (Z : State) (a0 : Array Value) (hw : own_W a0 Z) (ws : List Jvm.Cond) (r1 : Addr) (kb : ClassId) (es : List Int32) (h0 : Heap) (n0 : Nat) (Z0 : n0 ≤ h0.size) (hes : es.length = 16) (V0 : Arv Z h0 r1 kb .byte (16 : Int32) ((es).map Value.int) (.int (0 : Int32))) :
    MetFree l (⟨"java/util/Arrays", "copyOfRange", "([BII)[B"⟩ : MethodName) (head1 (Jvm.Cond.code (⟨"java/util/Arrays", "copyOfRange", "([BII)[B"⟩ : MethodName) jdk_65_method_132_code 3 (some (.array .byte)) :: ws) ({ frames := 2, cells := 1, slots := 4, locals := 34 } : Room)) (fun a U => a = #[(.ref r1), (.int (0 : Int32)), (.int (4 : Int32))] ∧ Z.Warmed39 U.vm ∧ U.heap = h0) (fun _ _ _ _ _ => True) (fun _ U o U' => ∃ v L, o = .returned v ∧ own_Q32_t4 Z r1 kb es h0 n0 v U'.heap L ∧ FrameEnd U o U' L ({ frames := 2, cells := 1, slots := 4, locals := 34 } : Room).cells ({ frames := 2, cells := 1, slots := 4, locals := 34 } : Room).slots) := by
  refine own_body (plainFor_of_name pn_45) (fun m => own_ef32_t4 m r1) ?_
  intro p e s m below meth c T0 X0 hx hby hml hZ hown hnm hret hlk e0
  have hown : s.vm.findClass "java/util/Arrays" = some m.cls := hown
  have hnm : meth.name = "copyOfRange" := hnm
  have N0 := Fr.nil n0
  have K0 : Keep h0 h0 [] := Keep.refl _ _
  refine own_st (mkF m 1 #[rv r1, iv (0 : Int32), iv (4 : Int32)] [(.int (0 : Int32))]) (fun t k => XS.iloadN X0.here hx rfl (hb hby d32_0) rfl k) ?_
  refine own_st (mkF m 4 #[rv r1, iv (0 : Int32), iv (4 : Int32)] []) (fun t k => XS.ifNo X0.here hx rfl (hb hby d32_1) rfl ((if0 _ _).trans (teq (by decide : (0 : Int32) = (0 : Int32))).2) k) ?_
  refine own_st (mkF m 5 #[rv r1, iv (0 : Int32), iv (4 : Int32)] [(.int (4 : Int32))]) (fun t k => XS.iloadN X0.here hx rfl (hb hby d32_4) rfl k) ?_
  refine own_st (mkF m 6 #[rv r1, iv (0 : Int32), iv (4 : Int32)] [(.ref r1), (.int (4 : Int32))]) (fun t k => XS.aloadN X0.here hx rfl (hb hby d32_5) rfl rfl k) ?_
  obtain ⟨cl141, Ar141, -, S141, M141, -, -⟩ := id V0
  refine own_step (T' := T0) (g' := (mkF m 7 #[rv r1, iv (0 : Int32), iv (4 : Int32)] [(.int cl141.slots.size.toInt32), (.int (4 : Int32))])) (X0.arraylength hx (by rw [e0]; exact Ar141.1) (State.isArrayOf_alike hZ.alike Ar141.2.1) (g := (mkF m 6 #[rv r1, iv (0 : Int32), iv (4 : Int32)] [(.ref r1), (.int (4 : Int32))])) rfl rfl (hb hby d32_6)) ?_
  rw [len_of S141 M141]
  refine own_st (mkF m 10 #[rv r1, iv (0 : Int32), iv (4 : Int32)] []) (fun t k => XS.icmpNo X0.here hx rfl (hb hby d32_7) rfl (feq (by decide : ¬ ((4 : Int32) = (16 : Int32)))).1 k) ?_
  refine own_st (mkF m 11 #[rv r1, iv (0 : Int32), iv (4 : Int32)] [(.ref r1)]) (fun t k => XS.aloadN X0.here hx rfl (hb hby d32_10) rfl rfl k) ?_
  refine own_st (mkF m 12 #[rv r1, iv (0 : Int32), iv (4 : Int32)] [(.int (0 : Int32)), (.ref r1)]) (fun t k => XS.iloadN X0.here hx rfl (hb hby d32_11) rfl k) ?_
  refine own_st (mkF m 13 #[rv r1, iv (0 : Int32), iv (4 : Int32)] [(.int (4 : Int32)), (.int (0 : Int32)), (.ref r1)]) (fun t k => XS.iloadN X0.here hx rfl (hb hby d32_12) rfl k) ?_
  obtain ⟨_, _, ⟨T142, L142, k142, n142⟩, -, X142, ⟨Lc142, hQ142, l142, y142, z142⟩, st142⟩ := Jvm.LawKit.callS X0 hx (y := (⟨"java/util/Arrays", "copyOfRangeByte", "([BII)[B"⟩ : MethodName)) hown (mvT hZ (hw_191 hw)) (mvT hZ (hw_192 hw)) (mvT hZ (hw_189 hw)) (mvT hZ (hw_193 hw)) (by decide) (backOf (W := 0) (own_rm33_t4 l Z a0 hw [] r1 kb es h0 n0 Z0 hes V0) hZ (hw_193 hw) (hw_189 hw) (by decide) (by decide)) (g := (mkF m 13 #[rv r1, iv (0 : Int32), iv (4 : Int32)] [(.int (4 : Int32)), (.int (0 : Int32)), (.ref r1)])) rfl (by rw [hml]; rfl) (argsL := [(.ref r1), (.int (0 : Int32)), (.int (4 : Int32))]) (rest := []) (lenOf pd_15 rfl) rfl (by show 2 * 0 + _ ≤ _; exact Nat.le_of_eq rfl) (hb hby d32_13) (fun _ _ => ⟨rfl, e0, (by decide : 0 + 1 ≤ _), (by decide : 0 + 4 ≤ _)⟩)
  dsimp only [Pt.U, Pt.locs, Pt.cells, Pt.slots] at X142 l142 y142 z142 st142 hQ142
  subst l142 y142 z142
  obtain ⟨ba142, kb142, rfl, Nq142, K142, gb142, V142, Eb142⟩ := hQ142
  have N142 := Fr.app N0 Nq142
  have g_ba142 : n0 ≤ ba142 := Nat.le_trans Z0 gb142
  have ne_r1_ba142 : r1 ≠ ba142 := Nat.ne_of_lt (Nat.lt_of_lt_of_le V0.lt gb142)
  have sz_ba142 : h0.size ≤ ba142 := Nat.le_trans K0.1 gb142
  have Z142 : n0 ≤ T142.heap.size := Nat.le_trans Z0 K142.1
  have Kp142 : Keep h0 T142.heap [] := K0.trans K142 all0
  have f1_Arv_r1 : Arv Z T142.heap r1 kb .byte (16 : Int32) ((es).map Value.int) (.int (0 : Int32)) := (V0.keep K142 nin0)
  refine own_step (g' := (mkF m 16 #[rv r1, iv (0 : Int32), iv (4 : Int32)] [(.ref ba142)])) st142 ?_
  refine own_ret X142 hlk (v := some (.ref ba142)) (fun h => by rw [hret] at h; cases h) (fun fs hr => X142.areturnOut hx (w := (.ref ba142)) rfl hret rfl (hb hby d32_16) hr) ?_ (by decide) (by decide)
  show own_Q32_t4 Z r1 kb es h0 n0 _ T142.heap _
  exact ⟨ba142, kb142, rfl, N142, Kp142, sz_ba142, V142, Eb142⟩
theorem d27_0 : decode jdk_42_method_150_code 0 = .ok (.aload_n 0, 1) := by decide +kernel
theorem d27_1 : decode jdk_42_method_150_code 1 = .ok (.invokespecial 1, 3) := by decide +kernel
theorem d27_4 : decode jdk_42_method_150_code 4 = .ok (.aload_n 1, 1) := by decide +kernel
theorem d27_5 : decode jdk_42_method_150_code 5 = .ok (.invokevirtual 552, 3) := by decide +kernel
theorem hw_169 {a0 Z} (hw : own_W a0 Z) : (Jvm.Cond.methodLink "java/lang/String" (552 : Nat) ({ cls := "java/lang/AbstractStringBuilder", name := "getValue", desc := "()[B" } : Jvm.MethodName)).before a0 Z = true := hw _ (List.mem_of_getElem? (i := 169) rfl)
theorem hw_173 {a0 Z} (hw : own_W a0 Z) : (Jvm.Cond.code ({ cls := "java/lang/AbstractStringBuilder", name := "getValue", desc := "()[B" } : Jvm.MethodName) jdk_68_method_64_code (1 : Nat) (Option.some (Jvm.ClassFile.FieldType.array Jvm.ClassFile.FieldType.byte))).before a0 Z = true := hw _ (List.mem_of_getElem? (i := 173) rfl)
theorem pd_16 : parseMethodDescriptor "()[B" = some ⟨[], some (.array .byte)⟩ := by decide +kernel
theorem hw_170 {a0 Z} (hw : own_W a0 Z) : (Jvm.Cond.declares ({ cls := "java/lang/AbstractStringBuilder", name := "getValue", desc := "()[B" } : Jvm.MethodName)).before a0 Z = true := hw _ (List.mem_of_getElem? (i := 170) rfl)
theorem hw_171 {a0 Z} (hw : own_W a0 Z) : (Jvm.Cond.instanceMethod ({ cls := "java/lang/AbstractStringBuilder", name := "getValue", desc := "()[B" } : Jvm.MethodName)).before a0 Z = true := hw _ (List.mem_of_getElem? (i := 171) rfl)
theorem d27_8 : decode jdk_42_method_150_code 8 = .ok (.astore_n 3, 1) := by decide +kernel
theorem d27_9 : decode jdk_42_method_150_code 9 = .ok (.aload_n 1, 1) := by decide +kernel
theorem d27_10 : decode jdk_42_method_150_code 10 = .ok (.invokevirtual 549, 3) := by decide +kernel
theorem hw_174 {a0 Z} (hw : own_W a0 Z) : (Jvm.Cond.methodLink "java/lang/String" (549 : Nat) ({ cls := "java/lang/AbstractStringBuilder", name := "length", desc := "()I" } : Jvm.MethodName)).before a0 Z = true := hw _ (List.mem_of_getElem? (i := 174) rfl)
theorem hw_179 {a0 Z} (hw : own_W a0 Z) : (Jvm.Cond.code ({ cls := "java/lang/StringBuilder", name := "length", desc := "()I" } : Jvm.MethodName) jdk_67_method_93_code (1 : Nat) (Option.some Jvm.ClassFile.FieldType.int)).before a0 Z = true := hw _ (List.mem_of_getElem? (i := 179) rfl)
theorem hw_91 {a0 Z} (hw : own_W a0 Z) : (Jvm.Cond.initialized "java/lang/StringBuilder").before a0 Z = true := hw _ (List.mem_of_getElem? (i := 91) rfl)
theorem hw_177 {a0 Z} (hw : own_W a0 Z) : (Jvm.Cond.selects "java/lang/StringBuilder" ({ cls := "java/lang/AbstractStringBuilder", name := "length", desc := "()I" } : Jvm.MethodName) ({ cls := "java/lang/StringBuilder", name := "length", desc := "()I" } : Jvm.MethodName)).before a0 Z = true := hw _ (List.mem_of_getElem? (i := 177) rfl)
theorem hw_175 {a0 Z} (hw : own_W a0 Z) : (Jvm.Cond.declares ({ cls := "java/lang/AbstractStringBuilder", name := "length", desc := "()I" } : Jvm.MethodName)).before a0 Z = true := hw _ (List.mem_of_getElem? (i := 175) rfl)
theorem hw_178 {a0 Z} (hw : own_W a0 Z) : (Jvm.Cond.instanceMethod ({ cls := "java/lang/StringBuilder", name := "length", desc := "()I" } : Jvm.MethodName)).before a0 Z = true := hw _ (List.mem_of_getElem? (i := 178) rfl)
theorem d27_13 : decode jdk_42_method_150_code 13 = .ok (.istore 4, 2) := by decide +kernel
theorem d27_15 : decode jdk_42_method_150_code 15 = .ok (.aload_n 1, 1) := by decide +kernel
theorem d27_16 : decode jdk_42_method_150_code 16 = .ok (.invokevirtual 1047, 3) := by decide +kernel
theorem hw_182 {a0 Z} (hw : own_W a0 Z) : (Jvm.Cond.methodLink "java/lang/String" (1047 : Nat) ({ cls := "java/lang/AbstractStringBuilder", name := "isLatin1", desc := "()Z" } : Jvm.MethodName)).before a0 Z = true := hw _ (List.mem_of_getElem? (i := 182) rfl)
theorem hw_186 {a0 Z} (hw : own_W a0 Z) : (Jvm.Cond.code ({ cls := "java/lang/AbstractStringBuilder", name := "isLatin1", desc := "()Z" } : Jvm.MethodName) jdk_68_method_68_code (1 : Nat) (Option.some Jvm.ClassFile.FieldType.boolean)).before a0 Z = true := hw _ (List.mem_of_getElem? (i := 186) rfl)
theorem pd_17 : parseMethodDescriptor "()Z" = some ⟨[], some .boolean⟩ := by decide +kernel
theorem hw_185 {a0 Z} (hw : own_W a0 Z) : (Jvm.Cond.selects "java/lang/StringBuilder" ({ cls := "java/lang/AbstractStringBuilder", name := "isLatin1", desc := "()Z" } : Jvm.MethodName) ({ cls := "java/lang/AbstractStringBuilder", name := "isLatin1", desc := "()Z" } : Jvm.MethodName)).before a0 Z = true := hw _ (List.mem_of_getElem? (i := 185) rfl)
theorem hw_183 {a0 Z} (hw : own_W a0 Z) : (Jvm.Cond.declares ({ cls := "java/lang/AbstractStringBuilder", name := "isLatin1", desc := "()Z" } : Jvm.MethodName)).before a0 Z = true := hw _ (List.mem_of_getElem? (i := 183) rfl)
theorem hw_184 {a0 Z} (hw : own_W a0 Z) : (Jvm.Cond.instanceMethod ({ cls := "java/lang/AbstractStringBuilder", name := "isLatin1", desc := "()Z" } : Jvm.MethodName)).before a0 Z = true := hw _ (List.mem_of_getElem? (i := 184) rfl)
theorem d27_19 : decode jdk_42_method_150_code 19 = .ok (.ifCond .eq 22, 3) := by decide +kernel
theorem d27_22 : decode jdk_42_method_150_code 22 = .ok (.aload_n 0, 1) := by decide +kernel
theorem d27_23 : decode jdk_42_method_150_code 23 = .ok (.iconst 0, 1) := by decide +kernel
theorem d27_24 : decode jdk_42_method_150_code 24 = .ok (.putfield 15, 3) := by decide +kernel
theorem d27_27 : decode jdk_42_method_150_code 27 = .ok (.aload_n 0, 1) := by decide +kernel
theorem d27_28 : decode jdk_42_method_150_code 28 = .ok (.aload_n 3, 1) := by decide +kernel
theorem d27_29 : decode jdk_42_method_150_code 29 = .ok (.iconst 0, 1) := by decide +kernel
theorem d27_30 : decode jdk_42_method_150_code 30 = .ok (.iload 4, 2) := by decide +kernel
theorem d27_32 : decode jdk_42_method_150_code 32 = .ok (.invokestatic 54, 3) := by decide +kernel
theorem hw_187 {a0 Z} (hw : own_W a0 Z) : (Jvm.Cond.methodLink "java/lang/String" (54 : Nat) ({ cls := "java/util/Arrays", name := "copyOfRange", desc := "([BII)[B" } : Jvm.MethodName)).before a0 Z = true := hw _ (List.mem_of_getElem? (i := 187) rfl)
theorem hw_190 {a0 Z} (hw : own_W a0 Z) : (Jvm.Cond.code ({ cls := "java/util/Arrays", name := "copyOfRange", desc := "([BII)[B" } : Jvm.MethodName) jdk_65_method_132_code (3 : Nat) (Option.some (Jvm.ClassFile.FieldType.array Jvm.ClassFile.FieldType.byte))).before a0 Z = true := hw _ (List.mem_of_getElem? (i := 190) rfl)
theorem hw_188 {a0 Z} (hw : own_W a0 Z) : (Jvm.Cond.static ({ cls := "java/util/Arrays", name := "copyOfRange", desc := "([BII)[B" } : Jvm.MethodName)).before a0 Z = true := hw _ (List.mem_of_getElem? (i := 188) rfl)
theorem d27_35 : decode jdk_42_method_150_code 35 = .ok (.putfield 9, 3) := by decide +kernel
theorem d27_38 : decode jdk_42_method_150_code 38 = .ok (.goto 59, 3) := by decide +kernel
theorem d27_97 : decode jdk_42_method_150_code 97 = .ok (.return_, 1) := by decide +kernel
theorem own_ef27_t4 (m : MethodId) (a1 : Addr) (r2 : Addr) : entryFrame m #[(.ref a1), (.ref r2), .null] 5 = mkF m 0 #[rv a1, rv r2, .val .null, .unset, .unset] [] := by first | (simp [entryFrame, mkF, argsToLocals, Value.category]; done) | rfl
def own_Q27_t4 (Z : State) (a1 : Addr) (r2 : Addr) (vb : Addr) (kb : ClassId) (es : List Int32) (wc : Int32) (wD : Addr) (kD : ClassId) (h0 : Heap) (n0 : Nat) (v : Option Value) (h : Heap) (L : List Loc) : Prop := ∃ (ba : Addr) (kq : ClassId), v = none ∧ Fr n0 L ∧ Keep h0 h [a1] ∧ h0.size ≤ ba ∧ Exa Z h a1 "java/lang/String" ∧ Fld Z h a1 "java/lang/String" "value" "[B" (.ref ba) ∧ Fld Z h a1 "java/lang/String" "coder" "B" (.int (0 : Int32)) ∧ Arv Z h ba kq .byte (4 : Int32) ((es.take 4).map Value.int) (.int (0 : Int32))
set_option maxRecDepth 65536 in
set_option maxHeartbeats 40000000 in
theorem own_rm27_t4 (l : Launch) (Z : State) (a0 : Array Value) (hw : own_W a0 Z) (ws : List Jvm.Cond) (a1 : Addr) (r2 : Addr) (vb : Addr) (kb : ClassId) (es : List Int32) (wc : Int32) (wD : Addr) (kD : ClassId) (h0 : Heap) (n0 : Nat) (Z0 : n0 ≤ h0.size) (O0 : Old Z n0 h0) (SS : own_St Z wc wD kD) (hes : es.length = 16) (E_a1 : Exa Z h0 a1 "java/lang/String") (F_v : Fld Z h0 a1 "java/lang/String" "value" "[B" .null) (F_c : Fld Z h0 a1 "java/lang/String" "coder" "B" (.int (0 : Int32))) (E_r2 : Exa Z h0 r2 "java/lang/StringBuilder") (G_v : Fld Z h0 r2 "java/lang/AbstractStringBuilder" "value" "[B" (.ref vb)) (G_c : Fld Z h0 r2 "java/lang/AbstractStringBuilder" "coder" "B" (.int (0 : Int32))) (G_n : Fld Z h0 r2 "java/lang/AbstractStringBuilder" "count" "I" (.int (4 : Int32))) (V0 : Arv Z h0 vb kb .byte (16 : Int32) ((es).map Value.int) (.int (0 : Int32))) (g_a1 : n0 ≤ a1) (ne_12 : a1 ≠ r2) (ne_1v : a1 ≠ vb) :
    MetFree l (⟨"java/lang/String", "<init>", "(Ljava/lang/AbstractStringBuilder;Ljava/lang/Void;)V"⟩ : MethodName) (head1 (Jvm.Cond.code (⟨"java/lang/String", "<init>", "(Ljava/lang/AbstractStringBuilder;Ljava/lang/Void;)V"⟩ : MethodName) jdk_42_method_150_code 5 none :: ws) ({ frames := 3, cells := 1, slots := 4, locals := 49 } : Room)) (fun a U => a = #[(.ref a1), (.ref r2), .null] ∧ Z.Warmed39 U.vm ∧ U.heap = h0) (fun _ _ _ _ _ => True) (fun _ U o U' => ∃ v L, o = .returned v ∧ own_Q27_t4 Z a1 r2 vb kb es wc wD kD h0 n0 v U'.heap L ∧ FrameEnd U o U' L ({ frames := 3, cells := 1, slots := 4, locals := 49 } : Room).cells ({ frames := 3, cells := 1, slots := 4, locals := 49 } : Room).slots) := by
  refine own_body (plainFor_of_name pn_12) (fun m => own_ef27_t4 m a1 r2) ?_
  intro p e s m below meth c T0 X0 hx hby hml hZ hown hnm hret hlk e0
  have hown : s.vm.findClass "java/lang/String" = some m.cls := hown
  have hnm : meth.name = "<init>" := hnm
  have N0 := Fr.nil n0
  have K0 : Keep h0 h0 [a1] := Keep.refl _ _
  refine own_st (mkF m 1 #[rv a1, rv r2, .val .null, .unset, .unset] [(.ref a1)]) (fun t k => XS.aloadN X0.here hx rfl (hb hby d27_0) rfl rfl k) ?_
  obtain ⟨T143, X143, e143, st143⟩ := initO X0 hx hZ hown (hw_76 hw) (hw_7 hw) (hw_8 hw) e0 (g := (mkF m 1 #[rv a1, rv r2, .val .null, .unset, .unset] [(.ref a1)])) rfl (by rw [hml]; rfl) rfl (hb hby d27_1) (by decide) (W := 0) (by show 2 * 0 + _ ≤ _; exact Nat.le_of_eq rfl) (by decide)
  refine own_step (g' := (mkF m 4 #[rv a1, rv r2, .val .null, .unset, .unset] [])) st143 ?_
  refine own_st (mkF m 5 #[rv a1, rv r2, .val .null, .unset, .unset] [(.ref r2)]) (fun t k => XS.aloadN X143.here hx rfl (hb hby d27_4) rfl rfl k) ?_
  obtain ⟨cq144, kq144, q144a, q144b, q144c⟩ := isOf hZ e143 E_r2
  obtain ⟨_, _, ⟨T144, L144, k144, n144⟩, -, X144, ⟨Lc144, hQ144, l144, y144, z144⟩, st144⟩ := X143.virtualBack hx (y := (⟨"java/lang/AbstractStringBuilder", "getValue", "()[B"⟩ : MethodName)) (z := (⟨"java/lang/AbstractStringBuilder", "getValue", "()[B"⟩ : MethodName)) hown (mvT hZ (hw_169 hw)) (mvT hZ (hw_170 hw)) (notFace_of_selects (args := #[]) (mvT hZ (hw_172 hw))) (mvT hZ (hw_172 hw)) (mvT hZ (hw_171 hw)) (by decide) (backOf (W := 0) (own_rm28 l Z a0 hw [] r2 vb h0 n0 Z0 G_v) hZ (hw_173 hw) (hw_99 hw) (by decide) (by decide)) q144a q144c (g := (mkF m 5 #[rv a1, rv r2, .val .null, .unset, .unset] [(.ref r2)])) rfl (by rw [hml]; rfl) (Steps.refl _) (argsL := []) (rest := []) (lenOf pd_16 rfl) rfl (by show 2 * 0 + _ ≤ _; exact Nat.le_of_eq rfl) (hb hby d27_5) (fun _ _ => ⟨rfl, e143, (by decide : 0 + 0 ≤ _), (by decide : 0 + 0 ≤ _)⟩)
  dsimp only [Pt.U, Pt.locs, Pt.cells, Pt.slots] at X144 l144 y144 z144 st144 hQ144
  subst l144 y144 z144
  obtain ⟨rfl, Nq144, e144⟩ := hQ144
  have N144 := Fr.app N0 Nq144
  refine own_jump (g' := (mkF m 8 #[rv a1, rv r2, .val .null, .unset, .unset] [(.ref vb)])) st144 ?_
  refine own_st (mkF m 9 #[rv a1, rv r2, .val .null, rv vb, .unset] []) (fun t k => XS.astoreN X144.here hx rfl (hb hby d27_8) rfl rfl (l' := #[rv a1, rv r2, .val .null, rv vb, .unset]) rfl k) ?_
  refine own_st (mkF m 10 #[rv a1, rv r2, .val .null, rv vb, .unset] [(.ref r2)]) (fun t k => XS.aloadN X144.here hx rfl (hb hby d27_9) rfl rfl k) ?_
  obtain ⟨cq145, kq145, q145a, q145b, q145c⟩ := isOf hZ e144 E_r2
  obtain ⟨_, _, ⟨T145, L145, k145, n145⟩, -, X145, ⟨Lc145, hQ145, l145, y145, z145⟩, st145⟩ := X144.virtualBack hx (y := (⟨"java/lang/AbstractStringBuilder", "length", "()I"⟩ : MethodName)) (z := (⟨"java/lang/StringBuilder", "length", "()I"⟩ : MethodName)) hown (mvT hZ (hw_174 hw)) (mvT hZ (hw_175 hw)) (own_nf (y := (⟨"java/lang/AbstractStringBuilder", "length", "()I"⟩ : MethodName)) (y2 := (⟨"java/lang/AbstractStringBuilder", "getValue", "()[B"⟩ : MethodName)) rfl (args := #[]) (mvT hZ (hw_172 hw))) (mvT hZ (hw_177 hw)) (mvT hZ (hw_178 hw)) (by decide) (backOf (W := 0) (own_rm29 l Z a0 hw [] r2 (4 : Int32) h0 n0 Z0 G_n E_r2) hZ (hw_179 hw) (hw_91 hw) (by decide) (by decide)) q145a q145c (g := (mkF m 10 #[rv a1, rv r2, .val .null, rv vb, .unset] [(.ref r2)])) rfl (by rw [hml]; rfl) (Steps.refl _) (argsL := []) (rest := []) (lenOf pd_5 rfl) rfl (by show 2 * 0 + _ ≤ _; exact Nat.le_of_eq rfl) (hb hby d27_10) (fun _ _ => ⟨rfl, e144, (by decide : 0 + 0 ≤ _), (by decide : 0 + 0 ≤ _)⟩)
  dsimp only [Pt.U, Pt.locs, Pt.cells, Pt.slots] at X145 l145 y145 z145 st145 hQ145
  subst l145 y145 z145
  obtain ⟨rfl, Nq145, e145⟩ := hQ145
  have N145 := Fr.app N144 Nq145
  refine own_jump (g' := (mkF m 13 #[rv a1, rv r2, .val .null, rv vb, .unset] [(.int (4 : Int32))])) st145 ?_
  refine own_st (mkF m 15 #[rv a1, rv r2, .val .null, rv vb, iv (4 : Int32)] []) (fun t k => XS.istore X145.here hx rfl (hb hby d27_13) rfl (l' := #[rv a1, rv r2, .val .null, rv vb, iv (4 : Int32)]) rfl k) ?_
  refine own_st (mkF m 16 #[rv a1, rv r2, .val .null, rv vb, iv (4 : Int32)] [(.ref r2)]) (fun t k => XS.aloadN X145.here hx rfl (hb hby d27_15) rfl rfl k) ?_
  obtain ⟨cq146, kq146, q146a, q146b, q146c⟩ := isOf hZ e145 E_r2
  obtain ⟨_, _, ⟨T146, L146, k146, n146⟩, -, X146, ⟨Lc146, hQ146, l146, y146, z146⟩, st146⟩ := X145.virtualBack hx (y := (⟨"java/lang/AbstractStringBuilder", "isLatin1", "()Z"⟩ : MethodName)) (z := (⟨"java/lang/AbstractStringBuilder", "isLatin1", "()Z"⟩ : MethodName)) hown (mvT hZ (hw_182 hw)) (mvT hZ (hw_183 hw)) (notFace_of_selects (args := #[]) (mvT hZ (hw_185 hw))) (mvT hZ (hw_185 hw)) (mvT hZ (hw_184 hw)) (by decide) (backOf (W := 0) (own_rm31 l Z a0 hw [] r2 wc wD kD h0 n0 Z0 O0 SS G_c) hZ (hw_186 hw) (hw_99 hw) (by decide) (by decide)) q146a q146c (g := (mkF m 16 #[rv a1, rv r2, .val .null, rv vb, iv (4 : Int32)] [(.ref r2)])) rfl (by rw [hml]; rfl) (Steps.refl _) (argsL := []) (rest := []) (lenOf pd_17 rfl) rfl (by show 2 * 0 + _ ≤ _; exact Nat.le_of_eq rfl) (hb hby d27_16) (fun _ _ => ⟨rfl, e145, (by decide : 0 + 0 ≤ _), (by decide : 0 + 0 ≤ _)⟩)
  dsimp only [Pt.U, Pt.locs, Pt.cells, Pt.slots] at X146 l146 y146 z146 st146 hQ146
  subst l146 y146 z146
  obtain ⟨rfl, Nq146, e146⟩ := hQ146
  have N146 := Fr.app N145 Nq146
  refine own_jump (g' := (mkF m 19 #[rv a1, rv r2, .val .null, rv vb, iv (4 : Int32)] [(.int (1 : Int32))])) st146 ?_
  refine own_st (mkF m 22 #[rv a1, rv r2, .val .null, rv vb, iv (4 : Int32)] []) (fun t k => XS.ifNo X146.here hx rfl (hb hby d27_19) rfl ((if0 _ _).trans (feq (by decide : ¬ ((1 : Int32) = (0 : Int32)))).1) k) ?_
  refine own_st (mkF m 23 #[rv a1, rv r2, .val .null, rv vb, iv (4 : Int32)] [(.ref a1)]) (fun t k => XS.aloadN X146.here hx rfl (hb hby d27_22) rfl rfl k) ?_
  refine own_st (mkF m 24 #[rv a1, rv r2, .val .null, rv vb, iv (4 : Int32)] [(.int (0 : Int32)), (.ref a1)]) (fun t k => XS.iconst X146.here hx rfl (hb hby d27_23) k) ?_
  obtain ⟨T147, h147, X147, e147, W147, st147⟩ := putFN X146 hx hZ hown (hw_79 hw) Via.refl e146 F_c E_a1 (Or.inr ⟨(hw_80 hw), rfl, hnm⟩) (hw_67 hw) (ty := .byte) (v' := (.int (nar .byte (0 : Int32)))) (by decide) rfl (fits_nar_byte _) (g := (mkF m 24 #[rv a1, rv r2, .val .null, rv vb, iv (4 : Int32)] [(.int (0 : Int32)), (.ref a1)])) rfl rfl (hb hby d27_24)
  have f1_Exa_a1 : Exa Z h147 a1 "java/lang/String" := (E_a1.wr W147)
  have f2_Fld_a1 : Fld Z h147 a1 "java/lang/String" "value" "[B" .null := (F_v.other W147 (Or.inr (slot_ne (a0 := a0) (C := "java/lang/String") (Or.inr (hw_78 hw)) (Or.inr (hw_80 hw)) (by decide) (t := (.array .byte)) (t' := .byte) (by decide) (by decide))))
  have f3_Exa_r2 : Exa Z h147 r2 "java/lang/StringBuilder" := (E_r2.wr W147)
  have f4_Fld_r2 : Fld Z h147 r2 "java/lang/AbstractStringBuilder" "value" "[B" (.ref vb) := (G_v.other W147 (Or.inl (Ne.symm ne_12)))
  have f5_Fld_r2 : Fld Z h147 r2 "java/lang/AbstractStringBuilder" "coder" "B" (.int (0 : Int32)) := (G_c.other W147 (Or.inl (Ne.symm ne_12)))
  have f6_Fld_r2 : Fld Z h147 r2 "java/lang/AbstractStringBuilder" "count" "I" (.int (4 : Int32)) := (G_n.other W147 (Or.inl (Ne.symm ne_12)))
  have f7_Arv_vb : Arv Z h147 vb kb .byte (16 : Int32) ((es).map Value.int) (.int (0 : Int32)) := (V0.other W147 (Ne.symm ne_1v))
  have fw147 : Fld Z h147 a1 "java/lang/String" "coder" "B" (.int (nar .byte (0 : Int32))) := F_c.same W147
  have Z147 : n0 ≤ h147.size := Nat.le_trans Z0 (Keep.of_wr W147).1
  have Kp147 : Keep h0 h147 [a1] := K0.wr W147 (Or.inl (List.mem_of_getElem? (i := 0) rfl))
  have O147 : Old Z n0 h147 := O0.wr W147 g_a1
  have N147 := Fr.snoc X147 N146 g_a1
  refine own_step (g' := (mkF m 27 #[rv a1, rv r2, .val .null, rv vb, iv (4 : Int32)] [])) st147 ?_
  have Fz : Fld Z h147 a1 "java/lang/String" "coder" "B" (.int (0 : Int32)) := own_nar0 ▸ fw147
  refine own_st (mkF m 28 #[rv a1, rv r2, .val .null, rv vb, iv (4 : Int32)] [(.ref a1)]) (fun t k => XS.aloadN X147.here hx rfl (hb hby d27_27) rfl rfl k) ?_
  refine own_st (mkF m 29 #[rv a1, rv r2, .val .null, rv vb, iv (4 : Int32)] [(.ref vb), (.ref a1)]) (fun t k => XS.aloadN X147.here hx rfl (hb hby d27_28) rfl rfl k) ?_
  refine own_st (mkF m 30 #[rv a1, rv r2, .val .null, rv vb, iv (4 : Int32)] [(.int (0 : Int32)), (.ref vb), (.ref a1)]) (fun t k => XS.iconst X147.here hx rfl (hb hby d27_29) k) ?_
  refine own_st (mkF m 32 #[rv a1, rv r2, .val .null, rv vb, iv (4 : Int32)] [(.int (4 : Int32)), (.int (0 : Int32)), (.ref vb), (.ref a1)]) (fun t k => XS.iload X147.here hx rfl (hb hby d27_30) rfl k) ?_
  obtain ⟨_, _, ⟨T148, L148, k148, n148⟩, -, X148, ⟨Lc148, hQ148, l148, y148, z148⟩, st148⟩ := Jvm.LawKit.callS X147 hx (y := (⟨"java/util/Arrays", "copyOfRange", "([BII)[B"⟩ : MethodName)) hown (mvT hZ (hw_187 hw)) (mvT hZ (hw_188 hw)) (mvT hZ (hw_189 hw)) (mvT hZ (hw_190 hw)) (by decide) (backOf (W := 1) (own_rm32_t4 l Z a0 hw [] vb kb es h147 n0 Z147 hes f7_Arv_vb) hZ (hw_190 hw) (hw_189 hw) (by decide) (by decide)) (g := (mkF m 32 #[rv a1, rv r2, .val .null, rv vb, iv (4 : Int32)] [(.int (4 : Int32)), (.int (0 : Int32)), (.ref vb), (.ref a1)])) rfl (by rw [hml]; rfl) (argsL := [(.ref vb), (.int (0 : Int32)), (.int (4 : Int32))]) (rest := [(.ref a1)]) (lenOf pd_15 rfl) rfl (by show 2 * 0 + _ ≤ _; exact Nat.le_of_eq rfl) (hb hby d27_32) (fun _ _ => ⟨rfl, e147, (by decide : 0 + 1 ≤ _), (by decide : 0 + 4 ≤ _)⟩)
  dsimp only [Pt.U, Pt.locs, Pt.cells, Pt.slots] at X148 l148 y148 z148 st148 hQ148
  subst l148 y148 z148
  obtain ⟨ba148, kb148, rfl, Nq148, K148, gb148, V148, Eb148⟩ := hQ148
  have N148 := Fr.app N147 Nq148
  have g_ba148 : n0 ≤ ba148 := Nat.le_trans Z147 gb148
  have ne_a1_ba148 : a1 ≠ ba148 := Nat.ne_of_lt (Nat.lt_of_lt_of_le f1_Exa_a1.lt gb148)
  have ne_r2_ba148 : r2 ≠ ba148 := Nat.ne_of_lt (Nat.lt_of_lt_of_le f3_Exa_r2.lt gb148)
  have ne_vb_ba148 : vb ≠ ba148 := Nat.ne_of_lt (Nat.lt_of_lt_of_le f7_Arv_vb.lt gb148)
  have sz_ba148 : h0.size ≤ ba148 := Nat.le_trans Kp147.1 gb148
  have Z148 : n0 ≤ T148.heap.size := Nat.le_trans Z147 K148.1
  have O148 : Old Z n0 T148.heap := O147.keep K148 all0
  have Kp148 : Keep h0 T148.heap [a1] := Kp147.trans K148 all0
  have f8_Exa_a1 : Exa Z T148.heap a1 "java/lang/String" := (f1_Exa_a1.keep K148)
  have f9_Fld_a1 : Fld Z T148.heap a1 "java/lang/String" "value" "[B" .null := (f2_Fld_a1.keep K148 nin0)
  have f10_Fld_a1 : Fld Z T148.heap a1 "java/lang/String" "coder" "B" (.int (0 : Int32)) := (Fz.keep K148 nin0)
  have f11_Exa_r2 : Exa Z T148.heap r2 "java/lang/StringBuilder" := (f3_Exa_r2.keep K148)
  have f12_Fld_r2 : Fld Z T148.heap r2 "java/lang/AbstractStringBuilder" "value" "[B" (.ref vb) := (f4_Fld_r2.keep K148 nin0)
  have f13_Fld_r2 : Fld Z T148.heap r2 "java/lang/AbstractStringBuilder" "coder" "B" (.int (0 : Int32)) := (f5_Fld_r2.keep K148 nin0)
  have f14_Fld_r2 : Fld Z T148.heap r2 "java/lang/AbstractStringBuilder" "count" "I" (.int (4 : Int32)) := (f6_Fld_r2.keep K148 nin0)
  have f15_Arv_vb : Arv Z T148.heap vb kb .byte (16 : Int32) ((es).map Value.int) (.int (0 : Int32)) := (f7_Arv_vb.keep K148 nin0)
  refine own_step (g' := (mkF m 35 #[rv a1, rv r2, .val .null, rv vb, iv (4 : Int32)] [(.ref ba148), (.ref a1)])) st148 ?_
  obtain ⟨T149, h149, X149, e149, W149, st149⟩ := putF X148 hx hZ hown (host := "") (Or.inl (hw_77 hw)) Via.refl rfl f9_Fld_a1 f8_Exa_a1 (Or.inr ⟨(hw_78 hw), rfl, hnm⟩) (hw_67 hw) (ty := (.array .byte)) (by decide) rfl rfl (g := (mkF m 35 #[rv a1, rv r2, .val .null, rv vb, iv (4 : Int32)] [(.ref ba148), (.ref a1)])) rfl rfl (hb hby d27_35)
  have f16_Exa_a1 : Exa Z h149 a1 "java/lang/String" := (f8_Exa_a1.wr W149)
  have f17_Fld_a1 : Fld Z h149 a1 "java/lang/String" "coder" "B" (.int (0 : Int32)) := (f10_Fld_a1.other W149 (Or.inr (slot_ne (a0 := a0) (C := "java/lang/String") (Or.inr (hw_80 hw)) (Or.inr (hw_78 hw)) (by decide) (t := .byte) (t' := (.array .byte)) (by decide) (by decide))))
  have f18_Exa_r2 : Exa Z h149 r2 "java/lang/StringBuilder" := (f11_Exa_r2.wr W149)
  have f19_Fld_r2 : Fld Z h149 r2 "java/lang/AbstractStringBuilder" "value" "[B" (.ref vb) := (f12_Fld_r2.other W149 (Or.inl (Ne.symm ne_12)))
  have f20_Fld_r2 : Fld Z h149 r2 "java/lang/AbstractStringBuilder" "coder" "B" (.int (0 : Int32)) := (f13_Fld_r2.other W149 (Or.inl (Ne.symm ne_12)))
  have f21_Fld_r2 : Fld Z h149 r2 "java/lang/AbstractStringBuilder" "count" "I" (.int (4 : Int32)) := (f14_Fld_r2.other W149 (Or.inl (Ne.symm ne_12)))
  have f22_Arv_vb : Arv Z h149 vb kb .byte (16 : Int32) ((es).map Value.int) (.int (0 : Int32)) := (f15_Arv_vb.other W149 (Ne.symm ne_1v))
  have f23_Arv_ba148 : Arv Z h149 ba148 kb148 .byte (4 : Int32) (((es).take 4).map Value.int) (.int (0 : Int32)) := (V148.other W149 (Ne.symm ne_a1_ba148))
  have f24_Exa_ba148 : Exa Z h149 ba148 "[B" := (Eb148.wr W149)
  have fw149 : Fld Z h149 a1 "java/lang/String" "value" "[B" (.ref ba148) := f9_Fld_a1.same W149
  have Z149 : n0 ≤ h149.size := Nat.le_trans Z148 (Keep.of_wr W149).1
  have Kp149 : Keep h0 h149 [a1] := Kp148.wr W149 (Or.inl (List.mem_of_getElem? (i := 0) rfl))
  have O149 : Old Z n0 h149 := O148.wr W149 g_a1
  have N149 := Fr.snoc X149 N148 g_a1
  refine own_step (g' := (mkF m 38 #[rv a1, rv r2, .val .null, rv vb, iv (4 : Int32)] [])) st149 ?_
  refine own_st (mkF m 97 #[rv a1, rv r2, .val .null, rv vb, iv (4 : Int32)] []) (fun t k => XS.goto X149.here hx rfl (pc0 := 38) (pc' := 97) rfl (hb hby d27_38) (by decide) (by decide) k) ?_
  refine own_ret X149 hlk (v := none) (fun _ => rfl) (fun fs hr => X149.returnOut hx hret (hb hby d27_97) hr) ?_ (by decide) (by decide)
  show own_Q27_t4 Z a1 r2 vb kb es wc wD kD h0 n0 _ T149.heap _
  rw [e149]
  exact ⟨ba148, kb148, rfl, N149, Kp149, sz_ba148, f16_Exa_a1, fw149, f17_Fld_a1, f23_Arv_ba148⟩
theorem d26_0 : decode jdk_42_method_53_code 0 = .ok (.aload_n 0, 1) := by decide +kernel
theorem d26_1 : decode jdk_42_method_53_code 1 = .ok (.aload_n 1, 1) := by decide +kernel
theorem d26_2 : decode jdk_42_method_53_code 2 = .ok (.aconst_null, 1) := by decide +kernel
theorem d26_3 : decode jdk_42_method_53_code 3 = .ok (.invokespecial 489, 3) := by decide +kernel
theorem hw_166 {a0 Z} (hw : own_W a0 Z) : (Jvm.Cond.methodLink "java/lang/String" (489 : Nat) ({ cls := "java/lang/String", name := "<init>", desc := "(Ljava/lang/AbstractStringBuilder;Ljava/lang/Void;)V" } : Jvm.MethodName)).before a0 Z = true := hw _ (List.mem_of_getElem? (i := 166) rfl)
theorem hw_168 {a0 Z} (hw : own_W a0 Z) : (Jvm.Cond.code ({ cls := "java/lang/String", name := "<init>", desc := "(Ljava/lang/AbstractStringBuilder;Ljava/lang/Void;)V" } : Jvm.MethodName) jdk_42_method_150_code (5 : Nat) (Option.none : Option Jvm.ClassFile.FieldType)).before a0 Z = true := hw _ (List.mem_of_getElem? (i := 168) rfl)
theorem pd_18 : parseMethodDescriptor "(Ljava/lang/AbstractStringBuilder;Ljava/lang/Void;)V" = some ⟨[(.object "java/lang/AbstractStringBuilder"), (.object "java/lang/Void")], none⟩ := by decide +kernel
theorem hw_167 {a0 Z} (hw : own_W a0 Z) : (Jvm.Cond.instanceMethod ({ cls := "java/lang/String", name := "<init>", desc := "(Ljava/lang/AbstractStringBuilder;Ljava/lang/Void;)V" } : Jvm.MethodName)).before a0 Z = true := hw _ (List.mem_of_getElem? (i := 167) rfl)
theorem d26_6 : decode jdk_42_method_53_code 6 = .ok (.return_, 1) := by decide +kernel
theorem own_ef26_t4 (m : MethodId) (a1 : Addr) (r2 : Addr) : entryFrame m #[(.ref a1), (.ref r2)] 2 = mkF m 0 #[rv a1, rv r2] [] := by first | (simp [entryFrame, mkF, argsToLocals, Value.category]; done) | rfl
def own_Q26_t4 (Z : State) (a1 : Addr) (r2 : Addr) (vb : Addr) (kb : ClassId) (es : List Int32) (wc : Int32) (wD : Addr) (kD : ClassId) (h0 : Heap) (n0 : Nat) (v : Option Value) (h : Heap) (L : List Loc) : Prop := ∃ (ba : Addr) (kq : ClassId), v = none ∧ Fr n0 L ∧ Keep h0 h [a1] ∧ h0.size ≤ ba ∧ Exa Z h a1 "java/lang/String" ∧ Fld Z h a1 "java/lang/String" "value" "[B" (.ref ba) ∧ Fld Z h a1 "java/lang/String" "coder" "B" (.int (0 : Int32)) ∧ Arv Z h ba kq .byte (4 : Int32) ((es.take 4).map Value.int) (.int (0 : Int32))
set_option maxRecDepth 65536 in
set_option maxHeartbeats 40000000 in
theorem own_rm26_t4 (l : Launch) (Z : State) (a0 : Array Value) (hw : own_W a0 Z) (ws : List Jvm.Cond) (a1 : Addr) (r2 : Addr) (vb : Addr) (kb : ClassId) (es : List Int32) (wc : Int32) (wD : Addr) (kD : ClassId) (h0 : Heap) (n0 : Nat) (Z0 : n0 ≤ h0.size) (O0 : Old Z n0 h0) (SS : own_St Z wc wD kD) (hes : es.length = 16) (E_a1 : Exa Z h0 a1 "java/lang/String") (F_v : Fld Z h0 a1 "java/lang/String" "value" "[B" .null) (F_c : Fld Z h0 a1 "java/lang/String" "coder" "B" (.int (0 : Int32))) (E_r2 : Exa Z h0 r2 "java/lang/StringBuilder") (G_v : Fld Z h0 r2 "java/lang/AbstractStringBuilder" "value" "[B" (.ref vb)) (G_c : Fld Z h0 r2 "java/lang/AbstractStringBuilder" "coder" "B" (.int (0 : Int32))) (G_n : Fld Z h0 r2 "java/lang/AbstractStringBuilder" "count" "I" (.int (4 : Int32))) (V0 : Arv Z h0 vb kb .byte (16 : Int32) ((es).map Value.int) (.int (0 : Int32))) (g_a1 : n0 ≤ a1) (ne_12 : a1 ≠ r2) (ne_1v : a1 ≠ vb) :
    MetFree l (⟨"java/lang/String", "<init>", "(Ljava/lang/StringBuilder;)V"⟩ : MethodName) (head1 (Jvm.Cond.code (⟨"java/lang/String", "<init>", "(Ljava/lang/StringBuilder;)V"⟩ : MethodName) jdk_42_method_53_code 2 none :: ws) ({ frames := 4, cells := 1, slots := 4, locals := 65 } : Room)) (fun a U => a = #[(.ref a1), (.ref r2)] ∧ Z.Warmed39 U.vm ∧ U.heap = h0) (fun _ _ _ _ _ => True) (fun _ U o U' => ∃ v L, o = .returned v ∧ own_Q26_t4 Z a1 r2 vb kb es wc wD kD h0 n0 v U'.heap L ∧ FrameEnd U o U' L ({ frames := 4, cells := 1, slots := 4, locals := 65 } : Room).cells ({ frames := 4, cells := 1, slots := 4, locals := 65 } : Room).slots) := by
  refine own_body (plainFor_of_name pn_12) (fun m => own_ef26_t4 m a1 r2) ?_
  intro p e s m below meth c T0 X0 hx hby hml hZ hown hnm hret hlk e0
  have hown : s.vm.findClass "java/lang/String" = some m.cls := hown
  have hnm : meth.name = "<init>" := hnm
  have N0 := Fr.nil n0
  have K0 : Keep h0 h0 [a1] := Keep.refl _ _
  refine own_st (mkF m 1 #[rv a1, rv r2] [(.ref a1)]) (fun t k => XS.aloadN X0.here hx rfl (hb hby d26_0) rfl rfl k) ?_
  refine own_st (mkF m 2 #[rv a1, rv r2] [(.ref r2), (.ref a1)]) (fun t k => XS.aloadN X0.here hx rfl (hb hby d26_1) rfl rfl k) ?_
  refine own_st (mkF m 3 #[rv a1, rv r2] [.null, (.ref r2), (.ref a1)]) (fun t k => XS.aconstNull X0.here hx rfl (hb hby d26_2) k) ?_
  obtain ⟨_, _, ⟨T150, L150, k150, n150⟩, -, X150, ⟨Lc150, hQ150, l150, y150, z150⟩, st150⟩ := X0.specialBack hx (y := (⟨"java/lang/String", "<init>", "(Ljava/lang/AbstractStringBuilder;Ljava/lang/Void;)V"⟩ : MethodName)) rfl hown (mvT hZ (hw_166 hw)) (mvT hZ (hw_167 hw)) (mvT hZ (hw_168 hw)) (by decide) (backOf (W := 0) (own_rm27_t4 l Z a0 hw [] a1 r2 vb kb es wc wD kD h0 n0 Z0 O0 SS hes E_a1 F_v F_c E_r2 G_v G_c G_n V0 g_a1 ne_12 ne_1v) hZ (hw_168 hw) (hw_59 hw) (by decide) (by decide)) (g := (mkF m 3 #[rv a1, rv r2] [.null, (.ref r2), (.ref a1)])) rfl (by rw [hml]; rfl) (Steps.refl _) (a := a1) (argsL := [(.ref r2), .null]) (rest := []) (lenOf pd_18 rfl) rfl (by show 2 * 0 + _ ≤ _; exact Nat.le_of_eq rfl) (hb hby d26_3) (fun _ _ => ⟨rfl, e0, (by decide : 0 + 1 ≤ _), (by decide : 0 + 4 ≤ _)⟩)
  dsimp only [Pt.U, Pt.locs, Pt.cells, Pt.slots] at X150 l150 y150 z150 st150 hQ150
  subst l150 y150 z150
  obtain ⟨ba150, kb150, rfl, Nq150, K150, gb150, Ex150, Fv150, Fc150, V150⟩ := hQ150
  have N150 := Fr.app N0 Nq150
  have g_ba150 : n0 ≤ ba150 := Nat.le_trans Z0 gb150
  have ne_a1_ba150 : a1 ≠ ba150 := Nat.ne_of_lt (Nat.lt_of_lt_of_le E_a1.lt gb150)
  have ne_r2_ba150 : r2 ≠ ba150 := Nat.ne_of_lt (Nat.lt_of_lt_of_le E_r2.lt gb150)
  have ne_vb_ba150 : vb ≠ ba150 := Nat.ne_of_lt (Nat.lt_of_lt_of_le V0.lt gb150)
  have sz_ba150 : h0.size ≤ ba150 := Nat.le_trans K0.1 gb150
  have Z150 : n0 ≤ T150.heap.size := Nat.le_trans Z0 K150.1
  have O150 : Old Z n0 T150.heap := O0.keep K150 (allS g_a1 all0)
  have Kp150 : Keep h0 T150.heap [a1] := K0.trans K150 (allS (Or.inl (List.mem_of_getElem? (i := 0) rfl)) all0)
  have f1_Exa_a1 : Exa Z T150.heap a1 "java/lang/String" := (E_a1.keep K150)
  have f2_Exa_r2 : Exa Z T150.heap r2 "java/lang/StringBuilder" := (E_r2.keep K150)
  have f3_Fld_r2 : Fld Z T150.heap r2 "java/lang/AbstractStringBuilder" "value" "[B" (.ref vb) := (G_v.keep K150 (ninS (Ne.symm ne_12) nin0))
  have f4_Fld_r2 : Fld Z T150.heap r2 "java/lang/AbstractStringBuilder" "coder" "B" (.int (0 : Int32)) := (G_c.keep K150 (ninS (Ne.symm ne_12) nin0))
  have f5_Fld_r2 : Fld Z T150.heap r2 "java/lang/AbstractStringBuilder" "count" "I" (.int (4 : Int32)) := (G_n.keep K150 (ninS (Ne.symm ne_12) nin0))
  have f6_Arv_vb : Arv Z T150.heap vb kb .byte (16 : Int32) ((es).map Value.int) (.int (0 : Int32)) := (V0.keep K150 (ninS (Ne.symm ne_1v) nin0))
  refine own_jump (g' := (mkF m 6 #[rv a1, rv r2] [])) st150 ?_
  refine own_ret X150 hlk (v := none) (fun _ => rfl) (fun fs hr => X150.returnOut hx hret (hb hby d26_6) hr) ?_ (by decide) (by decide)
  show own_Q26_t4 Z a1 r2 vb kb es wc wD kD h0 n0 _ T150.heap _
  exact ⟨ba150, kb150, rfl, N150, Kp150, sz_ba150, Ex150, Fv150, Fc150, V150⟩
theorem d25_0 : decode jdk_67_method_42_code 0 = .ok (.new 18, 3) := by decide +kernel
theorem hw_162 {a0 Z} (hw : own_W a0 Z) : (Jvm.Cond.classLink "java/lang/StringBuilder" (18 : Nat) "java/lang/String").before a0 Z = true := hw _ (List.mem_of_getElem? (i := 162) rfl)
theorem d25_3 : decode jdk_67_method_42_code 3 = .ok (.dup, 1) := by decide +kernel
theorem d25_4 : decode jdk_67_method_42_code 4 = .ok (.aload_n 0, 1) := by decide +kernel
theorem d25_5 : decode jdk_67_method_42_code 5 = .ok (.invokespecial 137, 3) := by decide +kernel
theorem hw_163 {a0 Z} (hw : own_W a0 Z) : (Jvm.Cond.methodLink "java/lang/StringBuilder" (137 : Nat) ({ cls := "java/lang/String", name := "<init>", desc := "(Ljava/lang/StringBuilder;)V" } : Jvm.MethodName)).before a0 Z = true := hw _ (List.mem_of_getElem? (i := 163) rfl)
theorem hw_165 {a0 Z} (hw : own_W a0 Z) : (Jvm.Cond.code ({ cls := "java/lang/String", name := "<init>", desc := "(Ljava/lang/StringBuilder;)V" } : Jvm.MethodName) jdk_42_method_53_code (2 : Nat) (Option.none : Option Jvm.ClassFile.FieldType)).before a0 Z = true := hw _ (List.mem_of_getElem? (i := 165) rfl)
theorem pd_19 : parseMethodDescriptor "(Ljava/lang/StringBuilder;)V" = some ⟨[(.object "java/lang/StringBuilder")], none⟩ := by decide +kernel
theorem hw_164 {a0 Z} (hw : own_W a0 Z) : (Jvm.Cond.instanceMethod ({ cls := "java/lang/String", name := "<init>", desc := "(Ljava/lang/StringBuilder;)V" } : Jvm.MethodName)).before a0 Z = true := hw _ (List.mem_of_getElem? (i := 164) rfl)
theorem d25_8 : decode jdk_67_method_42_code 8 = .ok (.areturn, 1) := by decide +kernel
theorem own_ef25_t4 (m : MethodId) (a1 : Addr) : entryFrame m #[(.ref a1)] 1 = mkF m 0 #[rv a1] [] := by first | (simp [entryFrame, mkF, argsToLocals, Value.category]; done) | rfl
def own_Q25_t4 (Z : State) (a1 : Addr) (vb : Addr) (kb : ClassId) (es : List Int32) (wc : Int32) (wD : Addr) (kD : ClassId) (h0 : Heap) (n0 : Nat) (v : Option Value) (h : Heap) (L : List Loc) : Prop := ∃ (sa ba : Addr) (kb : ClassId), v = some (.ref sa) ∧ Fr n0 L ∧ Keep h0 h [] ∧ h0.size ≤ sa ∧ h0.size ≤ ba ∧ sa ≠ ba ∧ Exa Z h sa "java/lang/String" ∧ Fld Z h sa "java/lang/String" "value" "[B" (.ref ba) ∧ Fld Z h sa "java/lang/String" "coder" "B" (.int (0 : Int32)) ∧ Arv Z h ba kb .byte (4 : Int32) ((es.take 4).map Value.int) (.int (0 : Int32))
set_option maxRecDepth 65536 in
set_option maxHeartbeats 40000000 in
theorem own_rm25_t4 (l : Launch) (Z : State) (a0 : Array Value) (hw : own_W a0 Z) (ws : List Jvm.Cond) (a1 : Addr) (vb : Addr) (kb : ClassId) (es : List Int32) (wc : Int32) (wD : Addr) (kD : ClassId) (h0 : Heap) (n0 : Nat) (Z0 : n0 ≤ h0.size) (O0 : Old Z n0 h0) (SS : own_St Z wc wD kD) (hes : es.length = 16) (E_a1 : Exa Z h0 a1 "java/lang/StringBuilder") (G_v : Fld Z h0 a1 "java/lang/AbstractStringBuilder" "value" "[B" (.ref vb)) (G_c : Fld Z h0 a1 "java/lang/AbstractStringBuilder" "coder" "B" (.int (0 : Int32))) (G_n : Fld Z h0 a1 "java/lang/AbstractStringBuilder" "count" "I" (.int (4 : Int32))) (V0 : Arv Z h0 vb kb .byte (16 : Int32) ((es).map Value.int) (.int (0 : Int32))) :
    MetFree l (⟨"java/lang/StringBuilder", "toString", "()Ljava/lang/String;"⟩ : MethodName) (head1 (Jvm.Cond.code (⟨"java/lang/StringBuilder", "toString", "()Ljava/lang/String;"⟩ : MethodName) jdk_67_method_42_code 1 (some (.object "java/lang/String")) :: ws) ({ frames := 5, cells := 2, slots := 8, locals := 79 } : Room)) (fun a U => a = #[(.ref a1)] ∧ Z.Warmed39 U.vm ∧ U.heap = h0) (fun _ _ _ _ _ => True) (fun _ U o U' => ∃ v L, o = .returned v ∧ own_Q25_t4 Z a1 vb kb es wc wD kD h0 n0 v U'.heap L ∧ FrameEnd U o U' L ({ frames := 5, cells := 2, slots := 8, locals := 79 } : Room).cells ({ frames := 5, cells := 2, slots := 8, locals := 79 } : Room).slots) := by
  refine own_body (plainFor_of_name pn_15) (fun m => own_ef25_t4 m a1) ?_
  intro p e s m below meth c T0 X0 hx hby hml hZ hown hnm hret hlk e0
  have hown : s.vm.findClass "java/lang/StringBuilder" = some m.cls := hown
  have hnm : meth.name = "toString" := hnm
  have N0 := Fr.nil n0
  have K0 : Keep h0 h0 [] := Keep.refl _ _
  obtain ⟨T151, h151, X151, e151, E151, A151, D151, -, st151⟩ := newO X0 hx hZ hown (hw_162 hw) (hw_67 hw) (hw_59 hw) e0 (g := (mkF m 0 #[rv a1] [])) rfl (hb hby d25_0) (by decide) (by decide)
  obtain ⟨b151, g151⟩ : ∃ z, z = h0.size := ⟨_, rfl⟩
  rw [← g151] at A151 D151 st151
  have E_151 : Ext h0 h151 := E151
  have g_b151 : n0 ≤ b151 := Nat.le_trans Z0 (Nat.le_of_eq g151.symm)
  have ne_a1_b151 : a1 ≠ b151 := Nat.ne_of_lt (Nat.lt_of_lt_of_le E_a1.lt (Nat.le_of_eq g151.symm))
  have ne_vb_b151 : vb ≠ b151 := Nat.ne_of_lt (Nat.lt_of_lt_of_le V0.lt (Nat.le_of_eq g151.symm))
  have sz_b151 : h0.size ≤ b151 := Nat.le_trans K0.1 (Nat.le_of_eq g151.symm)
  have Kp151 : Keep h0 h151 [] := K0.ext E151
  have Z151 : n0 ≤ h151.size := Nat.le_trans Z0 E151.1
  have O151 : Old Z n0 h151 := O0.ext E151
  have f1_Exa_a1 : Exa Z h151 a1 "java/lang/StringBuilder" := (E_a1.ext E151)
  have f2_Fld_a1 : Fld Z h151 a1 "java/lang/AbstractStringBuilder" "value" "[B" (.ref vb) := (G_v.ext E151)
  have f3_Fld_a1 : Fld Z h151 a1 "java/lang/AbstractStringBuilder" "coder" "B" (.int (0 : Int32)) := (G_c.ext E151)
  have f4_Fld_a1 : Fld Z h151 a1 "java/lang/AbstractStringBuilder" "count" "I" (.int (4 : Int32)) := (G_n.ext E151)
  have f5_Arv_vb : Arv Z h151 vb kb .byte (16 : Int32) ((es).map Value.int) (.int (0 : Int32)) := (V0.ext E151)
  have F_value_b151 : Fld Z h151 b151 "java/lang/String" "value" "[B" .null := D151 (Or.inr (hw_78 hw)) (ty := (.array .byte)) (by decide)
  have F_coder_b151 : Fld Z h151 b151 "java/lang/String" "coder" "B" (.int (0 : Int32)) := D151 (Or.inr (hw_80 hw)) (ty := .byte) (by decide)
  refine own_step (g' := (mkF m 3 #[rv a1] [(.ref b151)])) st151 ?_
  refine own_st (mkF m 4 #[rv a1] [(.ref b151), (.ref b151)]) (fun t k => XS.dup X151.here hx rfl (hb hby d25_3) rfl rfl k) ?_
  refine own_st (mkF m 5 #[rv a1] [(.ref a1), (.ref b151), (.ref b151)]) (fun t k => XS.aloadN X151.here hx rfl (hb hby d25_4) rfl rfl k) ?_
  obtain ⟨_, _, ⟨T152, L152, k152, n152⟩, -, X152, ⟨Lc152, hQ152, l152, y152, z152⟩, st152⟩ := X151.specialBack hx (y := (⟨"java/lang/String", "<init>", "(Ljava/lang/StringBuilder;)V"⟩ : MethodName)) rfl hown (mvT hZ (hw_163 hw)) (mvT hZ (hw_164 hw)) (mvT hZ (hw_165 hw)) (by decide) (backOf (W := 1) (own_rm26_t4 l Z a0 hw [] b151 a1 vb kb es wc wD kD h151 n0 Z151 O151 SS hes A151 F_value_b151 F_coder_b151 f1_Exa_a1 f2_Fld_a1 f3_Fld_a1 f4_Fld_a1 f5_Arv_vb g_b151 (Ne.symm ne_a1_b151) (Ne.symm ne_vb_b151)) hZ (hw_165 hw) (hw_59 hw) (by decide) (by decide)) (g := (mkF m 5 #[rv a1] [(.ref a1), (.ref b151), (.ref b151)])) rfl (by rw [hml]; rfl) (Steps.refl _) (a := b151) (argsL := [(.ref a1)]) (rest := [(.ref b151)]) (lenOf pd_19 rfl) rfl (by show 2 * 0 + _ ≤ _; exact Nat.le_of_eq rfl) (hb hby d25_5) (fun _ _ => ⟨rfl, e151, (by decide : 1 + 1 ≤ _), (by decide : 4 + 4 ≤ _)⟩)
  dsimp only [Pt.U, Pt.locs, Pt.cells, Pt.slots] at X152 l152 y152 z152 st152 hQ152
  subst l152 y152 z152
  obtain ⟨ba152, kb152, rfl, Nq152, K152, gb152, Ex152, Fv152, Fc152, V152⟩ := hQ152
  have N152 := Fr.app N0 Nq152
  have g_ba152 : n0 ≤ ba152 := Nat.le_trans Z151 gb152
  have ne_a1_ba152 : a1 ≠ ba152 := Nat.ne_of_lt (Nat.lt_of_lt_of_le f1_Exa_a1.lt gb152)
  have ne_vb_ba152 : vb ≠ ba152 := Nat.ne_of_lt (Nat.lt_of_lt_of_le f5_Arv_vb.lt gb152)
  have ne_b151_ba152 : b151 ≠ ba152 := Nat.ne_of_lt (Nat.lt_of_lt_of_le A151.lt gb152)
  have sz_ba152 : h0.size ≤ ba152 := Nat.le_trans Kp151.1 gb152
  have Z152 : n0 ≤ T152.heap.size := Nat.le_trans Z151 K152.1
  have O152 : Old Z n0 T152.heap := O151.keep K152 (allS g_b151 all0)
  have Kp152 : Keep h0 T152.heap [] := Kp151.trans K152 (allS (Or.inr sz_b151) all0)
  have f6_Exa_a1 : Exa Z T152.heap a1 "java/lang/StringBuilder" := (f1_Exa_a1.keep K152)
  have f7_Fld_a1 : Fld Z T152.heap a1 "java/lang/AbstractStringBuilder" "value" "[B" (.ref vb) := (f2_Fld_a1.keep K152 (ninS ne_a1_b151 nin0))
  have f8_Fld_a1 : Fld Z T152.heap a1 "java/lang/AbstractStringBuilder" "coder" "B" (.int (0 : Int32)) := (f3_Fld_a1.keep K152 (ninS ne_a1_b151 nin0))
  have f9_Fld_a1 : Fld Z T152.heap a1 "java/lang/AbstractStringBuilder" "count" "I" (.int (4 : Int32)) := (f4_Fld_a1.keep K152 (ninS ne_a1_b151 nin0))
  have f10_Arv_vb : Arv Z T152.heap vb kb .byte (16 : Int32) ((es).map Value.int) (.int (0 : Int32)) := (f5_Arv_vb.keep K152 (ninS ne_vb_b151 nin0))
  have f11_Exa_b151 : Exa Z T152.heap b151 "java/lang/String" := (A151.keep K152)
  refine own_jump (g' := (mkF m 8 #[rv a1] [(.ref b151)])) st152 ?_
  refine own_ret X152 hlk (v := some (.ref b151)) (fun h => by rw [hret] at h; cases h) (fun fs hr => X152.areturnOut hx (w := (.ref b151)) rfl hret rfl (hb hby d25_8) hr) ?_ (by decide) (by decide)
  show own_Q25_t4 Z a1 vb kb es wc wD kD h0 n0 _ T152.heap _
  exact ⟨b151, ba152, kb152, rfl, N152, Kp152, sz_b151, sz_ba152, ne_b151_ba152, Ex152, Fv152, Fc152, V152⟩
theorem own_ef34_t20 (m : MethodId)  : entryFrame m #[(.int (0 : Int32)), (.int (20 : Int32))] 2 = mkF m 0 #[iv (0 : Int32), iv (20 : Int32)] [] := by first | (simp [entryFrame, mkF, argsToLocals, Value.category]; done) | rfl
def own_Q34_t20 (Z : State)  (h0 : Heap) (n0 : Nat) (v : Option Value) (h : Heap) (L : List Loc) : Prop := v = none ∧ Fr n0 L ∧ h = h0
set_option maxRecDepth 65536 in
set_option maxHeartbeats 40000000 in
theorem own_rm34_t20 (l : Launch) (Z : State) (a0 : Array Value) (hw : own_W a0 Z) (ws : List Jvm.Cond)  (h0 : Heap) (n0 : Nat) (Z0 : n0 ≤ h0.size) :
    MetFree l (⟨"java/util/Arrays", "checkLength", "(II)V"⟩ : MethodName) (head1 (Jvm.Cond.code (⟨"java/util/Arrays", "checkLength", "(II)V"⟩ : MethodName) jdk_65_method_131_code 2 none :: ws) ({ frames := 0, cells := 0, slots := 0, locals := 0 } : Room)) (fun a U => a = #[(.int (0 : Int32)), (.int (20 : Int32))] ∧ Z.Warmed39 U.vm ∧ U.heap = h0) (fun _ _ _ _ _ => True) (fun _ U o U' => ∃ v L, o = .returned v ∧ own_Q34_t20 Z h0 n0 v U'.heap L ∧ FrameEnd U o U' L ({ frames := 0, cells := 0, slots := 0, locals := 0 } : Room).cells ({ frames := 0, cells := 0, slots := 0, locals := 0 } : Room).slots) := by
  refine own_body (plainFor_of_name pn_45) (fun m => own_ef34_t20 m ) ?_
  intro p e s m below meth c T0 X0 hx hby hml hZ hown hnm hret hlk e0
  have hown : s.vm.findClass "java/util/Arrays" = some m.cls := hown
  have hnm : meth.name = "checkLength" := hnm
  have N0 := Fr.nil n0
  refine own_st (mkF m 1 #[iv (0 : Int32), iv (20 : Int32)] [(.int (20 : Int32))]) (fun t k => XS.iloadN X0.here hx rfl (hb hby d34_0) rfl k) ?_
  refine own_st (mkF m 2 #[iv (0 : Int32), iv (20 : Int32)] [(.int (0 : Int32)), (.int (20 : Int32))]) (fun t k => XS.iloadN X0.here hx rfl (hb hby d34_1) rfl k) ?_
  refine own_st (mkF m 37 #[iv (0 : Int32), iv (20 : Int32)] []) (fun t k => XS.icmpYes X0.here hx rfl (pc0 := 2) (pc' := 37) rfl (hb hby d34_2) rfl (flt (by decide : ¬ ((20 : Int32) < (0 : Int32)))).2.1 (by decide) (by decide) k) ?_
  refine own_ret X0 hlk (v := none) (fun _ => rfl) (fun fs hr => X0.returnOut hx hret (hb hby d34_37) hr) ?_ (by decide) (by decide)
  show own_Q34_t20 Z h0 n0 _ T0.heap _
  rw [e0]
  exact ⟨rfl, N0, rfl⟩
theorem own_ef33_t20 (m : MethodId) (r1 : Addr) : entryFrame m #[(.ref r1), (.int (0 : Int32)), (.int (20 : Int32))] 5 = mkF m 0 #[rv r1, iv (0 : Int32), iv (20 : Int32), .unset, .unset] [] := by first | (simp [entryFrame, mkF, argsToLocals, Value.category]; done) | rfl
def own_Q33_t20 (Z : State) (r1 : Addr) (kb : ClassId) (es : List Int32) (h0 : Heap) (n0 : Nat) (v : Option Value) (h : Heap) (L : List Loc) : Prop := ∃ (ba : Addr) (kb : ClassId), v = some (.ref ba) ∧ Fr n0 L ∧ Keep h0 h [] ∧ h0.size ≤ ba ∧ Arv Z h ba kb .byte (20 : Int32) ((es.take 20).map Value.int) (.int (0 : Int32)) ∧ Exa Z h ba "[B"
set_option maxRecDepth 65536 in
set_option maxHeartbeats 40000000 in
theorem own_rm33_t20 (l : Launch) (Z : State) (a0 : Array Value) (hw : own_W a0 Z) (ws : List Jvm.Cond) (r1 : Addr) (kb : ClassId) (es : List Int32) (h0 : Heap) (n0 : Nat) (Z0 : n0 ≤ h0.size) (hes : es.length = 34) (V0 : Arv Z h0 r1 kb .byte (34 : Int32) ((es).map Value.int) (.int (0 : Int32))) :
    MetFree l (⟨"java/util/Arrays", "copyOfRangeByte", "([BII)[B"⟩ : MethodName) (head1 (Jvm.Cond.code (⟨"java/util/Arrays", "copyOfRangeByte", "([BII)[B"⟩ : MethodName) jdk_65_method_133_code 5 (some (.array .byte)) :: ws) ({ frames := 1, cells := 1, slots := 20, locals := 18 } : Room)) (fun a U => a = #[(.ref r1), (.int (0 : Int32)), (.int (20 : Int32))] ∧ Z.Warmed39 U.vm ∧ U.heap = h0) (fun _ _ _ _ _ => True) (fun _ U o U' => ∃ v L, o = .returned v ∧ own_Q33_t20 Z r1 kb es h0 n0 v U'.heap L ∧ FrameEnd U o U' L ({ frames := 1, cells := 1, slots := 20, locals := 18 } : Room).cells ({ frames := 1, cells := 1, slots := 20, locals := 18 } : Room).slots) := by
  refine own_body (plainFor_of_name pn_45) (fun m => own_ef33_t20 m r1) ?_
  intro p e s m below meth c T0 X0 hx hby hml hZ hown hnm hret hlk e0
  have hown : s.vm.findClass "java/util/Arrays" = some m.cls := hown
  have hnm : meth.name = "copyOfRangeByte" := hnm
  have N0 := Fr.nil n0
  have K0 : Keep h0 h0 [] := Keep.refl _ _
  refine own_st (mkF m 1 #[rv r1, iv (0 : Int32), iv (20 : Int32), .unset, .unset] [(.int (0 : Int32))]) (fun t k => XS.iloadN X0.here hx rfl (hb hby d33_0) rfl k) ?_
  refine own_st (mkF m 2 #[rv r1, iv (0 : Int32), iv (20 : Int32), .unset, .unset] [(.int (20 : Int32)), (.int (0 : Int32))]) (fun t k => XS.iloadN X0.here hx rfl (hb hby d33_1) rfl k) ?_
  obtain ⟨_, _, ⟨T153, L153, k153, n153⟩, -, X153, ⟨Lc153, hQ153, l153, y153, z153⟩, st153⟩ := Jvm.LawKit.callS X0 hx (y := (⟨"java/util/Arrays", "checkLength", "(II)V"⟩ : MethodName)) hown (mvT hZ (hw_194 hw)) (mvT hZ (hw_195 hw)) (mvT hZ (hw_189 hw)) (mvT hZ (hw_196 hw)) (by decide) (backOf (W := 0) (own_rm34_t20 l Z a0 hw [] h0 n0 Z0) hZ (hw_196 hw) (hw_189 hw) (by decide) (by decide)) (g := (mkF m 2 #[rv r1, iv (0 : Int32), iv (20 : Int32), .unset, .unset] [(.int (20 : Int32)), (.int (0 : Int32))])) rfl (by rw [hml]; rfl) (argsL := [(.int (0 : Int32)), (.int (20 : Int32))]) (rest := []) (lenOf pd_14 rfl) rfl (by show 2 * 0 + _ ≤ _; exact Nat.le_of_eq rfl) (hb hby d33_2) (fun _ _ => ⟨rfl, e0, (by decide : 0 + 0 ≤ _), (by decide : 0 + 0 ≤ _)⟩)
  dsimp only [Pt.U, Pt.locs, Pt.cells, Pt.slots] at X153 l153 y153 z153 st153 hQ153
  subst l153 y153 z153
  obtain ⟨rfl, Nq153, e153⟩ := hQ153
  have N153 := Fr.app N0 Nq153
  refine own_step (g' := (mkF m 5 #[rv r1, iv (0 : Int32), iv (20 : Int32), .unset, .unset] [])) st153 ?_
  refine own_st (mkF m 6 #[rv r1, iv (0 : Int32), iv (20 : Int32), .unset, .unset] [(.int (20 : Int32))]) (fun t k => XS.iloadN X153.here hx rfl (hb hby d33_5) rfl k) ?_
  refine own_st (mkF m 7 #[rv r1, iv (0 : Int32), iv (20 : Int32), .unset, .unset] [(.int (0 : Int32)), (.int (20 : Int32))]) (fun t k => XS.iloadN X153.here hx rfl (hb hby d33_6) rfl k) ?_
  refine own_st (mkF m 8 #[rv r1, iv (0 : Int32), iv (20 : Int32), .unset, .unset] [(.int ((20 : Int32) - (0 : Int32)))]) (fun t k => XS.isub X153.here hx rfl (hb hby d33_7) rfl k) ?_
  rw [show ((20 : Int32) - (0 : Int32)) = (20 : Int32) from by decide]
  refine own_st (mkF m 9 #[rv r1, iv (0 : Int32), iv (20 : Int32), iv (20 : Int32), .unset] []) (fun t k => XS.istoreN X153.here hx rfl (hb hby d33_8) rfl (l' := #[rv r1, iv (0 : Int32), iv (20 : Int32), iv (20 : Int32), .unset]) rfl k) ?_
  refine own_st (mkF m 10 #[rv r1, iv (0 : Int32), iv (20 : Int32), iv (20 : Int32), .unset] [(.int (20 : Int32))]) (fun t k => XS.iloadN X153.here hx rfl (hb hby d33_9) rfl k) ?_
  obtain ⟨T154, h154, k154, X154, e154, E154, A154, B154, st154⟩ := newPE (aty := .byte) X153 hx hZ (hw_71 hw) e153 (g := (mkF m 10 #[rv r1, iv (0 : Int32), iv (20 : Int32), iv (20 : Int32), .unset] [(.int (20 : Int32))])) rfl (hb hby d33_10) rfl (by decide) (cap := 20) (by decide) (by decide) (by decide) (by decide) (ad := "[B") (by decide)
  obtain ⟨b154, g154⟩ : ∃ z, z = h0.size := ⟨_, rfl⟩
  rw [← g154] at A154 B154 st154
  have E_154 : Ext h0 h154 := E154
  have g_b154 : n0 ≤ b154 := Nat.le_trans Z0 (Nat.le_of_eq g154.symm)
  have ne_r1_b154 : r1 ≠ b154 := Nat.ne_of_lt (Nat.lt_of_lt_of_le V0.lt (Nat.le_of_eq g154.symm))
  have sz_b154 : h0.size ≤ b154 := Nat.le_trans K0.1 (Nat.le_of_eq g154.symm)
  have Kp154 : Keep h0 h154 [] := K0.ext E154
  have Z154 : n0 ≤ h154.size := Nat.le_trans Z0 E154.1
  have f1_Arv_r1 : Arv Z h154 r1 kb .byte (34 : Int32) ((es).map Value.int) (.int (0 : Int32)) := (V0.ext E154)
  have V154 : Arv Z h154 b154 k154 .byte (20 : Int32) ((List.replicate 20 (0 : Int32)).map Value.int) (.int (0 : Int32)) := (Arv.new A154 (by decide)).pad (own_pad0 20)
  refine own_step (g' := (mkF m 12 #[rv r1, iv (0 : Int32), iv (20 : Int32), iv (20 : Int32), .unset] [(.ref b154)])) st154 ?_
  refine own_st (mkF m 14 #[rv r1, iv (0 : Int32), iv (20 : Int32), iv (20 : Int32), rv b154] []) (fun t k => XS.astore X154.here hx rfl (hb hby d33_12) rfl rfl (l' := #[rv r1, iv (0 : Int32), iv (20 : Int32), iv (20 : Int32), rv b154]) rfl k) ?_
  refine own_st (mkF m 15 #[rv r1, iv (0 : Int32), iv (20 : Int32), iv (20 : Int32), rv b154] [(.ref r1)]) (fun t k => XS.aloadN X154.here hx rfl (hb hby d33_14) rfl rfl k) ?_
  refine own_st (mkF m 16 #[rv r1, iv (0 : Int32), iv (20 : Int32), iv (20 : Int32), rv b154] [(.int (0 : Int32)), (.ref r1)]) (fun t k => XS.iloadN X154.here hx rfl (hb hby d33_15) rfl k) ?_
  refine own_st (mkF m 18 #[rv r1, iv (0 : Int32), iv (20 : Int32), iv (20 : Int32), rv b154] [(.ref b154), (.int (0 : Int32)), (.ref r1)]) (fun t k => XS.aload X154.here hx rfl (hb hby d33_16) rfl rfl k) ?_
  refine own_st (mkF m 19 #[rv r1, iv (0 : Int32), iv (20 : Int32), iv (20 : Int32), rv b154] [(.int (0 : Int32)), (.ref b154), (.int (0 : Int32)), (.ref r1)]) (fun t k => XS.iconst X154.here hx rfl (hb hby d33_18) k) ?_
  refine own_st (mkF m 20 #[rv r1, iv (0 : Int32), iv (20 : Int32), iv (20 : Int32), rv b154] [(.ref r1), (.int (0 : Int32)), (.ref b154), (.int (0 : Int32)), (.ref r1)]) (fun t k => XS.aloadN X154.here hx rfl (hb hby d33_19) rfl rfl k) ?_
  obtain ⟨cl155, Ar155, -, S155, M155, -, -⟩ := id f1_Arv_r1
  refine own_step (T' := T154) (g' := (mkF m 21 #[rv r1, iv (0 : Int32), iv (20 : Int32), iv (20 : Int32), rv b154] [(.int cl155.slots.size.toInt32), (.int (0 : Int32)), (.ref b154), (.int (0 : Int32)), (.ref r1)])) (X154.arraylength hx (by rw [e154]; exact Ar155.1) (State.isArrayOf_alike hZ.alike Ar155.2.1) (g := (mkF m 20 #[rv r1, iv (0 : Int32), iv (20 : Int32), iv (20 : Int32), rv b154] [(.ref r1), (.int (0 : Int32)), (.ref b154), (.int (0 : Int32)), (.ref r1)])) rfl rfl (hb hby d33_20)) ?_
  rw [len_of S155 M155]
  refine own_st (mkF m 22 #[rv r1, iv (0 : Int32), iv (20 : Int32), iv (20 : Int32), rv b154] [(.int (0 : Int32)), (.int (34 : Int32)), (.int (0 : Int32)), (.ref b154), (.int (0 : Int32)), (.ref r1)]) (fun t k => XS.iloadN X154.here hx rfl (hb hby d33_21) rfl k) ?_
  refine own_st (mkF m 23 #[rv r1, iv (0 : Int32), iv (20 : Int32), iv (20 : Int32), rv b154] [(.int ((34 : Int32) - (0 : Int32))), (.int (0 : Int32)), (.ref b154), (.int (0 : Int32)), (.ref r1)]) (fun t k => XS.isub X154.here hx rfl (hb hby d33_22) rfl k) ?_
  rw [show ((34 : Int32) - (0 : Int32)) = (34 : Int32) from by decide]
  refine own_st (mkF m 24 #[rv r1, iv (0 : Int32), iv (20 : Int32), iv (20 : Int32), rv b154] [(.int (20 : Int32)), (.int (34 : Int32)), (.int (0 : Int32)), (.ref b154), (.int (0 : Int32)), (.ref r1)]) (fun t k => XS.iloadN X154.here hx rfl (hb hby d33_23) rfl k) ?_
  obtain ⟨_, _, ⟨T156, L156, k156, n156⟩, -, X156, ⟨Lc156, hQ156, l156, y156, z156⟩, st156⟩ := Jvm.LawKit.callS X154 hx (y := (⟨"java/lang/Math", "min", "(II)I"⟩ : MethodName)) hown (mvT hZ (hw_197 hw)) (mvT hZ (hw_198 hw)) (mvT hZ (hw_199 hw)) (mvT hZ (hw_200 hw)) (by decide) (backOf (W := 4) (own_rm35 l Z a0 hw [] (34 : Int32) (20 : Int32) h154 n0 Z154) hZ (hw_200 hw) (hw_199 hw) (by decide) (by decide)) (g := (mkF m 24 #[rv r1, iv (0 : Int32), iv (20 : Int32), iv (20 : Int32), rv b154] [(.int (20 : Int32)), (.int (34 : Int32)), (.int (0 : Int32)), (.ref b154), (.int (0 : Int32)), (.ref r1)])) rfl (by rw [hml]; rfl) (argsL := [(.int (34 : Int32)), (.int (20 : Int32))]) (rest := [(.int (0 : Int32)), (.ref b154), (.int (0 : Int32)), (.ref r1)]) (lenOf pd_10 rfl) rfl (by show 2 * 0 + _ ≤ _; exact Nat.le_of_eq rfl) (hb hby d33_24) (fun _ _ => ⟨rfl, e154, (by decide : 1 + 0 ≤ _), (by decide : 20 + 0 ≤ _)⟩)
  dsimp only [Pt.U, Pt.locs, Pt.cells, Pt.slots] at X156 l156 y156 z156 st156 hQ156
  subst l156 y156 z156
  obtain ⟨rfl, Nq156, e156⟩ := hQ156
  have N156 := Fr.app N153 Nq156
  refine own_step (g' := (mkF m 27 #[rv r1, iv (0 : Int32), iv (20 : Int32), iv (20 : Int32), rv b154] [(.int (own_min32 (34 : Int32) (20 : Int32))), (.int (0 : Int32)), (.ref b154), (.int (0 : Int32)), (.ref r1)])) st156 ?_
  rw [show (own_min32 (34 : Int32) (20 : Int32)) = (20 : Int32) from by decide]
  obtain ⟨T157, h157, Lc157, X157, e157, N157, K157, V157, st157⟩ := own_copy X156 hx hZ hown (hw_201 hw) (hw_153 hw) (hw_151 hw) (hw_152 hw) e156 f1_Arv_r1 V154 20 (show (20 : Int32).toInt = ((20 : Nat) : Int) from rfl) (by rw [hes]; rfl) rfl (by omega) (by simp) (n0 := n0) N156 g_b154 (g := (mkF m 27 #[rv r1, iv (0 : Int32), iv (20 : Int32), iv (20 : Int32), rv b154] [(.int (20 : Int32)), (.int (0 : Int32)), (.ref b154), (.int (0 : Int32)), (.ref r1)])) rfl (by rw [hml]; rfl) rfl (hb hby d33_27) (by decide) (W := 0) (by show 2 * 0 + _ ≤ _; exact Nat.le_of_eq rfl) (by decide)
  have Z157 : n0 ≤ h157.size := Nat.le_trans Z154 K157.1
  have Kp157 : Keep h0 h157 [] := Kp154.trans K157 (allS (Or.inr sz_b154) all0)
  have f2_Arv_r1 : Arv Z h157 r1 kb .byte (34 : Int32) ((es).map Value.int) (.int (0 : Int32)) := (f1_Arv_r1.keep K157 (ninS ne_r1_b154 nin0))
  have f3_Exa_b154 : Exa Z h157 b154 "[B" := (B154.keep K157)
  refine own_step (g' := (mkF m 30 #[rv r1, iv (0 : Int32), iv (20 : Int32), iv (20 : Int32), rv b154] [])) st157 ?_
  refine own_st (mkF m 32 #[rv r1, iv (0 : Int32), iv (20 : Int32), iv (20 : Int32), rv b154] [(.ref b154)]) (fun t k => XS.aload X157.here hx rfl (hb hby d33_30) rfl rfl k) ?_
  have Vz : Arv Z h157 b154 k154 .byte (20 : Int32) ((es.take 20).map Value.int) (.int (0 : Int32)) := by have q := V157; simpa using q
  refine own_ret X157 hlk (v := some (.ref b154)) (fun h => by rw [hret] at h; cases h) (fun fs hr => X157.areturnOut hx (w := (.ref b154)) rfl hret rfl (hb hby d33_32) hr) ?_ (by decide) (by decide)
  show own_Q33_t20 Z r1 kb es h0 n0 _ T157.heap _
  rw [e157]
  exact ⟨b154, k154, rfl, N157, Kp157, sz_b154, Vz, f3_Exa_b154⟩
theorem own_ef32_t20 (m : MethodId) (r1 : Addr) : entryFrame m #[(.ref r1), (.int (0 : Int32)), (.int (20 : Int32))] 3 = mkF m 0 #[rv r1, iv (0 : Int32), iv (20 : Int32)] [] := by first | (simp [entryFrame, mkF, argsToLocals, Value.category]; done) | rfl
def own_Q32_t20 (Z : State) (r1 : Addr) (kb : ClassId) (es : List Int32) (h0 : Heap) (n0 : Nat) (v : Option Value) (h : Heap) (L : List Loc) : Prop := ∃ (ba : Addr) (kb : ClassId), v = some (.ref ba) ∧ Fr n0 L ∧ Keep h0 h [] ∧ h0.size ≤ ba ∧ Arv Z h ba kb .byte (20 : Int32) ((es.take 20).map Value.int) (.int (0 : Int32)) ∧ Exa Z h ba "[B"
set_option maxRecDepth 65536 in
set_option maxHeartbeats 40000000 in
theorem own_rm32_t20 (l : Launch) (Z : State) (a0 : Array Value) (hw : own_W a0 Z) (ws : List Jvm.Cond) (r1 : Addr) (kb : ClassId) (es : List Int32) (h0 : Heap) (n0 : Nat) (Z0 : n0 ≤ h0.size) (hes : es.length = 34) (V0 : Arv Z h0 r1 kb .byte (34 : Int32) ((es).map Value.int) (.int (0 : Int32))) :
    MetFree l (⟨"java/util/Arrays", "copyOfRange", "([BII)[B"⟩ : MethodName) (head1 (Jvm.Cond.code (⟨"java/util/Arrays", "copyOfRange", "([BII)[B"⟩ : MethodName) jdk_65_method_132_code 3 (some (.array .byte)) :: ws) ({ frames := 2, cells := 1, slots := 20, locals := 34 } : Room)) (fun a U => a = #[(.ref r1), (.int (0 : Int32)), (.int (20 : Int32))] ∧ Z.Warmed39 U.vm ∧ U.heap = h0) (fun _ _ _ _ _ => True) (fun _ U o U' => ∃ v L, o = .returned v ∧ own_Q32_t20 Z r1 kb es h0 n0 v U'.heap L ∧ FrameEnd U o U' L ({ frames := 2, cells := 1, slots := 20, locals := 34 } : Room).cells ({ frames := 2, cells := 1, slots := 20, locals := 34 } : Room).slots) := by
  refine own_body (plainFor_of_name pn_45) (fun m => own_ef32_t20 m r1) ?_
  intro p e s m below meth c T0 X0 hx hby hml hZ hown hnm hret hlk e0
  have hown : s.vm.findClass "java/util/Arrays" = some m.cls := hown
  have hnm : meth.name = "copyOfRange" := hnm
  have N0 := Fr.nil n0
  have K0 : Keep h0 h0 [] := Keep.refl _ _
  refine own_st (mkF m 1 #[rv r1, iv (0 : Int32), iv (20 : Int32)] [(.int (0 : Int32))]) (fun t k => XS.iloadN X0.here hx rfl (hb hby d32_0) rfl k) ?_
  refine own_st (mkF m 4 #[rv r1, iv (0 : Int32), iv (20 : Int32)] []) (fun t k => XS.ifNo X0.here hx rfl (hb hby d32_1) rfl ((if0 _ _).trans (teq (by decide : (0 : Int32) = (0 : Int32))).2) k) ?_
  refine own_st (mkF m 5 #[rv r1, iv (0 : Int32), iv (20 : Int32)] [(.int (20 : Int32))]) (fun t k => XS.iloadN X0.here hx rfl (hb hby d32_4) rfl k) ?_
  refine own_st (mkF m 6 #[rv r1, iv (0 : Int32), iv (20 : Int32)] [(.ref r1), (.int (20 : Int32))]) (fun t k => XS.aloadN X0.here hx rfl (hb hby d32_5) rfl rfl k) ?_
  obtain ⟨cl158, Ar158, -, S158, M158, -, -⟩ := id V0
  refine own_step (T' := T0) (g' := (mkF m 7 #[rv r1, iv (0 : Int32), iv (20 : Int32)] [(.int cl158.slots.size.toInt32), (.int (20 : Int32))])) (X0.arraylength hx (by rw [e0]; exact Ar158.1) (State.isArrayOf_alike hZ.alike Ar158.2.1) (g := (mkF m 6 #[rv r1, iv (0 : Int32), iv (20 : Int32)] [(.ref r1), (.int (20 : Int32))])) rfl rfl (hb hby d32_6)) ?_
  rw [len_of S158 M158]
  refine own_st (mkF m 10 #[rv r1, iv (0 : Int32), iv (20 : Int32)] []) (fun t k => XS.icmpNo X0.here hx rfl (hb hby d32_7) rfl (feq (by decide : ¬ ((20 : Int32) = (34 : Int32)))).1 k) ?_
  refine own_st (mkF m 11 #[rv r1, iv (0 : Int32), iv (20 : Int32)] [(.ref r1)]) (fun t k => XS.aloadN X0.here hx rfl (hb hby d32_10) rfl rfl k) ?_
  refine own_st (mkF m 12 #[rv r1, iv (0 : Int32), iv (20 : Int32)] [(.int (0 : Int32)), (.ref r1)]) (fun t k => XS.iloadN X0.here hx rfl (hb hby d32_11) rfl k) ?_
  refine own_st (mkF m 13 #[rv r1, iv (0 : Int32), iv (20 : Int32)] [(.int (20 : Int32)), (.int (0 : Int32)), (.ref r1)]) (fun t k => XS.iloadN X0.here hx rfl (hb hby d32_12) rfl k) ?_
  obtain ⟨_, _, ⟨T159, L159, k159, n159⟩, -, X159, ⟨Lc159, hQ159, l159, y159, z159⟩, st159⟩ := Jvm.LawKit.callS X0 hx (y := (⟨"java/util/Arrays", "copyOfRangeByte", "([BII)[B"⟩ : MethodName)) hown (mvT hZ (hw_191 hw)) (mvT hZ (hw_192 hw)) (mvT hZ (hw_189 hw)) (mvT hZ (hw_193 hw)) (by decide) (backOf (W := 0) (own_rm33_t20 l Z a0 hw [] r1 kb es h0 n0 Z0 hes V0) hZ (hw_193 hw) (hw_189 hw) (by decide) (by decide)) (g := (mkF m 13 #[rv r1, iv (0 : Int32), iv (20 : Int32)] [(.int (20 : Int32)), (.int (0 : Int32)), (.ref r1)])) rfl (by rw [hml]; rfl) (argsL := [(.ref r1), (.int (0 : Int32)), (.int (20 : Int32))]) (rest := []) (lenOf pd_15 rfl) rfl (by show 2 * 0 + _ ≤ _; exact Nat.le_of_eq rfl) (hb hby d32_13) (fun _ _ => ⟨rfl, e0, (by decide : 0 + 1 ≤ _), (by decide : 0 + 20 ≤ _)⟩)
  dsimp only [Pt.U, Pt.locs, Pt.cells, Pt.slots] at X159 l159 y159 z159 st159 hQ159
  subst l159 y159 z159
  obtain ⟨ba159, kb159, rfl, Nq159, K159, gb159, V159, Eb159⟩ := hQ159
  have N159 := Fr.app N0 Nq159
  have g_ba159 : n0 ≤ ba159 := Nat.le_trans Z0 gb159
  have ne_r1_ba159 : r1 ≠ ba159 := Nat.ne_of_lt (Nat.lt_of_lt_of_le V0.lt gb159)
  have sz_ba159 : h0.size ≤ ba159 := Nat.le_trans K0.1 gb159
  have Z159 : n0 ≤ T159.heap.size := Nat.le_trans Z0 K159.1
  have Kp159 : Keep h0 T159.heap [] := K0.trans K159 all0
  have f1_Arv_r1 : Arv Z T159.heap r1 kb .byte (34 : Int32) ((es).map Value.int) (.int (0 : Int32)) := (V0.keep K159 nin0)
  refine own_step (g' := (mkF m 16 #[rv r1, iv (0 : Int32), iv (20 : Int32)] [(.ref ba159)])) st159 ?_
  refine own_ret X159 hlk (v := some (.ref ba159)) (fun h => by rw [hret] at h; cases h) (fun fs hr => X159.areturnOut hx (w := (.ref ba159)) rfl hret rfl (hb hby d32_16) hr) ?_ (by decide) (by decide)
  show own_Q32_t20 Z r1 kb es h0 n0 _ T159.heap _
  exact ⟨ba159, kb159, rfl, N159, Kp159, sz_ba159, V159, Eb159⟩
theorem own_ef27_t20 (m : MethodId) (a1 : Addr) (r2 : Addr) : entryFrame m #[(.ref a1), (.ref r2), .null] 5 = mkF m 0 #[rv a1, rv r2, .val .null, .unset, .unset] [] := by first | (simp [entryFrame, mkF, argsToLocals, Value.category]; done) | rfl
def own_Q27_t20 (Z : State) (a1 : Addr) (r2 : Addr) (vb : Addr) (kb : ClassId) (es : List Int32) (wc : Int32) (wD : Addr) (kD : ClassId) (h0 : Heap) (n0 : Nat) (v : Option Value) (h : Heap) (L : List Loc) : Prop := ∃ (ba : Addr) (kq : ClassId), v = none ∧ Fr n0 L ∧ Keep h0 h [a1] ∧ h0.size ≤ ba ∧ Exa Z h a1 "java/lang/String" ∧ Fld Z h a1 "java/lang/String" "value" "[B" (.ref ba) ∧ Fld Z h a1 "java/lang/String" "coder" "B" (.int (0 : Int32)) ∧ Arv Z h ba kq .byte (20 : Int32) ((es.take 20).map Value.int) (.int (0 : Int32))
set_option maxRecDepth 65536 in
set_option maxHeartbeats 40000000 in
theorem own_rm27_t20 (l : Launch) (Z : State) (a0 : Array Value) (hw : own_W a0 Z) (ws : List Jvm.Cond) (a1 : Addr) (r2 : Addr) (vb : Addr) (kb : ClassId) (es : List Int32) (wc : Int32) (wD : Addr) (kD : ClassId) (h0 : Heap) (n0 : Nat) (Z0 : n0 ≤ h0.size) (O0 : Old Z n0 h0) (SS : own_St Z wc wD kD) (hes : es.length = 34) (E_a1 : Exa Z h0 a1 "java/lang/String") (F_v : Fld Z h0 a1 "java/lang/String" "value" "[B" .null) (F_c : Fld Z h0 a1 "java/lang/String" "coder" "B" (.int (0 : Int32))) (E_r2 : Exa Z h0 r2 "java/lang/StringBuilder") (G_v : Fld Z h0 r2 "java/lang/AbstractStringBuilder" "value" "[B" (.ref vb)) (G_c : Fld Z h0 r2 "java/lang/AbstractStringBuilder" "coder" "B" (.int (0 : Int32))) (G_n : Fld Z h0 r2 "java/lang/AbstractStringBuilder" "count" "I" (.int (20 : Int32))) (V0 : Arv Z h0 vb kb .byte (34 : Int32) ((es).map Value.int) (.int (0 : Int32))) (g_a1 : n0 ≤ a1) (ne_12 : a1 ≠ r2) (ne_1v : a1 ≠ vb) :
    MetFree l (⟨"java/lang/String", "<init>", "(Ljava/lang/AbstractStringBuilder;Ljava/lang/Void;)V"⟩ : MethodName) (head1 (Jvm.Cond.code (⟨"java/lang/String", "<init>", "(Ljava/lang/AbstractStringBuilder;Ljava/lang/Void;)V"⟩ : MethodName) jdk_42_method_150_code 5 none :: ws) ({ frames := 3, cells := 1, slots := 20, locals := 49 } : Room)) (fun a U => a = #[(.ref a1), (.ref r2), .null] ∧ Z.Warmed39 U.vm ∧ U.heap = h0) (fun _ _ _ _ _ => True) (fun _ U o U' => ∃ v L, o = .returned v ∧ own_Q27_t20 Z a1 r2 vb kb es wc wD kD h0 n0 v U'.heap L ∧ FrameEnd U o U' L ({ frames := 3, cells := 1, slots := 20, locals := 49 } : Room).cells ({ frames := 3, cells := 1, slots := 20, locals := 49 } : Room).slots) := by
  refine own_body (plainFor_of_name pn_12) (fun m => own_ef27_t20 m a1 r2) ?_
  intro p e s m below meth c T0 X0 hx hby hml hZ hown hnm hret hlk e0
  have hown : s.vm.findClass "java/lang/String" = some m.cls := hown
  have hnm : meth.name = "<init>" := hnm
  have N0 := Fr.nil n0
  have K0 : Keep h0 h0 [a1] := Keep.refl _ _
  refine own_st (mkF m 1 #[rv a1, rv r2, .val .null, .unset, .unset] [(.ref a1)]) (fun t k => XS.aloadN X0.here hx rfl (hb hby d27_0) rfl rfl k) ?_
  obtain ⟨T160, X160, e160, st160⟩ := initO X0 hx hZ hown (hw_76 hw) (hw_7 hw) (hw_8 hw) e0 (g := (mkF m 1 #[rv a1, rv r2, .val .null, .unset, .unset] [(.ref a1)])) rfl (by rw [hml]; rfl) rfl (hb hby d27_1) (by decide) (W := 0) (by show 2 * 0 + _ ≤ _; exact Nat.le_of_eq rfl) (by decide)
  refine own_step (g' := (mkF m 4 #[rv a1, rv r2, .val .null, .unset, .unset] [])) st160 ?_
  refine own_st (mkF m 5 #[rv a1, rv r2, .val .null, .unset, .unset] [(.ref r2)]) (fun t k => XS.aloadN X160.here hx rfl (hb hby d27_4) rfl rfl k) ?_
  obtain ⟨cq161, kq161, q161a, q161b, q161c⟩ := isOf hZ e160 E_r2
  obtain ⟨_, _, ⟨T161, L161, k161, n161⟩, -, X161, ⟨Lc161, hQ161, l161, y161, z161⟩, st161⟩ := X160.virtualBack hx (y := (⟨"java/lang/AbstractStringBuilder", "getValue", "()[B"⟩ : MethodName)) (z := (⟨"java/lang/AbstractStringBuilder", "getValue", "()[B"⟩ : MethodName)) hown (mvT hZ (hw_169 hw)) (mvT hZ (hw_170 hw)) (notFace_of_selects (args := #[]) (mvT hZ (hw_172 hw))) (mvT hZ (hw_172 hw)) (mvT hZ (hw_171 hw)) (by decide) (backOf (W := 0) (own_rm28 l Z a0 hw [] r2 vb h0 n0 Z0 G_v) hZ (hw_173 hw) (hw_99 hw) (by decide) (by decide)) q161a q161c (g := (mkF m 5 #[rv a1, rv r2, .val .null, .unset, .unset] [(.ref r2)])) rfl (by rw [hml]; rfl) (Steps.refl _) (argsL := []) (rest := []) (lenOf pd_16 rfl) rfl (by show 2 * 0 + _ ≤ _; exact Nat.le_of_eq rfl) (hb hby d27_5) (fun _ _ => ⟨rfl, e160, (by decide : 0 + 0 ≤ _), (by decide : 0 + 0 ≤ _)⟩)
  dsimp only [Pt.U, Pt.locs, Pt.cells, Pt.slots] at X161 l161 y161 z161 st161 hQ161
  subst l161 y161 z161
  obtain ⟨rfl, Nq161, e161⟩ := hQ161
  have N161 := Fr.app N0 Nq161
  refine own_jump (g' := (mkF m 8 #[rv a1, rv r2, .val .null, .unset, .unset] [(.ref vb)])) st161 ?_
  refine own_st (mkF m 9 #[rv a1, rv r2, .val .null, rv vb, .unset] []) (fun t k => XS.astoreN X161.here hx rfl (hb hby d27_8) rfl rfl (l' := #[rv a1, rv r2, .val .null, rv vb, .unset]) rfl k) ?_
  refine own_st (mkF m 10 #[rv a1, rv r2, .val .null, rv vb, .unset] [(.ref r2)]) (fun t k => XS.aloadN X161.here hx rfl (hb hby d27_9) rfl rfl k) ?_
  obtain ⟨cq162, kq162, q162a, q162b, q162c⟩ := isOf hZ e161 E_r2
  obtain ⟨_, _, ⟨T162, L162, k162, n162⟩, -, X162, ⟨Lc162, hQ162, l162, y162, z162⟩, st162⟩ := X161.virtualBack hx (y := (⟨"java/lang/AbstractStringBuilder", "length", "()I"⟩ : MethodName)) (z := (⟨"java/lang/StringBuilder", "length", "()I"⟩ : MethodName)) hown (mvT hZ (hw_174 hw)) (mvT hZ (hw_175 hw)) (own_nf (y := (⟨"java/lang/AbstractStringBuilder", "length", "()I"⟩ : MethodName)) (y2 := (⟨"java/lang/AbstractStringBuilder", "getValue", "()[B"⟩ : MethodName)) rfl (args := #[]) (mvT hZ (hw_172 hw))) (mvT hZ (hw_177 hw)) (mvT hZ (hw_178 hw)) (by decide) (backOf (W := 0) (own_rm29 l Z a0 hw [] r2 (20 : Int32) h0 n0 Z0 G_n E_r2) hZ (hw_179 hw) (hw_91 hw) (by decide) (by decide)) q162a q162c (g := (mkF m 10 #[rv a1, rv r2, .val .null, rv vb, .unset] [(.ref r2)])) rfl (by rw [hml]; rfl) (Steps.refl _) (argsL := []) (rest := []) (lenOf pd_5 rfl) rfl (by show 2 * 0 + _ ≤ _; exact Nat.le_of_eq rfl) (hb hby d27_10) (fun _ _ => ⟨rfl, e161, (by decide : 0 + 0 ≤ _), (by decide : 0 + 0 ≤ _)⟩)
  dsimp only [Pt.U, Pt.locs, Pt.cells, Pt.slots] at X162 l162 y162 z162 st162 hQ162
  subst l162 y162 z162
  obtain ⟨rfl, Nq162, e162⟩ := hQ162
  have N162 := Fr.app N161 Nq162
  refine own_jump (g' := (mkF m 13 #[rv a1, rv r2, .val .null, rv vb, .unset] [(.int (20 : Int32))])) st162 ?_
  refine own_st (mkF m 15 #[rv a1, rv r2, .val .null, rv vb, iv (20 : Int32)] []) (fun t k => XS.istore X162.here hx rfl (hb hby d27_13) rfl (l' := #[rv a1, rv r2, .val .null, rv vb, iv (20 : Int32)]) rfl k) ?_
  refine own_st (mkF m 16 #[rv a1, rv r2, .val .null, rv vb, iv (20 : Int32)] [(.ref r2)]) (fun t k => XS.aloadN X162.here hx rfl (hb hby d27_15) rfl rfl k) ?_
  obtain ⟨cq163, kq163, q163a, q163b, q163c⟩ := isOf hZ e162 E_r2
  obtain ⟨_, _, ⟨T163, L163, k163, n163⟩, -, X163, ⟨Lc163, hQ163, l163, y163, z163⟩, st163⟩ := X162.virtualBack hx (y := (⟨"java/lang/AbstractStringBuilder", "isLatin1", "()Z"⟩ : MethodName)) (z := (⟨"java/lang/AbstractStringBuilder", "isLatin1", "()Z"⟩ : MethodName)) hown (mvT hZ (hw_182 hw)) (mvT hZ (hw_183 hw)) (notFace_of_selects (args := #[]) (mvT hZ (hw_185 hw))) (mvT hZ (hw_185 hw)) (mvT hZ (hw_184 hw)) (by decide) (backOf (W := 0) (own_rm31 l Z a0 hw [] r2 wc wD kD h0 n0 Z0 O0 SS G_c) hZ (hw_186 hw) (hw_99 hw) (by decide) (by decide)) q163a q163c (g := (mkF m 16 #[rv a1, rv r2, .val .null, rv vb, iv (20 : Int32)] [(.ref r2)])) rfl (by rw [hml]; rfl) (Steps.refl _) (argsL := []) (rest := []) (lenOf pd_17 rfl) rfl (by show 2 * 0 + _ ≤ _; exact Nat.le_of_eq rfl) (hb hby d27_16) (fun _ _ => ⟨rfl, e162, (by decide : 0 + 0 ≤ _), (by decide : 0 + 0 ≤ _)⟩)
  dsimp only [Pt.U, Pt.locs, Pt.cells, Pt.slots] at X163 l163 y163 z163 st163 hQ163
  subst l163 y163 z163
  obtain ⟨rfl, Nq163, e163⟩ := hQ163
  have N163 := Fr.app N162 Nq163
  refine own_jump (g' := (mkF m 19 #[rv a1, rv r2, .val .null, rv vb, iv (20 : Int32)] [(.int (1 : Int32))])) st163 ?_
  refine own_st (mkF m 22 #[rv a1, rv r2, .val .null, rv vb, iv (20 : Int32)] []) (fun t k => XS.ifNo X163.here hx rfl (hb hby d27_19) rfl ((if0 _ _).trans (feq (by decide : ¬ ((1 : Int32) = (0 : Int32)))).1) k) ?_
  refine own_st (mkF m 23 #[rv a1, rv r2, .val .null, rv vb, iv (20 : Int32)] [(.ref a1)]) (fun t k => XS.aloadN X163.here hx rfl (hb hby d27_22) rfl rfl k) ?_
  refine own_st (mkF m 24 #[rv a1, rv r2, .val .null, rv vb, iv (20 : Int32)] [(.int (0 : Int32)), (.ref a1)]) (fun t k => XS.iconst X163.here hx rfl (hb hby d27_23) k) ?_
  obtain ⟨T164, h164, X164, e164, W164, st164⟩ := putFN X163 hx hZ hown (hw_79 hw) Via.refl e163 F_c E_a1 (Or.inr ⟨(hw_80 hw), rfl, hnm⟩) (hw_67 hw) (ty := .byte) (v' := (.int (nar .byte (0 : Int32)))) (by decide) rfl (fits_nar_byte _) (g := (mkF m 24 #[rv a1, rv r2, .val .null, rv vb, iv (20 : Int32)] [(.int (0 : Int32)), (.ref a1)])) rfl rfl (hb hby d27_24)
  have f1_Exa_a1 : Exa Z h164 a1 "java/lang/String" := (E_a1.wr W164)
  have f2_Fld_a1 : Fld Z h164 a1 "java/lang/String" "value" "[B" .null := (F_v.other W164 (Or.inr (slot_ne (a0 := a0) (C := "java/lang/String") (Or.inr (hw_78 hw)) (Or.inr (hw_80 hw)) (by decide) (t := (.array .byte)) (t' := .byte) (by decide) (by decide))))
  have f3_Exa_r2 : Exa Z h164 r2 "java/lang/StringBuilder" := (E_r2.wr W164)
  have f4_Fld_r2 : Fld Z h164 r2 "java/lang/AbstractStringBuilder" "value" "[B" (.ref vb) := (G_v.other W164 (Or.inl (Ne.symm ne_12)))
  have f5_Fld_r2 : Fld Z h164 r2 "java/lang/AbstractStringBuilder" "coder" "B" (.int (0 : Int32)) := (G_c.other W164 (Or.inl (Ne.symm ne_12)))
  have f6_Fld_r2 : Fld Z h164 r2 "java/lang/AbstractStringBuilder" "count" "I" (.int (20 : Int32)) := (G_n.other W164 (Or.inl (Ne.symm ne_12)))
  have f7_Arv_vb : Arv Z h164 vb kb .byte (34 : Int32) ((es).map Value.int) (.int (0 : Int32)) := (V0.other W164 (Ne.symm ne_1v))
  have fw164 : Fld Z h164 a1 "java/lang/String" "coder" "B" (.int (nar .byte (0 : Int32))) := F_c.same W164
  have Z164 : n0 ≤ h164.size := Nat.le_trans Z0 (Keep.of_wr W164).1
  have Kp164 : Keep h0 h164 [a1] := K0.wr W164 (Or.inl (List.mem_of_getElem? (i := 0) rfl))
  have O164 : Old Z n0 h164 := O0.wr W164 g_a1
  have N164 := Fr.snoc X164 N163 g_a1
  refine own_step (g' := (mkF m 27 #[rv a1, rv r2, .val .null, rv vb, iv (20 : Int32)] [])) st164 ?_
  have Fz : Fld Z h164 a1 "java/lang/String" "coder" "B" (.int (0 : Int32)) := own_nar0 ▸ fw164
  refine own_st (mkF m 28 #[rv a1, rv r2, .val .null, rv vb, iv (20 : Int32)] [(.ref a1)]) (fun t k => XS.aloadN X164.here hx rfl (hb hby d27_27) rfl rfl k) ?_
  refine own_st (mkF m 29 #[rv a1, rv r2, .val .null, rv vb, iv (20 : Int32)] [(.ref vb), (.ref a1)]) (fun t k => XS.aloadN X164.here hx rfl (hb hby d27_28) rfl rfl k) ?_
  refine own_st (mkF m 30 #[rv a1, rv r2, .val .null, rv vb, iv (20 : Int32)] [(.int (0 : Int32)), (.ref vb), (.ref a1)]) (fun t k => XS.iconst X164.here hx rfl (hb hby d27_29) k) ?_
  refine own_st (mkF m 32 #[rv a1, rv r2, .val .null, rv vb, iv (20 : Int32)] [(.int (20 : Int32)), (.int (0 : Int32)), (.ref vb), (.ref a1)]) (fun t k => XS.iload X164.here hx rfl (hb hby d27_30) rfl k) ?_
  obtain ⟨_, _, ⟨T165, L165, k165, n165⟩, -, X165, ⟨Lc165, hQ165, l165, y165, z165⟩, st165⟩ := Jvm.LawKit.callS X164 hx (y := (⟨"java/util/Arrays", "copyOfRange", "([BII)[B"⟩ : MethodName)) hown (mvT hZ (hw_187 hw)) (mvT hZ (hw_188 hw)) (mvT hZ (hw_189 hw)) (mvT hZ (hw_190 hw)) (by decide) (backOf (W := 1) (own_rm32_t20 l Z a0 hw [] vb kb es h164 n0 Z164 hes f7_Arv_vb) hZ (hw_190 hw) (hw_189 hw) (by decide) (by decide)) (g := (mkF m 32 #[rv a1, rv r2, .val .null, rv vb, iv (20 : Int32)] [(.int (20 : Int32)), (.int (0 : Int32)), (.ref vb), (.ref a1)])) rfl (by rw [hml]; rfl) (argsL := [(.ref vb), (.int (0 : Int32)), (.int (20 : Int32))]) (rest := [(.ref a1)]) (lenOf pd_15 rfl) rfl (by show 2 * 0 + _ ≤ _; exact Nat.le_of_eq rfl) (hb hby d27_32) (fun _ _ => ⟨rfl, e164, (by decide : 0 + 1 ≤ _), (by decide : 0 + 20 ≤ _)⟩)
  dsimp only [Pt.U, Pt.locs, Pt.cells, Pt.slots] at X165 l165 y165 z165 st165 hQ165
  subst l165 y165 z165
  obtain ⟨ba165, kb165, rfl, Nq165, K165, gb165, V165, Eb165⟩ := hQ165
  have N165 := Fr.app N164 Nq165
  have g_ba165 : n0 ≤ ba165 := Nat.le_trans Z164 gb165
  have ne_a1_ba165 : a1 ≠ ba165 := Nat.ne_of_lt (Nat.lt_of_lt_of_le f1_Exa_a1.lt gb165)
  have ne_r2_ba165 : r2 ≠ ba165 := Nat.ne_of_lt (Nat.lt_of_lt_of_le f3_Exa_r2.lt gb165)
  have ne_vb_ba165 : vb ≠ ba165 := Nat.ne_of_lt (Nat.lt_of_lt_of_le f7_Arv_vb.lt gb165)
  have sz_ba165 : h0.size ≤ ba165 := Nat.le_trans Kp164.1 gb165
  have Z165 : n0 ≤ T165.heap.size := Nat.le_trans Z164 K165.1
  have O165 : Old Z n0 T165.heap := O164.keep K165 all0
  have Kp165 : Keep h0 T165.heap [a1] := Kp164.trans K165 all0
  have f8_Exa_a1 : Exa Z T165.heap a1 "java/lang/String" := (f1_Exa_a1.keep K165)
  have f9_Fld_a1 : Fld Z T165.heap a1 "java/lang/String" "value" "[B" .null := (f2_Fld_a1.keep K165 nin0)
  have f10_Fld_a1 : Fld Z T165.heap a1 "java/lang/String" "coder" "B" (.int (0 : Int32)) := (Fz.keep K165 nin0)
  have f11_Exa_r2 : Exa Z T165.heap r2 "java/lang/StringBuilder" := (f3_Exa_r2.keep K165)
  have f12_Fld_r2 : Fld Z T165.heap r2 "java/lang/AbstractStringBuilder" "value" "[B" (.ref vb) := (f4_Fld_r2.keep K165 nin0)
  have f13_Fld_r2 : Fld Z T165.heap r2 "java/lang/AbstractStringBuilder" "coder" "B" (.int (0 : Int32)) := (f5_Fld_r2.keep K165 nin0)
  have f14_Fld_r2 : Fld Z T165.heap r2 "java/lang/AbstractStringBuilder" "count" "I" (.int (20 : Int32)) := (f6_Fld_r2.keep K165 nin0)
  have f15_Arv_vb : Arv Z T165.heap vb kb .byte (34 : Int32) ((es).map Value.int) (.int (0 : Int32)) := (f7_Arv_vb.keep K165 nin0)
  refine own_step (g' := (mkF m 35 #[rv a1, rv r2, .val .null, rv vb, iv (20 : Int32)] [(.ref ba165), (.ref a1)])) st165 ?_
  obtain ⟨T166, h166, X166, e166, W166, st166⟩ := putF X165 hx hZ hown (host := "") (Or.inl (hw_77 hw)) Via.refl rfl f9_Fld_a1 f8_Exa_a1 (Or.inr ⟨(hw_78 hw), rfl, hnm⟩) (hw_67 hw) (ty := (.array .byte)) (by decide) rfl rfl (g := (mkF m 35 #[rv a1, rv r2, .val .null, rv vb, iv (20 : Int32)] [(.ref ba165), (.ref a1)])) rfl rfl (hb hby d27_35)
  have f16_Exa_a1 : Exa Z h166 a1 "java/lang/String" := (f8_Exa_a1.wr W166)
  have f17_Fld_a1 : Fld Z h166 a1 "java/lang/String" "coder" "B" (.int (0 : Int32)) := (f10_Fld_a1.other W166 (Or.inr (slot_ne (a0 := a0) (C := "java/lang/String") (Or.inr (hw_80 hw)) (Or.inr (hw_78 hw)) (by decide) (t := .byte) (t' := (.array .byte)) (by decide) (by decide))))
  have f18_Exa_r2 : Exa Z h166 r2 "java/lang/StringBuilder" := (f11_Exa_r2.wr W166)
  have f19_Fld_r2 : Fld Z h166 r2 "java/lang/AbstractStringBuilder" "value" "[B" (.ref vb) := (f12_Fld_r2.other W166 (Or.inl (Ne.symm ne_12)))
  have f20_Fld_r2 : Fld Z h166 r2 "java/lang/AbstractStringBuilder" "coder" "B" (.int (0 : Int32)) := (f13_Fld_r2.other W166 (Or.inl (Ne.symm ne_12)))
  have f21_Fld_r2 : Fld Z h166 r2 "java/lang/AbstractStringBuilder" "count" "I" (.int (20 : Int32)) := (f14_Fld_r2.other W166 (Or.inl (Ne.symm ne_12)))
  have f22_Arv_vb : Arv Z h166 vb kb .byte (34 : Int32) ((es).map Value.int) (.int (0 : Int32)) := (f15_Arv_vb.other W166 (Ne.symm ne_1v))
  have f23_Arv_ba165 : Arv Z h166 ba165 kb165 .byte (20 : Int32) (((es).take 20).map Value.int) (.int (0 : Int32)) := (V165.other W166 (Ne.symm ne_a1_ba165))
  have f24_Exa_ba165 : Exa Z h166 ba165 "[B" := (Eb165.wr W166)
  have fw166 : Fld Z h166 a1 "java/lang/String" "value" "[B" (.ref ba165) := f9_Fld_a1.same W166
  have Z166 : n0 ≤ h166.size := Nat.le_trans Z165 (Keep.of_wr W166).1
  have Kp166 : Keep h0 h166 [a1] := Kp165.wr W166 (Or.inl (List.mem_of_getElem? (i := 0) rfl))
  have O166 : Old Z n0 h166 := O165.wr W166 g_a1
  have N166 := Fr.snoc X166 N165 g_a1
  refine own_step (g' := (mkF m 38 #[rv a1, rv r2, .val .null, rv vb, iv (20 : Int32)] [])) st166 ?_
  refine own_st (mkF m 97 #[rv a1, rv r2, .val .null, rv vb, iv (20 : Int32)] []) (fun t k => XS.goto X166.here hx rfl (pc0 := 38) (pc' := 97) rfl (hb hby d27_38) (by decide) (by decide) k) ?_
  refine own_ret X166 hlk (v := none) (fun _ => rfl) (fun fs hr => X166.returnOut hx hret (hb hby d27_97) hr) ?_ (by decide) (by decide)
  show own_Q27_t20 Z a1 r2 vb kb es wc wD kD h0 n0 _ T166.heap _
  rw [e166]
  exact ⟨ba165, kb165, rfl, N166, Kp166, sz_ba165, f16_Exa_a1, fw166, f17_Fld_a1, f23_Arv_ba165⟩
theorem own_ef26_t20 (m : MethodId) (a1 : Addr) (r2 : Addr) : entryFrame m #[(.ref a1), (.ref r2)] 2 = mkF m 0 #[rv a1, rv r2] [] := by first | (simp [entryFrame, mkF, argsToLocals, Value.category]; done) | rfl
def own_Q26_t20 (Z : State) (a1 : Addr) (r2 : Addr) (vb : Addr) (kb : ClassId) (es : List Int32) (wc : Int32) (wD : Addr) (kD : ClassId) (h0 : Heap) (n0 : Nat) (v : Option Value) (h : Heap) (L : List Loc) : Prop := ∃ (ba : Addr) (kq : ClassId), v = none ∧ Fr n0 L ∧ Keep h0 h [a1] ∧ h0.size ≤ ba ∧ Exa Z h a1 "java/lang/String" ∧ Fld Z h a1 "java/lang/String" "value" "[B" (.ref ba) ∧ Fld Z h a1 "java/lang/String" "coder" "B" (.int (0 : Int32)) ∧ Arv Z h ba kq .byte (20 : Int32) ((es.take 20).map Value.int) (.int (0 : Int32))
set_option maxRecDepth 65536 in
set_option maxHeartbeats 40000000 in
theorem own_rm26_t20 (l : Launch) (Z : State) (a0 : Array Value) (hw : own_W a0 Z) (ws : List Jvm.Cond) (a1 : Addr) (r2 : Addr) (vb : Addr) (kb : ClassId) (es : List Int32) (wc : Int32) (wD : Addr) (kD : ClassId) (h0 : Heap) (n0 : Nat) (Z0 : n0 ≤ h0.size) (O0 : Old Z n0 h0) (SS : own_St Z wc wD kD) (hes : es.length = 34) (E_a1 : Exa Z h0 a1 "java/lang/String") (F_v : Fld Z h0 a1 "java/lang/String" "value" "[B" .null) (F_c : Fld Z h0 a1 "java/lang/String" "coder" "B" (.int (0 : Int32))) (E_r2 : Exa Z h0 r2 "java/lang/StringBuilder") (G_v : Fld Z h0 r2 "java/lang/AbstractStringBuilder" "value" "[B" (.ref vb)) (G_c : Fld Z h0 r2 "java/lang/AbstractStringBuilder" "coder" "B" (.int (0 : Int32))) (G_n : Fld Z h0 r2 "java/lang/AbstractStringBuilder" "count" "I" (.int (20 : Int32))) (V0 : Arv Z h0 vb kb .byte (34 : Int32) ((es).map Value.int) (.int (0 : Int32))) (g_a1 : n0 ≤ a1) (ne_12 : a1 ≠ r2) (ne_1v : a1 ≠ vb) :
    MetFree l (⟨"java/lang/String", "<init>", "(Ljava/lang/StringBuilder;)V"⟩ : MethodName) (head1 (Jvm.Cond.code (⟨"java/lang/String", "<init>", "(Ljava/lang/StringBuilder;)V"⟩ : MethodName) jdk_42_method_53_code 2 none :: ws) ({ frames := 4, cells := 1, slots := 20, locals := 65 } : Room)) (fun a U => a = #[(.ref a1), (.ref r2)] ∧ Z.Warmed39 U.vm ∧ U.heap = h0) (fun _ _ _ _ _ => True) (fun _ U o U' => ∃ v L, o = .returned v ∧ own_Q26_t20 Z a1 r2 vb kb es wc wD kD h0 n0 v U'.heap L ∧ FrameEnd U o U' L ({ frames := 4, cells := 1, slots := 20, locals := 65 } : Room).cells ({ frames := 4, cells := 1, slots := 20, locals := 65 } : Room).slots) := by
  refine own_body (plainFor_of_name pn_12) (fun m => own_ef26_t20 m a1 r2) ?_
  intro p e s m below meth c T0 X0 hx hby hml hZ hown hnm hret hlk e0
  have hown : s.vm.findClass "java/lang/String" = some m.cls := hown
  have hnm : meth.name = "<init>" := hnm
  have N0 := Fr.nil n0
  have K0 : Keep h0 h0 [a1] := Keep.refl _ _
  refine own_st (mkF m 1 #[rv a1, rv r2] [(.ref a1)]) (fun t k => XS.aloadN X0.here hx rfl (hb hby d26_0) rfl rfl k) ?_
  refine own_st (mkF m 2 #[rv a1, rv r2] [(.ref r2), (.ref a1)]) (fun t k => XS.aloadN X0.here hx rfl (hb hby d26_1) rfl rfl k) ?_
  refine own_st (mkF m 3 #[rv a1, rv r2] [.null, (.ref r2), (.ref a1)]) (fun t k => XS.aconstNull X0.here hx rfl (hb hby d26_2) k) ?_
  obtain ⟨_, _, ⟨T167, L167, k167, n167⟩, -, X167, ⟨Lc167, hQ167, l167, y167, z167⟩, st167⟩ := X0.specialBack hx (y := (⟨"java/lang/String", "<init>", "(Ljava/lang/AbstractStringBuilder;Ljava/lang/Void;)V"⟩ : MethodName)) rfl hown (mvT hZ (hw_166 hw)) (mvT hZ (hw_167 hw)) (mvT hZ (hw_168 hw)) (by decide) (backOf (W := 0) (own_rm27_t20 l Z a0 hw [] a1 r2 vb kb es wc wD kD h0 n0 Z0 O0 SS hes E_a1 F_v F_c E_r2 G_v G_c G_n V0 g_a1 ne_12 ne_1v) hZ (hw_168 hw) (hw_59 hw) (by decide) (by decide)) (g := (mkF m 3 #[rv a1, rv r2] [.null, (.ref r2), (.ref a1)])) rfl (by rw [hml]; rfl) (Steps.refl _) (a := a1) (argsL := [(.ref r2), .null]) (rest := []) (lenOf pd_18 rfl) rfl (by show 2 * 0 + _ ≤ _; exact Nat.le_of_eq rfl) (hb hby d26_3) (fun _ _ => ⟨rfl, e0, (by decide : 0 + 1 ≤ _), (by decide : 0 + 20 ≤ _)⟩)
  dsimp only [Pt.U, Pt.locs, Pt.cells, Pt.slots] at X167 l167 y167 z167 st167 hQ167
  subst l167 y167 z167
  obtain ⟨ba167, kb167, rfl, Nq167, K167, gb167, Ex167, Fv167, Fc167, V167⟩ := hQ167
  have N167 := Fr.app N0 Nq167
  have g_ba167 : n0 ≤ ba167 := Nat.le_trans Z0 gb167
  have ne_a1_ba167 : a1 ≠ ba167 := Nat.ne_of_lt (Nat.lt_of_lt_of_le E_a1.lt gb167)
  have ne_r2_ba167 : r2 ≠ ba167 := Nat.ne_of_lt (Nat.lt_of_lt_of_le E_r2.lt gb167)
  have ne_vb_ba167 : vb ≠ ba167 := Nat.ne_of_lt (Nat.lt_of_lt_of_le V0.lt gb167)
  have sz_ba167 : h0.size ≤ ba167 := Nat.le_trans K0.1 gb167
  have Z167 : n0 ≤ T167.heap.size := Nat.le_trans Z0 K167.1
  have O167 : Old Z n0 T167.heap := O0.keep K167 (allS g_a1 all0)
  have Kp167 : Keep h0 T167.heap [a1] := K0.trans K167 (allS (Or.inl (List.mem_of_getElem? (i := 0) rfl)) all0)
  have f1_Exa_a1 : Exa Z T167.heap a1 "java/lang/String" := (E_a1.keep K167)
  have f2_Exa_r2 : Exa Z T167.heap r2 "java/lang/StringBuilder" := (E_r2.keep K167)
  have f3_Fld_r2 : Fld Z T167.heap r2 "java/lang/AbstractStringBuilder" "value" "[B" (.ref vb) := (G_v.keep K167 (ninS (Ne.symm ne_12) nin0))
  have f4_Fld_r2 : Fld Z T167.heap r2 "java/lang/AbstractStringBuilder" "coder" "B" (.int (0 : Int32)) := (G_c.keep K167 (ninS (Ne.symm ne_12) nin0))
  have f5_Fld_r2 : Fld Z T167.heap r2 "java/lang/AbstractStringBuilder" "count" "I" (.int (20 : Int32)) := (G_n.keep K167 (ninS (Ne.symm ne_12) nin0))
  have f6_Arv_vb : Arv Z T167.heap vb kb .byte (34 : Int32) ((es).map Value.int) (.int (0 : Int32)) := (V0.keep K167 (ninS (Ne.symm ne_1v) nin0))
  refine own_jump (g' := (mkF m 6 #[rv a1, rv r2] [])) st167 ?_
  refine own_ret X167 hlk (v := none) (fun _ => rfl) (fun fs hr => X167.returnOut hx hret (hb hby d26_6) hr) ?_ (by decide) (by decide)
  show own_Q26_t20 Z a1 r2 vb kb es wc wD kD h0 n0 _ T167.heap _
  exact ⟨ba167, kb167, rfl, N167, Kp167, sz_ba167, Ex167, Fv167, Fc167, V167⟩
theorem own_ef25_t20 (m : MethodId) (a1 : Addr) : entryFrame m #[(.ref a1)] 1 = mkF m 0 #[rv a1] [] := by first | (simp [entryFrame, mkF, argsToLocals, Value.category]; done) | rfl
def own_Q25_t20 (Z : State) (a1 : Addr) (vb : Addr) (kb : ClassId) (es : List Int32) (wc : Int32) (wD : Addr) (kD : ClassId) (h0 : Heap) (n0 : Nat) (v : Option Value) (h : Heap) (L : List Loc) : Prop := ∃ (sa ba : Addr) (kb : ClassId), v = some (.ref sa) ∧ Fr n0 L ∧ Keep h0 h [] ∧ h0.size ≤ sa ∧ h0.size ≤ ba ∧ sa ≠ ba ∧ Exa Z h sa "java/lang/String" ∧ Fld Z h sa "java/lang/String" "value" "[B" (.ref ba) ∧ Fld Z h sa "java/lang/String" "coder" "B" (.int (0 : Int32)) ∧ Arv Z h ba kb .byte (20 : Int32) ((es.take 20).map Value.int) (.int (0 : Int32))
set_option maxRecDepth 65536 in
set_option maxHeartbeats 40000000 in
theorem own_rm25_t20 (l : Launch) (Z : State) (a0 : Array Value) (hw : own_W a0 Z) (ws : List Jvm.Cond) (a1 : Addr) (vb : Addr) (kb : ClassId) (es : List Int32) (wc : Int32) (wD : Addr) (kD : ClassId) (h0 : Heap) (n0 : Nat) (Z0 : n0 ≤ h0.size) (O0 : Old Z n0 h0) (SS : own_St Z wc wD kD) (hes : es.length = 34) (E_a1 : Exa Z h0 a1 "java/lang/StringBuilder") (G_v : Fld Z h0 a1 "java/lang/AbstractStringBuilder" "value" "[B" (.ref vb)) (G_c : Fld Z h0 a1 "java/lang/AbstractStringBuilder" "coder" "B" (.int (0 : Int32))) (G_n : Fld Z h0 a1 "java/lang/AbstractStringBuilder" "count" "I" (.int (20 : Int32))) (V0 : Arv Z h0 vb kb .byte (34 : Int32) ((es).map Value.int) (.int (0 : Int32))) :
    MetFree l (⟨"java/lang/StringBuilder", "toString", "()Ljava/lang/String;"⟩ : MethodName) (head1 (Jvm.Cond.code (⟨"java/lang/StringBuilder", "toString", "()Ljava/lang/String;"⟩ : MethodName) jdk_67_method_42_code 1 (some (.object "java/lang/String")) :: ws) ({ frames := 5, cells := 2, slots := 24, locals := 79 } : Room)) (fun a U => a = #[(.ref a1)] ∧ Z.Warmed39 U.vm ∧ U.heap = h0) (fun _ _ _ _ _ => True) (fun _ U o U' => ∃ v L, o = .returned v ∧ own_Q25_t20 Z a1 vb kb es wc wD kD h0 n0 v U'.heap L ∧ FrameEnd U o U' L ({ frames := 5, cells := 2, slots := 24, locals := 79 } : Room).cells ({ frames := 5, cells := 2, slots := 24, locals := 79 } : Room).slots) := by
  refine own_body (plainFor_of_name pn_15) (fun m => own_ef25_t20 m a1) ?_
  intro p e s m below meth c T0 X0 hx hby hml hZ hown hnm hret hlk e0
  have hown : s.vm.findClass "java/lang/StringBuilder" = some m.cls := hown
  have hnm : meth.name = "toString" := hnm
  have N0 := Fr.nil n0
  have K0 : Keep h0 h0 [] := Keep.refl _ _
  obtain ⟨T168, h168, X168, e168, E168, A168, D168, -, st168⟩ := newO X0 hx hZ hown (hw_162 hw) (hw_67 hw) (hw_59 hw) e0 (g := (mkF m 0 #[rv a1] [])) rfl (hb hby d25_0) (by decide) (by decide)
  obtain ⟨b168, g168⟩ : ∃ z, z = h0.size := ⟨_, rfl⟩
  rw [← g168] at A168 D168 st168
  have E_168 : Ext h0 h168 := E168
  have g_b168 : n0 ≤ b168 := Nat.le_trans Z0 (Nat.le_of_eq g168.symm)
  have ne_a1_b168 : a1 ≠ b168 := Nat.ne_of_lt (Nat.lt_of_lt_of_le E_a1.lt (Nat.le_of_eq g168.symm))
  have ne_vb_b168 : vb ≠ b168 := Nat.ne_of_lt (Nat.lt_of_lt_of_le V0.lt (Nat.le_of_eq g168.symm))
  have sz_b168 : h0.size ≤ b168 := Nat.le_trans K0.1 (Nat.le_of_eq g168.symm)
  have Kp168 : Keep h0 h168 [] := K0.ext E168
  have Z168 : n0 ≤ h168.size := Nat.le_trans Z0 E168.1
  have O168 : Old Z n0 h168 := O0.ext E168
  have f1_Exa_a1 : Exa Z h168 a1 "java/lang/StringBuilder" := (E_a1.ext E168)
  have f2_Fld_a1 : Fld Z h168 a1 "java/lang/AbstractStringBuilder" "value" "[B" (.ref vb) := (G_v.ext E168)
  have f3_Fld_a1 : Fld Z h168 a1 "java/lang/AbstractStringBuilder" "coder" "B" (.int (0 : Int32)) := (G_c.ext E168)
  have f4_Fld_a1 : Fld Z h168 a1 "java/lang/AbstractStringBuilder" "count" "I" (.int (20 : Int32)) := (G_n.ext E168)
  have f5_Arv_vb : Arv Z h168 vb kb .byte (34 : Int32) ((es).map Value.int) (.int (0 : Int32)) := (V0.ext E168)
  have F_value_b168 : Fld Z h168 b168 "java/lang/String" "value" "[B" .null := D168 (Or.inr (hw_78 hw)) (ty := (.array .byte)) (by decide)
  have F_coder_b168 : Fld Z h168 b168 "java/lang/String" "coder" "B" (.int (0 : Int32)) := D168 (Or.inr (hw_80 hw)) (ty := .byte) (by decide)
  refine own_step (g' := (mkF m 3 #[rv a1] [(.ref b168)])) st168 ?_
  refine own_st (mkF m 4 #[rv a1] [(.ref b168), (.ref b168)]) (fun t k => XS.dup X168.here hx rfl (hb hby d25_3) rfl rfl k) ?_
  refine own_st (mkF m 5 #[rv a1] [(.ref a1), (.ref b168), (.ref b168)]) (fun t k => XS.aloadN X168.here hx rfl (hb hby d25_4) rfl rfl k) ?_
  obtain ⟨_, _, ⟨T169, L169, k169, n169⟩, -, X169, ⟨Lc169, hQ169, l169, y169, z169⟩, st169⟩ := X168.specialBack hx (y := (⟨"java/lang/String", "<init>", "(Ljava/lang/StringBuilder;)V"⟩ : MethodName)) rfl hown (mvT hZ (hw_163 hw)) (mvT hZ (hw_164 hw)) (mvT hZ (hw_165 hw)) (by decide) (backOf (W := 1) (own_rm26_t20 l Z a0 hw [] b168 a1 vb kb es wc wD kD h168 n0 Z168 O168 SS hes A168 F_value_b168 F_coder_b168 f1_Exa_a1 f2_Fld_a1 f3_Fld_a1 f4_Fld_a1 f5_Arv_vb g_b168 (Ne.symm ne_a1_b168) (Ne.symm ne_vb_b168)) hZ (hw_165 hw) (hw_59 hw) (by decide) (by decide)) (g := (mkF m 5 #[rv a1] [(.ref a1), (.ref b168), (.ref b168)])) rfl (by rw [hml]; rfl) (Steps.refl _) (a := b168) (argsL := [(.ref a1)]) (rest := [(.ref b168)]) (lenOf pd_19 rfl) rfl (by show 2 * 0 + _ ≤ _; exact Nat.le_of_eq rfl) (hb hby d25_5) (fun _ _ => ⟨rfl, e168, (by decide : 1 + 1 ≤ _), (by decide : 4 + 20 ≤ _)⟩)
  dsimp only [Pt.U, Pt.locs, Pt.cells, Pt.slots] at X169 l169 y169 z169 st169 hQ169
  subst l169 y169 z169
  obtain ⟨ba169, kb169, rfl, Nq169, K169, gb169, Ex169, Fv169, Fc169, V169⟩ := hQ169
  have N169 := Fr.app N0 Nq169
  have g_ba169 : n0 ≤ ba169 := Nat.le_trans Z168 gb169
  have ne_a1_ba169 : a1 ≠ ba169 := Nat.ne_of_lt (Nat.lt_of_lt_of_le f1_Exa_a1.lt gb169)
  have ne_vb_ba169 : vb ≠ ba169 := Nat.ne_of_lt (Nat.lt_of_lt_of_le f5_Arv_vb.lt gb169)
  have ne_b168_ba169 : b168 ≠ ba169 := Nat.ne_of_lt (Nat.lt_of_lt_of_le A168.lt gb169)
  have sz_ba169 : h0.size ≤ ba169 := Nat.le_trans Kp168.1 gb169
  have Z169 : n0 ≤ T169.heap.size := Nat.le_trans Z168 K169.1
  have O169 : Old Z n0 T169.heap := O168.keep K169 (allS g_b168 all0)
  have Kp169 : Keep h0 T169.heap [] := Kp168.trans K169 (allS (Or.inr sz_b168) all0)
  have f6_Exa_a1 : Exa Z T169.heap a1 "java/lang/StringBuilder" := (f1_Exa_a1.keep K169)
  have f7_Fld_a1 : Fld Z T169.heap a1 "java/lang/AbstractStringBuilder" "value" "[B" (.ref vb) := (f2_Fld_a1.keep K169 (ninS ne_a1_b168 nin0))
  have f8_Fld_a1 : Fld Z T169.heap a1 "java/lang/AbstractStringBuilder" "coder" "B" (.int (0 : Int32)) := (f3_Fld_a1.keep K169 (ninS ne_a1_b168 nin0))
  have f9_Fld_a1 : Fld Z T169.heap a1 "java/lang/AbstractStringBuilder" "count" "I" (.int (20 : Int32)) := (f4_Fld_a1.keep K169 (ninS ne_a1_b168 nin0))
  have f10_Arv_vb : Arv Z T169.heap vb kb .byte (34 : Int32) ((es).map Value.int) (.int (0 : Int32)) := (f5_Arv_vb.keep K169 (ninS ne_vb_b168 nin0))
  have f11_Exa_b168 : Exa Z T169.heap b168 "java/lang/String" := (A168.keep K169)
  refine own_jump (g' := (mkF m 8 #[rv a1] [(.ref b168)])) st169 ?_
  refine own_ret X169 hlk (v := some (.ref b168)) (fun h => by rw [hret] at h; cases h) (fun fs hr => X169.areturnOut hx (w := (.ref b168)) rfl hret rfl (hb hby d25_8) hr) ?_ (by decide) (by decide)
  show own_Q25_t20 Z a1 vb kb es wc wD kD h0 n0 _ T169.heap _
  exact ⟨b168, ba169, kb169, rfl, N169, Kp169, sz_b168, sz_ba169, ne_b168_ba169, Ex169, Fv169, Fc169, V169⟩
theorem d5_0 : decode jdk_22_method_1_code 0 = .ok (.aload_n 0, 1) := by decide +kernel
theorem d5_1 : decode jdk_22_method_1_code 1 = .ok (.invokespecial 1, 3) := by decide +kernel
theorem hw_27 {a0 Z} (hw : own_W a0 Z) : (Jvm.Cond.methodLink "java/util/AbstractCollection" (1 : Nat) ({ cls := "java/lang/Object", name := "<init>", desc := "()V" } : Jvm.MethodName)).before a0 Z = true := hw _ (List.mem_of_getElem? (i := 27) rfl)
theorem d5_4 : decode jdk_22_method_1_code 4 = .ok (.return_, 1) := by decide +kernel
theorem pn_5 : plainName "java/util/AbstractCollection" = true := by first | (simp [plainName, overriddenIn]; done) | decide +kernel
theorem own_ef5 (m : MethodId) (a1 : Addr) : entryFrame m #[(.ref a1)] 1 = mkF m 0 #[rv a1] [] := by first | (simp [entryFrame, mkF, argsToLocals, Value.category]; done) | rfl
def own_Q5 (Z : State) (a1 : Addr) (h0 : Heap) (n0 : Nat) (v : Option Value) (h : Heap) (L : List Loc) : Prop := v = none ∧ Fr n0 L ∧ h = h0
set_option maxRecDepth 65536 in
set_option maxHeartbeats 40000000 in
theorem own_rm5 (l : Launch) (Z : State) (a0 : Array Value) (hw : own_W a0 Z) (ws : List Jvm.Cond) (a1 : Addr) (h0 : Heap) (n0 : Nat) (Z0 : n0 ≤ h0.size) :
    MetFree l (⟨"java/util/AbstractCollection", "<init>", "()V"⟩ : MethodName) (head1 (Jvm.Cond.code (⟨"java/util/AbstractCollection", "<init>", "()V"⟩ : MethodName) jdk_22_method_1_code 1 none :: ws) ({ frames := 1, cells := 0, slots := 0, locals := 12 } : Room)) (fun a U => a = #[(.ref a1)] ∧ Z.Warmed39 U.vm ∧ U.heap = h0) (fun _ _ _ _ _ => True) (fun _ U o U' => ∃ v L, o = .returned v ∧ own_Q5 Z a1 h0 n0 v U'.heap L ∧ FrameEnd U o U' L ({ frames := 1, cells := 0, slots := 0, locals := 12 } : Room).cells ({ frames := 1, cells := 0, slots := 0, locals := 12 } : Room).slots) := by
  refine own_body (plainFor_of_name pn_5) (fun m => own_ef5 m a1) ?_
  intro p e s m below meth c T0 X0 hx hby hml hZ hown hnm hret hlk e0
  have hown : s.vm.findClass "java/util/AbstractCollection" = some m.cls := hown
  have hnm : meth.name = "<init>" := hnm
  have N0 := Fr.nil n0
  refine own_st (mkF m 1 #[rv a1] [(.ref a1)]) (fun t k => XS.aloadN X0.here hx rfl (hb hby d5_0) rfl rfl k) ?_
  obtain ⟨T170, X170, e170, st170⟩ := initO X0 hx hZ hown (hw_27 hw) (hw_7 hw) (hw_8 hw) e0 (g := (mkF m 1 #[rv a1] [(.ref a1)])) rfl (by rw [hml]; rfl) rfl (hb hby d5_1) (by decide) (W := 0) (by show 2 * 0 + _ ≤ _; exact Nat.le_of_eq rfl) (by decide)
  refine own_step (g' := (mkF m 4 #[rv a1] [])) st170 ?_
  refine own_ret X170 hlk (v := none) (fun _ => rfl) (fun fs hr => X170.returnOut hx hret (hb hby d5_4) hr) ?_ (by decide) (by decide)
  show own_Q5 Z a1 h0 n0 _ T170.heap _
  rw [e170]
  exact ⟨rfl, N0, rfl⟩
theorem d4_0 : decode jdk_39_method_1_code 0 = .ok (.aload_n 0, 1) := by decide +kernel
theorem d4_1 : decode jdk_39_method_1_code 1 = .ok (.invokespecial 1, 3) := by decide +kernel
theorem hw_21 {a0 Z} (hw : own_W a0 Z) : (Jvm.Cond.methodLink "java/util/AbstractList" (1 : Nat) ({ cls := "java/util/AbstractCollection", name := "<init>", desc := "()V" } : Jvm.MethodName)).before a0 Z = true := hw _ (List.mem_of_getElem? (i := 21) rfl)
theorem hw_26 {a0 Z} (hw : own_W a0 Z) : (Jvm.Cond.code ({ cls := "java/util/AbstractCollection", name := "<init>", desc := "()V" } : Jvm.MethodName) jdk_22_method_1_code (1 : Nat) (Option.none : Option Jvm.ClassFile.FieldType)).before a0 Z = true := hw _ (List.mem_of_getElem? (i := 26) rfl)
theorem hw_25 {a0 Z} (hw : own_W a0 Z) : (Jvm.Cond.initialized "java/util/AbstractCollection").before a0 Z = true := hw _ (List.mem_of_getElem? (i := 25) rfl)
theorem pd_20 : parseMethodDescriptor "()V" = some ⟨[], none⟩ := by decide +kernel
theorem hw_22 {a0 Z} (hw : own_W a0 Z) : (Jvm.Cond.instanceMethod ({ cls := "java/util/AbstractCollection", name := "<init>", desc := "()V" } : Jvm.MethodName)).before a0 Z = true := hw _ (List.mem_of_getElem? (i := 22) rfl)
theorem d4_4 : decode jdk_39_method_1_code 4 = .ok (.aload_n 0, 1) := by decide +kernel
theorem d4_5 : decode jdk_39_method_1_code 5 = .ok (.iconst 0, 1) := by decide +kernel
theorem d4_6 : decode jdk_39_method_1_code 6 = .ok (.putfield 7, 3) := by decide +kernel
theorem hw_28 {a0 Z} (hw : own_W a0 Z) : (Jvm.Cond.fieldLink "java/util/AbstractList" (7 : Nat) "java/util/AbstractList" "modCount" "I").before a0 Z = true := hw _ (List.mem_of_getElem? (i := 28) rfl)
theorem hw_29 {a0 Z} (hw : own_W a0 Z) : (Jvm.Cond.lays "java/util/ArrayList" "java/util/AbstractList" "modCount" "I").before a0 Z = true := hw _ (List.mem_of_getElem? (i := 29) rfl)
theorem hw_10 {a0 Z} (hw : own_W a0 Z) : (Jvm.Cond.instantiable "java/util/ArrayList" (3 : Nat)).before a0 Z = true := hw _ (List.mem_of_getElem? (i := 10) rfl)
theorem hw_52 {a0 Z} (hw : own_W a0 Z) : (Jvm.Cond.lays "java/util/ArrayList" "java/util/ArrayList" "size" "I").before a0 Z = true := hw _ (List.mem_of_getElem? (i := 52) rfl)
theorem hw_32 {a0 Z} (hw : own_W a0 Z) : (Jvm.Cond.lays "java/util/ArrayList" "java/util/ArrayList" "elementData" "[Ljava/lang/Object;").before a0 Z = true := hw _ (List.mem_of_getElem? (i := 32) rfl)
theorem d4_9 : decode jdk_39_method_1_code 9 = .ok (.return_, 1) := by decide +kernel
theorem pn_4 : plainName "java/util/AbstractList" = true := by first | (simp [plainName, overriddenIn]; done) | decide +kernel
theorem own_ef4 (m : MethodId) (a1 : Addr) : entryFrame m #[(.ref a1)] 1 = mkF m 0 #[rv a1] [] := by first | (simp [entryFrame, mkF, argsToLocals, Value.category]; done) | rfl
def own_Q4 (Z : State) (a1 : Addr) (h0 : Heap) (n0 : Nat) (v : Option Value) (h : Heap) (L : List Loc) : Prop := v = none ∧ Fr n0 L ∧ Keep h0 h [a1] ∧ Exa Z h a1 "java/util/ArrayList" ∧ Fld Z h a1 "java/util/ArrayList" "size" "I" (.int (0 : Int32)) ∧ Fld Z h a1 "java/util/AbstractList" "modCount" "I" (.int (0 : Int32)) ∧ Fld Z h a1 "java/util/ArrayList" "elementData" "[Ljava/lang/Object;" .null
set_option maxRecDepth 65536 in
set_option maxHeartbeats 40000000 in
theorem own_rm4 (l : Launch) (Z : State) (a0 : Array Value) (hw : own_W a0 Z) (ws : List Jvm.Cond) (a1 : Addr) (h0 : Heap) (n0 : Nat) (Z0 : n0 ≤ h0.size) (E_a1 : Exa Z h0 a1 "java/util/ArrayList") (F_s : Fld Z h0 a1 "java/util/ArrayList" "size" "I" (.int (0 : Int32))) (F_m : Fld Z h0 a1 "java/util/AbstractList" "modCount" "I" (.int (0 : Int32))) (F_e : Fld Z h0 a1 "java/util/ArrayList" "elementData" "[Ljava/lang/Object;" .null) (g_a1 : n0 ≤ a1) :
    MetFree l (⟨"java/util/AbstractList", "<init>", "()V"⟩ : MethodName) (head1 (Jvm.Cond.code (⟨"java/util/AbstractList", "<init>", "()V"⟩ : MethodName) jdk_39_method_1_code 1 none :: ws) ({ frames := 2, cells := 0, slots := 0, locals := 24 } : Room)) (fun a U => a = #[(.ref a1)] ∧ Z.Warmed39 U.vm ∧ U.heap = h0) (fun _ _ _ _ _ => True) (fun _ U o U' => ∃ v L, o = .returned v ∧ own_Q4 Z a1 h0 n0 v U'.heap L ∧ FrameEnd U o U' L ({ frames := 2, cells := 0, slots := 0, locals := 24 } : Room).cells ({ frames := 2, cells := 0, slots := 0, locals := 24 } : Room).slots) := by
  refine own_body (plainFor_of_name pn_4) (fun m => own_ef4 m a1) ?_
  intro p e s m below meth c T0 X0 hx hby hml hZ hown hnm hret hlk e0
  have hown : s.vm.findClass "java/util/AbstractList" = some m.cls := hown
  have hnm : meth.name = "<init>" := hnm
  have N0 := Fr.nil n0
  have K0 : Keep h0 h0 [a1] := Keep.refl _ _
  refine own_st (mkF m 1 #[rv a1] [(.ref a1)]) (fun t k => XS.aloadN X0.here hx rfl (hb hby d4_0) rfl rfl k) ?_
  obtain ⟨_, _, ⟨T171, L171, k171, n171⟩, -, X171, ⟨Lc171, hQ171, l171, y171, z171⟩, st171⟩ := X0.specialBack hx (y := (⟨"java/util/AbstractCollection", "<init>", "()V"⟩ : MethodName)) rfl hown (mvT hZ (hw_21 hw)) (mvT hZ (hw_22 hw)) (mvT hZ (hw_26 hw)) (by decide) (backOf (W := 0) (own_rm5 l Z a0 hw [] a1 h0 n0 Z0) hZ (hw_26 hw) (hw_25 hw) (by decide) (by decide)) (g := (mkF m 1 #[rv a1] [(.ref a1)])) rfl (by rw [hml]; rfl) (Steps.refl _) (a := a1) (argsL := []) (rest := []) (lenOf pd_20 rfl) rfl (by show 2 * 0 + _ ≤ _; exact Nat.le_of_eq rfl) (hb hby d4_1) (fun _ _ => ⟨rfl, e0, (by decide : 0 + 0 ≤ _), (by decide : 0 + 0 ≤ _)⟩)
  dsimp only [Pt.U, Pt.locs, Pt.cells, Pt.slots] at X171 l171 y171 z171 st171 hQ171
  subst l171 y171 z171
  obtain ⟨rfl, Nq171, e171⟩ := hQ171
  have N171 := Fr.app N0 Nq171
  refine own_jump (g' := (mkF m 4 #[rv a1] [])) st171 ?_
  refine own_st (mkF m 5 #[rv a1] [(.ref a1)]) (fun t k => XS.aloadN X171.here hx rfl (hb hby d4_4) rfl rfl k) ?_
  refine own_st (mkF m 6 #[rv a1] [(.int (0 : Int32)), (.ref a1)]) (fun t k => XS.iconst X171.here hx rfl (hb hby d4_5) k) ?_
  obtain ⟨T172, h172, X172, e172, W172, st172⟩ := putF X171 hx hZ hown (host := "") (Or.inl (hw_28 hw)) Via.refl e171 F_m E_a1 (Or.inl (hw_29 hw)) (hw_10 hw) (ty := .int) (by decide) rfl rfl (g := (mkF m 6 #[rv a1] [(.int (0 : Int32)), (.ref a1)])) rfl rfl (hb hby d4_6)
  have f1_Exa_a1 : Exa Z h172 a1 "java/util/ArrayList" := (E_a1.wr W172)
  have f2_Fld_a1 : Fld Z h172 a1 "java/util/ArrayList" "size" "I" (.int (0 : Int32)) := (F_s.other W172 (Or.inr (slot_ne (a0 := a0) (C := "java/util/ArrayList") (Or.inl (hw_52 hw)) (Or.inl (hw_29 hw)) (by decide) (t := .int) (t' := .int) (by decide) (by decide))))
  have f3_Fld_a1 : Fld Z h172 a1 "java/util/ArrayList" "elementData" "[Ljava/lang/Object;" .null := (F_e.other W172 (Or.inr (slot_ne (a0 := a0) (C := "java/util/ArrayList") (Or.inl (hw_32 hw)) (Or.inl (hw_29 hw)) (by decide) (t := (.array (.object "java/lang/Object"))) (t' := .int) (by decide) (by decide))))
  have fw172 : Fld Z h172 a1 "java/util/AbstractList" "modCount" "I" (.int (0 : Int32)) := F_m.same W172
  have Z172 : n0 ≤ h172.size := Nat.le_trans Z0 (Keep.of_wr W172).1
  have Kp172 : Keep h0 h172 [a1] := K0.wr W172 (Or.inl (List.mem_of_getElem? (i := 0) rfl))
  have N172 := Fr.snoc X172 N171 g_a1
  refine own_step (g' := (mkF m 9 #[rv a1] [])) st172 ?_
  refine own_ret X172 hlk (v := none) (fun _ => rfl) (fun fs hr => X172.returnOut hx hret (hb hby d4_9) hr) ?_ (by decide) (by decide)
  show own_Q4 Z a1 h0 n0 _ T172.heap _
  rw [e172]
  exact ⟨rfl, N172, Kp172, f1_Exa_a1, f2_Fld_a1, fw172, f3_Fld_a1⟩
theorem d3_0 : decode jdk_38_method_2_code 0 = .ok (.aload_n 0, 1) := by decide +kernel
theorem d3_1 : decode jdk_38_method_2_code 1 = .ok (.invokespecial 1, 3) := by decide +kernel
theorem hw_15 {a0 Z} (hw : own_W a0 Z) : (Jvm.Cond.methodLink "java/util/ArrayList" (1 : Nat) ({ cls := "java/util/AbstractList", name := "<init>", desc := "()V" } : Jvm.MethodName)).before a0 Z = true := hw _ (List.mem_of_getElem? (i := 15) rfl)
theorem hw_20 {a0 Z} (hw : own_W a0 Z) : (Jvm.Cond.code ({ cls := "java/util/AbstractList", name := "<init>", desc := "()V" } : Jvm.MethodName) jdk_39_method_1_code (1 : Nat) (Option.none : Option Jvm.ClassFile.FieldType)).before a0 Z = true := hw _ (List.mem_of_getElem? (i := 20) rfl)
theorem hw_19 {a0 Z} (hw : own_W a0 Z) : (Jvm.Cond.initialized "java/util/AbstractList").before a0 Z = true := hw _ (List.mem_of_getElem? (i := 19) rfl)
theorem hw_16 {a0 Z} (hw : own_W a0 Z) : (Jvm.Cond.instanceMethod ({ cls := "java/util/AbstractList", name := "<init>", desc := "()V" } : Jvm.MethodName)).before a0 Z = true := hw _ (List.mem_of_getElem? (i := 16) rfl)
theorem d3_4 : decode jdk_38_method_2_code 4 = .ok (.aload_n 0, 1) := by decide +kernel
theorem d3_5 : decode jdk_38_method_2_code 5 = .ok (.getstatic 39, 3) := by decide +kernel
theorem hw_30 {a0 Z} (hw : own_W a0 Z) : (Jvm.Cond.fieldLink "java/util/ArrayList" (39 : Nat) "java/util/ArrayList" "DEFAULTCAPACITY_EMPTY_ELEMENTDATA" "[Ljava/lang/Object;").before a0 Z = true := hw _ (List.mem_of_getElem? (i := 30) rfl)
theorem d3_8 : decode jdk_38_method_2_code 8 = .ok (.putfield 9, 3) := by decide +kernel
theorem hw_31 {a0 Z} (hw : own_W a0 Z) : (Jvm.Cond.fieldLink "java/util/ArrayList" (9 : Nat) "java/util/ArrayList" "elementData" "[Ljava/lang/Object;").before a0 Z = true := hw _ (List.mem_of_getElem? (i := 31) rfl)
theorem d3_11 : decode jdk_38_method_2_code 11 = .ok (.return_, 1) := by decide +kernel
theorem pn_3 : plainName "java/util/ArrayList" = true := by first | (simp [plainName, overriddenIn]; done) | decide +kernel
theorem own_ef3 (m : MethodId) (a1 : Addr) : entryFrame m #[(.ref a1)] 1 = mkF m 0 #[rv a1] [] := by first | (simp [entryFrame, mkF, argsToLocals, Value.category]; done) | rfl
def own_Q3 (Z : State) (a1 : Addr) (wc : Int32) (wD : Addr) (kD : ClassId) (h0 : Heap) (n0 : Nat) (v : Option Value) (h : Heap) (L : List Loc) : Prop := v = none ∧ Fr n0 L ∧ Keep h0 h [a1] ∧ Exa Z h a1 "java/util/ArrayList" ∧ Fld Z h a1 "java/util/ArrayList" "size" "I" (.int (0 : Int32)) ∧ Fld Z h a1 "java/util/AbstractList" "modCount" "I" (.int (0 : Int32)) ∧ Fld Z h a1 "java/util/ArrayList" "elementData" "[Ljava/lang/Object;" (.ref wD)
set_option maxRecDepth 65536 in
set_option maxHeartbeats 40000000 in
theorem own_rm3 (l : Launch) (Z : State) (a0 : Array Value) (hw : own_W a0 Z) (ws : List Jvm.Cond) (a1 : Addr) (wc : Int32) (wD : Addr) (kD : ClassId) (h0 : Heap) (n0 : Nat) (Z0 : n0 ≤ h0.size) (O0 : Old Z n0 h0) (SS : own_St Z wc wD kD) (E_a1 : Exa Z h0 a1 "java/util/ArrayList") (F_s : Fld Z h0 a1 "java/util/ArrayList" "size" "I" (.int (0 : Int32))) (F_m : Fld Z h0 a1 "java/util/AbstractList" "modCount" "I" (.int (0 : Int32))) (F_e : Fld Z h0 a1 "java/util/ArrayList" "elementData" "[Ljava/lang/Object;" .null) (g_a1 : n0 ≤ a1) :
    MetFree l (⟨"java/util/ArrayList", "<init>", "()V"⟩ : MethodName) (head1 (Jvm.Cond.code (⟨"java/util/ArrayList", "<init>", "()V"⟩ : MethodName) jdk_38_method_2_code 1 none :: ws) ({ frames := 3, cells := 0, slots := 0, locals := 36 } : Room)) (fun a U => a = #[(.ref a1)] ∧ Z.Warmed39 U.vm ∧ U.heap = h0) (fun _ _ _ _ _ => True) (fun _ U o U' => ∃ v L, o = .returned v ∧ own_Q3 Z a1 wc wD kD h0 n0 v U'.heap L ∧ FrameEnd U o U' L ({ frames := 3, cells := 0, slots := 0, locals := 36 } : Room).cells ({ frames := 3, cells := 0, slots := 0, locals := 36 } : Room).slots) := by
  refine own_body (plainFor_of_name pn_3) (fun m => own_ef3 m a1) ?_
  intro p e s m below meth c T0 X0 hx hby hml hZ hown hnm hret hlk e0
  have hown : s.vm.findClass "java/util/ArrayList" = some m.cls := hown
  have hnm : meth.name = "<init>" := hnm
  have N0 := Fr.nil n0
  have K0 : Keep h0 h0 [a1] := Keep.refl _ _
  obtain ⟨S_wc, hwc, S_wD, V_wD⟩ := id SS
  refine own_st (mkF m 1 #[rv a1] [(.ref a1)]) (fun t k => XS.aloadN X0.here hx rfl (hb hby d3_0) rfl rfl k) ?_
  obtain ⟨_, _, ⟨T173, L173, k173, n173⟩, -, X173, ⟨Lc173, hQ173, l173, y173, z173⟩, st173⟩ := X0.specialBack hx (y := (⟨"java/util/AbstractList", "<init>", "()V"⟩ : MethodName)) rfl hown (mvT hZ (hw_15 hw)) (mvT hZ (hw_16 hw)) (mvT hZ (hw_20 hw)) (by decide) (backOf (W := 0) (own_rm4 l Z a0 hw [] a1 h0 n0 Z0 E_a1 F_s F_m F_e g_a1) hZ (hw_20 hw) (hw_19 hw) (by decide) (by decide)) (g := (mkF m 1 #[rv a1] [(.ref a1)])) rfl (by rw [hml]; rfl) (Steps.refl _) (a := a1) (argsL := []) (rest := []) (lenOf pd_20 rfl) rfl (by show 2 * 0 + _ ≤ _; exact Nat.le_of_eq rfl) (hb hby d3_1) (fun _ _ => ⟨rfl, e0, (by decide : 0 + 0 ≤ _), (by decide : 0 + 0 ≤ _)⟩)
  dsimp only [Pt.U, Pt.locs, Pt.cells, Pt.slots] at X173 l173 y173 z173 st173 hQ173
  subst l173 y173 z173
  obtain ⟨rfl, Nq173, K173, Ex173, Fs173, Fm173, Fe173⟩ := hQ173
  have N173 := Fr.app N0 Nq173
  have Z173 : n0 ≤ T173.heap.size := Nat.le_trans Z0 K173.1
  have O173 : Old Z n0 T173.heap := O0.keep K173 (allS g_a1 all0)
  have Kp173 : Keep h0 T173.heap [a1] := K0.trans K173 (allS (Or.inl (List.mem_of_getElem? (i := 0) rfl)) all0)
  have f1_Exa_a1 : Exa Z T173.heap a1 "java/util/ArrayList" := (E_a1.keep K173)
  refine own_jump (g' := (mkF m 4 #[rv a1] [])) st173 ?_
  refine own_st (mkF m 5 #[rv a1] [(.ref a1)]) (fun t k => XS.aloadN X173.here hx rfl (hb hby d3_4) rfl rfl k) ?_
  obtain ⟨T174, X174, e174, st174⟩ := getS2 X173 hx hZ hown (host := "") (Or.inl (hw_30 hw)) Via.refl rfl (S_wD.ext O173.2) (g := (mkF m 5 #[rv a1] [(.ref a1)])) rfl (hb hby d3_5)
  refine own_step (g' := (mkF m 8 #[rv a1] [(.ref wD), (.ref a1)])) st174 ?_
  obtain ⟨T175, h175, X175, e175, W175, st175⟩ := putF X174 hx hZ hown (host := "") (Or.inl (hw_31 hw)) Via.refl e174 Fe173 Ex173 (Or.inl (hw_32 hw)) (hw_10 hw) (ty := (.array (.object "java/lang/Object"))) (by decide) rfl rfl (g := (mkF m 8 #[rv a1] [(.ref wD), (.ref a1)])) rfl rfl (hb hby d3_8)
  have f2_Exa_a1 : Exa Z h175 a1 "java/util/ArrayList" := (Ex173.wr W175)
  have f3_Fld_a1 : Fld Z h175 a1 "java/util/ArrayList" "size" "I" (.int (0 : Int32)) := (Fs173.other W175 (Or.inr (slot_ne (a0 := a0) (C := "java/util/ArrayList") (Or.inl (hw_52 hw)) (Or.inl (hw_32 hw)) (by decide) (t := .int) (t' := (.array (.object "java/lang/Object"))) (by decide) (by decide))))
  have f4_Fld_a1 : Fld Z h175 a1 "java/util/AbstractList" "modCount" "I" (.int (0 : Int32)) := (Fm173.other W175 (Or.inr (slot_ne (a0 := a0) (C := "java/util/ArrayList") (Or.inl (hw_29 hw)) (Or.inl (hw_32 hw)) (by decide) (t := .int) (t' := (.array (.object "java/lang/Object"))) (by decide) (by decide))))
  have fw175 : Fld Z h175 a1 "java/util/ArrayList" "elementData" "[Ljava/lang/Object;" (.ref wD) := Fe173.same W175
  have Z175 : n0 ≤ h175.size := Nat.le_trans Z173 (Keep.of_wr W175).1
  have Kp175 : Keep h0 h175 [a1] := Kp173.wr W175 (Or.inl (List.mem_of_getElem? (i := 0) rfl))
  have O175 : Old Z n0 h175 := O173.wr W175 g_a1
  have N175 := Fr.snoc X175 N173 g_a1
  refine own_step (g' := (mkF m 11 #[rv a1] [])) st175 ?_
  refine own_ret X175 hlk (v := none) (fun _ => rfl) (fun fs hr => X175.returnOut hx hret (hb hby d3_11) hr) ?_ (by decide) (by decide)
  show own_Q3 Z a1 wc wD kD h0 n0 _ T175.heap _
  rw [e175]
  exact ⟨rfl, N175, Kp175, f2_Exa_a1, f3_Fld_a1, f4_Fld_a1, fw175⟩
theorem d1_0 : decode prog_4_method_1_code 0 = .ok (.aload_n 0, 1) := by decide +kernel
theorem d1_1 : decode prog_4_method_1_code 1 = .ok (.invokespecial 1, 3) := by decide +kernel
theorem hw_6 {a0 Z} (hw : own_W a0 Z) : (Jvm.Cond.methodLink "com/example/shaper/shaper/core/ConfigProblems" (1 : Nat) ({ cls := "java/lang/Object", name := "<init>", desc := "()V" } : Jvm.MethodName)).before a0 Z = true := hw _ (List.mem_of_getElem? (i := 6) rfl)
theorem d1_4 : decode prog_4_method_1_code 4 = .ok (.aload_n 0, 1) := by decide +kernel
theorem d1_5 : decode prog_4_method_1_code 5 = .ok (.new 7, 3) := by decide +kernel
theorem hw_9 {a0 Z} (hw : own_W a0 Z) : (Jvm.Cond.classLink "com/example/shaper/shaper/core/ConfigProblems" (7 : Nat) "java/util/ArrayList").before a0 Z = true := hw _ (List.mem_of_getElem? (i := 9) rfl)
theorem hw_11 {a0 Z} (hw : own_W a0 Z) : (Jvm.Cond.initialized "java/util/ArrayList").before a0 Z = true := hw _ (List.mem_of_getElem? (i := 11) rfl)
theorem d1_8 : decode prog_4_method_1_code 8 = .ok (.dup, 1) := by decide +kernel
theorem d1_9 : decode prog_4_method_1_code 9 = .ok (.invokespecial 9, 3) := by decide +kernel
theorem hw_12 {a0 Z} (hw : own_W a0 Z) : (Jvm.Cond.methodLink "com/example/shaper/shaper/core/ConfigProblems" (9 : Nat) ({ cls := "java/util/ArrayList", name := "<init>", desc := "()V" } : Jvm.MethodName)).before a0 Z = true := hw _ (List.mem_of_getElem? (i := 12) rfl)
theorem hw_14 {a0 Z} (hw : own_W a0 Z) : (Jvm.Cond.code ({ cls := "java/util/ArrayList", name := "<init>", desc := "()V" } : Jvm.MethodName) jdk_38_method_2_code (1 : Nat) (Option.none : Option Jvm.ClassFile.FieldType)).before a0 Z = true := hw _ (List.mem_of_getElem? (i := 14) rfl)
theorem hw_13 {a0 Z} (hw : own_W a0 Z) : (Jvm.Cond.instanceMethod ({ cls := "java/util/ArrayList", name := "<init>", desc := "()V" } : Jvm.MethodName)).before a0 Z = true := hw _ (List.mem_of_getElem? (i := 13) rfl)
theorem d1_12 : decode prog_4_method_1_code 12 = .ok (.putfield 10, 3) := by decide +kernel
theorem hw_33 {a0 Z} (hw : own_W a0 Z) : (Jvm.Cond.fieldLink "com/example/shaper/shaper/core/ConfigProblems" (10 : Nat) "com/example/shaper/shaper/core/ConfigProblems" "violations" "Ljava/util/List;").before a0 Z = true := hw _ (List.mem_of_getElem? (i := 33) rfl)
theorem hw_34 {a0 Z} (hw : own_W a0 Z) : (Jvm.Cond.laysFinal "com/example/shaper/shaper/core/ConfigProblems" "com/example/shaper/shaper/core/ConfigProblems" "violations" "Ljava/util/List;").before a0 Z = true := hw _ (List.mem_of_getElem? (i := 34) rfl)
theorem hw_1 {a0 Z} (hw : own_W a0 Z) : (Jvm.Cond.instantiable "com/example/shaper/shaper/core/ConfigProblems" (2 : Nat)).before a0 Z = true := hw _ (List.mem_of_getElem? (i := 1) rfl)
theorem hw_36 {a0 Z} (hw : own_W a0 Z) : (Jvm.Cond.laysFinal "com/example/shaper/shaper/core/ConfigProblems" "com/example/shaper/shaper/core/ConfigProblems" "unsupported" "Ljava/util/List;").before a0 Z = true := hw _ (List.mem_of_getElem? (i := 36) rfl)
theorem d1_15 : decode prog_4_method_1_code 15 = .ok (.aload_n 0, 1) := by decide +kernel
theorem d1_16 : decode prog_4_method_1_code 16 = .ok (.new 7, 3) := by decide +kernel
theorem d1_19 : decode prog_4_method_1_code 19 = .ok (.dup, 1) := by decide +kernel
theorem d1_20 : decode prog_4_method_1_code 20 = .ok (.invokespecial 9, 3) := by decide +kernel
theorem d1_23 : decode prog_4_method_1_code 23 = .ok (.putfield 16, 3) := by decide +kernel
theorem hw_35 {a0 Z} (hw : own_W a0 Z) : (Jvm.Cond.fieldLink "com/example/shaper/shaper/core/ConfigProblems" (16 : Nat) "com/example/shaper/shaper/core/ConfigProblems" "unsupported" "Ljava/util/List;").before a0 Z = true := hw _ (List.mem_of_getElem? (i := 35) rfl)
theorem d1_26 : decode prog_4_method_1_code 26 = .ok (.return_, 1) := by decide +kernel
theorem pn_1 : plainName "com/example/shaper/shaper/core/ConfigProblems" = true := by first | (simp [plainName, overriddenIn]; done) | decide +kernel
theorem own_ef1 (m : MethodId) (a1 : Addr) : entryFrame m #[(.ref a1)] 1 = mkF m 0 #[rv a1] [] := by first | (simp [entryFrame, mkF, argsToLocals, Value.category]; done) | rfl
def own_Q1 (Z : State) (a1 : Addr) (wc : Int32) (wD : Addr) (kD : ClassId) (h0 : Heap) (n0 : Nat) (v : Option Value) (h : Heap) (L : List Loc) : Prop := v = none ∧ Fr n0 L ∧ Keep h0 h [a1] ∧ own_CP Z wD h n0 a1 0 0 .null .null
set_option maxRecDepth 65536 in
set_option maxHeartbeats 40000000 in
theorem own_rm1 (l : Launch) (Z : State) (a0 : Array Value) (hw : own_W a0 Z) (ws : List Jvm.Cond) (a1 : Addr) (wc : Int32) (wD : Addr) (kD : ClassId) (h0 : Heap) (n0 : Nat) (Z0 : n0 ≤ h0.size) (O0 : Old Z n0 h0) (SS : own_St Z wc wD kD) (E_a1 : Exa Z h0 a1 "com/example/shaper/shaper/core/ConfigProblems") (F_vi : Fld Z h0 a1 "com/example/shaper/shaper/core/ConfigProblems" "violations" "Ljava/util/List;" .null) (F_un : Fld Z h0 a1 "com/example/shaper/shaper/core/ConfigProblems" "unsupported" "Ljava/util/List;" .null) (g_a1 : n0 ≤ a1) :
    MetFree l (⟨"com/example/shaper/shaper/core/ConfigProblems", "<init>", "()V"⟩ : MethodName) (head1 (Jvm.Cond.code (⟨"com/example/shaper/shaper/core/ConfigProblems", "<init>", "()V"⟩ : MethodName) prog_4_method_1_code 1 none :: ws) ({ frames := 4, cells := 2, slots := 6, locals := 50 } : Room)) (fun a U => a = #[(.ref a1)] ∧ Z.Warmed39 U.vm ∧ U.heap = h0) (fun _ _ _ _ _ => True) (fun _ U o U' => ∃ v L, o = .returned v ∧ own_Q1 Z a1 wc wD kD h0 n0 v U'.heap L ∧ FrameEnd U o U' L ({ frames := 4, cells := 2, slots := 6, locals := 50 } : Room).cells ({ frames := 4, cells := 2, slots := 6, locals := 50 } : Room).slots) := by
  refine own_body (plainFor_of_name pn_1) (fun m => own_ef1 m a1) ?_
  intro p e s m below meth c T0 X0 hx hby hml hZ hown hnm hret hlk e0
  have hown : s.vm.findClass "com/example/shaper/shaper/core/ConfigProblems" = some m.cls := hown
  have hnm : meth.name = "<init>" := hnm
  have N0 := Fr.nil n0
  have K0 : Keep h0 h0 [a1] := Keep.refl _ _
  refine own_st (mkF m 1 #[rv a1] [(.ref a1)]) (fun t k => XS.aloadN X0.here hx rfl (hb hby d1_0) rfl rfl k) ?_
  obtain ⟨T176, X176, e176, st176⟩ := initO X0 hx hZ hown (hw_6 hw) (hw_7 hw) (hw_8 hw) e0 (g := (mkF m 1 #[rv a1] [(.ref a1)])) rfl (by rw [hml]; rfl) rfl (hb hby d1_1) (by decide) (W := 0) (by show 2 * 0 + _ ≤ _; exact Nat.le_of_eq rfl) (by decide)
  refine own_step (g' := (mkF m 4 #[rv a1] [])) st176 ?_
  refine own_st (mkF m 5 #[rv a1] [(.ref a1)]) (fun t k => XS.aloadN X176.here hx rfl (hb hby d1_4) rfl rfl k) ?_
  obtain ⟨T177, h177, X177, e177, E177, A177, D177, -, st177⟩ := newO X176 hx hZ hown (hw_9 hw) (hw_10 hw) (hw_11 hw) e176 (g := (mkF m 5 #[rv a1] [(.ref a1)])) rfl (hb hby d1_5) (by decide) (by decide)
  obtain ⟨b177, g177⟩ : ∃ z, z = h0.size := ⟨_, rfl⟩
  rw [← g177] at A177 D177 st177
  have E_177 : Ext h0 h177 := E177
  have g_b177 : n0 ≤ b177 := Nat.le_trans Z0 (Nat.le_of_eq g177.symm)
  have ne_a1_b177 : a1 ≠ b177 := Nat.ne_of_lt (Nat.lt_of_lt_of_le E_a1.lt (Nat.le_of_eq g177.symm))
  have sz_b177 : h0.size ≤ b177 := Nat.le_trans K0.1 (Nat.le_of_eq g177.symm)
  have Kp177 : Keep h0 h177 [a1] := K0.ext E177
  have Z177 : n0 ≤ h177.size := Nat.le_trans Z0 E177.1
  have O177 : Old Z n0 h177 := O0.ext E177
  have f1_Exa_a1 : Exa Z h177 a1 "com/example/shaper/shaper/core/ConfigProblems" := (E_a1.ext E177)
  have f2_Fld_a1 : Fld Z h177 a1 "com/example/shaper/shaper/core/ConfigProblems" "violations" "Ljava/util/List;" .null := (F_vi.ext E177)
  have f3_Fld_a1 : Fld Z h177 a1 "com/example/shaper/shaper/core/ConfigProblems" "unsupported" "Ljava/util/List;" .null := (F_un.ext E177)
  have F_modCount_b177 : Fld Z h177 b177 "java/util/AbstractList" "modCount" "I" (.int (0 : Int32)) := D177 (Or.inl (hw_29 hw)) (ty := .int) (by decide)
  have F_elementData_b177 : Fld Z h177 b177 "java/util/ArrayList" "elementData" "[Ljava/lang/Object;" .null := D177 (Or.inl (hw_32 hw)) (ty := (.array (.object "java/lang/Object"))) (by decide)
  have F_size_b177 : Fld Z h177 b177 "java/util/ArrayList" "size" "I" (.int (0 : Int32)) := D177 (Or.inl (hw_52 hw)) (ty := .int) (by decide)
  refine own_step (g' := (mkF m 8 #[rv a1] [(.ref b177), (.ref a1)])) st177 ?_
  refine own_st (mkF m 9 #[rv a1] [(.ref b177), (.ref b177), (.ref a1)]) (fun t k => XS.dup X177.here hx rfl (hb hby d1_8) rfl rfl k) ?_
  obtain ⟨_, _, ⟨T178, L178, k178, n178⟩, -, X178, ⟨Lc178, hQ178, l178, y178, z178⟩, st178⟩ := X177.specialBack hx (y := (⟨"java/util/ArrayList", "<init>", "()V"⟩ : MethodName)) rfl hown (mvT hZ (hw_12 hw)) (mvT hZ (hw_13 hw)) (mvT hZ (hw_14 hw)) (by decide) (backOf (W := 2) (own_rm3 l Z a0 hw [] b177 wc wD kD h177 n0 Z177 O177 SS A177 F_size_b177 F_modCount_b177 F_elementData_b177 g_b177) hZ (hw_14 hw) (hw_11 hw) (by decide) (by decide)) (g := (mkF m 9 #[rv a1] [(.ref b177), (.ref b177), (.ref a1)])) rfl (by rw [hml]; rfl) (Steps.refl _) (a := b177) (argsL := []) (rest := [(.ref b177), (.ref a1)]) (lenOf pd_20 rfl) rfl (by show 2 * 0 + _ ≤ _; exact Nat.le_of_eq rfl) (hb hby d1_9) (fun _ _ => ⟨rfl, e177, (by decide : 1 + 0 ≤ _), (by decide : 3 + 0 ≤ _)⟩)
  dsimp only [Pt.U, Pt.locs, Pt.cells, Pt.slots] at X178 l178 y178 z178 st178 hQ178
  subst l178 y178 z178
  obtain ⟨rfl, Nq178, K178, Ex178, Fs178, Fm178, Fe178⟩ := hQ178
  have N178 := Fr.app N0 Nq178
  have Z178 : n0 ≤ T178.heap.size := Nat.le_trans Z177 K178.1
  have O178 : Old Z n0 T178.heap := O177.keep K178 (allS g_b177 all0)
  have Kp178 : Keep h0 T178.heap [a1] := Kp177.trans K178 (allS (Or.inr sz_b177) all0)
  have f4_Exa_a1 : Exa Z T178.heap a1 "com/example/shaper/shaper/core/ConfigProblems" := (f1_Exa_a1.keep K178)
  have f5_Fld_a1 : Fld Z T178.heap a1 "com/example/shaper/shaper/core/ConfigProblems" "violations" "Ljava/util/List;" .null := (f2_Fld_a1.keep K178 (ninS ne_a1_b177 nin0))
  have f6_Fld_a1 : Fld Z T178.heap a1 "com/example/shaper/shaper/core/ConfigProblems" "unsupported" "Ljava/util/List;" .null := (f3_Fld_a1.keep K178 (ninS ne_a1_b177 nin0))
  have f7_Exa_b177 : Exa Z T178.heap b177 "java/util/ArrayList" := (A177.keep K178)
  refine own_jump (g' := (mkF m 12 #[rv a1] [(.ref b177), (.ref a1)])) st178 ?_
  obtain ⟨T179, h179, X179, e179, W179, st179⟩ := putF X178 hx hZ hown (host := "") (Or.inl (hw_33 hw)) Via.refl rfl f5_Fld_a1 f4_Exa_a1 (Or.inr ⟨(hw_34 hw), rfl, hnm⟩) (hw_1 hw) (ty := (.object "java/util/List")) (by decide) rfl rfl (g := (mkF m 12 #[rv a1] [(.ref b177), (.ref a1)])) rfl rfl (hb hby d1_12)
  have f8_Exa_a1 : Exa Z h179 a1 "com/example/shaper/shaper/core/ConfigProblems" := (f4_Exa_a1.wr W179)
  have f9_Fld_a1 : Fld Z h179 a1 "com/example/shaper/shaper/core/ConfigProblems" "unsupported" "Ljava/util/List;" .null := (f6_Fld_a1.other W179 (Or.inr (slot_ne (a0 := a0) (C := "com/example/shaper/shaper/core/ConfigProblems") (Or.inr (hw_36 hw)) (Or.inr (hw_34 hw)) (by decide) (t := (.object "java/util/List")) (t' := (.object "java/util/List")) (by decide) (by decide))))
  have f10_Exa_b177 : Exa Z h179 b177 "java/util/ArrayList" := (Ex178.wr W179)
  have f11_Fld_b177 : Fld Z h179 b177 "java/util/ArrayList" "size" "I" (.int (0 : Int32)) := (Fs178.other W179 (Or.inl (Ne.symm ne_a1_b177)))
  have f12_Fld_b177 : Fld Z h179 b177 "java/util/AbstractList" "modCount" "I" (.int (0 : Int32)) := (Fm178.other W179 (Or.inl (Ne.symm ne_a1_b177)))
  have f13_Fld_b177 : Fld Z h179 b177 "java/util/ArrayList" "elementData" "[Ljava/lang/Object;" (.ref wD) := (Fe178.other W179 (Or.inl (Ne.symm ne_a1_b177)))
  have fw179 : Fld Z h179 a1 "com/example/shaper/shaper/core/ConfigProblems" "violations" "Ljava/util/List;" (.ref b177) := f5_Fld_a1.same W179
  have Z179 : n0 ≤ h179.size := Nat.le_trans Z178 (Keep.of_wr W179).1
  have Kp179 : Keep h0 h179 [a1] := Kp178.wr W179 (Or.inl (List.mem_of_getElem? (i := 0) rfl))
  have O179 : Old Z n0 h179 := O178.wr W179 g_a1
  have N179 := Fr.snoc X179 N178 g_a1
  refine own_step (g' := (mkF m 15 #[rv a1] [])) st179 ?_
  refine own_st (mkF m 16 #[rv a1] [(.ref a1)]) (fun t k => XS.aloadN X179.here hx rfl (hb hby d1_15) rfl rfl k) ?_
  obtain ⟨T180, h180, X180, e180, E180, A180, D180, -, st180⟩ := newO X179 hx hZ hown (hw_9 hw) (hw_10 hw) (hw_11 hw) e179 (g := (mkF m 16 #[rv a1] [(.ref a1)])) rfl (hb hby d1_16) (by decide) (by decide)
  obtain ⟨b180, g180⟩ : ∃ z, z = h179.size := ⟨_, rfl⟩
  rw [← g180] at A180 D180 st180
  have E_180 : Ext h179 h180 := E180
  have g_b180 : n0 ≤ b180 := Nat.le_trans Z179 (Nat.le_of_eq g180.symm)
  have ne_a1_b180 : a1 ≠ b180 := Nat.ne_of_lt (Nat.lt_of_lt_of_le f8_Exa_a1.lt (Nat.le_of_eq g180.symm))
  have ne_b177_b180 : b177 ≠ b180 := Nat.ne_of_lt (Nat.lt_of_lt_of_le f10_Exa_b177.lt (Nat.le_of_eq g180.symm))
  have sz_b180 : h0.size ≤ b180 := Nat.le_trans Kp179.1 (Nat.le_of_eq g180.symm)
  have Kp180 : Keep h0 h180 [a1] := Kp179.ext E180
  have Z180 : n0 ≤ h180.size := Nat.le_trans Z179 E180.1
  have O180 : Old Z n0 h180 := O179.ext E180
  have f14_Exa_a1 : Exa Z h180 a1 "com/example/shaper/shaper/core/ConfigProblems" := (f8_Exa_a1.ext E180)
  have f15_Fld_a1 : Fld Z h180 a1 "com/example/shaper/shaper/core/ConfigProblems" "violations" "Ljava/util/List;" (.ref b177) := (fw179.ext E180)
  have f16_Fld_a1 : Fld Z h180 a1 "com/example/shaper/shaper/core/ConfigProblems" "unsupported" "Ljava/util/List;" .null := (f9_Fld_a1.ext E180)
  have f17_Exa_b177 : Exa Z h180 b177 "java/util/ArrayList" := (f10_Exa_b177.ext E180)
  have f18_Fld_b177 : Fld Z h180 b177 "java/util/ArrayList" "size" "I" (.int (0 : Int32)) := (f11_Fld_b177.ext E180)
  have f19_Fld_b177 : Fld Z h180 b177 "java/util/AbstractList" "modCount" "I" (.int (0 : Int32)) := (f12_Fld_b177.ext E180)
  have f20_Fld_b177 : Fld Z h180 b177 "java/util/ArrayList" "elementData" "[Ljava/lang/Object;" (.ref wD) := (f13_Fld_b177.ext E180)
  have F_modCount_b180 : Fld Z h180 b180 "java/util/AbstractList" "modCount" "I" (.int (0 : Int32)) := D180 (Or.inl (hw_29 hw)) (ty := .int) (by decide)
  have F_elementData_b180 : Fld Z h180 b180 "java/util/ArrayList" "elementData" "[Ljava/lang/Object;" .null := D180 (Or.inl (hw_32 hw)) (ty := (.array (.object "java/lang/Object"))) (by decide)
  have F_size_b180 : Fld Z h180 b180 "java/util/ArrayList" "size" "I" (.int (0 : Int32)) := D180 (Or.inl (hw_52 hw)) (ty := .int) (by decide)
  refine own_step (g' := (mkF m 19 #[rv a1] [(.ref b180), (.ref a1)])) st180 ?_
  refine own_st (mkF m 20 #[rv a1] [(.ref b180), (.ref b180), (.ref a1)]) (fun t k => XS.dup X180.here hx rfl (hb hby d1_19) rfl rfl k) ?_
  obtain ⟨_, _, ⟨T181, L181, k181, n181⟩, -, X181, ⟨Lc181, hQ181, l181, y181, z181⟩, st181⟩ := X180.specialBack hx (y := (⟨"java/util/ArrayList", "<init>", "()V"⟩ : MethodName)) rfl hown (mvT hZ (hw_12 hw)) (mvT hZ (hw_13 hw)) (mvT hZ (hw_14 hw)) (by decide) (backOf (W := 2) (own_rm3 l Z a0 hw [] b180 wc wD kD h180 n0 Z180 O180 SS A180 F_size_b180 F_modCount_b180 F_elementData_b180 g_b180) hZ (hw_14 hw) (hw_11 hw) (by decide) (by decide)) (g := (mkF m 20 #[rv a1] [(.ref b180), (.ref b180), (.ref a1)])) rfl (by rw [hml]; rfl) (Steps.refl _) (a := b180) (argsL := []) (rest := [(.ref b180), (.ref a1)]) (lenOf pd_20 rfl) rfl (by show 2 * 0 + _ ≤ _; exact Nat.le_of_eq rfl) (hb hby d1_20) (fun _ _ => ⟨rfl, e180, (by decide : 2 + 0 ≤ _), (by decide : 6 + 0 ≤ _)⟩)
  dsimp only [Pt.U, Pt.locs, Pt.cells, Pt.slots] at X181 l181 y181 z181 st181 hQ181
  subst l181 y181 z181
  obtain ⟨rfl, Nq181, K181, Ex181, Fs181, Fm181, Fe181⟩ := hQ181
  have N181 := Fr.app N179 Nq181
  have Z181 : n0 ≤ T181.heap.size := Nat.le_trans Z180 K181.1
  have O181 : Old Z n0 T181.heap := O180.keep K181 (allS g_b180 all0)
  have Kp181 : Keep h0 T181.heap [a1] := Kp180.trans K181 (allS (Or.inr sz_b180) all0)
  have f21_Exa_a1 : Exa Z T181.heap a1 "com/example/shaper/shaper/core/ConfigProblems" := (f14_Exa_a1.keep K181)
  have f22_Fld_a1 : Fld Z T181.heap a1 "com/example/shaper/shaper/core/ConfigProblems" "violations" "Ljava/util/List;" (.ref b177) := (f15_Fld_a1.keep K181 (ninS ne_a1_b180 nin0))
  have f23_Fld_a1 : Fld Z T181.heap a1 "com/example/shaper/shaper/core/ConfigProblems" "unsupported" "Ljava/util/List;" .null := (f16_Fld_a1.keep K181 (ninS ne_a1_b180 nin0))
  have f24_Exa_b177 : Exa Z T181.heap b177 "java/util/ArrayList" := (f17_Exa_b177.keep K181)
  have f25_Fld_b177 : Fld Z T181.heap b177 "java/util/ArrayList" "size" "I" (.int (0 : Int32)) := (f18_Fld_b177.keep K181 (ninS ne_b177_b180 nin0))
  have f26_Fld_b177 : Fld Z T181.heap b177 "java/util/AbstractList" "modCount" "I" (.int (0 : Int32)) := (f19_Fld_b177.keep K181 (ninS ne_b177_b180 nin0))
  have f27_Fld_b177 : Fld Z T181.heap b177 "java/util/ArrayList" "elementData" "[Ljava/lang/Object;" (.ref wD) := (f20_Fld_b177.keep K181 (ninS ne_b177_b180 nin0))
  have f28_Exa_b180 : Exa Z T181.heap b180 "java/util/ArrayList" := (A180.keep K181)
  refine own_jump (g' := (mkF m 23 #[rv a1] [(.ref b180), (.ref a1)])) st181 ?_
  obtain ⟨T182, h182, X182, e182, W182, st182⟩ := putF X181 hx hZ hown (host := "") (Or.inl (hw_35 hw)) Via.refl rfl f23_Fld_a1 f21_Exa_a1 (Or.inr ⟨(hw_36 hw), rfl, hnm⟩) (hw_1 hw) (ty := (.object "java/util/List")) (by decide) rfl rfl (g := (mkF m 23 #[rv a1] [(.ref b180), (.ref a1)])) rfl rfl (hb hby d1_23)
  have f29_Exa_a1 : Exa Z h182 a1 "com/example/shaper/shaper/core/ConfigProblems" := (f21_Exa_a1.wr W182)
  have f30_Fld_a1 : Fld Z h182 a1 "com/example/shaper/shaper/core/ConfigProblems" "violations" "Ljava/util/List;" (.ref b177) := (f22_Fld_a1.other W182 (Or.inr (slot_ne (a0 := a0) (C := "com/example/shaper/shaper/core/ConfigProblems") (Or.inr (hw_34 hw)) (Or.inr (hw_36 hw)) (by decide) (t := (.object "java/util/List")) (t' := (.object "java/util/List")) (by decide) (by decide))))
  have f31_Exa_b177 : Exa Z h182 b177 "java/util/ArrayList" := (f24_Exa_b177.wr W182)
  have f32_Fld_b177 : Fld Z h182 b177 "java/util/ArrayList" "size" "I" (.int (0 : Int32)) := (f25_Fld_b177.other W182 (Or.inl (Ne.symm ne_a1_b177)))
  have f33_Fld_b177 : Fld Z h182 b177 "java/util/AbstractList" "modCount" "I" (.int (0 : Int32)) := (f26_Fld_b177.other W182 (Or.inl (Ne.symm ne_a1_b177)))
  have f34_Fld_b177 : Fld Z h182 b177 "java/util/ArrayList" "elementData" "[Ljava/lang/Object;" (.ref wD) := (f27_Fld_b177.other W182 (Or.inl (Ne.symm ne_a1_b177)))
  have f35_Exa_b180 : Exa Z h182 b180 "java/util/ArrayList" := (Ex181.wr W182)
  have f36_Fld_b180 : Fld Z h182 b180 "java/util/ArrayList" "size" "I" (.int (0 : Int32)) := (Fs181.other W182 (Or.inl (Ne.symm ne_a1_b180)))
  have f37_Fld_b180 : Fld Z h182 b180 "java/util/AbstractList" "modCount" "I" (.int (0 : Int32)) := (Fm181.other W182 (Or.inl (Ne.symm ne_a1_b180)))
  have f38_Fld_b180 : Fld Z h182 b180 "java/util/ArrayList" "elementData" "[Ljava/lang/Object;" (.ref wD) := (Fe181.other W182 (Or.inl (Ne.symm ne_a1_b180)))
  have fw182 : Fld Z h182 a1 "com/example/shaper/shaper/core/ConfigProblems" "unsupported" "Ljava/util/List;" (.ref b180) := f23_Fld_a1.same W182
  have Z182 : n0 ≤ h182.size := Nat.le_trans Z181 (Keep.of_wr W182).1
  have Kp182 : Keep h0 h182 [a1] := Kp181.wr W182 (Or.inl (List.mem_of_getElem? (i := 0) rfl))
  have O182 : Old Z n0 h182 := O181.wr W182 g_a1
  have N182 := Fr.snoc X182 N181 g_a1
  refine own_step (g' := (mkF m 26 #[rv a1] [])) st182 ?_
  refine own_ret X182 hlk (v := none) (fun _ => rfl) (fun fs hr => X182.returnOut hx hret (hb hby d1_26) hr) ?_ (by decide) (by decide)
  show own_Q1 Z a1 wc wD kD h0 n0 _ T182.heap _
  rw [e182]
  exact ⟨rfl, N182, Kp182, ⟨b177, b177, b180, b180, g_a1, f29_Exa_a1, f30_Fld_a1, fw182, ⟨g_b177, g_b177, f31_Exa_b177, f32_Fld_b177, ⟨_, f33_Fld_b177⟩, Or.inl ⟨rfl, rfl, f34_Fld_b177⟩⟩, ⟨g_b180, g_b180, f35_Exa_b180, f36_Fld_b180, ⟨_, f37_Fld_b180⟩, Or.inl ⟨rfl, rfl, f38_Fld_b180⟩⟩, ne_a1_b177, ne_a1_b177, ne_a1_b180, ne_a1_b180, ne_b177_b180, ne_b177_b180, ne_b177_b180, ne_b177_b180⟩⟩
theorem d7_0 : decode jdk_38_method_8_code 0 = .ok (.aload_n 0, 1) := by decide +kernel
theorem d7_1 : decode jdk_38_method_8_code 1 = .ok (.getfield 48, 3) := by decide +kernel
theorem hw_51 {a0 Z} (hw : own_W a0 Z) : (Jvm.Cond.fieldLink "java/util/ArrayList" (48 : Nat) "java/util/ArrayList" "size" "I").before a0 Z = true := hw _ (List.mem_of_getElem? (i := 51) rfl)
theorem d7_4 : decode jdk_38_method_8_code 4 = .ok (.ireturn, 1) := by decide +kernel
theorem own_ef7 (m : MethodId) (a1 : Addr) : entryFrame m #[(.ref a1)] 1 = mkF m 0 #[rv a1] [] := by first | (simp [entryFrame, mkF, argsToLocals, Value.category]; done) | rfl
def own_Q7 (Z : State) (a1 : Addr) (cc : Int32) (h0 : Heap) (n0 : Nat) (v : Option Value) (h : Heap) (L : List Loc) : Prop := v = some (.int cc) ∧ Fr n0 L ∧ h = h0
set_option maxRecDepth 65536 in
set_option maxHeartbeats 40000000 in
theorem own_rm7 (l : Launch) (Z : State) (a0 : Array Value) (hw : own_W a0 Z) (ws : List Jvm.Cond) (a1 : Addr) (cc : Int32) (h0 : Heap) (n0 : Nat) (Z0 : n0 ≤ h0.size) (F_s : Fld Z h0 a1 "java/util/ArrayList" "size" "I" (.int cc)) :
    MetFree l (⟨"java/util/ArrayList", "size", "()I"⟩ : MethodName) (head1 (Jvm.Cond.code (⟨"java/util/ArrayList", "size", "()I"⟩ : MethodName) jdk_38_method_8_code 1 (some .int) :: ws) ({ frames := 0, cells := 0, slots := 0, locals := 0 } : Room)) (fun a U => a = #[(.ref a1)] ∧ Z.Warmed39 U.vm ∧ U.heap = h0) (fun _ _ _ _ _ => True) (fun _ U o U' => ∃ v L, o = .returned v ∧ own_Q7 Z a1 cc h0 n0 v U'.heap L ∧ FrameEnd U o U' L ({ frames := 0, cells := 0, slots := 0, locals := 0 } : Room).cells ({ frames := 0, cells := 0, slots := 0, locals := 0 } : Room).slots) := by
  refine own_body (plainFor_of_name pn_3) (fun m => own_ef7 m a1) ?_
  intro p e s m below meth c T0 X0 hx hby hml hZ hown hnm hret hlk e0
  have hown : s.vm.findClass "java/util/ArrayList" = some m.cls := hown
  have hnm : meth.name = "size" := hnm
  have N0 := Fr.nil n0
  refine own_st (mkF m 1 #[rv a1] [(.ref a1)]) (fun t k => XS.aloadN X0.here hx rfl (hb hby d7_0) rfl rfl k) ?_
  obtain ⟨T183, X183, e183, st183⟩ := getF X0 hx hZ hown (host := "") (Or.inl (hw_51 hw)) Via.refl e0 F_s (g := (mkF m 1 #[rv a1] [(.ref a1)])) rfl rfl (hb hby d7_1)
  refine own_step (g' := (mkF m 4 #[rv a1] [(.int cc)])) st183 ?_
  refine own_ret X183 hlk (v := some (.int cc)) (fun h => by rw [hret] at h; cases h) (fun fs hr => X183.ireturnOut hx hret rfl (Or.inl rfl) (hb hby d7_4) hr) ?_ (by decide) (by decide)
  show own_Q7 Z a1 cc h0 n0 _ T183.heap _
  rw [e183]
  exact ⟨rfl, N0, rfl⟩
theorem d6_0 : decode prog_4_method_11_code 0 = .ok (.aload_n 0, 1) := by decide +kernel
theorem d6_1 : decode prog_4_method_11_code 1 = .ok (.getfield 10, 3) := by decide +kernel
theorem d6_4 : decode prog_4_method_11_code 4 = .ok (.invokeinterface 122 1, 5) := by decide +kernel
theorem hw_42 {a0 Z} (hw : own_W a0 Z) : (Jvm.Cond.methodLink "com/example/shaper/shaper/core/ConfigProblems" (122 : Nat) ({ cls := "java/util/List", name := "size", desc := "()I" } : Jvm.MethodName)).before a0 Z = true := hw _ (List.mem_of_getElem? (i := 42) rfl)
theorem hw_50 {a0 Z} (hw : own_W a0 Z) : (Jvm.Cond.code ({ cls := "java/util/ArrayList", name := "size", desc := "()I" } : Jvm.MethodName) jdk_38_method_8_code (1 : Nat) (Option.some Jvm.ClassFile.FieldType.int)).before a0 Z = true := hw _ (List.mem_of_getElem? (i := 50) rfl)
theorem hw_45 {a0 Z} (hw : own_W a0 Z) : (Jvm.Cond.selects "java/util/ArrayList" ({ cls := "java/util/List", name := "size", desc := "()I" } : Jvm.MethodName) ({ cls := "java/util/ArrayList", name := "size", desc := "()I" } : Jvm.MethodName)).before a0 Z = true := hw _ (List.mem_of_getElem? (i := 45) rfl)
theorem hw_43 {a0 Z} (hw : own_W a0 Z) : (Jvm.Cond.declares ({ cls := "java/util/List", name := "size", desc := "()I" } : Jvm.MethodName)).before a0 Z = true := hw _ (List.mem_of_getElem? (i := 43) rfl)
theorem hw_44 {a0 Z} (hw : own_W a0 Z) : (Jvm.Cond.interfaceMethod "java/util/List" "java/util/List" "size" "()I").before a0 Z = true := hw _ (List.mem_of_getElem? (i := 44) rfl)
theorem hw_46 {a0 Z} (hw : own_W a0 Z) : (Jvm.Cond.instanceMethod ({ cls := "java/util/ArrayList", name := "size", desc := "()I" } : Jvm.MethodName)).before a0 Z = true := hw _ (List.mem_of_getElem? (i := 46) rfl)
theorem hw_47 {a0 Z} (hw : own_W a0 Z) : (Jvm.Cond.publicMethod ({ cls := "java/util/ArrayList", name := "size", desc := "()I" } : Jvm.MethodName)).before a0 Z = true := hw _ (List.mem_of_getElem? (i := 47) rfl)
theorem hw_48 {a0 Z} (hw : own_W a0 Z) : (Jvm.Cond.unhidden "java/util/ArrayList" "size" "()I").before a0 Z = true := hw _ (List.mem_of_getElem? (i := 48) rfl)
theorem hw_49 {a0 Z} (hw : own_W a0 Z) : (Jvm.Cond.castable "java/util/ArrayList" "java/util/List").before a0 Z = true := hw _ (List.mem_of_getElem? (i := 49) rfl)
theorem d6_9 : decode prog_4_method_11_code 9 = .ok (.aload_n 0, 1) := by decide +kernel
theorem d6_10 : decode prog_4_method_11_code 10 = .ok (.getfield 16, 3) := by decide +kernel
theorem d6_13 : decode prog_4_method_11_code 13 = .ok (.invokeinterface 122 1, 5) := by decide +kernel
theorem d6_18 : decode prog_4_method_11_code 18 = .ok (.iadd, 1) := by decide +kernel
theorem d6_19 : decode prog_4_method_11_code 19 = .ok (.ireturn, 1) := by decide +kernel
theorem own_ef6 (m : MethodId) (a1 : Addr) : entryFrame m #[(.ref a1)] 1 = mkF m 0 #[rv a1] [] := by first | (simp [entryFrame, mkF, argsToLocals, Value.category]; done) | rfl
def own_Q6 (Z : State) (a1 : Addr) (k1 : Nat) (k2 : Nat) (f1 : Value) (f2 : Value) (wD : Addr) (h0 : Heap) (n0 : Nat) (v : Option Value) (h : Heap) (L : List Loc) : Prop := v = some (.int (Int32.ofNat k1 + Int32.ofNat k2)) ∧ Fr n0 L ∧ h = h0
set_option maxRecDepth 65536 in
set_option maxHeartbeats 40000000 in
theorem own_rm6 (l : Launch) (Z : State) (a0 : Array Value) (hw : own_W a0 Z) (ws : List Jvm.Cond) (a1 : Addr) (k1 : Nat) (k2 : Nat) (f1 : Value) (f2 : Value) (wD : Addr) (h0 : Heap) (n0 : Nat) (Z0 : n0 ≤ h0.size) (P0 : own_CP Z wD h0 n0 a1 k1 k2 f1 f2) :
    MetFree l (⟨"com/example/shaper/shaper/core/ConfigProblems", "count", "()I"⟩ : MethodName) (head1 (Jvm.Cond.code (⟨"com/example/shaper/shaper/core/ConfigProblems", "count", "()I"⟩ : MethodName) prog_4_method_11_code 1 (some .int) :: ws) ({ frames := 1, cells := 0, slots := 0, locals := 13 } : Room)) (fun a U => a = #[(.ref a1)] ∧ Z.Warmed39 U.vm ∧ U.heap = h0) (fun _ _ _ _ _ => True) (fun _ U o U' => ∃ v L, o = .returned v ∧ own_Q6 Z a1 k1 k2 f1 f2 wD h0 n0 v U'.heap L ∧ FrameEnd U o U' L ({ frames := 1, cells := 0, slots := 0, locals := 13 } : Room).cells ({ frames := 1, cells := 0, slots := 0, locals := 13 } : Room).slots) := by
  refine own_body (plainFor_of_name pn_1) (fun m => own_ef6 m a1) ?_
  intro p e s m below meth c T0 X0 hx hby hml hZ hown hnm hret hlk e0
  have hown : s.vm.findClass "com/example/shaper/shaper/core/ConfigProblems" = some m.cls := hown
  have hnm : meth.name = "count" := hnm
  have N0 := Fr.nil n0
  obtain ⟨al1, dd1, al2, dd2, gp, Ep, Fvi, Fun, ⟨ga1, gd1, Ea1, Fs1, -, -⟩, ⟨ga2, gd2, Ea2, Fs2, -, -⟩, -⟩ := id P0
  refine own_st (mkF m 1 #[rv a1] [(.ref a1)]) (fun t k => XS.aloadN X0.here hx rfl (hb hby d6_0) rfl rfl k) ?_
  obtain ⟨T184, X184, e184, st184⟩ := getF X0 hx hZ hown (host := "") (Or.inl (hw_33 hw)) Via.refl e0 Fvi (g := (mkF m 1 #[rv a1] [(.ref a1)])) rfl rfl (hb hby d6_1)
  refine own_step (g' := (mkF m 4 #[rv a1] [(.ref al1)])) st184 ?_
  obtain ⟨cq185, kq185, q185a, q185b, q185c⟩ := isOf hZ e184 Ea1
  obtain ⟨_, _, ⟨T185, L185, k185, n185⟩, -, X185, ⟨Lc185, hQ185, l185, y185, z185⟩, st185⟩ := X184.interfaceBack hx (xi := (⟨"java/util/List", "size", "()I"⟩ : MethodName)) (y := (⟨"java/util/ArrayList", "size", "()I"⟩ : MethodName)) hown (mvT hZ (hw_42 hw)) (mvT hZ (hw_43 hw)) (mvT hZ (hw_44 hw)) (mvT hZ (hw_45 hw)) (mvT hZ (hw_46 hw)) (mvT hZ (hw_47 hw)) (mvT hZ (hw_48 hw)) (mvT hZ (hw_49 hw)) (by decide) (backOf (W := 0) (own_rm7 l Z a0 hw [] al1 (Int32.ofNat k1) h0 n0 Z0 Fs1) hZ (hw_50 hw) (hw_11 hw) (by decide) (by decide)) q185a q185b q185c (g := (mkF m 4 #[rv a1] [(.ref al1)])) rfl (by rw [hml]; rfl) (Steps.refl _) (argsL := []) (rest := []) (lenOf pd_5 rfl) rfl (by show 2 * 0 + _ ≤ _; exact Nat.le_of_eq rfl) (hb hby d6_4) (fun _ _ => ⟨rfl, e184, (by decide : 0 + 0 ≤ _), (by decide : 0 + 0 ≤ _)⟩)
  dsimp only [Pt.U, Pt.locs, Pt.cells, Pt.slots] at X185 l185 y185 z185 st185 hQ185
  subst l185 y185 z185
  obtain ⟨rfl, Nq185, e185⟩ := hQ185
  have N185 := Fr.app N0 Nq185
  refine own_jump (g' := (mkF m 9 #[rv a1] [(.int (Int32.ofNat k1))])) st185 ?_
  refine own_st (mkF m 10 #[rv a1] [(.ref a1), (.int (Int32.ofNat k1))]) (fun t k => XS.aloadN X185.here hx rfl (hb hby d6_9) rfl rfl k) ?_
  obtain ⟨T186, X186, e186, st186⟩ := getF X185 hx hZ hown (host := "") (Or.inl (hw_35 hw)) Via.refl e185 Fun (g := (mkF m 10 #[rv a1] [(.ref a1), (.int (Int32.ofNat k1))])) rfl rfl (hb hby d6_10)
  refine own_step (g' := (mkF m 13 #[rv a1] [(.ref al2), (.int (Int32.ofNat k1))])) st186 ?_
  obtain ⟨cq187, kq187, q187a, q187b, q187c⟩ := isOf hZ e186 Ea2
  obtain ⟨_, _, ⟨T187, L187, k187, n187⟩, -, X187, ⟨Lc187, hQ187, l187, y187, z187⟩, st187⟩ := X186.interfaceBack hx (xi := (⟨"java/util/List", "size", "()I"⟩ : MethodName)) (y := (⟨"java/util/ArrayList", "size", "()I"⟩ : MethodName)) hown (mvT hZ (hw_42 hw)) (mvT hZ (hw_43 hw)) (mvT hZ (hw_44 hw)) (mvT hZ (hw_45 hw)) (mvT hZ (hw_46 hw)) (mvT hZ (hw_47 hw)) (mvT hZ (hw_48 hw)) (mvT hZ (hw_49 hw)) (by decide) (backOf (W := 1) (own_rm7 l Z a0 hw [] al2 (Int32.ofNat k2) h0 n0 Z0 Fs2) hZ (hw_50 hw) (hw_11 hw) (by decide) (by decide)) q187a q187b q187c (g := (mkF m 13 #[rv a1] [(.ref al2), (.int (Int32.ofNat k1))])) rfl (by rw [hml]; rfl) (Steps.refl _) (argsL := []) (rest := [(.int (Int32.ofNat k1))]) (lenOf pd_5 rfl) rfl (by show 2 * 0 + _ ≤ _; exact Nat.le_of_eq rfl) (hb hby d6_13) (fun _ _ => ⟨rfl, e186, (by decide : 0 + 0 ≤ _), (by decide : 0 + 0 ≤ _)⟩)
  dsimp only [Pt.U, Pt.locs, Pt.cells, Pt.slots] at X187 l187 y187 z187 st187 hQ187
  subst l187 y187 z187
  obtain ⟨rfl, Nq187, e187⟩ := hQ187
  have N187 := Fr.app N185 Nq187
  refine own_jump (g' := (mkF m 18 #[rv a1] [(.int (Int32.ofNat k2)), (.int (Int32.ofNat k1))])) st187 ?_
  refine own_st (mkF m 19 #[rv a1] [(.int ((Int32.ofNat k1) + (Int32.ofNat k2)))]) (fun t k => XS.iadd X187.here hx rfl (hb hby d6_18) rfl k) ?_
  refine own_ret X187 hlk (v := some (.int ((Int32.ofNat k1) + (Int32.ofNat k2)))) (fun h => by rw [hret] at h; cases h) (fun fs hr => X187.ireturnOut hx hret rfl (Or.inl rfl) (hb hby d6_19) hr) ?_ (by decide) (by decide)
  show own_Q6 Z a1 k1 k2 f1 f2 wD h0 n0 _ T187.heap _
  rw [e187]
  exact ⟨rfl, N187, rfl⟩
theorem d39_0 : decode jdk_38_method_6_code 0 = .ok (.aload_n 0, 1) := by decide +kernel
theorem d39_1 : decode jdk_38_method_6_code 1 = .ok (.getfield 9, 3) := by decide +kernel
theorem d39_4 : decode jdk_38_method_6_code 4 = .ok (.arraylength, 1) := by decide +kernel
theorem d39_5 : decode jdk_38_method_6_code 5 = .ok (.istore_n 2, 1) := by decide +kernel
theorem d39_6 : decode jdk_38_method_6_code 6 = .ok (.iload_n 2, 1) := by decide +kernel
theorem d39_7 : decode jdk_38_method_6_code 7 = .ok (.ifCond .gt 13, 3) := by decide +kernel
theorem d39_10 : decode jdk_38_method_6_code 10 = .ok (.aload_n 0, 1) := by decide +kernel
theorem d39_11 : decode jdk_38_method_6_code 11 = .ok (.getfield 9, 3) := by decide +kernel
theorem d39_14 : decode jdk_38_method_6_code 14 = .ok (.getstatic 39, 3) := by decide +kernel
theorem d39_17 : decode jdk_38_method_6_code 17 = .ok (.if_acmp .eq 28, 3) := by decide +kernel
theorem d39_45 : decode jdk_38_method_6_code 45 = .ok (.aload_n 0, 1) := by decide +kernel
theorem d39_46 : decode jdk_38_method_6_code 46 = .ok (.bipush 10, 2) := by decide +kernel
theorem d39_48 : decode jdk_38_method_6_code 48 = .ok (.iload_n 1, 1) := by decide +kernel
theorem d39_49 : decode jdk_38_method_6_code 49 = .ok (.invokestatic 79, 3) := by decide +kernel
theorem hw_227 {a0 Z} (hw : own_W a0 Z) : (Jvm.Cond.methodLink "java/util/ArrayList" (79 : Nat) ({ cls := "java/lang/Math", name := "max", desc := "(II)I" } : Jvm.MethodName)).before a0 Z = true := hw _ (List.mem_of_getElem? (i := 227) rfl)
theorem d39_52 : decode jdk_38_method_6_code 52 = .ok (.anewarray 7, 3) := by decide +kernel
theorem hw_230 {a0 Z} (hw : own_W a0 Z) : (Jvm.Cond.classLink "java/util/ArrayList" (7 : Nat) "java/lang/Object").before a0 Z = true := hw _ (List.mem_of_getElem? (i := 230) rfl)
theorem hw_231 {a0 Z} (hw : own_W a0 Z) : (Jvm.Cond.arrayOver (Jvm.ClassFile.FieldType.object "java/lang/Object")).before a0 Z = true := hw _ (List.mem_of_getElem? (i := 231) rfl)
theorem d39_55 : decode jdk_38_method_6_code 55 = .ok (.dup_x1, 1) := by decide +kernel
theorem d39_56 : decode jdk_38_method_6_code 56 = .ok (.putfield 9, 3) := by decide +kernel
theorem d39_59 : decode jdk_38_method_6_code 59 = .ok (.areturn, 1) := by decide +kernel
theorem own_ef39 (m : MethodId) (a1 : Addr) : entryFrame m #[(.ref a1), (.int (1 : Int32))] 4 = mkF m 0 #[rv a1, iv (1 : Int32), .unset, .unset] [] := by first | (simp [entryFrame, mkF, argsToLocals, Value.category]; done) | rfl
def own_Q39 (Z : State) (a1 : Addr) (md : Int32) (wc : Int32) (wD : Addr) (kD : ClassId) (h0 : Heap) (n0 : Nat) (v : Option Value) (h : Heap) (L : List Loc) : Prop := ∃ (d : Addr) (kk : ClassId), v = some (.ref d) ∧ Fr n0 L ∧ Keep h0 h [a1] ∧ h0.size ≤ d ∧ a1 ≠ d ∧ Exa Z h a1 "java/util/ArrayList" ∧ Fld Z h a1 "java/util/ArrayList" "size" "I" (.int (0 : Int32)) ∧ Fld Z h a1 "java/util/AbstractList" "modCount" "I" (.int md) ∧ Fld Z h a1 "java/util/ArrayList" "elementData" "[Ljava/lang/Object;" (.ref d) ∧ Arv Z h d kk (.object "java/lang/Object") (10 : Int32) [.null, .null, .null, .null, .null, .null, .null, .null, .null, .null] .null ∧ Ovr Z kk "java/lang/Object"
set_option maxRecDepth 65536 in
set_option maxHeartbeats 40000000 in
theorem own_rm39 (l : Launch) (Z : State) (a0 : Array Value) (hw : own_W a0 Z) (ws : List Jvm.Cond) (a1 : Addr) (md : Int32) (wc : Int32) (wD : Addr) (kD : ClassId) (h0 : Heap) (n0 : Nat) (Z0 : n0 ≤ h0.size) (O0 : Old Z n0 h0) (SS : own_St Z wc wD kD) (E_a1 : Exa Z h0 a1 "java/util/ArrayList") (F_s : Fld Z h0 a1 "java/util/ArrayList" "size" "I" (.int (0 : Int32))) (F_m : Fld Z h0 a1 "java/util/AbstractList" "modCount" "I" (.int md)) (F_e : Fld Z h0 a1 "java/util/ArrayList" "elementData" "[Ljava/lang/Object;" (.ref wD)) (g_a1 : n0 ≤ a1) :
    MetFree l (⟨"java/util/ArrayList", "grow", "(I)[Ljava/lang/Object;"⟩ : MethodName) (head1 (Jvm.Cond.code (⟨"java/util/ArrayList", "grow", "(I)[Ljava/lang/Object;"⟩ : MethodName) jdk_38_method_6_code 4 (some (.array (.object "java/lang/Object"))) :: ws) ({ frames := 1, cells := 1, slots := 10, locals := 14 } : Room)) (fun a U => a = #[(.ref a1), (.int (1 : Int32))] ∧ Z.Warmed39 U.vm ∧ U.heap = h0) (fun _ _ _ _ _ => True) (fun _ U o U' => ∃ v L, o = .returned v ∧ own_Q39 Z a1 md wc wD kD h0 n0 v U'.heap L ∧ FrameEnd U o U' L ({ frames := 1, cells := 1, slots := 10, locals := 14 } : Room).cells ({ frames := 1, cells := 1, slots := 10, locals := 14 } : Room).slots) := by
  refine own_body (plainFor_of_name pn_3) (fun m => own_ef39 m a1) ?_
  intro p e s m below meth c T0 X0 hx hby hml hZ hown hnm hret hlk e0
  have hown : s.vm.findClass "java/util/ArrayList" = some m.cls := hown
  have hnm : meth.name = "grow" := hnm
  have N0 := Fr.nil n0
  have K0 : Keep h0 h0 [a1] := Keep.refl _ _
  obtain ⟨S_wc, hwc, S_wD, V_wD⟩ := id SS
  refine own_st (mkF m 1 #[rv a1, iv (1 : Int32), .unset, .unset] [(.ref a1)]) (fun t k => XS.aloadN X0.here hx rfl (hb hby d39_0) rfl rfl k) ?_
  obtain ⟨T188, X188, e188, st188⟩ := getF X0 hx hZ hown (host := "") (Or.inl (hw_31 hw)) Via.refl e0 F_e (g := (mkF m 1 #[rv a1, iv (1 : Int32), .unset, .unset] [(.ref a1)])) rfl rfl (hb hby d39_1)
  refine own_step (g' := (mkF m 4 #[rv a1, iv (1 : Int32), .unset, .unset] [(.ref wD)])) st188 ?_
  obtain ⟨cl189, Ar189, -, S189, M189, -, -⟩ := id (V_wD.ext O0.2)
  refine own_step (T' := T188) (g' := (mkF m 5 #[rv a1, iv (1 : Int32), .unset, .unset] [(.int cl189.slots.size.toInt32)])) (X188.arraylength hx (by rw [e188]; exact Ar189.1) (State.isArrayOf_alike hZ.alike Ar189.2.1) (g := (mkF m 4 #[rv a1, iv (1 : Int32), .unset, .unset] [(.ref wD)])) rfl rfl (hb hby d39_4)) ?_
  rw [len_of S189 M189]
  refine own_st (mkF m 6 #[rv a1, iv (1 : Int32), iv (0 : Int32), .unset] []) (fun t k => XS.istoreN X188.here hx rfl (hb hby d39_5) rfl (l' := #[rv a1, iv (1 : Int32), iv (0 : Int32), .unset]) rfl k) ?_
  refine own_st (mkF m 7 #[rv a1, iv (1 : Int32), iv (0 : Int32), .unset] [(.int (0 : Int32))]) (fun t k => XS.iloadN X188.here hx rfl (hb hby d39_6) rfl k) ?_
  refine own_st (mkF m 10 #[rv a1, iv (1 : Int32), iv (0 : Int32), .unset] []) (fun t k => XS.ifNo X188.here hx rfl (hb hby d39_7) rfl ((if0 _ _).trans (flt (by decide : ¬ ((0 : Int32) < (0 : Int32)))).2.2.1) k) ?_
  refine own_st (mkF m 11 #[rv a1, iv (1 : Int32), iv (0 : Int32), .unset] [(.ref a1)]) (fun t k => XS.aloadN X188.here hx rfl (hb hby d39_10) rfl rfl k) ?_
  obtain ⟨T190, X190, e190, st190⟩ := getF X188 hx hZ hown (host := "") (Or.inl (hw_31 hw)) Via.refl e188 F_e (g := (mkF m 11 #[rv a1, iv (1 : Int32), iv (0 : Int32), .unset] [(.ref a1)])) rfl rfl (hb hby d39_11)
  refine own_step (g' := (mkF m 14 #[rv a1, iv (1 : Int32), iv (0 : Int32), .unset] [(.ref wD)])) st190 ?_
  obtain ⟨T191, X191, e191, st191⟩ := getS2 X190 hx hZ hown (host := "") (Or.inl (hw_30 hw)) Via.refl e190 (S_wD.ext O0.2) (g := (mkF m 14 #[rv a1, iv (1 : Int32), iv (0 : Int32), .unset] [(.ref wD)])) rfl (hb hby d39_14)
  refine own_step (g' := (mkF m 17 #[rv a1, iv (1 : Int32), iv (0 : Int32), .unset] [(.ref wD), (.ref wD)])) st191 ?_
  refine own_st (mkF m 45 #[rv a1, iv (1 : Int32), iv (0 : Int32), .unset] []) (fun t k => Jvm.RoadKit.acmp (g := (mkF m 17 #[rv a1, iv (1 : Int32), iv (0 : Int32), .unset] [(.ref wD), (.ref wD)])) X191 hx rfl rfl rfl (pc0 := 17) (pc' := 45) (same := true) rfl (hb hby d39_17) rfl (decide_eq_true rfl) (by decide) (by decide) k) ?_
  refine own_st (mkF m 46 #[rv a1, iv (1 : Int32), iv (0 : Int32), .unset] [(.ref a1)]) (fun t k => XS.aloadN X191.here hx rfl (hb hby d39_45) rfl rfl k) ?_
  refine own_st (mkF m 48 #[rv a1, iv (1 : Int32), iv (0 : Int32), .unset] [(.int (10 : Int32)), (.ref a1)]) (fun t k => XS.bipush X191.here hx rfl (hb hby d39_46) k) ?_
  refine own_st (mkF m 49 #[rv a1, iv (1 : Int32), iv (0 : Int32), .unset] [(.int (1 : Int32)), (.int (10 : Int32)), (.ref a1)]) (fun t k => XS.iloadN X191.here hx rfl (hb hby d39_48) rfl k) ?_
  obtain ⟨_, _, ⟨T192, L192, k192, n192⟩, -, X192, ⟨Lc192, hQ192, l192, y192, z192⟩, st192⟩ := Jvm.LawKit.callS X191 hx (y := (⟨"java/lang/Math", "max", "(II)I"⟩ : MethodName)) hown (mvT hZ (hw_227 hw)) (mvT hZ (hw_228 hw)) (mvT hZ (hw_199 hw)) (mvT hZ (hw_229 hw)) (by decide) (backOf (W := 1) (own_rm40 l Z a0 hw [] (10 : Int32) (1 : Int32) h0 n0 Z0) hZ (hw_229 hw) (hw_199 hw) (by decide) (by decide)) (g := (mkF m 49 #[rv a1, iv (1 : Int32), iv (0 : Int32), .unset] [(.int (1 : Int32)), (.int (10 : Int32)), (.ref a1)])) rfl (by rw [hml]; rfl) (argsL := [(.int (10 : Int32)), (.int (1 : Int32))]) (rest := [(.ref a1)]) (lenOf pd_10 rfl) rfl (by show 2 * 0 + _ ≤ _; exact Nat.le_of_eq rfl) (hb hby d39_49) (fun _ _ => ⟨rfl, e191, (by decide : 0 + 0 ≤ _), (by decide : 0 + 0 ≤ _)⟩)
  dsimp only [Pt.U, Pt.locs, Pt.cells, Pt.slots] at X192 l192 y192 z192 st192 hQ192
  subst l192 y192 z192
  obtain ⟨rfl, Nq192, e192⟩ := hQ192
  have N192 := Fr.app N0 Nq192
  refine own_step (g' := (mkF m 52 #[rv a1, iv (1 : Int32), iv (0 : Int32), .unset] [(.int (own_max32 (10 : Int32) (1 : Int32))), (.ref a1)])) st192 ?_
  rw [show (own_max32 (10 : Int32) (1 : Int32)) = (10 : Int32) from by decide]
  obtain ⟨T193, h193, k193, X193, e193, E193, A193, O193v, st193⟩ := newR X192 hx hZ hown (hw_230 hw) (hw_231 hw) e192 (g := (mkF m 52 #[rv a1, iv (1 : Int32), iv (0 : Int32), .unset] [(.int (10 : Int32)), (.ref a1)])) rfl (hb hby d39_52) rfl (by decide) (cap := 10) (by decide) (by decide) (by decide) (by decide)
  obtain ⟨b193, g193⟩ : ∃ z, z = h0.size := ⟨_, rfl⟩
  rw [← g193] at A193 st193
  have E_193 : Ext h0 h193 := E193
  have g_b193 : n0 ≤ b193 := Nat.le_trans Z0 (Nat.le_of_eq g193.symm)
  have ne_a1_b193 : a1 ≠ b193 := Nat.ne_of_lt (Nat.lt_of_lt_of_le E_a1.lt (Nat.le_of_eq g193.symm))
  have sz_b193 : h0.size ≤ b193 := Nat.le_trans K0.1 (Nat.le_of_eq g193.symm)
  have Kp193 : Keep h0 h193 [a1] := K0.ext E193
  have Z193 : n0 ≤ h193.size := Nat.le_trans Z0 E193.1
  have O193 : Old Z n0 h193 := O0.ext E193
  have f1_Exa_a1 : Exa Z h193 a1 "java/util/ArrayList" := (E_a1.ext E193)
  have f2_Fld_a1 : Fld Z h193 a1 "java/util/ArrayList" "size" "I" (.int (0 : Int32)) := (F_s.ext E193)
  have f3_Fld_a1 : Fld Z h193 a1 "java/util/AbstractList" "modCount" "I" (.int md) := (F_m.ext E193)
  have f4_Fld_a1 : Fld Z h193 a1 "java/util/ArrayList" "elementData" "[Ljava/lang/Object;" (.ref wD) := (F_e.ext E193)
  have V193 : Arv Z h193 b193 k193 (.object "java/lang/Object") (10 : Int32) [.null, .null, .null, .null, .null, .null, .null, .null, .null, .null] .null := (Arv.new A193 (by decide)).pad (pad_rep [] .null 10)
  refine own_step (g' := (mkF m 55 #[rv a1, iv (1 : Int32), iv (0 : Int32), .unset] [(.ref b193), (.ref a1)])) st193 ?_
  refine own_st (mkF m 56 #[rv a1, iv (1 : Int32), iv (0 : Int32), .unset] [(.ref b193), (.ref a1), (.ref b193)]) (fun t k => XS.dupX1 X193.here hx rfl (hb hby d39_55) rfl rfl rfl k) ?_
  obtain ⟨T194, h194, X194, e194, W194, st194⟩ := putF X193 hx hZ hown (host := "") (Or.inl (hw_31 hw)) Via.refl e193 f4_Fld_a1 f1_Exa_a1 (Or.inl (hw_32 hw)) (hw_10 hw) (ty := (.array (.object "java/lang/Object"))) (by decide) rfl rfl (g := (mkF m 56 #[rv a1, iv (1 : Int32), iv (0 : Int32), .unset] [(.ref b193), (.ref a1), (.ref b193)])) rfl rfl (hb hby d39_56)
  have f5_Exa_a1 : Exa Z h194 a1 "java/util/ArrayList" := (f1_Exa_a1.wr W194)
  have f6_Fld_a1 : Fld Z h194 a1 "java/util/ArrayList" "size" "I" (.int (0 : Int32)) := (f2_Fld_a1.other W194 (Or.inr (slot_ne (a0 := a0) (C := "java/util/ArrayList") (Or.inl (hw_52 hw)) (Or.inl (hw_32 hw)) (by decide) (t := .int) (t' := (.array (.object "java/lang/Object"))) (by decide) (by decide))))
  have f7_Fld_a1 : Fld Z h194 a1 "java/util/AbstractList" "modCount" "I" (.int md) := (f3_Fld_a1.other W194 (Or.inr (slot_ne (a0 := a0) (C := "java/util/ArrayList") (Or.inl (hw_29 hw)) (Or.inl (hw_32 hw)) (by decide) (t := .int) (t' := (.array (.object "java/lang/Object"))) (by decide) (by decide))))
  have f8_Arv_b193 : Arv Z h194 b193 k193 (.object "java/lang/Object") (10 : Int32) [.null, .null, .null, .null, .null, .null, .null, .null, .null, .null] .null := (V193.other W194 (Ne.symm ne_a1_b193))
  have fw194 : Fld Z h194 a1 "java/util/ArrayList" "elementData" "[Ljava/lang/Object;" (.ref b193) := f4_Fld_a1.same W194
  have Z194 : n0 ≤ h194.size := Nat.le_trans Z193 (Keep.of_wr W194).1
  have Kp194 : Keep h0 h194 [a1] := Kp193.wr W194 (Or.inl (List.mem_of_getElem? (i := 0) rfl))
  have O194 : Old Z n0 h194 := O193.wr W194 g_a1
  have N194 := Fr.snoc X194 N192 g_a1
  refine own_step (g' := (mkF m 59 #[rv a1, iv (1 : Int32), iv (0 : Int32), .unset] [(.ref b193)])) st194 ?_
  refine own_ret X194 hlk (v := some (.ref b193)) (fun h => by rw [hret] at h; cases h) (fun fs hr => X194.areturnOut hx (w := (.ref b193)) rfl hret rfl (hb hby d39_59) hr) ?_ (by decide) (by decide)
  show own_Q39 Z a1 md wc wD kD h0 n0 _ T194.heap _
  rw [e194]
  exact ⟨b193, k193, rfl, N194, Kp194, sz_b193, ne_a1_b193, f5_Exa_a1, f6_Fld_a1, f7_Fld_a1, fw194, f8_Arv_b193, O193v⟩
theorem d38_0 : decode jdk_38_method_7_code 0 = .ok (.aload_n 0, 1) := by decide +kernel
theorem d38_1 : decode jdk_38_method_7_code 1 = .ok (.aload_n 0, 1) := by decide +kernel
theorem d38_2 : decode jdk_38_method_7_code 2 = .ok (.getfield 48, 3) := by decide +kernel
theorem d38_5 : decode jdk_38_method_7_code 5 = .ok (.iconst 1, 1) := by decide +kernel
theorem d38_6 : decode jdk_38_method_7_code 6 = .ok (.iadd, 1) := by decide +kernel
theorem d38_7 : decode jdk_38_method_7_code 7 = .ok (.invokevirtual 69, 3) := by decide +kernel
theorem hw_222 {a0 Z} (hw : own_W a0 Z) : (Jvm.Cond.methodLink "java/util/ArrayList" (69 : Nat) ({ cls := "java/util/ArrayList", name := "grow", desc := "(I)[Ljava/lang/Object;" } : Jvm.MethodName)).before a0 Z = true := hw _ (List.mem_of_getElem? (i := 222) rfl)
theorem hw_226 {a0 Z} (hw : own_W a0 Z) : (Jvm.Cond.code ({ cls := "java/util/ArrayList", name := "grow", desc := "(I)[Ljava/lang/Object;" } : Jvm.MethodName) jdk_38_method_6_code (4 : Nat) (Option.some (Jvm.ClassFile.FieldType.array (Jvm.ClassFile.FieldType.object "java/lang/Object")))).before a0 Z = true := hw _ (List.mem_of_getElem? (i := 226) rfl)
theorem pd_21 : parseMethodDescriptor "(I)[Ljava/lang/Object;" = some ⟨[.int], some (.array (.object "java/lang/Object"))⟩ := by decide +kernel
theorem hw_225 {a0 Z} (hw : own_W a0 Z) : (Jvm.Cond.selects "java/util/ArrayList" ({ cls := "java/util/ArrayList", name := "grow", desc := "(I)[Ljava/lang/Object;" } : Jvm.MethodName) ({ cls := "java/util/ArrayList", name := "grow", desc := "(I)[Ljava/lang/Object;" } : Jvm.MethodName)).before a0 Z = true := hw _ (List.mem_of_getElem? (i := 225) rfl)
theorem hw_223 {a0 Z} (hw : own_W a0 Z) : (Jvm.Cond.instanceMethod ({ cls := "java/util/ArrayList", name := "grow", desc := "(I)[Ljava/lang/Object;" } : Jvm.MethodName)).before a0 Z = true := hw _ (List.mem_of_getElem? (i := 223) rfl)
theorem d38_10 : decode jdk_38_method_7_code 10 = .ok (.areturn, 1) := by decide +kernel
theorem own_ef38 (m : MethodId) (a1 : Addr) : entryFrame m #[(.ref a1)] 1 = mkF m 0 #[rv a1] [] := by first | (simp [entryFrame, mkF, argsToLocals, Value.category]; done) | rfl
def own_Q38 (Z : State) (a1 : Addr) (md : Int32) (wc : Int32) (wD : Addr) (kD : ClassId) (h0 : Heap) (n0 : Nat) (v : Option Value) (h : Heap) (L : List Loc) : Prop := ∃ (d : Addr) (kk : ClassId), v = some (.ref d) ∧ Fr n0 L ∧ Keep h0 h [a1] ∧ h0.size ≤ d ∧ a1 ≠ d ∧ Exa Z h a1 "java/util/ArrayList" ∧ Fld Z h a1 "java/util/ArrayList" "size" "I" (.int (0 : Int32)) ∧ Fld Z h a1 "java/util/AbstractList" "modCount" "I" (.int md) ∧ Fld Z h a1 "java/util/ArrayList" "elementData" "[Ljava/lang/Object;" (.ref d) ∧ Arv Z h d kk (.object "java/lang/Object") (10 : Int32) [.null, .null, .null, .null, .null, .null, .null, .null, .null, .null] .null ∧ Ovr Z kk "java/lang/Object"
set_option maxRecDepth 65536 in
set_option maxHeartbeats 40000000 in
theorem own_rm38 (l : Launch) (Z : State) (a0 : Array Value) (hw : own_W a0 Z) (ws : List Jvm.Cond) (a1 : Addr) (md : Int32) (wc : Int32) (wD : Addr) (kD : ClassId) (h0 : Heap) (n0 : Nat) (Z0 : n0 ≤ h0.size) (O0 : Old Z n0 h0) (SS : own_St Z wc wD kD) (E_a1 : Exa Z h0 a1 "java/util/ArrayList") (F_s : Fld Z h0 a1 "java/util/ArrayList" "size" "I" (.int (0 : Int32))) (F_m : Fld Z h0 a1 "java/util/AbstractList" "modCount" "I" (.int md)) (F_e : Fld Z h0 a1 "java/util/ArrayList" "elementData" "[Ljava/lang/Object;" (.ref wD)) (g_a1 : n0 ≤ a1) :
    MetFree l (⟨"java/util/ArrayList", "grow", "()[Ljava/lang/Object;"⟩ : MethodName) (head1 (Jvm.Cond.code (⟨"java/util/ArrayList", "grow", "()[Ljava/lang/Object;"⟩ : MethodName) jdk_38_method_7_code 1 (some (.array (.object "java/lang/Object"))) :: ws) ({ frames := 2, cells := 1, slots := 10, locals := 29 } : Room)) (fun a U => a = #[(.ref a1)] ∧ Z.Warmed39 U.vm ∧ U.heap = h0) (fun _ _ _ _ _ => True) (fun _ U o U' => ∃ v L, o = .returned v ∧ own_Q38 Z a1 md wc wD kD h0 n0 v U'.heap L ∧ FrameEnd U o U' L ({ frames := 2, cells := 1, slots := 10, locals := 29 } : Room).cells ({ frames := 2, cells := 1, slots := 10, locals := 29 } : Room).slots) := by
  refine own_body (plainFor_of_name pn_3) (fun m => own_ef38 m a1) ?_
  intro p e s m below meth c T0 X0 hx hby hml hZ hown hnm hret hlk e0
  have hown : s.vm.findClass "java/util/ArrayList" = some m.cls := hown
  have hnm : meth.name = "grow" := hnm
  have N0 := Fr.nil n0
  have K0 : Keep h0 h0 [a1] := Keep.refl _ _
  obtain ⟨S_wc, hwc, S_wD, V_wD⟩ := id SS
  refine own_st (mkF m 1 #[rv a1] [(.ref a1)]) (fun t k => XS.aloadN X0.here hx rfl (hb hby d38_0) rfl rfl k) ?_
  refine own_st (mkF m 2 #[rv a1] [(.ref a1), (.ref a1)]) (fun t k => XS.aloadN X0.here hx rfl (hb hby d38_1) rfl rfl k) ?_
  obtain ⟨T195, X195, e195, st195⟩ := getF X0 hx hZ hown (host := "") (Or.inl (hw_51 hw)) Via.refl e0 F_s (g := (mkF m 2 #[rv a1] [(.ref a1), (.ref a1)])) rfl rfl (hb hby d38_2)
  refine own_step (g' := (mkF m 5 #[rv a1] [(.int (0 : Int32)), (.ref a1)])) st195 ?_
  refine own_st (mkF m 6 #[rv a1] [(.int (1 : Int32)), (.int (0 : Int32)), (.ref a1)]) (fun t k => XS.iconst X195.here hx rfl (hb hby d38_5) k) ?_
  refine own_st (mkF m 7 #[rv a1] [(.int ((0 : Int32) + (1 : Int32))), (.ref a1)]) (fun t k => XS.iadd X195.here hx rfl (hb hby d38_6) rfl k) ?_
  rw [show ((0 : Int32) + (1 : Int32)) = (1 : Int32) from by decide]
  obtain ⟨cq196, kq196, q196a, q196b, q196c⟩ := isOf hZ e195 E_a1
  obtain ⟨_, _, ⟨T196, L196, k196, n196⟩, -, X196, ⟨Lc196, hQ196, l196, y196, z196⟩, st196⟩ := X195.virtualBack hx (y := (⟨"java/util/ArrayList", "grow", "(I)[Ljava/lang/Object;"⟩ : MethodName)) (z := (⟨"java/util/ArrayList", "grow", "(I)[Ljava/lang/Object;"⟩ : MethodName)) hown (mvT hZ (hw_222 hw)) (mvT hZ (own_declares (hw_223 hw) (hw_226 hw))) (notFace_of_selects (args := #[]) (mvT hZ (hw_225 hw))) (mvT hZ (hw_225 hw)) (mvT hZ (hw_223 hw)) (by decide) (backOf (W := 0) (own_rm39 l Z a0 hw [] a1 md wc wD kD h0 n0 Z0 O0 SS E_a1 F_s F_m F_e g_a1) hZ (hw_226 hw) (hw_11 hw) (by decide) (by decide)) q196a q196c (g := (mkF m 7 #[rv a1] [(.int (1 : Int32)), (.ref a1)])) rfl (by rw [hml]; rfl) (Steps.refl _) (argsL := [(.int (1 : Int32))]) (rest := []) (lenOf pd_21 rfl) rfl (by show 2 * 0 + _ ≤ _; exact Nat.le_of_eq rfl) (hb hby d38_7) (fun _ _ => ⟨rfl, e195, (by decide : 0 + 1 ≤ _), (by decide : 0 + 10 ≤ _)⟩)
  dsimp only [Pt.U, Pt.locs, Pt.cells, Pt.slots] at X196 l196 y196 z196 st196 hQ196
  subst l196 y196 z196
  obtain ⟨d196, kk196, rfl, Nq196, K196, gd196, nd196, Ex196, Fs196, Fm196, Fe196, V196, Ov196⟩ := hQ196
  have N196 := Fr.app N0 Nq196
  have g_d196 : n0 ≤ d196 := Nat.le_trans Z0 gd196
  have ne_a1_d196 : a1 ≠ d196 := Nat.ne_of_lt (Nat.lt_of_lt_of_le E_a1.lt gd196)
  have sz_d196 : h0.size ≤ d196 := Nat.le_trans K0.1 gd196
  have Z196 : n0 ≤ T196.heap.size := Nat.le_trans Z0 K196.1
  have O196 : Old Z n0 T196.heap := O0.keep K196 (allS g_a1 all0)
  have Kp196 : Keep h0 T196.heap [a1] := K0.trans K196 (allS (Or.inl (List.mem_of_getElem? (i := 0) rfl)) all0)
  have f1_Exa_a1 : Exa Z T196.heap a1 "java/util/ArrayList" := (E_a1.keep K196)
  refine own_jump (g' := (mkF m 10 #[rv a1] [(.ref d196)])) st196 ?_
  refine own_ret X196 hlk (v := some (.ref d196)) (fun h => by rw [hret] at h; cases h) (fun fs hr => X196.areturnOut hx (w := (.ref d196)) rfl hret rfl (hb hby d38_10) hr) ?_ (by decide) (by decide)
  show own_Q38 Z a1 md wc wD kD h0 n0 _ T196.heap _
  exact ⟨d196, kk196, rfl, N196, Kp196, sz_d196, nd196, Ex196, Fs196, Fm196, Fe196, V196, Ov196⟩
theorem d37_0 : decode jdk_38_method_24_code 0 = .ok (.iload_n 3, 1) := by decide +kernel
theorem d37_1 : decode jdk_38_method_24_code 1 = .ok (.aload_n 2, 1) := by decide +kernel
theorem d37_2 : decode jdk_38_method_24_code 2 = .ok (.arraylength, 1) := by decide +kernel
theorem d37_3 : decode jdk_38_method_24_code 3 = .ok (.if_icmp .ne 8, 3) := by decide +kernel
theorem d37_6 : decode jdk_38_method_24_code 6 = .ok (.aload_n 0, 1) := by decide +kernel
theorem d37_7 : decode jdk_38_method_24_code 7 = .ok (.invokevirtual 129, 3) := by decide +kernel
theorem hw_217 {a0 Z} (hw : own_W a0 Z) : (Jvm.Cond.methodLink "java/util/ArrayList" (129 : Nat) ({ cls := "java/util/ArrayList", name := "grow", desc := "()[Ljava/lang/Object;" } : Jvm.MethodName)).before a0 Z = true := hw _ (List.mem_of_getElem? (i := 217) rfl)
theorem hw_221 {a0 Z} (hw : own_W a0 Z) : (Jvm.Cond.code ({ cls := "java/util/ArrayList", name := "grow", desc := "()[Ljava/lang/Object;" } : Jvm.MethodName) jdk_38_method_7_code (1 : Nat) (Option.some (Jvm.ClassFile.FieldType.array (Jvm.ClassFile.FieldType.object "java/lang/Object")))).before a0 Z = true := hw _ (List.mem_of_getElem? (i := 221) rfl)
theorem pd_22 : parseMethodDescriptor "()[Ljava/lang/Object;" = some ⟨[], some (.array (.object "java/lang/Object"))⟩ := by decide +kernel
theorem hw_220 {a0 Z} (hw : own_W a0 Z) : (Jvm.Cond.selects "java/util/ArrayList" ({ cls := "java/util/ArrayList", name := "grow", desc := "()[Ljava/lang/Object;" } : Jvm.MethodName) ({ cls := "java/util/ArrayList", name := "grow", desc := "()[Ljava/lang/Object;" } : Jvm.MethodName)).before a0 Z = true := hw _ (List.mem_of_getElem? (i := 220) rfl)
theorem hw_218 {a0 Z} (hw : own_W a0 Z) : (Jvm.Cond.instanceMethod ({ cls := "java/util/ArrayList", name := "grow", desc := "()[Ljava/lang/Object;" } : Jvm.MethodName)).before a0 Z = true := hw _ (List.mem_of_getElem? (i := 218) rfl)
theorem d37_10 : decode jdk_38_method_24_code 10 = .ok (.astore_n 2, 1) := by decide +kernel
theorem d37_11 : decode jdk_38_method_24_code 11 = .ok (.aload_n 2, 1) := by decide +kernel
theorem d37_12 : decode jdk_38_method_24_code 12 = .ok (.iload_n 3, 1) := by decide +kernel
theorem d37_13 : decode jdk_38_method_24_code 13 = .ok (.aload_n 1, 1) := by decide +kernel
theorem d37_14 : decode jdk_38_method_24_code 14 = .ok (.aastore, 1) := by decide +kernel
theorem hw_232 {a0 Z} (hw : own_W a0 Z) : (Jvm.Cond.castable "java/lang/String" "java/lang/Object").before a0 Z = true := hw _ (List.mem_of_getElem? (i := 232) rfl)
theorem d37_15 : decode jdk_38_method_24_code 15 = .ok (.aload_n 0, 1) := by decide +kernel
theorem d37_16 : decode jdk_38_method_24_code 16 = .ok (.iload_n 3, 1) := by decide +kernel
theorem d37_17 : decode jdk_38_method_24_code 17 = .ok (.iconst 1, 1) := by decide +kernel
theorem d37_18 : decode jdk_38_method_24_code 18 = .ok (.iadd, 1) := by decide +kernel
theorem d37_19 : decode jdk_38_method_24_code 19 = .ok (.putfield 48, 3) := by decide +kernel
theorem d37_22 : decode jdk_38_method_24_code 22 = .ok (.return_, 1) := by decide +kernel
theorem own_ef37_a (m : MethodId) (a1 : Addr) (r2 : Addr) : entryFrame m #[(.ref a1), (.ref r2), (.ref wD), (.int (0 : Int32))] 4 = mkF m 0 #[rv a1, rv r2, rv wD, iv (0 : Int32)] [] := by first | (simp [entryFrame, mkF, argsToLocals, Value.category]; done) | rfl
def own_Q37_a (Z : State) (a1 : Addr) (r2 : Addr) (md : Int32) (wc : Int32) (wD : Addr) (kD : ClassId) (h0 : Heap) (n0 : Nat) (v : Option Value) (h : Heap) (L : List Loc) : Prop := ∃ (d : Addr) (kk : ClassId), v = none ∧ Fr n0 L ∧ Keep h0 h [a1] ∧ h0.size ≤ d ∧ a1 ≠ d ∧ Exa Z h a1 "java/util/ArrayList" ∧ Fld Z h a1 "java/util/ArrayList" "size" "I" (.int (1 : Int32)) ∧ Fld Z h a1 "java/util/AbstractList" "modCount" "I" (.int md) ∧ Fld Z h a1 "java/util/ArrayList" "elementData" "[Ljava/lang/Object;" (.ref d) ∧ Arv Z h d kk (.object "java/lang/Object") (10 : Int32) [(.ref r2), .null, .null, .null, .null, .null, .null, .null, .null, .null] .null ∧ Ovr Z kk "java/lang/Object"
set_option maxRecDepth 65536 in
set_option maxHeartbeats 40000000 in
theorem own_rm37_a (l : Launch) (Z : State) (a0 : Array Value) (hw : own_W a0 Z) (ws : List Jvm.Cond) (a1 : Addr) (r2 : Addr) (md : Int32) (wc : Int32) (wD : Addr) (kD : ClassId) (h0 : Heap) (n0 : Nat) (Z0 : n0 ≤ h0.size) (O0 : Old Z n0 h0) (SS : own_St Z wc wD kD) (E_a1 : Exa Z h0 a1 "java/util/ArrayList") (F_s : Fld Z h0 a1 "java/util/ArrayList" "size" "I" (.int (0 : Int32))) (F_m : Fld Z h0 a1 "java/util/AbstractList" "modCount" "I" (.int md)) (F_e : Fld Z h0 a1 "java/util/ArrayList" "elementData" "[Ljava/lang/Object;" (.ref wD)) (E_r2 : Exa Z h0 r2 "java/lang/String") (g_a1 : n0 ≤ a1) :
    MetFree l (⟨"java/util/ArrayList", "add", "(Ljava/lang/Object;[Ljava/lang/Object;I)V"⟩ : MethodName) (head1 (Jvm.Cond.code (⟨"java/util/ArrayList", "add", "(Ljava/lang/Object;[Ljava/lang/Object;I)V"⟩ : MethodName) jdk_38_method_24_code 4 none :: ws) ({ frames := 3, cells := 1, slots := 10, locals := 41 } : Room)) (fun a U => a = #[(.ref a1), (.ref r2), (.ref wD), (.int (0 : Int32))] ∧ Z.Warmed39 U.vm ∧ U.heap = h0) (fun _ _ _ _ _ => True) (fun _ U o U' => ∃ v L, o = .returned v ∧ own_Q37_a Z a1 r2 md wc wD kD h0 n0 v U'.heap L ∧ FrameEnd U o U' L ({ frames := 3, cells := 1, slots := 10, locals := 41 } : Room).cells ({ frames := 3, cells := 1, slots := 10, locals := 41 } : Room).slots) := by
  refine own_body (plainFor_of_name pn_3) (fun m => own_ef37_a m a1 r2) ?_
  intro p e s m below meth c T0 X0 hx hby hml hZ hown hnm hret hlk e0
  have hown : s.vm.findClass "java/util/ArrayList" = some m.cls := hown
  have hnm : meth.name = "add" := hnm
  have N0 := Fr.nil n0
  have K0 : Keep h0 h0 [a1] := Keep.refl _ _
  obtain ⟨S_wc, hwc, S_wD, V_wD⟩ := id SS
  refine own_st (mkF m 1 #[rv a1, rv r2, rv wD, iv (0 : Int32)] [(.int (0 : Int32))]) (fun t k => XS.iloadN X0.here hx rfl (hb hby d37_0) rfl k) ?_
  refine own_st (mkF m 2 #[rv a1, rv r2, rv wD, iv (0 : Int32)] [(.ref wD), (.int (0 : Int32))]) (fun t k => XS.aloadN X0.here hx rfl (hb hby d37_1) rfl rfl k) ?_
  obtain ⟨cl197, Ar197, -, S197, M197, -, -⟩ := id (V_wD.ext O0.2)
  refine own_step (T' := T0) (g' := (mkF m 3 #[rv a1, rv r2, rv wD, iv (0 : Int32)] [(.int cl197.slots.size.toInt32), (.int (0 : Int32))])) (X0.arraylength hx (by rw [e0]; exact Ar197.1) (State.isArrayOf_alike hZ.alike Ar197.2.1) (g := (mkF m 2 #[rv a1, rv r2, rv wD, iv (0 : Int32)] [(.ref wD), (.int (0 : Int32))])) rfl rfl (hb hby d37_2)) ?_
  rw [len_of S197 M197]
  refine own_st (mkF m 6 #[rv a1, rv r2, rv wD, iv (0 : Int32)] []) (fun t k => XS.icmpNo X0.here hx rfl (hb hby d37_3) rfl (teq (by decide : (0 : Int32) = (0 : Int32))).2 k) ?_
  refine own_st (mkF m 7 #[rv a1, rv r2, rv wD, iv (0 : Int32)] [(.ref a1)]) (fun t k => XS.aloadN X0.here hx rfl (hb hby d37_6) rfl rfl k) ?_
  obtain ⟨cq198, kq198, q198a, q198b, q198c⟩ := isOf hZ e0 E_a1
  obtain ⟨_, _, ⟨T198, L198, k198, n198⟩, -, X198, ⟨Lc198, hQ198, l198, y198, z198⟩, st198⟩ := X0.virtualBack hx (y := (⟨"java/util/ArrayList", "grow", "()[Ljava/lang/Object;"⟩ : MethodName)) (z := (⟨"java/util/ArrayList", "grow", "()[Ljava/lang/Object;"⟩ : MethodName)) hown (mvT hZ (hw_217 hw)) (mvT hZ (own_declares (hw_218 hw) (hw_221 hw))) (notFace_of_selects (args := #[]) (mvT hZ (hw_220 hw))) (mvT hZ (hw_220 hw)) (mvT hZ (hw_218 hw)) (by decide) (backOf (W := 0) (own_rm38 l Z a0 hw [] a1 md wc wD kD h0 n0 Z0 O0 SS E_a1 F_s F_m F_e g_a1) hZ (hw_221 hw) (hw_11 hw) (by decide) (by decide)) q198a q198c (g := (mkF m 7 #[rv a1, rv r2, rv wD, iv (0 : Int32)] [(.ref a1)])) rfl (by rw [hml]; rfl) (Steps.refl _) (argsL := []) (rest := []) (lenOf pd_22 rfl) rfl (by show 2 * 0 + _ ≤ _; exact Nat.le_of_eq rfl) (hb hby d37_7) (fun _ _ => ⟨rfl, e0, (by decide : 0 + 1 ≤ _), (by decide : 0 + 10 ≤ _)⟩)
  dsimp only [Pt.U, Pt.locs, Pt.cells, Pt.slots] at X198 l198 y198 z198 st198 hQ198
  subst l198 y198 z198
  obtain ⟨d198, kk198, rfl, Nq198, K198, gd198, nd198, Ex198, Fs198, Fm198, Fe198, V198, Ov198⟩ := hQ198
  have N198 := Fr.app N0 Nq198
  have g_d198 : n0 ≤ d198 := Nat.le_trans Z0 gd198
  have ne_a1_d198 : a1 ≠ d198 := Nat.ne_of_lt (Nat.lt_of_lt_of_le E_a1.lt gd198)
  have ne_r2_d198 : r2 ≠ d198 := Nat.ne_of_lt (Nat.lt_of_lt_of_le E_r2.lt gd198)
  have sz_d198 : h0.size ≤ d198 := Nat.le_trans K0.1 gd198
  have Z198 : n0 ≤ T198.heap.size := Nat.le_trans Z0 K198.1
  have O198 : Old Z n0 T198.heap := O0.keep K198 (allS g_a1 all0)
  have Kp198 : Keep h0 T198.heap [a1] := K0.trans K198 (allS (Or.inl (List.mem_of_getElem? (i := 0) rfl)) all0)
  have f1_Exa_a1 : Exa Z T198.heap a1 "java/util/ArrayList" := (E_a1.keep K198)
  have f2_Exa_r2 : Exa Z T198.heap r2 "java/lang/String" := (E_r2.keep K198)
  refine own_jump (g' := (mkF m 10 #[rv a1, rv r2, rv wD, iv (0 : Int32)] [(.ref d198)])) st198 ?_
  refine own_st (mkF m 11 #[rv a1, rv r2, rv d198, iv (0 : Int32)] []) (fun t k => XS.astoreN X198.here hx rfl (hb hby d37_10) rfl rfl (l' := #[rv a1, rv r2, rv d198, iv (0 : Int32)]) rfl k) ?_
  refine own_st (mkF m 12 #[rv a1, rv r2, rv d198, iv (0 : Int32)] [(.ref d198)]) (fun t k => XS.aloadN X198.here hx rfl (hb hby d37_11) rfl rfl k) ?_
  refine own_st (mkF m 13 #[rv a1, rv r2, rv d198, iv (0 : Int32)] [(.int (0 : Int32)), (.ref d198)]) (fun t k => XS.iloadN X198.here hx rfl (hb hby d37_12) rfl k) ?_
  refine own_st (mkF m 14 #[rv a1, rv r2, rv d198, iv (0 : Int32)] [(.ref r2), (.int (0 : Int32)), (.ref d198)]) (fun t k => XS.aloadN X198.here hx rfl (hb hby d37_13) rfl rfl k) ?_
  obtain ⟨cl199, Ar199, q199, S199, M199, H199, G199⟩ := id V198
  have hin199 : ¬ ((0 : Int32) < 0 ∨ cl199.slots.size ≤ ((0 : Int32)).toNatClampNeg) := inb_of S199 ⟨by decide, by decide⟩
  obtain ⟨T200, h200, X200, e200, W200, st200⟩ := stR X198 hx hZ rfl Ar199 (j := (0 : Int32)) hin199 rfl (Sto.ofV Ar199 q199 Ov198 (Ins.of_exa f2_Exa_r2 (hw_232 hw))) (g := (mkF m 14 #[rv a1, rv r2, rv d198, iv (0 : Int32)] [(.ref r2), (.int (0 : Int32)), (.ref d198)])) rfl rfl (hb hby d37_14)
  have f3_Exa_a1 : Exa Z h200 a1 "java/util/ArrayList" := (Ex198.wr W200)
  have f4_Exa_r2 : Exa Z h200 r2 "java/lang/String" := (f2_Exa_r2.wr W200)
  have f5_Fld_a1 : Fld Z h200 a1 "java/util/ArrayList" "size" "I" (.int (0 : Int32)) := (Fs198.other W200 (Or.inl nd198))
  have f6_Fld_a1 : Fld Z h200 a1 "java/util/AbstractList" "modCount" "I" (.int md) := (Fm198.other W200 (Or.inl nd198))
  have f7_Fld_a1 : Fld Z h200 a1 "java/util/ArrayList" "elementData" "[Ljava/lang/Object;" (.ref d198) := (Fe198.other W200 (Or.inl nd198))
  have V200 : Arv Z h200 d198 kk198 (.object "java/lang/Object") (10 : Int32) [(.ref r2), .null, .null, .null, .null, .null, .null, .null, .null, .null] .null := Arv.set Ar199 q199 S199 M199 H199 G199 rfl W200 0 rfl (Nat.le_of_ble_eq_true rfl)
  have Z200 : n0 ≤ h200.size := Nat.le_trans Z198 (Keep.of_wr W200).1
  have Kp200 : Keep h0 h200 [a1] := Kp198.wr W200 (Or.inr sz_d198)
  have O200 : Old Z n0 h200 := O198.wr W200 g_d198
  have N200 := Fr.snoc X200 N198 g_d198
  refine own_step (g' := (mkF m 15 #[rv a1, rv r2, rv d198, iv (0 : Int32)] [])) st200 ?_
  refine own_st (mkF m 16 #[rv a1, rv r2, rv d198, iv (0 : Int32)] [(.ref a1)]) (fun t k => XS.aloadN X200.here hx rfl (hb hby d37_15) rfl rfl k) ?_
  refine own_st (mkF m 17 #[rv a1, rv r2, rv d198, iv (0 : Int32)] [(.int (0 : Int32)), (.ref a1)]) (fun t k => XS.iloadN X200.here hx rfl (hb hby d37_16) rfl k) ?_
  refine own_st (mkF m 18 #[rv a1, rv r2, rv d198, iv (0 : Int32)] [(.int (1 : Int32)), (.int (0 : Int32)), (.ref a1)]) (fun t k => XS.iconst X200.here hx rfl (hb hby d37_17) k) ?_
  refine own_st (mkF m 19 #[rv a1, rv r2, rv d198, iv (0 : Int32)] [(.int ((0 : Int32) + (1 : Int32))), (.ref a1)]) (fun t k => XS.iadd X200.here hx rfl (hb hby d37_18) rfl k) ?_
  rw [show ((0 : Int32) + (1 : Int32)) = (1 : Int32) from by decide]
  obtain ⟨T201, h201, X201, e201, W201, st201⟩ := putF X200 hx hZ hown (host := "") (Or.inl (hw_51 hw)) Via.refl e200 f5_Fld_a1 f3_Exa_a1 (Or.inl (hw_52 hw)) (hw_10 hw) (ty := .int) (by decide) rfl rfl (g := (mkF m 19 #[rv a1, rv r2, rv d198, iv (0 : Int32)] [(.int (1 : Int32)), (.ref a1)])) rfl rfl (hb hby d37_19)
  have f8_Exa_a1 : Exa Z h201 a1 "java/util/ArrayList" := (f3_Exa_a1.wr W201)
  have f9_Exa_r2 : Exa Z h201 r2 "java/lang/String" := (f4_Exa_r2.wr W201)
  have f10_Arv_d198 : Arv Z h201 d198 kk198 (.object "java/lang/Object") (10 : Int32) [(.ref r2), .null, .null, .null, .null, .null, .null, .null, .null, .null] .null := (V200.other W201 (Ne.symm nd198))
  have f11_Fld_a1 : Fld Z h201 a1 "java/util/AbstractList" "modCount" "I" (.int md) := (f6_Fld_a1.other W201 (Or.inr (slot_ne (a0 := a0) (C := "java/util/ArrayList") (Or.inl (hw_29 hw)) (Or.inl (hw_52 hw)) (by decide) (t := .int) (t' := .int) (by decide) (by decide))))
  have f12_Fld_a1 : Fld Z h201 a1 "java/util/ArrayList" "elementData" "[Ljava/lang/Object;" (.ref d198) := (f7_Fld_a1.other W201 (Or.inr (slot_ne (a0 := a0) (C := "java/util/ArrayList") (Or.inl (hw_32 hw)) (Or.inl (hw_52 hw)) (by decide) (t := (.array (.object "java/lang/Object"))) (t' := .int) (by decide) (by decide))))
  have fw201 : Fld Z h201 a1 "java/util/ArrayList" "size" "I" (.int (1 : Int32)) := f5_Fld_a1.same W201
  have Z201 : n0 ≤ h201.size := Nat.le_trans Z200 (Keep.of_wr W201).1
  have Kp201 : Keep h0 h201 [a1] := Kp200.wr W201 (Or.inl (List.mem_of_getElem? (i := 0) rfl))
  have O201 : Old Z n0 h201 := O200.wr W201 g_a1
  have N201 := Fr.snoc X201 N200 g_a1
  refine own_step (g' := (mkF m 22 #[rv a1, rv r2, rv d198, iv (0 : Int32)] [])) st201 ?_
  refine own_ret X201 hlk (v := none) (fun _ => rfl) (fun fs hr => X201.returnOut hx hret (hb hby d37_22) hr) ?_ (by decide) (by decide)
  show own_Q37_a Z a1 r2 md wc wD kD h0 n0 _ T201.heap _
  rw [e201]
  exact ⟨d198, kk198, rfl, N201, Kp201, sz_d198, nd198, f8_Exa_a1, fw201, f11_Fld_a1, f12_Fld_a1, f10_Arv_d198, Ov198⟩
theorem own_ef37_b (m : MethodId) (a1 : Addr) (r2 : Addr) (dd : Addr) (p4 : Int32) : entryFrame m #[(.ref a1), (.ref r2), (.ref dd), (.int p4)] 4 = mkF m 0 #[rv a1, rv r2, rv dd, iv p4] [] := by first | (simp [entryFrame, mkF, argsToLocals, Value.category]; done) | rfl
def own_Q37_b (Z : State) (a1 : Addr) (r2 : Addr) (dd : Addr) (p4 : Int32) (md : Int32) (k : Nat) (kk : ClassId) (vs : List Value) (h0 : Heap) (n0 : Nat) (v : Option Value) (h : Heap) (L : List Loc) : Prop := v = none ∧ Fr n0 L ∧ Keep h0 h [a1, dd] ∧ Exa Z h a1 "java/util/ArrayList" ∧ Fld Z h a1 "java/util/ArrayList" "size" "I" (.int (p4 + (1 : Int32))) ∧ Fld Z h a1 "java/util/AbstractList" "modCount" "I" (.int md) ∧ Fld Z h a1 "java/util/ArrayList" "elementData" "[Ljava/lang/Object;" (.ref dd) ∧ Arv Z h dd kk (.object "java/lang/Object") (10 : Int32) (vs.set k (.ref r2)) .null
set_option maxRecDepth 65536 in
set_option maxHeartbeats 40000000 in
theorem own_rm37_b (l : Launch) (Z : State) (a0 : Array Value) (hw : own_W a0 Z) (ws : List Jvm.Cond) (a1 : Addr) (r2 : Addr) (dd : Addr) (p4 : Int32) (md : Int32) (k : Nat) (kk : ClassId) (vs : List Value) (h0 : Heap) (n0 : Nat) (Z0 : n0 ≤ h0.size) (hp : p4.toInt = (k : Int)) (h1 : 1 ≤ k) (h8 : k ≤ 8) (hvl : vs.length = 10) (hov : Ovr Z kk "java/lang/Object") (E_a1 : Exa Z h0 a1 "java/util/ArrayList") (F_s : Fld Z h0 a1 "java/util/ArrayList" "size" "I" (.int p4)) (F_m : Fld Z h0 a1 "java/util/AbstractList" "modCount" "I" (.int md)) (F_e : Fld Z h0 a1 "java/util/ArrayList" "elementData" "[Ljava/lang/Object;" (.ref dd)) (V0 : Arv Z h0 dd kk (.object "java/lang/Object") (10 : Int32) vs .null) (E_r2 : Exa Z h0 r2 "java/lang/String") (g_a1 : n0 ≤ a1) (g_dd : n0 ≤ dd) (ne_ad : a1 ≠ dd) :
    MetFree l (⟨"java/util/ArrayList", "add", "(Ljava/lang/Object;[Ljava/lang/Object;I)V"⟩ : MethodName) (head1 (Jvm.Cond.code (⟨"java/util/ArrayList", "add", "(Ljava/lang/Object;[Ljava/lang/Object;I)V"⟩ : MethodName) jdk_38_method_24_code 4 none :: ws) ({ frames := 0, cells := 0, slots := 0, locals := 0 } : Room)) (fun a U => a = #[(.ref a1), (.ref r2), (.ref dd), (.int p4)] ∧ Z.Warmed39 U.vm ∧ U.heap = h0) (fun _ _ _ _ _ => True) (fun _ U o U' => ∃ v L, o = .returned v ∧ own_Q37_b Z a1 r2 dd p4 md k kk vs h0 n0 v U'.heap L ∧ FrameEnd U o U' L ({ frames := 0, cells := 0, slots := 0, locals := 0 } : Room).cells ({ frames := 0, cells := 0, slots := 0, locals := 0 } : Room).slots) := by
  refine own_body (plainFor_of_name pn_3) (fun m => own_ef37_b m a1 r2 dd p4) ?_
  intro p e s m below meth c T0 X0 hx hby hml hZ hown hnm hret hlk e0
  have hown : s.vm.findClass "java/util/ArrayList" = some m.cls := hown
  have hnm : meth.name = "add" := hnm
  have N0 := Fr.nil n0
  have K0 : Keep h0 h0 [a1, dd] := Keep.refl _ _
  have hne : ¬ p4 = (10 : Int32) := fun q => by rw [q] at hp; have e : (10 : Int32).toInt = 10 := rfl; omega
  refine own_st (mkF m 1 #[rv a1, rv r2, rv dd, iv p4] [(.int p4)]) (fun t k => XS.iloadN X0.here hx rfl (hb hby d37_0) rfl k) ?_
  refine own_st (mkF m 2 #[rv a1, rv r2, rv dd, iv p4] [(.ref dd), (.int p4)]) (fun t k => XS.aloadN X0.here hx rfl (hb hby d37_1) rfl rfl k) ?_
  obtain ⟨cl202, Ar202, -, S202, M202, -, -⟩ := id V0
  refine own_step (T' := T0) (g' := (mkF m 3 #[rv a1, rv r2, rv dd, iv p4] [(.int cl202.slots.size.toInt32), (.int p4)])) (X0.arraylength hx (by rw [e0]; exact Ar202.1) (State.isArrayOf_alike hZ.alike Ar202.2.1) (g := (mkF m 2 #[rv a1, rv r2, rv dd, iv p4] [(.ref dd), (.int p4)])) rfl rfl (hb hby d37_2)) ?_
  rw [len_of S202 M202]
  refine own_st (mkF m 11 #[rv a1, rv r2, rv dd, iv p4] []) (fun t k => XS.icmpYes X0.here hx rfl (pc0 := 3) (pc' := 11) rfl (hb hby d37_3) rfl (feq hne).2 (by decide) (by decide) k) ?_
  refine own_st (mkF m 12 #[rv a1, rv r2, rv dd, iv p4] [(.ref dd)]) (fun t k => XS.aloadN X0.here hx rfl (hb hby d37_11) rfl rfl k) ?_
  refine own_st (mkF m 13 #[rv a1, rv r2, rv dd, iv p4] [(.int p4), (.ref dd)]) (fun t k => XS.iloadN X0.here hx rfl (hb hby d37_12) rfl k) ?_
  refine own_st (mkF m 14 #[rv a1, rv r2, rv dd, iv p4] [(.ref r2), (.int p4), (.ref dd)]) (fun t k => XS.aloadN X0.here hx rfl (hb hby d37_13) rfl rfl k) ?_
  obtain ⟨cl203, Ar203, q203, S203, M203, H203, G203⟩ := id V0
  have hin203 : ¬ (p4 < 0 ∨ cl203.slots.size ≤ (p4).toNatClampNeg) := inb_of S203 (own_lt32 hp (k := 10) rfl (by omega))
  obtain ⟨T204, h204, X204, e204, W204, st204⟩ := stR X0 hx hZ e0 Ar203 (j := p4) hin203 rfl (Sto.ofV Ar203 q203 hov (Ins.of_exa E_r2 (hw_232 hw))) (g := (mkF m 14 #[rv a1, rv r2, rv dd, iv p4] [(.ref r2), (.int p4), (.ref dd)])) rfl rfl (hb hby d37_14)
  have f1_Exa_a1 : Exa Z h204 a1 "java/util/ArrayList" := (E_a1.wr W204)
  have f2_Fld_a1 : Fld Z h204 a1 "java/util/ArrayList" "size" "I" (.int p4) := (F_s.other W204 (Or.inl ne_ad))
  have f3_Fld_a1 : Fld Z h204 a1 "java/util/AbstractList" "modCount" "I" (.int md) := (F_m.other W204 (Or.inl ne_ad))
  have f4_Fld_a1 : Fld Z h204 a1 "java/util/ArrayList" "elementData" "[Ljava/lang/Object;" (.ref dd) := (F_e.other W204 (Or.inl ne_ad))
  have f5_Exa_r2 : Exa Z h204 r2 "java/lang/String" := (E_r2.wr W204)
  have V204 : Arv Z h204 dd kk (.object "java/lang/Object") (10 : Int32) (vs.set k (.ref r2)) .null := Arv.set Ar203 q203 S203 M203 H203 G203 rfl W204 k (own_i32 hp) (by omega)
  have Z204 : n0 ≤ h204.size := Nat.le_trans Z0 (Keep.of_wr W204).1
  have Kp204 : Keep h0 h204 [a1, dd] := K0.wr W204 (Or.inl (List.mem_of_getElem? (i := 1) rfl))
  have N204 := Fr.snoc X204 N0 g_dd
  refine own_step (g' := (mkF m 15 #[rv a1, rv r2, rv dd, iv p4] [])) st204 ?_
  refine own_st (mkF m 16 #[rv a1, rv r2, rv dd, iv p4] [(.ref a1)]) (fun t k => XS.aloadN X204.here hx rfl (hb hby d37_15) rfl rfl k) ?_
  refine own_st (mkF m 17 #[rv a1, rv r2, rv dd, iv p4] [(.int p4), (.ref a1)]) (fun t k => XS.iloadN X204.here hx rfl (hb hby d37_16) rfl k) ?_
  refine own_st (mkF m 18 #[rv a1, rv r2, rv dd, iv p4] [(.int (1 : Int32)), (.int p4), (.ref a1)]) (fun t k => XS.iconst X204.here hx rfl (hb hby d37_17) k) ?_
  refine own_st (mkF m 19 #[rv a1, rv r2, rv dd, iv p4] [(.int (p4 + (1 : Int32))), (.ref a1)]) (fun t k => XS.iadd X204.here hx rfl (hb hby d37_18) rfl k) ?_
  obtain ⟨T205, h205, X205, e205, W205, st205⟩ := putF X204 hx hZ hown (host := "") (Or.inl (hw_51 hw)) Via.refl e204 f2_Fld_a1 f1_Exa_a1 (Or.inl (hw_52 hw)) (hw_10 hw) (ty := .int) (by decide) rfl rfl (g := (mkF m 19 #[rv a1, rv r2, rv dd, iv p4] [(.int (p4 + (1 : Int32))), (.ref a1)])) rfl rfl (hb hby d37_19)
  have f6_Exa_a1 : Exa Z h205 a1 "java/util/ArrayList" := (f1_Exa_a1.wr W205)
  have f7_Fld_a1 : Fld Z h205 a1 "java/util/AbstractList" "modCount" "I" (.int md) := (f3_Fld_a1.other W205 (Or.inr (slot_ne (a0 := a0) (C := "java/util/ArrayList") (Or.inl (hw_29 hw)) (Or.inl (hw_52 hw)) (by decide) (t := .int) (t' := .int) (by decide) (by decide))))
  have f8_Fld_a1 : Fld Z h205 a1 "java/util/ArrayList" "elementData" "[Ljava/lang/Object;" (.ref dd) := (f4_Fld_a1.other W205 (Or.inr (slot_ne (a0 := a0) (C := "java/util/ArrayList") (Or.inl (hw_32 hw)) (Or.inl (hw_52 hw)) (by decide) (t := (.array (.object "java/lang/Object"))) (t' := .int) (by decide) (by decide))))
  have f9_Arv_dd : Arv Z h205 dd kk (.object "java/lang/Object") (10 : Int32) (vs.set k (.ref r2)) .null := (V204.other W205 (Ne.symm ne_ad))
  have f10_Exa_r2 : Exa Z h205 r2 "java/lang/String" := (f5_Exa_r2.wr W205)
  have fw205 : Fld Z h205 a1 "java/util/ArrayList" "size" "I" (.int (p4 + (1 : Int32))) := f2_Fld_a1.same W205
  have Z205 : n0 ≤ h205.size := Nat.le_trans Z204 (Keep.of_wr W205).1
  have Kp205 : Keep h0 h205 [a1, dd] := Kp204.wr W205 (Or.inl (List.mem_of_getElem? (i := 0) rfl))
  have N205 := Fr.snoc X205 N204 g_a1
  refine own_step (g' := (mkF m 22 #[rv a1, rv r2, rv dd, iv p4] [])) st205 ?_
  refine own_ret X205 hlk (v := none) (fun _ => rfl) (fun fs hr => X205.returnOut hx hret (hb hby d37_22) hr) ?_ (by decide) (by decide)
  show own_Q37_b Z a1 r2 dd p4 md k kk vs h0 n0 _ T205.heap _
  rw [e205]
  exact ⟨rfl, N205, Kp205, f6_Exa_a1, fw205, f7_Fld_a1, f8_Fld_a1, f9_Arv_dd⟩
theorem d36_0 : decode jdk_38_method_25_code 0 = .ok (.aload_n 0, 1) := by decide +kernel
theorem d36_1 : decode jdk_38_method_25_code 1 = .ok (.dup, 1) := by decide +kernel
theorem d36_2 : decode jdk_38_method_25_code 2 = .ok (.getfield 63, 3) := by decide +kernel
theorem hw_210 {a0 Z} (hw : own_W a0 Z) : (Jvm.Cond.fieldLink "java/util/ArrayList" (63 : Nat) "java/util/ArrayList" "modCount" "I").before a0 Z = true := hw _ (List.mem_of_getElem? (i := 210) rfl)
theorem hw_211 {a0 Z} (hw : own_W a0 Z) : (Jvm.Cond.sameField "java/util/ArrayList" "java/util/AbstractList" "modCount" "I").before a0 Z = true := hw _ (List.mem_of_getElem? (i := 211) rfl)
theorem d36_5 : decode jdk_38_method_25_code 5 = .ok (.iconst 1, 1) := by decide +kernel
theorem d36_6 : decode jdk_38_method_25_code 6 = .ok (.iadd, 1) := by decide +kernel
theorem d36_7 : decode jdk_38_method_25_code 7 = .ok (.putfield 63, 3) := by decide +kernel
theorem d36_10 : decode jdk_38_method_25_code 10 = .ok (.aload_n 0, 1) := by decide +kernel
theorem d36_11 : decode jdk_38_method_25_code 11 = .ok (.aload_n 1, 1) := by decide +kernel
theorem d36_12 : decode jdk_38_method_25_code 12 = .ok (.aload_n 0, 1) := by decide +kernel
theorem d36_13 : decode jdk_38_method_25_code 13 = .ok (.getfield 9, 3) := by decide +kernel
theorem d36_16 : decode jdk_38_method_25_code 16 = .ok (.aload_n 0, 1) := by decide +kernel
theorem d36_17 : decode jdk_38_method_25_code 17 = .ok (.getfield 48, 3) := by decide +kernel
theorem d36_20 : decode jdk_38_method_25_code 20 = .ok (.invokevirtual 131, 3) := by decide +kernel
theorem hw_212 {a0 Z} (hw : own_W a0 Z) : (Jvm.Cond.methodLink "java/util/ArrayList" (131 : Nat) ({ cls := "java/util/ArrayList", name := "add", desc := "(Ljava/lang/Object;[Ljava/lang/Object;I)V" } : Jvm.MethodName)).before a0 Z = true := hw _ (List.mem_of_getElem? (i := 212) rfl)
theorem hw_216 {a0 Z} (hw : own_W a0 Z) : (Jvm.Cond.code ({ cls := "java/util/ArrayList", name := "add", desc := "(Ljava/lang/Object;[Ljava/lang/Object;I)V" } : Jvm.MethodName) jdk_38_method_24_code (4 : Nat) (Option.none : Option Jvm.ClassFile.FieldType)).before a0 Z = true := hw _ (List.mem_of_getElem? (i := 216) rfl)
theorem pd_23 : parseMethodDescriptor "(Ljava/lang/Object;[Ljava/lang/Object;I)V" = some ⟨[(.object "java/lang/Object"), (.array (.object "java/lang/Object")), .int], none⟩ := by decide +kernel
theorem hw_215 {a0 Z} (hw : own_W a0 Z) : (Jvm.Cond.selects "java/util/ArrayList" ({ cls := "java/util/ArrayList", name := "add", desc := "(Ljava/lang/Object;[Ljava/lang/Object;I)V" } : Jvm.MethodName) ({ cls := "java/util/ArrayList", name := "add", desc := "(Ljava/lang/Object;[Ljava/lang/Object;I)V" } : Jvm.MethodName)).before a0 Z = true := hw _ (List.mem_of_getElem? (i := 215) rfl)
theorem hw_213 {a0 Z} (hw : own_W a0 Z) : (Jvm.Cond.instanceMethod ({ cls := "java/util/ArrayList", name := "add", desc := "(Ljava/lang/Object;[Ljava/lang/Object;I)V" } : Jvm.MethodName)).before a0 Z = true := hw _ (List.mem_of_getElem? (i := 213) rfl)
theorem d36_23 : decode jdk_38_method_25_code 23 = .ok (.iconst 1, 1) := by decide +kernel
theorem d36_24 : decode jdk_38_method_25_code 24 = .ok (.ireturn, 1) := by decide +kernel
theorem own_ef36 (m : MethodId) (a1 : Addr) (r2 : Addr) : entryFrame m #[(.ref a1), (.ref r2)] 2 = mkF m 0 #[rv a1, rv r2] [] := by first | (simp [entryFrame, mkF, argsToLocals, Value.category]; done) | rfl
def own_Q36 (Z : State) (a1 : Addr) (r2 : Addr) (k : Nat) (dd : Addr) (f : Value) (wc : Int32) (wD : Addr) (kD : ClassId) (h0 : Heap) (n0 : Nat) (v : Option Value) (h : Heap) (L : List Loc) : Prop := ∃ dn : Addr, v = some (.int (1 : Int32)) ∧ Fr n0 L ∧ Keep h0 h [a1, dd] ∧ own_AL Z wD h n0 a1 (k + 1) dn (own_fst k r2 f) ∧ (dn = dd ∨ h0.size ≤ dn)
set_option maxRecDepth 65536 in
set_option maxHeartbeats 40000000 in
theorem own_rm36 (l : Launch) (Z : State) (a0 : Array Value) (hw : own_W a0 Z) (ws : List Jvm.Cond) (a1 : Addr) (r2 : Addr) (k : Nat) (dd : Addr) (f : Value) (wc : Int32) (wD : Addr) (kD : ClassId) (h0 : Heap) (n0 : Nat) (Z0 : n0 ≤ h0.size) (O0 : Old Z n0 h0) (SS : own_St Z wc wD kD) (h8 : k ≤ 8) (A0 : own_AL Z wD h0 n0 a1 k dd f) (E_r2 : Exa Z h0 r2 "java/lang/String") :
    MetFree l (⟨"java/util/ArrayList", "add", "(Ljava/lang/Object;)Z"⟩ : MethodName) (head1 (Jvm.Cond.code (⟨"java/util/ArrayList", "add", "(Ljava/lang/Object;)Z"⟩ : MethodName) jdk_38_method_25_code 2 (some .boolean) :: ws) ({ frames := 4, cells := 1, slots := 10, locals := 56 } : Room)) (fun a U => a = #[(.ref a1), (.ref r2)] ∧ Z.Warmed39 U.vm ∧ U.heap = h0) (fun _ _ _ _ _ => True) (fun _ U o U' => ∃ v L, o = .returned v ∧ own_Q36 Z a1 r2 k dd f wc wD kD h0 n0 v U'.heap L ∧ FrameEnd U o U' L ({ frames := 4, cells := 1, slots := 10, locals := 56 } : Room).cells ({ frames := 4, cells := 1, slots := 10, locals := 56 } : Room).slots) := by
  refine own_body (plainFor_of_name pn_3) (fun m => own_ef36 m a1 r2) ?_
  intro p e s m below meth c T0 X0 hx hby hml hZ hown hnm hret hlk e0
  have hown : s.vm.findClass "java/util/ArrayList" = some m.cls := hown
  have hnm : meth.name = "add" := hnm
  have N0 := Fr.nil n0
  have K0 : Keep h0 h0 [a1, dd] := Keep.refl _ _
  obtain ⟨g_a1, g_dd, E_a1, F_s, ⟨md, F_m⟩, HA⟩ := id A0
  rcases HA with ⟨hk0, hdd, F_e⟩ | ⟨hk1, ne_ad, F_e, kk, vs, V0, hvl, hov, hf⟩
  · have F_s : Fld Z h0 a1 "java/util/ArrayList" "size" "I" (.int (0 : Int32)) := by rw [hk0] at F_s; exact F_s
    refine own_st (mkF m 1 #[rv a1, rv r2] [(.ref a1)]) (fun t k => XS.aloadN X0.here hx rfl (hb hby d36_0) rfl rfl k) ?_
    refine own_st (mkF m 2 #[rv a1, rv r2] [(.ref a1), (.ref a1)]) (fun t k => XS.dup X0.here hx rfl (hb hby d36_1) rfl rfl k) ?_
    obtain ⟨T206, X206, e206, st206⟩ := getF X0 hx hZ hown (host := "") (Or.inl (hw_210 hw)) (Via.of (hw_211 hw)) e0 F_m (g := (mkF m 2 #[rv a1, rv r2] [(.ref a1), (.ref a1)])) rfl rfl (hb hby d36_2)
    refine own_step (g' := (mkF m 5 #[rv a1, rv r2] [(.int md), (.ref a1)])) st206 ?_
    refine own_st (mkF m 6 #[rv a1, rv r2] [(.int (1 : Int32)), (.int md), (.ref a1)]) (fun t k => XS.iconst X206.here hx rfl (hb hby d36_5) k) ?_
    refine own_st (mkF m 7 #[rv a1, rv r2] [(.int (md + (1 : Int32))), (.ref a1)]) (fun t k => XS.iadd X206.here hx rfl (hb hby d36_6) rfl k) ?_
    obtain ⟨T207, h207, X207, e207, W207, st207⟩ := putF X206 hx hZ hown (host := "") (Or.inl (hw_210 hw)) (Via.of (hw_211 hw)) e206 F_m E_a1 (Or.inl (hw_29 hw)) (hw_10 hw) (ty := .int) (by decide) rfl rfl (g := (mkF m 7 #[rv a1, rv r2] [(.int (md + (1 : Int32))), (.ref a1)])) rfl rfl (hb hby d36_7)
    have f1_Exa_r2 : Exa Z h207 r2 "java/lang/String" := (E_r2.wr W207)
    have f2_Exa_a1 : Exa Z h207 a1 "java/util/ArrayList" := (E_a1.wr W207)
    have f3_Fld_a1 : Fld Z h207 a1 "java/util/ArrayList" "size" "I" (.int (0 : Int32)) := (F_s.other W207 (Or.inr (slot_ne (a0 := a0) (C := "java/util/ArrayList") (Or.inl (hw_52 hw)) (Or.inl (hw_29 hw)) (by decide) (t := .int) (t' := .int) (by decide) (by decide))))
    have f4_Fld_a1 : Fld Z h207 a1 "java/util/ArrayList" "elementData" "[Ljava/lang/Object;" (.ref wD) := (F_e.other W207 (Or.inr (slot_ne (a0 := a0) (C := "java/util/ArrayList") (Or.inl (hw_32 hw)) (Or.inl (hw_29 hw)) (by decide) (t := (.array (.object "java/lang/Object"))) (t' := .int) (by decide) (by decide))))
    have fw207 : Fld Z h207 a1 "java/util/AbstractList" "modCount" "I" (.int (md + (1 : Int32))) := F_m.same W207
    have Z207 : n0 ≤ h207.size := Nat.le_trans Z0 (Keep.of_wr W207).1
    have Kp207 : Keep h0 h207 [a1, dd] := K0.wr W207 (Or.inl (List.mem_of_getElem? (i := 0) rfl))
    have O207 : Old Z n0 h207 := O0.wr W207 g_a1
    have N207 := Fr.snoc X207 N0 g_a1
    refine own_step (g' := (mkF m 10 #[rv a1, rv r2] [])) st207 ?_
    refine own_st (mkF m 11 #[rv a1, rv r2] [(.ref a1)]) (fun t k => XS.aloadN X207.here hx rfl (hb hby d36_10) rfl rfl k) ?_
    refine own_st (mkF m 12 #[rv a1, rv r2] [(.ref r2), (.ref a1)]) (fun t k => XS.aloadN X207.here hx rfl (hb hby d36_11) rfl rfl k) ?_
    refine own_st (mkF m 13 #[rv a1, rv r2] [(.ref a1), (.ref r2), (.ref a1)]) (fun t k => XS.aloadN X207.here hx rfl (hb hby d36_12) rfl rfl k) ?_
    obtain ⟨T208, X208, e208, st208⟩ := getF X207 hx hZ hown (host := "") (Or.inl (hw_31 hw)) Via.refl e207 f4_Fld_a1 (g := (mkF m 13 #[rv a1, rv r2] [(.ref a1), (.ref r2), (.ref a1)])) rfl rfl (hb hby d36_13)
    refine own_step (g' := (mkF m 16 #[rv a1, rv r2] [(.ref wD), (.ref r2), (.ref a1)])) st208 ?_
    refine own_st (mkF m 17 #[rv a1, rv r2] [(.ref a1), (.ref wD), (.ref r2), (.ref a1)]) (fun t k => XS.aloadN X208.here hx rfl (hb hby d36_16) rfl rfl k) ?_
    obtain ⟨T209, X209, e209, st209⟩ := getF X208 hx hZ hown (host := "") (Or.inl (hw_51 hw)) Via.refl e208 f3_Fld_a1 (g := (mkF m 17 #[rv a1, rv r2] [(.ref a1), (.ref wD), (.ref r2), (.ref a1)])) rfl rfl (hb hby d36_17)
    refine own_step (g' := (mkF m 20 #[rv a1, rv r2] [(.int (0 : Int32)), (.ref wD), (.ref r2), (.ref a1)])) st209 ?_
    obtain ⟨cq210, kq210, q210a, q210b, q210c⟩ := isOf hZ e209 f2_Exa_a1
    obtain ⟨_, _, ⟨T210, L210, k210, n210⟩, -, X210, ⟨Lc210, hQ210, l210, y210, z210⟩, st210⟩ := X209.virtualBack hx (y := (⟨"java/util/ArrayList", "add", "(Ljava/lang/Object;[Ljava/lang/Object;I)V"⟩ : MethodName)) (z := (⟨"java/util/ArrayList", "add", "(Ljava/lang/Object;[Ljava/lang/Object;I)V"⟩ : MethodName)) hown (mvT hZ (hw_212 hw)) (mvT hZ (own_declares (hw_213 hw) (hw_216 hw))) (notFace_of_selects (args := #[]) (mvT hZ (hw_215 hw))) (mvT hZ (hw_215 hw)) (mvT hZ (hw_213 hw)) (by decide) (backOf (W := 0) (own_rm37_a l Z a0 hw [] a1 r2 (md + (1 : Int32)) wc wD kD h207 n0 Z207 O207 SS f2_Exa_a1 f3_Fld_a1 fw207 f4_Fld_a1 f1_Exa_r2 g_a1) hZ (hw_216 hw) (hw_11 hw) (by decide) (by decide)) q210a q210c (g := (mkF m 20 #[rv a1, rv r2] [(.int (0 : Int32)), (.ref wD), (.ref r2), (.ref a1)])) rfl (by rw [hml]; rfl) (Steps.refl _) (argsL := [(.ref r2), (.ref wD), (.int (0 : Int32))]) (rest := []) (lenOf pd_23 rfl) rfl (by show 2 * 0 + _ ≤ _; exact Nat.le_of_eq rfl) (hb hby d36_20) (fun _ _ => ⟨rfl, e209, (by decide : 0 + 1 ≤ _), (by decide : 0 + 10 ≤ _)⟩)
    dsimp only [Pt.U, Pt.locs, Pt.cells, Pt.slots] at X210 l210 y210 z210 st210 hQ210
    subst l210 y210 z210
    obtain ⟨d210, kk210, rfl, Nq210, K210, gd210, nd210, Ex210, Fs210, Fm210, Fe210, V210, Ov210⟩ := hQ210
    have N210 := Fr.app N207 Nq210
    have g_d210 : n0 ≤ d210 := Nat.le_trans Z207 gd210
    have ne_r2_d210 : r2 ≠ d210 := Nat.ne_of_lt (Nat.lt_of_lt_of_le f1_Exa_r2.lt gd210)
    have ne_a1_d210 : a1 ≠ d210 := Nat.ne_of_lt (Nat.lt_of_lt_of_le f2_Exa_a1.lt gd210)
    have sz_d210 : h0.size ≤ d210 := Nat.le_trans Kp207.1 gd210
    have Z210 : n0 ≤ T210.heap.size := Nat.le_trans Z207 K210.1
    have O210 : Old Z n0 T210.heap := O207.keep K210 (allS g_a1 all0)
    have Kp210 : Keep h0 T210.heap [a1, dd] := Kp207.trans K210 (allS (Or.inl (List.mem_of_getElem? (i := 0) rfl)) all0)
    have f5_Exa_r2 : Exa Z T210.heap r2 "java/lang/String" := (f1_Exa_r2.keep K210)
    have f6_Exa_a1 : Exa Z T210.heap a1 "java/util/ArrayList" := (f2_Exa_a1.keep K210)
    refine own_jump (g' := (mkF m 23 #[rv a1, rv r2] [])) st210 ?_
    refine own_st (mkF m 24 #[rv a1, rv r2] [(.int (1 : Int32))]) (fun t k => XS.iconst X210.here hx rfl (hb hby d36_23) k) ?_
    refine own_ret X210 hlk (v := some (.int (1 : Int32))) (fun h => by rw [hret] at h; cases h) (fun fs hr => retN X210 hx (t := .boolean) hret (by simp) (hb hby d36_24) hr) ?_ (by decide) (by decide)
    show own_Q36 Z a1 r2 k dd f wc wD kD h0 n0 _ T210.heap _
    exact ⟨d210, rfl, N210, Kp210, by rw [hk0]; exact ⟨g_a1, g_d210, Ex210, Fs210, ⟨_, Fm210⟩, Or.inr ⟨Nat.le_refl 1, nd210, Fe210, _, _, V210, rfl, Ov210, rfl⟩⟩, Or.inr sz_d210⟩
  · refine own_st (mkF m 1 #[rv a1, rv r2] [(.ref a1)]) (fun t k => XS.aloadN X0.here hx rfl (hb hby d36_0) rfl rfl k) ?_
    refine own_st (mkF m 2 #[rv a1, rv r2] [(.ref a1), (.ref a1)]) (fun t k => XS.dup X0.here hx rfl (hb hby d36_1) rfl rfl k) ?_
    obtain ⟨T211, X211, e211, st211⟩ := getF X0 hx hZ hown (host := "") (Or.inl (hw_210 hw)) (Via.of (hw_211 hw)) e0 F_m (g := (mkF m 2 #[rv a1, rv r2] [(.ref a1), (.ref a1)])) rfl rfl (hb hby d36_2)
    refine own_step (g' := (mkF m 5 #[rv a1, rv r2] [(.int md), (.ref a1)])) st211 ?_
    refine own_st (mkF m 6 #[rv a1, rv r2] [(.int (1 : Int32)), (.int md), (.ref a1)]) (fun t k => XS.iconst X211.here hx rfl (hb hby d36_5) k) ?_
    refine own_st (mkF m 7 #[rv a1, rv r2] [(.int (md + (1 : Int32))), (.ref a1)]) (fun t k => XS.iadd X211.here hx rfl (hb hby d36_6) rfl k) ?_
    obtain ⟨T212, h212, X212, e212, W212, st212⟩ := putF X211 hx hZ hown (host := "") (Or.inl (hw_210 hw)) (Via.of (hw_211 hw)) e211 F_m E_a1 (Or.inl (hw_29 hw)) (hw_10 hw) (ty := .int) (by decide) rfl rfl (g := (mkF m 7 #[rv a1, rv r2] [(.int (md + (1 : Int32))), (.ref a1)])) rfl rfl (hb hby d36_7)
    have f7_Exa_r2 : Exa Z h212 r2 "java/lang/String" := (E_r2.wr W212)
    have f8_Arv_dd : Arv Z h212 dd kk (.object "java/lang/Object") (10 : Int32) vs .null := (V0.other W212 (Ne.symm ne_ad))
    have f9_Exa_a1 : Exa Z h212 a1 "java/util/ArrayList" := (E_a1.wr W212)
    have f10_Fld_a1 : Fld Z h212 a1 "java/util/ArrayList" "size" "I" (.int (Int32.ofNat k)) := (F_s.other W212 (Or.inr (slot_ne (a0 := a0) (C := "java/util/ArrayList") (Or.inl (hw_52 hw)) (Or.inl (hw_29 hw)) (by decide) (t := .int) (t' := .int) (by decide) (by decide))))
    have f11_Fld_a1 : Fld Z h212 a1 "java/util/ArrayList" "elementData" "[Ljava/lang/Object;" (.ref dd) := (F_e.other W212 (Or.inr (slot_ne (a0 := a0) (C := "java/util/ArrayList") (Or.inl (hw_32 hw)) (Or.inl (hw_29 hw)) (by decide) (t := (.array (.object "java/lang/Object"))) (t' := .int) (by decide) (by decide))))
    have fw212 : Fld Z h212 a1 "java/util/AbstractList" "modCount" "I" (.int (md + (1 : Int32))) := F_m.same W212
    have Z212 : n0 ≤ h212.size := Nat.le_trans Z0 (Keep.of_wr W212).1
    have Kp212 : Keep h0 h212 [a1, dd] := K0.wr W212 (Or.inl (List.mem_of_getElem? (i := 0) rfl))
    have O212 : Old Z n0 h212 := O0.wr W212 g_a1
    have N212 := Fr.snoc X212 N0 g_a1
    refine own_step (g' := (mkF m 10 #[rv a1, rv r2] [])) st212 ?_
    refine own_st (mkF m 11 #[rv a1, rv r2] [(.ref a1)]) (fun t k => XS.aloadN X212.here hx rfl (hb hby d36_10) rfl rfl k) ?_
    refine own_st (mkF m 12 #[rv a1, rv r2] [(.ref r2), (.ref a1)]) (fun t k => XS.aloadN X212.here hx rfl (hb hby d36_11) rfl rfl k) ?_
    refine own_st (mkF m 13 #[rv a1, rv r2] [(.ref a1), (.ref r2), (.ref a1)]) (fun t k => XS.aloadN X212.here hx rfl (hb hby d36_12) rfl rfl k) ?_
    obtain ⟨T213, X213, e213, st213⟩ := getF X212 hx hZ hown (host := "") (Or.inl (hw_31 hw)) Via.refl e212 f11_Fld_a1 (g := (mkF m 13 #[rv a1, rv r2] [(.ref a1), (.ref r2), (.ref a1)])) rfl rfl (hb hby d36_13)
    refine own_step (g' := (mkF m 16 #[rv a1, rv r2] [(.ref dd), (.ref r2), (.ref a1)])) st213 ?_
    refine own_st (mkF m 17 #[rv a1, rv r2] [(.ref a1), (.ref dd), (.ref r2), (.ref a1)]) (fun t k => XS.aloadN X213.here hx rfl (hb hby d36_16) rfl rfl k) ?_
    obtain ⟨T214, X214, e214, st214⟩ := getF X213 hx hZ hown (host := "") (Or.inl (hw_51 hw)) Via.refl e213 f10_Fld_a1 (g := (mkF m 17 #[rv a1, rv r2] [(.ref a1), (.ref dd), (.ref r2), (.ref a1)])) rfl rfl (hb hby d36_17)
    refine own_step (g' := (mkF m 20 #[rv a1, rv r2] [(.int (Int32.ofNat k)), (.ref dd), (.ref r2), (.ref a1)])) st214 ?_
    obtain ⟨cq215, kq215, q215a, q215b, q215c⟩ := isOf hZ e214 f9_Exa_a1
    obtain ⟨_, _, ⟨T215, L215, k215, n215⟩, -, X215, ⟨Lc215, hQ215, l215, y215, z215⟩, st215⟩ := X214.virtualBack hx (y := (⟨"java/util/ArrayList", "add", "(Ljava/lang/Object;[Ljava/lang/Object;I)V"⟩ : MethodName)) (z := (⟨"java/util/ArrayList", "add", "(Ljava/lang/Object;[Ljava/lang/Object;I)V"⟩ : MethodName)) hown (mvT hZ (hw_212 hw)) (mvT hZ (own_declares (hw_213 hw) (hw_216 hw))) (notFace_of_selects (args := #[]) (mvT hZ (hw_215 hw))) (mvT hZ (hw_215 hw)) (mvT hZ (hw_213 hw)) (by decide) (backOf (W := 0) (own_rm37_b l Z a0 hw [] a1 r2 dd (Int32.ofNat k) (md + (1 : Int32)) k kk vs h212 n0 Z212 (own_ofnat (by omega)) hk1 h8 hvl hov f9_Exa_a1 f10_Fld_a1 fw212 f11_Fld_a1 f8_Arv_dd f7_Exa_r2 g_a1 g_dd ne_ad) hZ (hw_216 hw) (hw_11 hw) (by decide) (by decide)) q215a q215c (g := (mkF m 20 #[rv a1, rv r2] [(.int (Int32.ofNat k)), (.ref dd), (.ref r2), (.ref a1)])) rfl (by rw [hml]; rfl) (Steps.refl _) (argsL := [(.ref r2), (.ref dd), (.int (Int32.ofNat k))]) (rest := []) (lenOf pd_23 rfl) rfl (by show 2 * 0 + _ ≤ _; exact Nat.le_of_eq rfl) (hb hby d36_20) (fun _ _ => ⟨rfl, e214, (by decide : 0 + 0 ≤ _), (by decide : 0 + 0 ≤ _)⟩)
    dsimp only [Pt.U, Pt.locs, Pt.cells, Pt.slots] at X215 l215 y215 z215 st215 hQ215
    subst l215 y215 z215
    obtain ⟨rfl, Nq215, K215, Ex215, Fs215, Fm215, Fe215, V215⟩ := hQ215
    have N215 := Fr.app N212 Nq215
    have Z215 : n0 ≤ T215.heap.size := Nat.le_trans Z212 K215.1
    have O215 : Old Z n0 T215.heap := O212.keep K215 (allS g_a1 (allS g_dd all0))
    have Kp215 : Keep h0 T215.heap [a1, dd] := Kp212.trans K215 (allS (Or.inl (List.mem_of_getElem? (i := 0) rfl)) (allS (Or.inl (List.mem_of_getElem? (i := 1) rfl)) all0))
    have f12_Exa_r2 : Exa Z T215.heap r2 "java/lang/String" := (f7_Exa_r2.keep K215)
    have f13_Exa_a1 : Exa Z T215.heap a1 "java/util/ArrayList" := (f9_Exa_a1.keep K215)
    refine own_jump (g' := (mkF m 23 #[rv a1, rv r2] [])) st215 ?_
    refine own_st (mkF m 24 #[rv a1, rv r2] [(.int (1 : Int32))]) (fun t k => XS.iconst X215.here hx rfl (hb hby d36_23) k) ?_
    refine own_ret X215 hlk (v := some (.int (1 : Int32))) (fun h => by rw [hret] at h; cases h) (fun fs hr => retN X215 hx (t := .boolean) hret (by simp) (hb hby d36_24) hr) ?_ (by decide) (by decide)
    show own_Q36 Z a1 r2 k dd f wc wD kD h0 n0 _ T215.heap _
    exact ⟨dd, rfl, N215, Kp215, ⟨g_a1, g_dd, Ex215, (by have q := Fs215; rw [show Int32.ofNat k + (1 : Int32) = Int32.ofNat (k + 1) from own_addN k 1] at q; exact q), ⟨_, Fm215⟩, Or.inr ⟨by omega, ne_ad, Fe215, _, _, V215, by rw [List.length_set]; exact hvl, hov, by rw [own_set0 hk1, own_fst1 hk1]; exact hf⟩⟩, Or.inl rfl⟩
theorem d14_0 : decode prog_4_method_2_code 0 = .ok (.aload_n 0, 1) := by decide +kernel
theorem d14_1 : decode prog_4_method_2_code 1 = .ok (.getfield 10, 3) := by decide +kernel
theorem d14_4 : decode prog_4_method_2_code 4 = .ok (.new 19, 3) := by decide +kernel
theorem hw_89 {a0 Z} (hw : own_W a0 Z) : (Jvm.Cond.classLink "com/example/shaper/shaper/core/ConfigProblems" (19 : Nat) "java/lang/StringBuilder").before a0 Z = true := hw _ (List.mem_of_getElem? (i := 89) rfl)
theorem d14_7 : decode prog_4_method_2_code 7 = .ok (.dup, 1) := by decide +kernel
theorem d14_8 : decode prog_4_method_2_code 8 = .ok (.invokespecial 21, 3) := by decide +kernel
theorem hw_92 {a0 Z} (hw : own_W a0 Z) : (Jvm.Cond.methodLink "com/example/shaper/shaper/core/ConfigProblems" (21 : Nat) ({ cls := "java/lang/StringBuilder", name := "<init>", desc := "()V" } : Jvm.MethodName)).before a0 Z = true := hw _ (List.mem_of_getElem? (i := 92) rfl)
theorem hw_94 {a0 Z} (hw : own_W a0 Z) : (Jvm.Cond.code ({ cls := "java/lang/StringBuilder", name := "<init>", desc := "()V" } : Jvm.MethodName) jdk_67_method_1_code (1 : Nat) (Option.none : Option Jvm.ClassFile.FieldType)).before a0 Z = true := hw _ (List.mem_of_getElem? (i := 94) rfl)
theorem hw_93 {a0 Z} (hw : own_W a0 Z) : (Jvm.Cond.instanceMethod ({ cls := "java/lang/StringBuilder", name := "<init>", desc := "()V" } : Jvm.MethodName)).before a0 Z = true := hw _ (List.mem_of_getElem? (i := 93) rfl)
theorem d14_11 : decode prog_4_method_2_code 11 = .ok (.aload_n 1, 1) := by decide +kernel
theorem d14_12 : decode prog_4_method_2_code 12 = .ok (.invokevirtual 22, 3) := by decide +kernel
theorem hw_107 {a0 Z} (hw : own_W a0 Z) : (Jvm.Cond.methodLink "com/example/shaper/shaper/core/ConfigProblems" (22 : Nat) ({ cls := "java/lang/StringBuilder", name := "append", desc := "(Ljava/lang/String;)Ljava/lang/StringBuilder;" } : Jvm.MethodName)).before a0 Z = true := hw _ (List.mem_of_getElem? (i := 107) rfl)
theorem hw_111 {a0 Z} (hw : own_W a0 Z) : (Jvm.Cond.code ({ cls := "java/lang/StringBuilder", name := "append", desc := "(Ljava/lang/String;)Ljava/lang/StringBuilder;" } : Jvm.MethodName) jdk_67_method_7_code (2 : Nat) (Option.some (Jvm.ClassFile.FieldType.object "java/lang/StringBuilder"))).before a0 Z = true := hw _ (List.mem_of_getElem? (i := 111) rfl)
theorem pd_24 : parseMethodDescriptor "(Ljava/lang/String;)Ljava/lang/StringBuilder;" = some ⟨[(.object "java/lang/String")], some (.object "java/lang/StringBuilder")⟩ := by decide +kernel
theorem hw_110 {a0 Z} (hw : own_W a0 Z) : (Jvm.Cond.selects "java/lang/StringBuilder" ({ cls := "java/lang/StringBuilder", name := "append", desc := "(Ljava/lang/String;)Ljava/lang/StringBuilder;" } : Jvm.MethodName) ({ cls := "java/lang/StringBuilder", name := "append", desc := "(Ljava/lang/String;)Ljava/lang/StringBuilder;" } : Jvm.MethodName)).before a0 Z = true := hw _ (List.mem_of_getElem? (i := 110) rfl)
theorem hw_108 {a0 Z} (hw : own_W a0 Z) : (Jvm.Cond.declares ({ cls := "java/lang/StringBuilder", name := "append", desc := "(Ljava/lang/String;)Ljava/lang/StringBuilder;" } : Jvm.MethodName)).before a0 Z = true := hw _ (List.mem_of_getElem? (i := 108) rfl)
theorem hw_109 {a0 Z} (hw : own_W a0 Z) : (Jvm.Cond.instanceMethod ({ cls := "java/lang/StringBuilder", name := "append", desc := "(Ljava/lang/String;)Ljava/lang/StringBuilder;" } : Jvm.MethodName)).before a0 Z = true := hw _ (List.mem_of_getElem? (i := 109) rfl)
theorem d14_15 : decode prog_4_method_2_code 15 = .ok (.ldc 26, 2) := by decide +kernel
theorem hw_154 {a0 Z} (hw : own_W a0 Z) : (Jvm.Cond.stringLink "com/example/shaper/shaper/core/ConfigProblems" (26 : Nat) ": ").before a0 Z = true := hw _ (List.mem_of_getElem? (i := 154) rfl)
theorem d14_17 : decode prog_4_method_2_code 17 = .ok (.invokevirtual 22, 3) := by decide +kernel
theorem d14_20 : decode prog_4_method_2_code 20 = .ok (.aload_n 2, 1) := by decide +kernel
theorem d14_21 : decode prog_4_method_2_code 21 = .ok (.invokevirtual 22, 3) := by decide +kernel
theorem d14_24 : decode prog_4_method_2_code 24 = .ok (.invokevirtual 28, 3) := by decide +kernel
theorem hw_157 {a0 Z} (hw : own_W a0 Z) : (Jvm.Cond.methodLink "com/example/shaper/shaper/core/ConfigProblems" (28 : Nat) ({ cls := "java/lang/StringBuilder", name := "toString", desc := "()Ljava/lang/String;" } : Jvm.MethodName)).before a0 Z = true := hw _ (List.mem_of_getElem? (i := 157) rfl)
theorem hw_161 {a0 Z} (hw : own_W a0 Z) : (Jvm.Cond.code ({ cls := "java/lang/StringBuilder", name := "toString", desc := "()Ljava/lang/String;" } : Jvm.MethodName) jdk_67_method_42_code (1 : Nat) (Option.some (Jvm.ClassFile.FieldType.object "java/lang/String"))).before a0 Z = true := hw _ (List.mem_of_getElem? (i := 161) rfl)
theorem pd_25 : parseMethodDescriptor "()Ljava/lang/String;" = some ⟨[], some (.object "java/lang/String")⟩ := by decide +kernel
theorem hw_160 {a0 Z} (hw : own_W a0 Z) : (Jvm.Cond.selects "java/lang/StringBuilder" ({ cls := "java/lang/StringBuilder", name := "toString", desc := "()Ljava/lang/String;" } : Jvm.MethodName) ({ cls := "java/lang/StringBuilder", name := "toString", desc := "()Ljava/lang/String;" } : Jvm.MethodName)).before a0 Z = true := hw _ (List.mem_of_getElem? (i := 160) rfl)
theorem hw_158 {a0 Z} (hw : own_W a0 Z) : (Jvm.Cond.declares ({ cls := "java/lang/StringBuilder", name := "toString", desc := "()Ljava/lang/String;" } : Jvm.MethodName)).before a0 Z = true := hw _ (List.mem_of_getElem? (i := 158) rfl)
theorem hw_159 {a0 Z} (hw : own_W a0 Z) : (Jvm.Cond.instanceMethod ({ cls := "java/lang/StringBuilder", name := "toString", desc := "()Ljava/lang/String;" } : Jvm.MethodName)).before a0 Z = true := hw _ (List.mem_of_getElem? (i := 159) rfl)
theorem d14_27 : decode prog_4_method_2_code 27 = .ok (.invokeinterface 32 2, 5) := by decide +kernel
theorem hw_202 {a0 Z} (hw : own_W a0 Z) : (Jvm.Cond.methodLink "com/example/shaper/shaper/core/ConfigProblems" (32 : Nat) ({ cls := "java/util/List", name := "add", desc := "(Ljava/lang/Object;)Z" } : Jvm.MethodName)).before a0 Z = true := hw _ (List.mem_of_getElem? (i := 202) rfl)
theorem hw_209 {a0 Z} (hw : own_W a0 Z) : (Jvm.Cond.code ({ cls := "java/util/ArrayList", name := "add", desc := "(Ljava/lang/Object;)Z" } : Jvm.MethodName) jdk_38_method_25_code (2 : Nat) (Option.some Jvm.ClassFile.FieldType.boolean)).before a0 Z = true := hw _ (List.mem_of_getElem? (i := 209) rfl)
theorem pd_26 : parseMethodDescriptor "(Ljava/lang/Object;)Z" = some ⟨[(.object "java/lang/Object")], some .boolean⟩ := by decide +kernel
theorem hw_205 {a0 Z} (hw : own_W a0 Z) : (Jvm.Cond.selects "java/util/ArrayList" ({ cls := "java/util/List", name := "add", desc := "(Ljava/lang/Object;)Z" } : Jvm.MethodName) ({ cls := "java/util/ArrayList", name := "add", desc := "(Ljava/lang/Object;)Z" } : Jvm.MethodName)).before a0 Z = true := hw _ (List.mem_of_getElem? (i := 205) rfl)
theorem hw_203 {a0 Z} (hw : own_W a0 Z) : (Jvm.Cond.declares ({ cls := "java/util/List", name := "add", desc := "(Ljava/lang/Object;)Z" } : Jvm.MethodName)).before a0 Z = true := hw _ (List.mem_of_getElem? (i := 203) rfl)
theorem hw_204 {a0 Z} (hw : own_W a0 Z) : (Jvm.Cond.interfaceMethod "java/util/List" "java/util/List" "add" "(Ljava/lang/Object;)Z").before a0 Z = true := hw _ (List.mem_of_getElem? (i := 204) rfl)
theorem hw_206 {a0 Z} (hw : own_W a0 Z) : (Jvm.Cond.instanceMethod ({ cls := "java/util/ArrayList", name := "add", desc := "(Ljava/lang/Object;)Z" } : Jvm.MethodName)).before a0 Z = true := hw _ (List.mem_of_getElem? (i := 206) rfl)
theorem hw_207 {a0 Z} (hw : own_W a0 Z) : (Jvm.Cond.publicMethod ({ cls := "java/util/ArrayList", name := "add", desc := "(Ljava/lang/Object;)Z" } : Jvm.MethodName)).before a0 Z = true := hw _ (List.mem_of_getElem? (i := 207) rfl)
theorem hw_208 {a0 Z} (hw : own_W a0 Z) : (Jvm.Cond.unhidden "java/util/ArrayList" "add" "(Ljava/lang/Object;)Z").before a0 Z = true := hw _ (List.mem_of_getElem? (i := 208) rfl)
theorem d14_32 : decode prog_4_method_2_code 32 = .ok (.pop, 1) := by decide +kernel
theorem d14_33 : decode prog_4_method_2_code 33 = .ok (.return_, 1) := by decide +kernel
theorem own_ef14 (m : MethodId) (a1 : Addr) (r2 : Addr) (r3 : Addr) : entryFrame m #[(.ref a1), (.ref r2), (.ref r3)] 3 = mkF m 0 #[rv a1, rv r2, rv r3] [] := by first | (simp [entryFrame, mkF, argsToLocals, Value.category]; done) | rfl
def own_Q14 (Z : State) (a1 : Addr) (r2 : Addr) (r3 : Addr) (k1 : Nat) (k2 : Nat) (f1 : Value) (f2 : Value) (b2 : Addr) (kb2 : ClassId) (bs2 : List Int32) (b3 : Addr) (kb3 : ClassId) (bs3 : List Int32) (wc : Int32) (wD : Addr) (kD : ClassId) (h0 : Heap) (n0 : Nat) (v : Option Value) (h : Heap) (L : List Loc) : Prop := ∃ g1 g2 : Value, v = none ∧ Fr n0 L ∧ Old Z n0 h ∧ own_CP Z wD h n0 a1 (k1 + 1) k2 g1 g2
set_option maxRecDepth 65536 in
set_option maxHeartbeats 40000000 in
theorem own_rm14 (l : Launch) (Z : State) (a0 : Array Value) (hw : own_W a0 Z) (ws : List Jvm.Cond) (a1 : Addr) (r2 : Addr) (r3 : Addr) (k1 : Nat) (k2 : Nat) (f1 : Value) (f2 : Value) (b2 : Addr) (kb2 : ClassId) (bs2 : List Int32) (b3 : Addr) (kb3 : ClassId) (bs3 : List Int32) (wc : Int32) (wD : Addr) (kD : ClassId) (h0 : Heap) (n0 : Nat) (Z0 : n0 ≤ h0.size) (O0 : Old Z n0 h0) (SS : own_St Z wc wD kD) (hEL : EW Z a0 own_EL) (hk : k1 + k2 ≤ 7) (hb2 : bs2.length = 1) (hb3 : bs3.length = 1) (P0 : own_CP Z wD h0 n0 a1 k1 k2 f1 f2) (S2e : Exa Z h0 r2 "java/lang/String") (S2v : Fld Z h0 r2 "java/lang/String" "value" "[B" (.ref b2)) (S2c : Fld Z h0 r2 "java/lang/String" "coder" "B" (.int (0 : Int32))) (S2a : Arv Z h0 b2 kb2 .byte (1 : Int32) ((bs2).map Value.int) (.int (0 : Int32))) (S3e : Exa Z h0 r3 "java/lang/String") (S3v : Fld Z h0 r3 "java/lang/String" "value" "[B" (.ref b3)) (S3c : Fld Z h0 r3 "java/lang/String" "coder" "B" (.int (0 : Int32))) (S3a : Arv Z h0 b3 kb3 .byte (1 : Int32) ((bs3).map Value.int) (.int (0 : Int32))) :
    MetFree l (⟨"com/example/shaper/shaper/core/ConfigProblems", "invalid", "(Ljava/lang/String;Ljava/lang/String;)V"⟩ : MethodName) (head1 (Jvm.Cond.code (⟨"com/example/shaper/shaper/core/ConfigProblems", "invalid", "(Ljava/lang/String;Ljava/lang/String;)V"⟩ : MethodName) prog_4_method_2_code 3 none :: ws) ({ frames := 6, cells := 7, slots := 50, locals := 92 } : Room)) (fun a U => a = #[(.ref a1), (.ref r2), (.ref r3)] ∧ Z.Warmed39 U.vm ∧ U.heap = h0 ∧ CHv Z own_EL U.vm h0) (fun _ _ _ _ _ => True) (fun _ U o U' => ∃ v L, o = .returned v ∧ own_Q14 Z a1 r2 r3 k1 k2 f1 f2 b2 kb2 bs2 b3 kb3 bs3 wc wD kD h0 n0 v U'.heap L ∧ CHr Z own_EL U.vm U.heap U'.vm U'.heap ∧ ReturnedEndW U o U' L ({ frames := 6, cells := 7, slots := 50, locals := 92 } : Room).cells ({ frames := 6, cells := 7, slots := 50, locals := 92 } : Room).slots) := by
  refine own_bodyH (plainFor_of_name pn_1) (fun m => own_ef14 m a1 r2 r3) ?_
  intro p e s m below meth c T0 X0 hx hby hml hZ hown hnm hret hlk e0 hs0 S0 CH0
  have hown : (s.setVm s.vm).vm.findClass "com/example/shaper/shaper/core/ConfigProblems" = some m.cls := hown
  have CR0 := CHr.refl CH0
  have kz0 : h0.size ≤ h0.size := Nat.le_refl _
  have hnm : meth.name = "invalid" := hnm
  have N0 := Fr.nil n0
  obtain ⟨al1, dd1, al2, dd2, gp, Ep, Fvi, Fun, A1, A2, q1, q2, q3, q4, q5, q6, q7, q8⟩ := id P0
  have Eal := A1.2.2.1
  refine own_stH (mkF m 1 #[rv a1, rv r2, rv r3] [(.ref a1)]) (fun t k => XS.aloadN X0.here hx rfl (hb hby d14_0) rfl rfl k) ?_
  obtain ⟨T216, X216, e216, st216⟩ := getF X0 hx hZ hown (host := "") (Or.inl (hw_33 hw)) Via.refl e0 Fvi (g := (mkF m 1 #[rv a1, rv r2, rv r3] [(.ref a1)])) rfl rfl (hb hby d14_1)
  refine own_stepH (g' := (mkF m 4 #[rv a1, rv r2, rv r3] [(.ref al1)])) st216 ?_
  obtain ⟨T217, h217, X217, e217, E217, A217, D217, -, st217⟩ := newO X216 hx hZ hown (hw_89 hw) (hw_90 hw) (hw_91 hw) e216 (g := (mkF m 4 #[rv a1, rv r2, rv r3] [(.ref al1)])) rfl (hb hby d14_4) (by decide) (by decide)
  obtain ⟨b217, g217⟩ : ∃ z, z = h0.size := ⟨_, rfl⟩
  rw [← g217] at A217 D217 st217
  have E_217 : Ext h0 h217 := E217
  have g_b217 : n0 ≤ b217 := Nat.le_trans Z0 (Nat.le_of_eq g217.symm)
  have ne_a1_b217 : a1 ≠ b217 := Nat.ne_of_lt (Nat.lt_of_lt_of_le Ep.lt (Nat.le_of_eq g217.symm))
  have ne_al1_b217 : al1 ≠ b217 := Nat.ne_of_lt (Nat.lt_of_lt_of_le (own_ALl1 A1).lt (Nat.le_of_eq g217.symm))
  have ne_dd1_b217 : dd1 ≠ b217 := Nat.ne_of_lt (Nat.lt_of_lt_of_le (own_ALl2 A1).lt (Nat.le_of_eq g217.symm))
  have ne_al2_b217 : al2 ≠ b217 := Nat.ne_of_lt (Nat.lt_of_lt_of_le (own_ALl1 A2).lt (Nat.le_of_eq g217.symm))
  have ne_dd2_b217 : dd2 ≠ b217 := Nat.ne_of_lt (Nat.lt_of_lt_of_le (own_ALl2 A2).lt (Nat.le_of_eq g217.symm))
  have ne_r2_b217 : r2 ≠ b217 := Nat.ne_of_lt (Nat.lt_of_lt_of_le S2e.lt (Nat.le_of_eq g217.symm))
  have ne_b2_b217 : b2 ≠ b217 := Nat.ne_of_lt (Nat.lt_of_lt_of_le S2a.lt (Nat.le_of_eq g217.symm))
  have ne_r3_b217 : r3 ≠ b217 := Nat.ne_of_lt (Nat.lt_of_lt_of_le S3e.lt (Nat.le_of_eq g217.symm))
  have ne_b3_b217 : b3 ≠ b217 := Nat.ne_of_lt (Nat.lt_of_lt_of_le S3a.lt (Nat.le_of_eq g217.symm))
  have Z217 : n0 ≤ h217.size := Nat.le_trans Z0 E217.1
  have C217 : CHr Z own_EL s.vm h0 s.vm h217 := CHr.ext E217 CR0.1
  have CR217 := CR0.trans C217
  have kz217 : _ ≤ h217.size := Nat.le_trans kz0 E217.1
  have O217 : Old Z n0 h217 := O0.ext E217
  have f1_Exa_a1 : Exa Z h217 a1 "com/example/shaper/shaper/core/ConfigProblems" := (Ep.ext E217)
  have f2_Fld_a1 : Fld Z h217 a1 "com/example/shaper/shaper/core/ConfigProblems" "violations" "Ljava/util/List;" (.ref al1) := (Fvi.ext E217)
  have f3_Fld_a1 : Fld Z h217 a1 "com/example/shaper/shaper/core/ConfigProblems" "unsupported" "Ljava/util/List;" (.ref al2) := (Fun.ext E217)
  have f4_Prd_al1 : own_AL Z wD h217 n0 al1 k1 dd1 f1 := (own_ALext A1 E217)
  have f5_Prd_al2 : own_AL Z wD h217 n0 al2 k2 dd2 f2 := (own_ALext A2 E217)
  have f6_Exa_al1 : Exa Z h217 al1 "java/util/ArrayList" := (Eal.ext E217)
  have f7_Exa_r2 : Exa Z h217 r2 "java/lang/String" := (S2e.ext E217)
  have f8_Fld_r2 : Fld Z h217 r2 "java/lang/String" "value" "[B" (.ref b2) := (S2v.ext E217)
  have f9_Fld_r2 : Fld Z h217 r2 "java/lang/String" "coder" "B" (.int (0 : Int32)) := (S2c.ext E217)
  have f10_Arv_b2 : Arv Z h217 b2 kb2 .byte (1 : Int32) ((bs2).map Value.int) (.int (0 : Int32)) := (S2a.ext E217)
  have f11_Exa_r3 : Exa Z h217 r3 "java/lang/String" := (S3e.ext E217)
  have f12_Fld_r3 : Fld Z h217 r3 "java/lang/String" "value" "[B" (.ref b3) := (S3v.ext E217)
  have f13_Fld_r3 : Fld Z h217 r3 "java/lang/String" "coder" "B" (.int (0 : Int32)) := (S3c.ext E217)
  have f14_Arv_b3 : Arv Z h217 b3 kb3 .byte (1 : Int32) ((bs3).map Value.int) (.int (0 : Int32)) := (S3a.ext E217)
  have F_value_b217 : Fld Z h217 b217 "java/lang/AbstractStringBuilder" "value" "[B" .null := D217 (Or.inl (hw_104 hw)) (ty := (.array .byte)) (by decide)
  have F_coder_b217 : Fld Z h217 b217 "java/lang/AbstractStringBuilder" "coder" "B" (.int (0 : Int32)) := D217 (Or.inl (hw_106 hw)) (ty := .byte) (by decide)
  have F_count_b217 : Fld Z h217 b217 "java/lang/AbstractStringBuilder" "count" "I" (.int (0 : Int32)) := D217 (Or.inl (hw_128 hw)) (ty := .int) (by decide)
  refine own_stepH (g' := (mkF m 7 #[rv a1, rv r2, rv r3] [(.ref b217), (.ref al1)])) st217 ?_
  refine own_stH (mkF m 8 #[rv a1, rv r2, rv r3] [(.ref b217), (.ref b217), (.ref al1)]) (fun t k => XS.dup X217.here hx rfl (hb hby d14_7) rfl rfl k) ?_
  obtain ⟨_, _, ⟨T218, L218, k218, n218⟩, -, X218, ⟨Lc218, hQ218, l218, y218, z218⟩, st218⟩ := X217.specialBack hx (y := (⟨"java/lang/StringBuilder", "<init>", "()V"⟩ : MethodName)) rfl hown (mvT hZ (hw_92 hw)) (mvT hZ (hw_93 hw)) (mvT hZ (hw_94 hw)) (by decide) (backOf (W := 2) (own_rm15 l Z a0 hw [] b217 wc wD kD h217 n0 Z217 O217 SS A217 F_value_b217 F_coder_b217 F_count_b217 g_b217) hZ (hw_94 hw) (hw_91 hw) (by decide) (by decide)) (g := (mkF m 8 #[rv a1, rv r2, rv r3] [(.ref b217), (.ref b217), (.ref al1)])) rfl (by rw [hml]; rfl) (Steps.refl _) (a := b217) (argsL := []) (rest := [(.ref b217), (.ref al1)]) (lenOf pd_20 rfl) rfl (by show 2 * 0 + _ ≤ _; exact Nat.le_of_eq rfl) (hb hby d14_8) (fun _ _ => ⟨rfl, e217, (by decide : 1 + 1 ≤ _), (by decide : 4 + 16 ≤ _)⟩)
  dsimp only [Pt.U, Pt.locs, Pt.cells, Pt.slots] at X218 l218 y218 z218 st218 hQ218
  subst l218 y218 z218
  obtain ⟨vb218, kb218, rfl, Nq218, K218, gb218, Ex218, Fv218, Fc218, Fn218, V218⟩ := hQ218
  have N218 := Fr.app N0 Nq218
  have g_vb218 : n0 ≤ vb218 := Nat.le_trans Z217 gb218
  have ne_a1_vb218 : a1 ≠ vb218 := Nat.ne_of_lt (Nat.lt_of_lt_of_le f1_Exa_a1.lt gb218)
  have ne_al1_vb218 : al1 ≠ vb218 := Nat.ne_of_lt (Nat.lt_of_lt_of_le (own_ALl1 f4_Prd_al1).lt gb218)
  have ne_dd1_vb218 : dd1 ≠ vb218 := Nat.ne_of_lt (Nat.lt_of_lt_of_le (own_ALl2 f4_Prd_al1).lt gb218)
  have ne_al2_vb218 : al2 ≠ vb218 := Nat.ne_of_lt (Nat.lt_of_lt_of_le (own_ALl1 f5_Prd_al2).lt gb218)
  have ne_dd2_vb218 : dd2 ≠ vb218 := Nat.ne_of_lt (Nat.lt_of_lt_of_le (own_ALl2 f5_Prd_al2).lt gb218)
  have ne_r2_vb218 : r2 ≠ vb218 := Nat.ne_of_lt (Nat.lt_of_lt_of_le f7_Exa_r2.lt gb218)
  have ne_b2_vb218 : b2 ≠ vb218 := Nat.ne_of_lt (Nat.lt_of_lt_of_le f10_Arv_b2.lt gb218)
  have ne_r3_vb218 : r3 ≠ vb218 := Nat.ne_of_lt (Nat.lt_of_lt_of_le f11_Exa_r3.lt gb218)
  have ne_b3_vb218 : b3 ≠ vb218 := Nat.ne_of_lt (Nat.lt_of_lt_of_le f14_Arv_b3.lt gb218)
  have ne_b217_vb218 : b217 ≠ vb218 := Nat.ne_of_lt (Nat.lt_of_lt_of_le A217.lt gb218)
  have C218 : CHr Z own_EL s.vm h217 s.vm T218.heap := CHr.keep K218 (sfS (Safe.exa hZ.alike A217 (by decide) (by decide)) sf0) CR217.1
  have CR218 := CR217.trans C218
  have kz218 : _ ≤ T218.heap.size := Nat.le_trans kz217 K218.1
  have Z218 : n0 ≤ T218.heap.size := Nat.le_trans Z217 K218.1
  have O218 : Old Z n0 T218.heap := O217.keep K218 (allS g_b217 all0)
  have f15_Exa_a1 : Exa Z T218.heap a1 "com/example/shaper/shaper/core/ConfigProblems" := (f1_Exa_a1.keep K218)
  have f16_Fld_a1 : Fld Z T218.heap a1 "com/example/shaper/shaper/core/ConfigProblems" "violations" "Ljava/util/List;" (.ref al1) := (f2_Fld_a1.keep K218 (ninS ne_a1_b217 nin0))
  have f17_Fld_a1 : Fld Z T218.heap a1 "com/example/shaper/shaper/core/ConfigProblems" "unsupported" "Ljava/util/List;" (.ref al2) := (f3_Fld_a1.keep K218 (ninS ne_a1_b217 nin0))
  have f18_Prd_al1 : own_AL Z wD T218.heap n0 al1 k1 dd1 f1 := (own_ALkeep f4_Prd_al1 K218 (ninS ne_al1_b217 nin0) (ninS ne_dd1_b217 nin0))
  have f19_Prd_al2 : own_AL Z wD T218.heap n0 al2 k2 dd2 f2 := (own_ALkeep f5_Prd_al2 K218 (ninS ne_al2_b217 nin0) (ninS ne_dd2_b217 nin0))
  have f20_Exa_al1 : Exa Z T218.heap al1 "java/util/ArrayList" := (f6_Exa_al1.keep K218)
  have f21_Exa_r2 : Exa Z T218.heap r2 "java/lang/String" := (f7_Exa_r2.keep K218)
  have f22_Fld_r2 : Fld Z T218.heap r2 "java/lang/String" "value" "[B" (.ref b2) := (f8_Fld_r2.keep K218 (ninS ne_r2_b217 nin0))
  have f23_Fld_r2 : Fld Z T218.heap r2 "java/lang/String" "coder" "B" (.int (0 : Int32)) := (f9_Fld_r2.keep K218 (ninS ne_r2_b217 nin0))
  have f24_Arv_b2 : Arv Z T218.heap b2 kb2 .byte (1 : Int32) ((bs2).map Value.int) (.int (0 : Int32)) := (f10_Arv_b2.keep K218 (ninS ne_b2_b217 nin0))
  have f25_Exa_r3 : Exa Z T218.heap r3 "java/lang/String" := (f11_Exa_r3.keep K218)
  have f26_Fld_r3 : Fld Z T218.heap r3 "java/lang/String" "value" "[B" (.ref b3) := (f12_Fld_r3.keep K218 (ninS ne_r3_b217 nin0))
  have f27_Fld_r3 : Fld Z T218.heap r3 "java/lang/String" "coder" "B" (.int (0 : Int32)) := (f13_Fld_r3.keep K218 (ninS ne_r3_b217 nin0))
  have f28_Arv_b3 : Arv Z T218.heap b3 kb3 .byte (1 : Int32) ((bs3).map Value.int) (.int (0 : Int32)) := (f14_Arv_b3.keep K218 (ninS ne_b3_b217 nin0))
  have f29_Exa_b217 : Exa Z T218.heap b217 "java/lang/StringBuilder" := (A217.keep K218)
  have Sf_vb218 : Safe Z own_EL s.vm T218.heap vb218 := Safe.keep K218 (sfS (Safe.exa hZ.alike A217 (by decide) (by decide)) sf0) CR217.1 (Safe.new gb218)
  refine own_jumpH (g' := (mkF m 11 #[rv a1, rv r2, rv r3] [(.ref b217), (.ref al1)])) st218 ?_
  refine own_stH (mkF m 12 #[rv a1, rv r2, rv r3] [(.ref r2), (.ref b217), (.ref al1)]) (fun t k => XS.aloadN X218.here hx rfl (hb hby d14_11) rfl rfl k) ?_
  obtain ⟨cq219, kq219, q219a, q219b, q219c⟩ := isOf hZ rfl Ex218
  obtain ⟨_, _, ⟨T219, L219, k219, n219⟩, -, X219, ⟨Lc219, hQ219, l219, y219, z219⟩, st219⟩ := X218.virtualBack hx (y := (⟨"java/lang/StringBuilder", "append", "(Ljava/lang/String;)Ljava/lang/StringBuilder;"⟩ : MethodName)) (z := (⟨"java/lang/StringBuilder", "append", "(Ljava/lang/String;)Ljava/lang/StringBuilder;"⟩ : MethodName)) hown (mvT hZ (hw_107 hw)) (mvT hZ (hw_108 hw)) (notFace_of_selects (args := #[]) (mvT hZ (hw_110 hw))) (mvT hZ (hw_110 hw)) (mvT hZ (hw_109 hw)) (by decide) (backOf (W := 1) (own_rm17_0_1 l Z a0 hw [] b217 r2 vb218 kb218 b2 bs2 kb2 [] wc wD kD T218.heap n0 Z218 O218 SS rfl hb2 Ex218 Fv218 Fc218 Fn218 V218 f21_Exa_r2 f22_Fld_r2 f23_Fld_r2 f24_Arv_b2 g_b217 ne_b217_vb218 (Ne.symm ne_r2_b217) (Ne.symm ne_b2_b217) ne_r2_vb218 ne_b2_vb218 g_vb218) hZ (hw_111 hw) (hw_91 hw) (by decide) (by decide)) q219a q219c (g := (mkF m 12 #[rv a1, rv r2, rv r3] [(.ref r2), (.ref b217), (.ref al1)])) rfl (by rw [hml]; rfl) (Steps.refl _) (argsL := [(.ref r2)]) (rest := [(.ref al1)]) (lenOf pd_24 rfl) rfl (by show 2 * 0 + _ ≤ _; exact Nat.le_of_eq rfl) (hb hby d14_12) (fun _ _ => ⟨rfl, rfl, (by decide : 2 + 0 ≤ _), (by decide : 20 + 0 ≤ _)⟩)
  dsimp only [Pt.U, Pt.locs, Pt.cells, Pt.slots] at X219 l219 y219 z219 st219 hQ219
  subst l219 y219 z219
  obtain ⟨rfl, Nq219, K219, Ex219, Fv219, Fc219, Fn219, V219⟩ := hQ219
  have N219 := Fr.app N218 Nq219
  have C219 : CHr Z own_EL s.vm T218.heap s.vm T219.heap := CHr.keep K219 (sfS (Safe.exa hZ.alike Ex218 (by decide) (by decide)) (sfS Sf_vb218 sf0)) CR218.1
  have CR219 := CR218.trans C219
  have kz219 : _ ≤ T219.heap.size := Nat.le_trans kz218 K219.1
  have Z219 : n0 ≤ T219.heap.size := Nat.le_trans Z218 K219.1
  have O219 : Old Z n0 T219.heap := O218.keep K219 (allS g_b217 (allS g_vb218 all0))
  have f30_Exa_a1 : Exa Z T219.heap a1 "com/example/shaper/shaper/core/ConfigProblems" := (f15_Exa_a1.keep K219)
  have f31_Fld_a1 : Fld Z T219.heap a1 "com/example/shaper/shaper/core/ConfigProblems" "violations" "Ljava/util/List;" (.ref al1) := (f16_Fld_a1.keep K219 (ninS ne_a1_b217 (ninS ne_a1_vb218 nin0)))
  have f32_Fld_a1 : Fld Z T219.heap a1 "com/example/shaper/shaper/core/ConfigProblems" "unsupported" "Ljava/util/List;" (.ref al2) := (f17_Fld_a1.keep K219 (ninS ne_a1_b217 (ninS ne_a1_vb218 nin0)))
  have f33_Prd_al1 : own_AL Z wD T219.heap n0 al1 k1 dd1 f1 := (own_ALkeep f18_Prd_al1 K219 (ninS ne_al1_b217 (ninS ne_al1_vb218 nin0)) (ninS ne_dd1_b217 (ninS ne_dd1_vb218 nin0)))
  have f34_Prd_al2 : own_AL Z wD T219.heap n0 al2 k2 dd2 f2 := (own_ALkeep f19_Prd_al2 K219 (ninS ne_al2_b217 (ninS ne_al2_vb218 nin0)) (ninS ne_dd2_b217 (ninS ne_dd2_vb218 nin0)))
  have f35_Exa_al1 : Exa Z T219.heap al1 "java/util/ArrayList" := (f20_Exa_al1.keep K219)
  have f36_Exa_r2 : Exa Z T219.heap r2 "java/lang/String" := (f21_Exa_r2.keep K219)
  have f37_Fld_r2 : Fld Z T219.heap r2 "java/lang/String" "value" "[B" (.ref b2) := (f22_Fld_r2.keep K219 (ninS ne_r2_b217 (ninS ne_r2_vb218 nin0)))
  have f38_Fld_r2 : Fld Z T219.heap r2 "java/lang/String" "coder" "B" (.int (0 : Int32)) := (f23_Fld_r2.keep K219 (ninS ne_r2_b217 (ninS ne_r2_vb218 nin0)))
  have f39_Arv_b2 : Arv Z T219.heap b2 kb2 .byte (1 : Int32) ((bs2).map Value.int) (.int (0 : Int32)) := (f24_Arv_b2.keep K219 (ninS ne_b2_b217 (ninS ne_b2_vb218 nin0)))
  have f40_Exa_r3 : Exa Z T219.heap r3 "java/lang/String" := (f25_Exa_r3.keep K219)
  have f41_Fld_r3 : Fld Z T219.heap r3 "java/lang/String" "value" "[B" (.ref b3) := (f26_Fld_r3.keep K219 (ninS ne_r3_b217 (ninS ne_r3_vb218 nin0)))
  have f42_Fld_r3 : Fld Z T219.heap r3 "java/lang/String" "coder" "B" (.int (0 : Int32)) := (f27_Fld_r3.keep K219 (ninS ne_r3_b217 (ninS ne_r3_vb218 nin0)))
  have f43_Arv_b3 : Arv Z T219.heap b3 kb3 .byte (1 : Int32) ((bs3).map Value.int) (.int (0 : Int32)) := (f28_Arv_b3.keep K219 (ninS ne_b3_b217 (ninS ne_b3_vb218 nin0)))
  have f44_Exa_b217 : Exa Z T219.heap b217 "java/lang/StringBuilder" := (Ex218.keep K219)
  have f45_Saf_vb218 : Safe Z own_EL s.vm T219.heap vb218 := (C219.safe V218.lt Sf_vb218)
  refine own_jumpH (g' := (mkF m 15 #[rv a1, rv r2, rv r3] [(.ref b217), (.ref al1)])) st219 ?_
  obtain ⟨la220, T220, h220, kk220, lb220, kb220, X220, e220, E220, S220, kz220, hZ, hown, Ex220, Fc220, Fv220, V220, lta220, ltb220, C220, -, nl220, st220⟩ := ldcCH (vm0 := s.vm) (EL := own_EL) X219 hx hZ hown (hw_154 hw) (own_wS hw) rfl S0 kz219 hEL own_mem26 CR219.1 (vs := ([58, 32] : List Int32).map Value.int) (z := (2 : Int32)) own_txt26 (by decide) rfl (g := (mkF m 15 #[rv a1, rv r2, rv r3] [(.ref b217), (.ref al1)])) rfl (hb hby d14_15) (n := 8) own_tln26 (by decide) (by decide) (by decide)
  have CR220 := CR219.trans C220
  have Z220 : n0 ≤ h220.size := Nat.le_trans Z219 E220.1
  have O220 : Old Z n0 h220 := O219.ext E220
  have f46_Exa_a1 : Exa Z h220 a1 "com/example/shaper/shaper/core/ConfigProblems" := (f30_Exa_a1.ext E220)
  have f47_Fld_a1 : Fld Z h220 a1 "com/example/shaper/shaper/core/ConfigProblems" "violations" "Ljava/util/List;" (.ref al1) := (f31_Fld_a1.ext E220)
  have f48_Fld_a1 : Fld Z h220 a1 "com/example/shaper/shaper/core/ConfigProblems" "unsupported" "Ljava/util/List;" (.ref al2) := (f32_Fld_a1.ext E220)
  have f49_Prd_al1 : own_AL Z wD h220 n0 al1 k1 dd1 f1 := (own_ALext f33_Prd_al1 E220)
  have f50_Prd_al2 : own_AL Z wD h220 n0 al2 k2 dd2 f2 := (own_ALext f34_Prd_al2 E220)
  have f51_Exa_al1 : Exa Z h220 al1 "java/util/ArrayList" := (f35_Exa_al1.ext E220)
  have f52_Exa_r2 : Exa Z h220 r2 "java/lang/String" := (f36_Exa_r2.ext E220)
  have f53_Fld_r2 : Fld Z h220 r2 "java/lang/String" "value" "[B" (.ref b2) := (f37_Fld_r2.ext E220)
  have f54_Fld_r2 : Fld Z h220 r2 "java/lang/String" "coder" "B" (.int (0 : Int32)) := (f38_Fld_r2.ext E220)
  have f55_Arv_b2 : Arv Z h220 b2 kb2 .byte (1 : Int32) ((bs2).map Value.int) (.int (0 : Int32)) := (f39_Arv_b2.ext E220)
  have f56_Exa_r3 : Exa Z h220 r3 "java/lang/String" := (f40_Exa_r3.ext E220)
  have f57_Fld_r3 : Fld Z h220 r3 "java/lang/String" "value" "[B" (.ref b3) := (f41_Fld_r3.ext E220)
  have f58_Fld_r3 : Fld Z h220 r3 "java/lang/String" "coder" "B" (.int (0 : Int32)) := (f42_Fld_r3.ext E220)
  have f59_Arv_b3 : Arv Z h220 b3 kb3 .byte (1 : Int32) ((bs3).map Value.int) (.int (0 : Int32)) := (f43_Arv_b3.ext E220)
  have f60_Exa_b217 : Exa Z h220 b217 "java/lang/StringBuilder" := (Ex219.ext E220)
  have f61_Saf_vb218 : Safe Z own_EL T220.vm h220 vb218 := (C220.safe V219.lt f45_Saf_vb218)
  have f62_Fld_b217 : Fld Z h220 b217 "java/lang/AbstractStringBuilder" "value" "[B" (.ref vb218) := (Fv219.ext E220)
  have f63_Fld_b217 : Fld Z h220 b217 "java/lang/AbstractStringBuilder" "coder" "B" (.int (0 : Int32)) := (Fc219.ext E220)
  have f64_Fld_b217 : Fld Z h220 b217 "java/lang/AbstractStringBuilder" "count" "I" (.int (1 : Int32)) := (Fn219.ext E220)
  have f65_Arv_vb218 : Arv Z h220 vb218 kb218 .byte (16 : Int32) ((([] ++ bs2) ++ List.replicate 15 (0 : Int32)).map Value.int) (.int (0 : Int32)) := (V219.ext E220)
  obtain ⟨ne_b217_la220, ne_b217_lb220⟩ := nl220 b217 (Safe.exa hZ.alike f60_Exa_b217 (by decide) (by decide))
  obtain ⟨ne_vb218_la220, ne_vb218_lb220⟩ := nl220 vb218 f61_Saf_vb218
  refine own_stepH (g' := (mkF m 17 #[rv a1, rv r2, rv r3] [(.ref la220), (.ref b217), (.ref al1)])) st220 ?_
  obtain ⟨cq221, kq221, q221a, q221b, q221c⟩ := isOf hZ e220 f60_Exa_b217
  obtain ⟨_, _, ⟨T221, L221, k221, n221⟩, -, X221, ⟨Lc221, hQ221, l221, y221, z221⟩, st221⟩ := X220.virtualBack hx (y := (⟨"java/lang/StringBuilder", "append", "(Ljava/lang/String;)Ljava/lang/StringBuilder;"⟩ : MethodName)) (z := (⟨"java/lang/StringBuilder", "append", "(Ljava/lang/String;)Ljava/lang/StringBuilder;"⟩ : MethodName)) hown (mvT hZ (hw_107 hw)) (mvT hZ (hw_108 hw)) (notFace_of_selects (args := #[]) (mvT hZ (hw_110 hw))) (mvT hZ (hw_110 hw)) (mvT hZ (hw_109 hw)) (by decide) (backOf (W := 1) (own_rm17_1_2 l Z a0 hw [] b217 la220 vb218 kb218 lb220 ([58, 32] : List Int32) kb220 ([] ++ bs2) wc wD kD h220 n0 Z220 O220 SS (by simp [hb2]) rfl f60_Exa_b217 f62_Fld_b217 f63_Fld_b217 f64_Fld_b217 f65_Arv_vb218 Ex220 Fv220 Fc220 V220 g_b217 ne_b217_vb218 ne_b217_la220 ne_b217_lb220 (Ne.symm ne_vb218_la220) (Ne.symm ne_vb218_lb220) g_vb218) hZ (hw_111 hw) (hw_91 hw) (by decide) (by decide)) q221a q221c (g := (mkF m 17 #[rv a1, rv r2, rv r3] [(.ref la220), (.ref b217), (.ref al1)])) rfl (by rw [hml]; rfl) (Steps.refl _) (argsL := [(.ref la220)]) (rest := [(.ref al1)]) (lenOf pd_24 rfl) rfl (by show 2 * 0 + _ ≤ _; exact Nat.le_of_eq rfl) (hb hby d14_17) (fun _ _ => ⟨rfl, e220, (by decide : 4 + 0 ≤ _), (by decide : 32 + 0 ≤ _)⟩)
  dsimp only [Pt.U, Pt.locs, Pt.cells, Pt.slots] at X221 l221 y221 z221 st221 hQ221
  subst l221 y221 z221
  obtain ⟨rfl, Nq221, K221, Ex221, Fv221, Fc221, Fn221, V221⟩ := hQ221
  have N221 := Fr.app N219 Nq221
  have C221 : CHr Z own_EL T220.vm h220 T220.vm T221.heap := CHr.keep K221 (sfS (Safe.exa hZ.alike f60_Exa_b217 (by decide) (by decide)) (sfS f61_Saf_vb218 sf0)) CR220.1
  have CR221 := CR220.trans C221
  have kz221 : _ ≤ T221.heap.size := Nat.le_trans kz220 K221.1
  have Z221 : n0 ≤ T221.heap.size := Nat.le_trans Z220 K221.1
  have O221 : Old Z n0 T221.heap := O220.keep K221 (allS g_b217 (allS g_vb218 all0))
  have f66_Exa_a1 : Exa Z T221.heap a1 "com/example/shaper/shaper/core/ConfigProblems" := (f46_Exa_a1.keep K221)
  have f67_Fld_a1 : Fld Z T221.heap a1 "com/example/shaper/shaper/core/ConfigProblems" "violations" "Ljava/util/List;" (.ref al1) := (f47_Fld_a1.keep K221 (ninS ne_a1_b217 (ninS ne_a1_vb218 nin0)))
  have f68_Fld_a1 : Fld Z T221.heap a1 "com/example/shaper/shaper/core/ConfigProblems" "unsupported" "Ljava/util/List;" (.ref al2) := (f48_Fld_a1.keep K221 (ninS ne_a1_b217 (ninS ne_a1_vb218 nin0)))
  have f69_Prd_al1 : own_AL Z wD T221.heap n0 al1 k1 dd1 f1 := (own_ALkeep f49_Prd_al1 K221 (ninS ne_al1_b217 (ninS ne_al1_vb218 nin0)) (ninS ne_dd1_b217 (ninS ne_dd1_vb218 nin0)))
  have f70_Prd_al2 : own_AL Z wD T221.heap n0 al2 k2 dd2 f2 := (own_ALkeep f50_Prd_al2 K221 (ninS ne_al2_b217 (ninS ne_al2_vb218 nin0)) (ninS ne_dd2_b217 (ninS ne_dd2_vb218 nin0)))
  have f71_Exa_al1 : Exa Z T221.heap al1 "java/util/ArrayList" := (f51_Exa_al1.keep K221)
  have f72_Exa_r2 : Exa Z T221.heap r2 "java/lang/String" := (f52_Exa_r2.keep K221)
  have f73_Fld_r2 : Fld Z T221.heap r2 "java/lang/String" "value" "[B" (.ref b2) := (f53_Fld_r2.keep K221 (ninS ne_r2_b217 (ninS ne_r2_vb218 nin0)))
  have f74_Fld_r2 : Fld Z T221.heap r2 "java/lang/String" "coder" "B" (.int (0 : Int32)) := (f54_Fld_r2.keep K221 (ninS ne_r2_b217 (ninS ne_r2_vb218 nin0)))
  have f75_Arv_b2 : Arv Z T221.heap b2 kb2 .byte (1 : Int32) ((bs2).map Value.int) (.int (0 : Int32)) := (f55_Arv_b2.keep K221 (ninS ne_b2_b217 (ninS ne_b2_vb218 nin0)))
  have f76_Exa_r3 : Exa Z T221.heap r3 "java/lang/String" := (f56_Exa_r3.keep K221)
  have f77_Fld_r3 : Fld Z T221.heap r3 "java/lang/String" "value" "[B" (.ref b3) := (f57_Fld_r3.keep K221 (ninS ne_r3_b217 (ninS ne_r3_vb218 nin0)))
  have f78_Fld_r3 : Fld Z T221.heap r3 "java/lang/String" "coder" "B" (.int (0 : Int32)) := (f58_Fld_r3.keep K221 (ninS ne_r3_b217 (ninS ne_r3_vb218 nin0)))
  have f79_Arv_b3 : Arv Z T221.heap b3 kb3 .byte (1 : Int32) ((bs3).map Value.int) (.int (0 : Int32)) := (f59_Arv_b3.keep K221 (ninS ne_b3_b217 (ninS ne_b3_vb218 nin0)))
  have f80_Exa_b217 : Exa Z T221.heap b217 "java/lang/StringBuilder" := (f60_Exa_b217.keep K221)
  have f81_Saf_vb218 : Safe Z own_EL T220.vm T221.heap vb218 := (C221.safe f65_Arv_vb218.lt f61_Saf_vb218)
  have f82_Exa_la220 : Exa Z T221.heap la220 "java/lang/String" := (Ex220.keep K221)
  have f83_Fld_la220 : Fld Z T221.heap la220 "java/lang/String" "value" "[B" (.ref lb220) := (Fv220.keep K221 (ninS (Ne.symm ne_b217_la220) (ninS (Ne.symm ne_vb218_la220) nin0)))
  have f84_Fld_la220 : Fld Z T221.heap la220 "java/lang/String" "coder" "B" (.int (0 : Int32)) := (Fc220.keep K221 (ninS (Ne.symm ne_b217_la220) (ninS (Ne.symm ne_vb218_la220) nin0)))
  have f85_Arv_lb220 : Arv Z T221.heap lb220 kb220 .byte (2 : Int32) (([58, 32] : List Int32).map Value.int) (.int (0 : Int32)) := (V220.keep K221 (ninS (Ne.symm ne_b217_lb220) (ninS (Ne.symm ne_vb218_lb220) nin0)))
  refine own_jumpH (g' := (mkF m 20 #[rv a1, rv r2, rv r3] [(.ref b217), (.ref al1)])) st221 ?_
  refine own_stH (mkF m 21 #[rv a1, rv r2, rv r3] [(.ref r3), (.ref b217), (.ref al1)]) (fun t k => XS.aloadN X221.here hx rfl (hb hby d14_20) rfl rfl k) ?_
  obtain ⟨cq222, kq222, q222a, q222b, q222c⟩ := isOf hZ rfl Ex221
  obtain ⟨_, _, ⟨T222, L222, k222, n222⟩, -, X222, ⟨Lc222, hQ222, l222, y222, z222⟩, st222⟩ := X221.virtualBack hx (y := (⟨"java/lang/StringBuilder", "append", "(Ljava/lang/String;)Ljava/lang/StringBuilder;"⟩ : MethodName)) (z := (⟨"java/lang/StringBuilder", "append", "(Ljava/lang/String;)Ljava/lang/StringBuilder;"⟩ : MethodName)) hown (mvT hZ (hw_107 hw)) (mvT hZ (hw_108 hw)) (notFace_of_selects (args := #[]) (mvT hZ (hw_110 hw))) (mvT hZ (hw_110 hw)) (mvT hZ (hw_109 hw)) (by decide) (backOf (W := 1) (own_rm17_3_1 l Z a0 hw [] b217 r3 vb218 kb218 b3 bs3 kb3 (([] ++ bs2) ++ [58, 32]) wc wD kD T221.heap n0 Z221 O221 SS (by simp [hb2]) hb3 Ex221 Fv221 Fc221 Fn221 V221 f76_Exa_r3 f77_Fld_r3 f78_Fld_r3 f79_Arv_b3 g_b217 ne_b217_vb218 (Ne.symm ne_r3_b217) (Ne.symm ne_b3_b217) ne_r3_vb218 ne_b3_vb218 g_vb218) hZ (hw_111 hw) (hw_91 hw) (by decide) (by decide)) q222a q222c (g := (mkF m 21 #[rv a1, rv r2, rv r3] [(.ref r3), (.ref b217), (.ref al1)])) rfl (by rw [hml]; rfl) (Steps.refl _) (argsL := [(.ref r3)]) (rest := [(.ref al1)]) (lenOf pd_24 rfl) rfl (by show 2 * 0 + _ ≤ _; exact Nat.le_of_eq rfl) (hb hby d14_21) (fun _ _ => ⟨rfl, rfl, (by decide : 4 + 0 ≤ _), (by decide : 32 + 0 ≤ _)⟩)
  dsimp only [Pt.U, Pt.locs, Pt.cells, Pt.slots] at X222 l222 y222 z222 st222 hQ222
  subst l222 y222 z222
  obtain ⟨rfl, Nq222, K222, Ex222, Fv222, Fc222, Fn222, V222⟩ := hQ222
  have N222 := Fr.app N221 Nq222
  have C222 : CHr Z own_EL T220.vm T221.heap T220.vm T222.heap := CHr.keep K222 (sfS (Safe.exa hZ.alike Ex221 (by decide) (by decide)) (sfS f81_Saf_vb218 sf0)) CR221.1
  have CR222 := CR221.trans C222
  have kz222 : _ ≤ T222.heap.size := Nat.le_trans kz221 K222.1
  have Z222 : n0 ≤ T222.heap.size := Nat.le_trans Z221 K222.1
  have O222 : Old Z n0 T222.heap := O221.keep K222 (allS g_b217 (allS g_vb218 all0))
  have f86_Exa_a1 : Exa Z T222.heap a1 "com/example/shaper/shaper/core/ConfigProblems" := (f66_Exa_a1.keep K222)
  have f87_Fld_a1 : Fld Z T222.heap a1 "com/example/shaper/shaper/core/ConfigProblems" "violations" "Ljava/util/List;" (.ref al1) := (f67_Fld_a1.keep K222 (ninS ne_a1_b217 (ninS ne_a1_vb218 nin0)))
  have f88_Fld_a1 : Fld Z T222.heap a1 "com/example/shaper/shaper/core/ConfigProblems" "unsupported" "Ljava/util/List;" (.ref al2) := (f68_Fld_a1.keep K222 (ninS ne_a1_b217 (ninS ne_a1_vb218 nin0)))
  have f89_Prd_al1 : own_AL Z wD T222.heap n0 al1 k1 dd1 f1 := (own_ALkeep f69_Prd_al1 K222 (ninS ne_al1_b217 (ninS ne_al1_vb218 nin0)) (ninS ne_dd1_b217 (ninS ne_dd1_vb218 nin0)))
  have f90_Prd_al2 : own_AL Z wD T222.heap n0 al2 k2 dd2 f2 := (own_ALkeep f70_Prd_al2 K222 (ninS ne_al2_b217 (ninS ne_al2_vb218 nin0)) (ninS ne_dd2_b217 (ninS ne_dd2_vb218 nin0)))
  have f91_Exa_al1 : Exa Z T222.heap al1 "java/util/ArrayList" := (f71_Exa_al1.keep K222)
  have f92_Exa_r3 : Exa Z T222.heap r3 "java/lang/String" := (f76_Exa_r3.keep K222)
  have f93_Fld_r3 : Fld Z T222.heap r3 "java/lang/String" "value" "[B" (.ref b3) := (f77_Fld_r3.keep K222 (ninS ne_r3_b217 (ninS ne_r3_vb218 nin0)))
  have f94_Fld_r3 : Fld Z T222.heap r3 "java/lang/String" "coder" "B" (.int (0 : Int32)) := (f78_Fld_r3.keep K222 (ninS ne_r3_b217 (ninS ne_r3_vb218 nin0)))
  have f95_Arv_b3 : Arv Z T222.heap b3 kb3 .byte (1 : Int32) ((bs3).map Value.int) (.int (0 : Int32)) := (f79_Arv_b3.keep K222 (ninS ne_b3_b217 (ninS ne_b3_vb218 nin0)))
  have f96_Exa_b217 : Exa Z T222.heap b217 "java/lang/StringBuilder" := (Ex221.keep K222)
  have f97_Saf_vb218 : Safe Z own_EL T220.vm T222.heap vb218 := (C222.safe V221.lt f81_Saf_vb218)
  refine own_jumpH (g' := (mkF m 24 #[rv a1, rv r2, rv r3] [(.ref b217), (.ref al1)])) st222 ?_
  obtain ⟨cq223, kq223, q223a, q223b, q223c⟩ := isOf hZ rfl Ex222
  obtain ⟨_, _, ⟨T223, L223, k223, n223⟩, -, X223, ⟨Lc223, hQ223, l223, y223, z223⟩, st223⟩ := X222.virtualBack hx (y := (⟨"java/lang/StringBuilder", "toString", "()Ljava/lang/String;"⟩ : MethodName)) (z := (⟨"java/lang/StringBuilder", "toString", "()Ljava/lang/String;"⟩ : MethodName)) hown (mvT hZ (hw_157 hw)) (mvT hZ (hw_158 hw)) (notFace_of_selects (args := #[]) (mvT hZ (hw_160 hw))) (mvT hZ (hw_160 hw)) (mvT hZ (hw_159 hw)) (by decide) (backOf (W := 1) (own_rm25_t4 l Z a0 hw [] b217 vb218 kb218 ((((([] ++ bs2) ++ [58, 32])) ++ bs3) ++ List.replicate 12 (0 : Int32)) wc wD kD T222.heap n0 Z222 O222 SS (by simp [hb2, hb3]) Ex222 Fv222 Fc222 Fn222 V222) hZ (hw_161 hw) (hw_91 hw) (by decide) (by decide)) q223a q223c (g := (mkF m 24 #[rv a1, rv r2, rv r3] [(.ref b217), (.ref al1)])) rfl (by rw [hml]; rfl) (Steps.refl _) (argsL := []) (rest := [(.ref al1)]) (lenOf pd_25 rfl) rfl (by show 2 * 0 + _ ≤ _; exact Nat.le_of_eq rfl) (hb hby d14_24) (fun _ _ => ⟨rfl, rfl, (by decide : 4 + 2 ≤ _), (by decide : 32 + 8 ≤ _)⟩)
  dsimp only [Pt.U, Pt.locs, Pt.cells, Pt.slots] at X223 l223 y223 z223 st223 hQ223
  subst l223 y223 z223
  obtain ⟨sa223, ba223, kb223, rfl, Nq223, K223, ga223, gb223, ne223, Ex223, Fv223, Fc223, V223⟩ := hQ223
  have N223 := Fr.app N222 Nq223
  have g_sa223 : n0 ≤ sa223 := Nat.le_trans Z222 ga223
  have ne_a1_sa223 : a1 ≠ sa223 := Nat.ne_of_lt (Nat.lt_of_lt_of_le f86_Exa_a1.lt ga223)
  have ne_al1_sa223 : al1 ≠ sa223 := Nat.ne_of_lt (Nat.lt_of_lt_of_le (own_ALl1 f89_Prd_al1).lt ga223)
  have ne_dd1_sa223 : dd1 ≠ sa223 := Nat.ne_of_lt (Nat.lt_of_lt_of_le (own_ALl2 f89_Prd_al1).lt ga223)
  have ne_al2_sa223 : al2 ≠ sa223 := Nat.ne_of_lt (Nat.lt_of_lt_of_le (own_ALl1 f90_Prd_al2).lt ga223)
  have ne_dd2_sa223 : dd2 ≠ sa223 := Nat.ne_of_lt (Nat.lt_of_lt_of_le (own_ALl2 f90_Prd_al2).lt ga223)
  have ne_r3_sa223 : r3 ≠ sa223 := Nat.ne_of_lt (Nat.lt_of_lt_of_le f92_Exa_r3.lt ga223)
  have ne_b3_sa223 : b3 ≠ sa223 := Nat.ne_of_lt (Nat.lt_of_lt_of_le f95_Arv_b3.lt ga223)
  have ne_b217_sa223 : b217 ≠ sa223 := Nat.ne_of_lt (Nat.lt_of_lt_of_le Ex222.lt ga223)
  have ne_vb218_sa223 : vb218 ≠ sa223 := Nat.ne_of_lt (Nat.lt_of_lt_of_le V222.lt ga223)
  have g_ba223 : n0 ≤ ba223 := Nat.le_trans Z222 gb223
  have ne_a1_ba223 : a1 ≠ ba223 := Nat.ne_of_lt (Nat.lt_of_lt_of_le f86_Exa_a1.lt gb223)
  have ne_al1_ba223 : al1 ≠ ba223 := Nat.ne_of_lt (Nat.lt_of_lt_of_le (own_ALl1 f89_Prd_al1).lt gb223)
  have ne_dd1_ba223 : dd1 ≠ ba223 := Nat.ne_of_lt (Nat.lt_of_lt_of_le (own_ALl2 f89_Prd_al1).lt gb223)
  have ne_al2_ba223 : al2 ≠ ba223 := Nat.ne_of_lt (Nat.lt_of_lt_of_le (own_ALl1 f90_Prd_al2).lt gb223)
  have ne_dd2_ba223 : dd2 ≠ ba223 := Nat.ne_of_lt (Nat.lt_of_lt_of_le (own_ALl2 f90_Prd_al2).lt gb223)
  have ne_r3_ba223 : r3 ≠ ba223 := Nat.ne_of_lt (Nat.lt_of_lt_of_le f92_Exa_r3.lt gb223)
  have ne_b3_ba223 : b3 ≠ ba223 := Nat.ne_of_lt (Nat.lt_of_lt_of_le f95_Arv_b3.lt gb223)
  have ne_b217_ba223 : b217 ≠ ba223 := Nat.ne_of_lt (Nat.lt_of_lt_of_le Ex222.lt gb223)
  have ne_vb218_ba223 : vb218 ≠ ba223 := Nat.ne_of_lt (Nat.lt_of_lt_of_le V222.lt gb223)
  have C223 : CHr Z own_EL T220.vm T222.heap T220.vm T223.heap := CHr.keep K223 sf0 CR222.1
  have CR223 := CR222.trans C223
  have kz223 : _ ≤ T223.heap.size := Nat.le_trans kz222 K223.1
  have Z223 : n0 ≤ T223.heap.size := Nat.le_trans Z222 K223.1
  have O223 : Old Z n0 T223.heap := O222.keep K223 all0
  have f98_Exa_a1 : Exa Z T223.heap a1 "com/example/shaper/shaper/core/ConfigProblems" := (f86_Exa_a1.keep K223)
  have f99_Fld_a1 : Fld Z T223.heap a1 "com/example/shaper/shaper/core/ConfigProblems" "violations" "Ljava/util/List;" (.ref al1) := (f87_Fld_a1.keep K223 nin0)
  have f100_Fld_a1 : Fld Z T223.heap a1 "com/example/shaper/shaper/core/ConfigProblems" "unsupported" "Ljava/util/List;" (.ref al2) := (f88_Fld_a1.keep K223 nin0)
  have f101_Prd_al1 : own_AL Z wD T223.heap n0 al1 k1 dd1 f1 := (own_ALkeep f89_Prd_al1 K223 nin0 nin0)
  have f102_Prd_al2 : own_AL Z wD T223.heap n0 al2 k2 dd2 f2 := (own_ALkeep f90_Prd_al2 K223 nin0 nin0)
  have f103_Exa_al1 : Exa Z T223.heap al1 "java/util/ArrayList" := (f91_Exa_al1.keep K223)
  have f104_Exa_r3 : Exa Z T223.heap r3 "java/lang/String" := (f92_Exa_r3.keep K223)
  have f105_Fld_r3 : Fld Z T223.heap r3 "java/lang/String" "value" "[B" (.ref b3) := (f93_Fld_r3.keep K223 nin0)
  have f106_Fld_r3 : Fld Z T223.heap r3 "java/lang/String" "coder" "B" (.int (0 : Int32)) := (f94_Fld_r3.keep K223 nin0)
  have f107_Arv_b3 : Arv Z T223.heap b3 kb3 .byte (1 : Int32) ((bs3).map Value.int) (.int (0 : Int32)) := (f95_Arv_b3.keep K223 nin0)
  have f108_Exa_b217 : Exa Z T223.heap b217 "java/lang/StringBuilder" := (Ex222.keep K223)
  have f109_Saf_vb218 : Safe Z own_EL T220.vm T223.heap vb218 := (C223.safe V222.lt f97_Saf_vb218)
  have f110_Fld_b217 : Fld Z T223.heap b217 "java/lang/AbstractStringBuilder" "value" "[B" (.ref vb218) := (Fv222.keep K223 nin0)
  have f111_Fld_b217 : Fld Z T223.heap b217 "java/lang/AbstractStringBuilder" "coder" "B" (.int (0 : Int32)) := (Fc222.keep K223 nin0)
  have f112_Fld_b217 : Fld Z T223.heap b217 "java/lang/AbstractStringBuilder" "count" "I" (.int (4 : Int32)) := (Fn222.keep K223 nin0)
  have f113_Arv_vb218 : Arv Z T223.heap vb218 kb218 .byte (16 : Int32) (((((([] ++ bs2) ++ [58, 32])) ++ bs3) ++ List.replicate 12 (0 : Int32)).map Value.int) (.int (0 : Int32)) := (V222.keep K223 nin0)
  refine own_jumpH (g' := (mkF m 27 #[rv a1, rv r2, rv r3] [(.ref sa223), (.ref al1)])) st223 ?_
  obtain ⟨cq224, kq224, q224a, q224b, q224c⟩ := isOf hZ rfl f103_Exa_al1
  obtain ⟨_, _, ⟨T224, L224, k224, n224⟩, -, X224, ⟨Lc224, hQ224, l224, y224, z224⟩, st224⟩ := X223.interfaceBack hx (xi := (⟨"java/util/List", "add", "(Ljava/lang/Object;)Z"⟩ : MethodName)) (y := (⟨"java/util/ArrayList", "add", "(Ljava/lang/Object;)Z"⟩ : MethodName)) hown (mvT hZ (hw_202 hw)) (mvT hZ (hw_203 hw)) (mvT hZ (hw_204 hw)) (mvT hZ (hw_205 hw)) (mvT hZ (hw_206 hw)) (mvT hZ (hw_207 hw)) (mvT hZ (hw_208 hw)) (mvT hZ (hw_49 hw)) (by decide) (backOf (W := 0) (own_rm36 l Z a0 hw [] al1 sa223 k1 dd1 f1 wc wD kD T223.heap n0 Z223 O223 SS (by omega) f101_Prd_al1 Ex223) hZ (hw_209 hw) (hw_11 hw) (by decide) (by decide)) q224a q224b q224c (g := (mkF m 27 #[rv a1, rv r2, rv r3] [(.ref sa223), (.ref al1)])) rfl (by rw [hml]; rfl) (Steps.refl _) (argsL := [(.ref sa223)]) (rest := []) (lenOf pd_26 rfl) rfl (by show 2 * 0 + _ ≤ _; exact Nat.le_of_eq rfl) (hb hby d14_27) (fun _ _ => ⟨rfl, rfl, (by decide : 6 + 1 ≤ _), (by decide : 40 + 10 ≤ _)⟩)
  dsimp only [Pt.U, Pt.locs, Pt.cells, Pt.slots] at X224 l224 y224 z224 st224 hQ224
  subst l224 y224 z224
  obtain ⟨dn224, rfl, Nq224, K224, A224, hd224⟩ := hQ224
  have N224 := Fr.app N223 Nq224
  have lp := f98_Exa_a1.lt
  have lo1 := (own_ALl1 f102_Prd_al2).lt
  have lo2 := (own_ALl2 f102_Prd_al2).lt
  have C224 : CHr Z own_EL T220.vm T223.heap T220.vm T224.heap := CHr.keep K224 (sfS (Safe.exa hZ.alike f103_Exa_al1 (by decide) (by decide)) (sfS (own_ALsafe hZ.alike f101_Prd_al1) sf0)) CR223.1
  have CR224 := CR223.trans C224
  have kz224 : _ ≤ T224.heap.size := Nat.le_trans kz223 K224.1
  have Z224 : n0 ≤ T224.heap.size := Nat.le_trans Z223 K224.1
  have O224 : Old Z n0 T224.heap := O223.keep K224 (allS A1.1 (allS A1.2.1 all0))
  have f114_Exa_a1 : Exa Z T224.heap a1 "com/example/shaper/shaper/core/ConfigProblems" := (f98_Exa_a1.keep K224)
  have f115_Fld_a1 : Fld Z T224.heap a1 "com/example/shaper/shaper/core/ConfigProblems" "violations" "Ljava/util/List;" (.ref al1) := (f99_Fld_a1.keep K224 (ninS q1 (ninS q2 nin0)))
  have f116_Fld_a1 : Fld Z T224.heap a1 "com/example/shaper/shaper/core/ConfigProblems" "unsupported" "Ljava/util/List;" (.ref al2) := (f100_Fld_a1.keep K224 (ninS q1 (ninS q2 nin0)))
  have f117_Prd_al2 : own_AL Z wD T224.heap n0 al2 k2 dd2 f2 := (own_ALkeep f102_Prd_al2 K224 (ninS (Ne.symm q5) (ninS (Ne.symm q7) nin0)) (ninS (Ne.symm q6) (ninS (Ne.symm q8) nin0)))
  have f118_Exa_al1 : Exa Z T224.heap al1 "java/util/ArrayList" := (f103_Exa_al1.keep K224)
  have f119_Exa_sa223 : Exa Z T224.heap sa223 "java/lang/String" := (Ex223.keep K224)
  refine own_jumpH (g' := (mkF m 32 #[rv a1, rv r2, rv r3] [(.int (1 : Int32))])) st224 ?_
  refine own_stH (mkF m 33 #[rv a1, rv r2, rv r3] []) (fun t k => XS.pop X224.here hx rfl (hb hby d14_32) rfl rfl k) ?_
  refine own_retH X224 hlk S220 (own_leE rfl kz224) (v := none) (fun _ => rfl) (fun fs hr => X224.returnOut hx hret (hb hby d14_33) hr) ?_ (own_CHend hs0 rfl CR224 (CHv.at X224 hZ hEL CR224.1)) (by decide) (by decide)
  show own_Q14 Z a1 r2 r3 k1 k2 f1 f2 b2 kb2 bs2 b3 kb3 bs3 wc wD kD h0 n0 _ T224.heap _
  exact ⟨_, _, rfl, N224, O224, ⟨al1, dn224, al2, dd2, gp, f114_Exa_a1, f115_Fld_a1, f116_Fld_a1, A224, f117_Prd_al2, q1, (own_neD hd224 q2 lp), q3, q4, q5, q6, (Ne.symm (own_neD hd224 (Ne.symm q7) lo1)), (Ne.symm (own_neD hd224 (Ne.symm q8) lo2))⟩⟩
theorem d42_0 : decode prog_4_method_4_code 0 = .ok (.aload_n 0, 1) := by decide +kernel
theorem d42_1 : decode prog_4_method_4_code 1 = .ok (.getfield 16, 3) := by decide +kernel
theorem d42_4 : decode prog_4_method_4_code 4 = .ok (.new 19, 3) := by decide +kernel
theorem d42_7 : decode prog_4_method_4_code 7 = .ok (.dup, 1) := by decide +kernel
theorem d42_8 : decode prog_4_method_4_code 8 = .ok (.invokespecial 21, 3) := by decide +kernel
theorem d42_11 : decode prog_4_method_4_code 11 = .ok (.aload_n 1, 1) := by decide +kernel
theorem d42_12 : decode prog_4_method_4_code 12 = .ok (.invokevirtual 22, 3) := by decide +kernel
theorem d42_15 : decode prog_4_method_4_code 15 = .ok (.ldc 26, 2) := by decide +kernel
theorem d42_17 : decode prog_4_method_4_code 17 = .ok (.invokevirtual 22, 3) := by decide +kernel
theorem d42_20 : decode prog_4_method_4_code 20 = .ok (.aload_n 2, 1) := by decide +kernel
theorem d42_21 : decode prog_4_method_4_code 21 = .ok (.invokevirtual 22, 3) := by decide +kernel
theorem d42_24 : decode prog_4_method_4_code 24 = .ok (.invokevirtual 28, 3) := by decide +kernel
theorem d42_27 : decode prog_4_method_4_code 27 = .ok (.invokeinterface 32 2, 5) := by decide +kernel
theorem d42_32 : decode prog_4_method_4_code 32 = .ok (.pop, 1) := by decide +kernel
theorem d42_33 : decode prog_4_method_4_code 33 = .ok (.return_, 1) := by decide +kernel
theorem own_ef42_1 (m : MethodId) (a1 : Addr) (r2 : Addr) (r3 : Addr) : entryFrame m #[(.ref a1), (.ref r2), (.ref r3)] 3 = mkF m 0 #[rv a1, rv r2, rv r3] [] := by first | (simp [entryFrame, mkF, argsToLocals, Value.category]; done) | rfl
def own_Q42_1 (Z : State) (a1 : Addr) (r2 : Addr) (r3 : Addr) (k1 : Nat) (k2 : Nat) (f1 : Value) (f2 : Value) (b2 : Addr) (kb2 : ClassId) (bs2 : List Int32) (b3 : Addr) (kb3 : ClassId) (bs3 : List Int32) (wc : Int32) (wD : Addr) (kD : ClassId) (h0 : Heap) (n0 : Nat) (v : Option Value) (h : Heap) (L : List Loc) : Prop := ∃ g1 g2 : Value, v = none ∧ Fr n0 L ∧ Old Z n0 h ∧ own_CP Z wD h n0 a1 k1 (k2 + 1) g1 g2
set_option maxRecDepth 65536 in
set_option maxHeartbeats 40000000 in
theorem own_rm42_1 (l : Launch) (Z : State) (a0 : Array Value) (hw : own_W a0 Z) (ws : List Jvm.Cond) (a1 : Addr) (r2 : Addr) (r3 : Addr) (k1 : Nat) (k2 : Nat) (f1 : Value) (f2 : Value) (b2 : Addr) (kb2 : ClassId) (bs2 : List Int32) (b3 : Addr) (kb3 : ClassId) (bs3 : List Int32) (wc : Int32) (wD : Addr) (kD : ClassId) (h0 : Heap) (n0 : Nat) (Z0 : n0 ≤ h0.size) (O0 : Old Z n0 h0) (SS : own_St Z wc wD kD) (hEL : EW Z a0 own_EL) (hk : k1 + k2 ≤ 7) (hb2 : bs2.length = 1) (hb3 : bs3.length = 1) (P0 : own_CP Z wD h0 n0 a1 k1 k2 f1 f2) (S2e : Exa Z h0 r2 "java/lang/String") (S2v : Fld Z h0 r2 "java/lang/String" "value" "[B" (.ref b2)) (S2c : Fld Z h0 r2 "java/lang/String" "coder" "B" (.int (0 : Int32))) (S2a : Arv Z h0 b2 kb2 .byte (1 : Int32) ((bs2).map Value.int) (.int (0 : Int32))) (S3e : Exa Z h0 r3 "java/lang/String") (S3v : Fld Z h0 r3 "java/lang/String" "value" "[B" (.ref b3)) (S3c : Fld Z h0 r3 "java/lang/String" "coder" "B" (.int (0 : Int32))) (S3a : Arv Z h0 b3 kb3 .byte (1 : Int32) ((bs3).map Value.int) (.int (0 : Int32))) :
    MetFree l (⟨"com/example/shaper/shaper/core/ConfigProblems", "unsupported", "(Ljava/lang/String;Ljava/lang/String;)V"⟩ : MethodName) (head1 (Jvm.Cond.code (⟨"com/example/shaper/shaper/core/ConfigProblems", "unsupported", "(Ljava/lang/String;Ljava/lang/String;)V"⟩ : MethodName) prog_4_method_4_code 3 none :: ws) ({ frames := 6, cells := 7, slots := 50, locals := 92 } : Room)) (fun a U => a = #[(.ref a1), (.ref r2), (.ref r3)] ∧ Z.Warmed39 U.vm ∧ U.heap = h0 ∧ CHv Z own_EL U.vm h0) (fun _ _ _ _ _ => True) (fun _ U o U' => ∃ v L, o = .returned v ∧ own_Q42_1 Z a1 r2 r3 k1 k2 f1 f2 b2 kb2 bs2 b3 kb3 bs3 wc wD kD h0 n0 v U'.heap L ∧ CHr Z own_EL U.vm U.heap U'.vm U'.heap ∧ ReturnedEndW U o U' L ({ frames := 6, cells := 7, slots := 50, locals := 92 } : Room).cells ({ frames := 6, cells := 7, slots := 50, locals := 92 } : Room).slots) := by
  refine own_bodyH (plainFor_of_name pn_1) (fun m => own_ef42_1 m a1 r2 r3) ?_
  intro p e s m below meth c T0 X0 hx hby hml hZ hown hnm hret hlk e0 hs0 S0 CH0
  have hown : (s.setVm s.vm).vm.findClass "com/example/shaper/shaper/core/ConfigProblems" = some m.cls := hown
  have CR0 := CHr.refl CH0
  have kz0 : h0.size ≤ h0.size := Nat.le_refl _
  have hnm : meth.name = "unsupported" := hnm
  have N0 := Fr.nil n0
  obtain ⟨al1, dd1, al2, dd2, gp, Ep, Fvi, Fun, A1, A2, q1, q2, q3, q4, q5, q6, q7, q8⟩ := id P0
  have Eal := A2.2.2.1
  refine own_stH (mkF m 1 #[rv a1, rv r2, rv r3] [(.ref a1)]) (fun t k => XS.aloadN X0.here hx rfl (hb hby d42_0) rfl rfl k) ?_
  obtain ⟨T225, X225, e225, st225⟩ := getF X0 hx hZ hown (host := "") (Or.inl (hw_35 hw)) Via.refl e0 Fun (g := (mkF m 1 #[rv a1, rv r2, rv r3] [(.ref a1)])) rfl rfl (hb hby d42_1)
  refine own_stepH (g' := (mkF m 4 #[rv a1, rv r2, rv r3] [(.ref al2)])) st225 ?_
  obtain ⟨T226, h226, X226, e226, E226, A226, D226, -, st226⟩ := newO X225 hx hZ hown (hw_89 hw) (hw_90 hw) (hw_91 hw) e225 (g := (mkF m 4 #[rv a1, rv r2, rv r3] [(.ref al2)])) rfl (hb hby d42_4) (by decide) (by decide)
  obtain ⟨b226, g226⟩ : ∃ z, z = h0.size := ⟨_, rfl⟩
  rw [← g226] at A226 D226 st226
  have E_226 : Ext h0 h226 := E226
  have g_b226 : n0 ≤ b226 := Nat.le_trans Z0 (Nat.le_of_eq g226.symm)
  have ne_a1_b226 : a1 ≠ b226 := Nat.ne_of_lt (Nat.lt_of_lt_of_le Ep.lt (Nat.le_of_eq g226.symm))
  have ne_al1_b226 : al1 ≠ b226 := Nat.ne_of_lt (Nat.lt_of_lt_of_le (own_ALl1 A1).lt (Nat.le_of_eq g226.symm))
  have ne_dd1_b226 : dd1 ≠ b226 := Nat.ne_of_lt (Nat.lt_of_lt_of_le (own_ALl2 A1).lt (Nat.le_of_eq g226.symm))
  have ne_al2_b226 : al2 ≠ b226 := Nat.ne_of_lt (Nat.lt_of_lt_of_le (own_ALl1 A2).lt (Nat.le_of_eq g226.symm))
  have ne_dd2_b226 : dd2 ≠ b226 := Nat.ne_of_lt (Nat.lt_of_lt_of_le (own_ALl2 A2).lt (Nat.le_of_eq g226.symm))
  have ne_r2_b226 : r2 ≠ b226 := Nat.ne_of_lt (Nat.lt_of_lt_of_le S2e.lt (Nat.le_of_eq g226.symm))
  have ne_b2_b226 : b2 ≠ b226 := Nat.ne_of_lt (Nat.lt_of_lt_of_le S2a.lt (Nat.le_of_eq g226.symm))
  have ne_r3_b226 : r3 ≠ b226 := Nat.ne_of_lt (Nat.lt_of_lt_of_le S3e.lt (Nat.le_of_eq g226.symm))
  have ne_b3_b226 : b3 ≠ b226 := Nat.ne_of_lt (Nat.lt_of_lt_of_le S3a.lt (Nat.le_of_eq g226.symm))
  have Z226 : n0 ≤ h226.size := Nat.le_trans Z0 E226.1
  have C226 : CHr Z own_EL s.vm h0 s.vm h226 := CHr.ext E226 CR0.1
  have CR226 := CR0.trans C226
  have kz226 : _ ≤ h226.size := Nat.le_trans kz0 E226.1
  have O226 : Old Z n0 h226 := O0.ext E226
  have f1_Exa_a1 : Exa Z h226 a1 "com/example/shaper/shaper/core/ConfigProblems" := (Ep.ext E226)
  have f2_Fld_a1 : Fld Z h226 a1 "com/example/shaper/shaper/core/ConfigProblems" "violations" "Ljava/util/List;" (.ref al1) := (Fvi.ext E226)
  have f3_Fld_a1 : Fld Z h226 a1 "com/example/shaper/shaper/core/ConfigProblems" "unsupported" "Ljava/util/List;" (.ref al2) := (Fun.ext E226)
  have f4_Prd_al1 : own_AL Z wD h226 n0 al1 k1 dd1 f1 := (own_ALext A1 E226)
  have f5_Prd_al2 : own_AL Z wD h226 n0 al2 k2 dd2 f2 := (own_ALext A2 E226)
  have f6_Exa_al2 : Exa Z h226 al2 "java/util/ArrayList" := (Eal.ext E226)
  have f7_Exa_r2 : Exa Z h226 r2 "java/lang/String" := (S2e.ext E226)
  have f8_Fld_r2 : Fld Z h226 r2 "java/lang/String" "value" "[B" (.ref b2) := (S2v.ext E226)
  have f9_Fld_r2 : Fld Z h226 r2 "java/lang/String" "coder" "B" (.int (0 : Int32)) := (S2c.ext E226)
  have f10_Arv_b2 : Arv Z h226 b2 kb2 .byte (1 : Int32) ((bs2).map Value.int) (.int (0 : Int32)) := (S2a.ext E226)
  have f11_Exa_r3 : Exa Z h226 r3 "java/lang/String" := (S3e.ext E226)
  have f12_Fld_r3 : Fld Z h226 r3 "java/lang/String" "value" "[B" (.ref b3) := (S3v.ext E226)
  have f13_Fld_r3 : Fld Z h226 r3 "java/lang/String" "coder" "B" (.int (0 : Int32)) := (S3c.ext E226)
  have f14_Arv_b3 : Arv Z h226 b3 kb3 .byte (1 : Int32) ((bs3).map Value.int) (.int (0 : Int32)) := (S3a.ext E226)
  have F_value_b226 : Fld Z h226 b226 "java/lang/AbstractStringBuilder" "value" "[B" .null := D226 (Or.inl (hw_104 hw)) (ty := (.array .byte)) (by decide)
  have F_coder_b226 : Fld Z h226 b226 "java/lang/AbstractStringBuilder" "coder" "B" (.int (0 : Int32)) := D226 (Or.inl (hw_106 hw)) (ty := .byte) (by decide)
  have F_count_b226 : Fld Z h226 b226 "java/lang/AbstractStringBuilder" "count" "I" (.int (0 : Int32)) := D226 (Or.inl (hw_128 hw)) (ty := .int) (by decide)
  refine own_stepH (g' := (mkF m 7 #[rv a1, rv r2, rv r3] [(.ref b226), (.ref al2)])) st226 ?_
  refine own_stH (mkF m 8 #[rv a1, rv r2, rv r3] [(.ref b226), (.ref b226), (.ref al2)]) (fun t k => XS.dup X226.here hx rfl (hb hby d42_7) rfl rfl k) ?_
  obtain ⟨_, _, ⟨T227, L227, k227, n227⟩, -, X227, ⟨Lc227, hQ227, l227, y227, z227⟩, st227⟩ := X226.specialBack hx (y := (⟨"java/lang/StringBuilder", "<init>", "()V"⟩ : MethodName)) rfl hown (mvT hZ (hw_92 hw)) (mvT hZ (hw_93 hw)) (mvT hZ (hw_94 hw)) (by decide) (backOf (W := 2) (own_rm15 l Z a0 hw [] b226 wc wD kD h226 n0 Z226 O226 SS A226 F_value_b226 F_coder_b226 F_count_b226 g_b226) hZ (hw_94 hw) (hw_91 hw) (by decide) (by decide)) (g := (mkF m 8 #[rv a1, rv r2, rv r3] [(.ref b226), (.ref b226), (.ref al2)])) rfl (by rw [hml]; rfl) (Steps.refl _) (a := b226) (argsL := []) (rest := [(.ref b226), (.ref al2)]) (lenOf pd_20 rfl) rfl (by show 2 * 0 + _ ≤ _; exact Nat.le_of_eq rfl) (hb hby d42_8) (fun _ _ => ⟨rfl, e226, (by decide : 1 + 1 ≤ _), (by decide : 4 + 16 ≤ _)⟩)
  dsimp only [Pt.U, Pt.locs, Pt.cells, Pt.slots] at X227 l227 y227 z227 st227 hQ227
  subst l227 y227 z227
  obtain ⟨vb227, kb227, rfl, Nq227, K227, gb227, Ex227, Fv227, Fc227, Fn227, V227⟩ := hQ227
  have N227 := Fr.app N0 Nq227
  have g_vb227 : n0 ≤ vb227 := Nat.le_trans Z226 gb227
  have ne_a1_vb227 : a1 ≠ vb227 := Nat.ne_of_lt (Nat.lt_of_lt_of_le f1_Exa_a1.lt gb227)
  have ne_al1_vb227 : al1 ≠ vb227 := Nat.ne_of_lt (Nat.lt_of_lt_of_le (own_ALl1 f4_Prd_al1).lt gb227)
  have ne_dd1_vb227 : dd1 ≠ vb227 := Nat.ne_of_lt (Nat.lt_of_lt_of_le (own_ALl2 f4_Prd_al1).lt gb227)
  have ne_al2_vb227 : al2 ≠ vb227 := Nat.ne_of_lt (Nat.lt_of_lt_of_le (own_ALl1 f5_Prd_al2).lt gb227)
  have ne_dd2_vb227 : dd2 ≠ vb227 := Nat.ne_of_lt (Nat.lt_of_lt_of_le (own_ALl2 f5_Prd_al2).lt gb227)
  have ne_r2_vb227 : r2 ≠ vb227 := Nat.ne_of_lt (Nat.lt_of_lt_of_le f7_Exa_r2.lt gb227)
  have ne_b2_vb227 : b2 ≠ vb227 := Nat.ne_of_lt (Nat.lt_of_lt_of_le f10_Arv_b2.lt gb227)
  have ne_r3_vb227 : r3 ≠ vb227 := Nat.ne_of_lt (Nat.lt_of_lt_of_le f11_Exa_r3.lt gb227)
  have ne_b3_vb227 : b3 ≠ vb227 := Nat.ne_of_lt (Nat.lt_of_lt_of_le f14_Arv_b3.lt gb227)
  have ne_b226_vb227 : b226 ≠ vb227 := Nat.ne_of_lt (Nat.lt_of_lt_of_le A226.lt gb227)
  have C227 : CHr Z own_EL s.vm h226 s.vm T227.heap := CHr.keep K227 (sfS (Safe.exa hZ.alike A226 (by decide) (by decide)) sf0) CR226.1
  have CR227 := CR226.trans C227
  have kz227 : _ ≤ T227.heap.size := Nat.le_trans kz226 K227.1
  have Z227 : n0 ≤ T227.heap.size := Nat.le_trans Z226 K227.1
  have O227 : Old Z n0 T227.heap := O226.keep K227 (allS g_b226 all0)
  have f15_Exa_a1 : Exa Z T227.heap a1 "com/example/shaper/shaper/core/ConfigProblems" := (f1_Exa_a1.keep K227)
  have f16_Fld_a1 : Fld Z T227.heap a1 "com/example/shaper/shaper/core/ConfigProblems" "violations" "Ljava/util/List;" (.ref al1) := (f2_Fld_a1.keep K227 (ninS ne_a1_b226 nin0))
  have f17_Fld_a1 : Fld Z T227.heap a1 "com/example/shaper/shaper/core/ConfigProblems" "unsupported" "Ljava/util/List;" (.ref al2) := (f3_Fld_a1.keep K227 (ninS ne_a1_b226 nin0))
  have f18_Prd_al1 : own_AL Z wD T227.heap n0 al1 k1 dd1 f1 := (own_ALkeep f4_Prd_al1 K227 (ninS ne_al1_b226 nin0) (ninS ne_dd1_b226 nin0))
  have f19_Prd_al2 : own_AL Z wD T227.heap n0 al2 k2 dd2 f2 := (own_ALkeep f5_Prd_al2 K227 (ninS ne_al2_b226 nin0) (ninS ne_dd2_b226 nin0))
  have f20_Exa_al2 : Exa Z T227.heap al2 "java/util/ArrayList" := (f6_Exa_al2.keep K227)
  have f21_Exa_r2 : Exa Z T227.heap r2 "java/lang/String" := (f7_Exa_r2.keep K227)
  have f22_Fld_r2 : Fld Z T227.heap r2 "java/lang/String" "value" "[B" (.ref b2) := (f8_Fld_r2.keep K227 (ninS ne_r2_b226 nin0))
  have f23_Fld_r2 : Fld Z T227.heap r2 "java/lang/String" "coder" "B" (.int (0 : Int32)) := (f9_Fld_r2.keep K227 (ninS ne_r2_b226 nin0))
  have f24_Arv_b2 : Arv Z T227.heap b2 kb2 .byte (1 : Int32) ((bs2).map Value.int) (.int (0 : Int32)) := (f10_Arv_b2.keep K227 (ninS ne_b2_b226 nin0))
  have f25_Exa_r3 : Exa Z T227.heap r3 "java/lang/String" := (f11_Exa_r3.keep K227)
  have f26_Fld_r3 : Fld Z T227.heap r3 "java/lang/String" "value" "[B" (.ref b3) := (f12_Fld_r3.keep K227 (ninS ne_r3_b226 nin0))
  have f27_Fld_r3 : Fld Z T227.heap r3 "java/lang/String" "coder" "B" (.int (0 : Int32)) := (f13_Fld_r3.keep K227 (ninS ne_r3_b226 nin0))
  have f28_Arv_b3 : Arv Z T227.heap b3 kb3 .byte (1 : Int32) ((bs3).map Value.int) (.int (0 : Int32)) := (f14_Arv_b3.keep K227 (ninS ne_b3_b226 nin0))
  have f29_Exa_b226 : Exa Z T227.heap b226 "java/lang/StringBuilder" := (A226.keep K227)
  have Sf_vb227 : Safe Z own_EL s.vm T227.heap vb227 := Safe.keep K227 (sfS (Safe.exa hZ.alike A226 (by decide) (by decide)) sf0) CR226.1 (Safe.new gb227)
  refine own_jumpH (g' := (mkF m 11 #[rv a1, rv r2, rv r3] [(.ref b226), (.ref al2)])) st227 ?_
  refine own_stH (mkF m 12 #[rv a1, rv r2, rv r3] [(.ref r2), (.ref b226), (.ref al2)]) (fun t k => XS.aloadN X227.here hx rfl (hb hby d42_11) rfl rfl k) ?_
  obtain ⟨cq228, kq228, q228a, q228b, q228c⟩ := isOf hZ rfl Ex227
  obtain ⟨_, _, ⟨T228, L228, k228, n228⟩, -, X228, ⟨Lc228, hQ228, l228, y228, z228⟩, st228⟩ := X227.virtualBack hx (y := (⟨"java/lang/StringBuilder", "append", "(Ljava/lang/String;)Ljava/lang/StringBuilder;"⟩ : MethodName)) (z := (⟨"java/lang/StringBuilder", "append", "(Ljava/lang/String;)Ljava/lang/StringBuilder;"⟩ : MethodName)) hown (mvT hZ (hw_107 hw)) (mvT hZ (hw_108 hw)) (notFace_of_selects (args := #[]) (mvT hZ (hw_110 hw))) (mvT hZ (hw_110 hw)) (mvT hZ (hw_109 hw)) (by decide) (backOf (W := 1) (own_rm17_0_1 l Z a0 hw [] b226 r2 vb227 kb227 b2 bs2 kb2 [] wc wD kD T227.heap n0 Z227 O227 SS rfl hb2 Ex227 Fv227 Fc227 Fn227 V227 f21_Exa_r2 f22_Fld_r2 f23_Fld_r2 f24_Arv_b2 g_b226 ne_b226_vb227 (Ne.symm ne_r2_b226) (Ne.symm ne_b2_b226) ne_r2_vb227 ne_b2_vb227 g_vb227) hZ (hw_111 hw) (hw_91 hw) (by decide) (by decide)) q228a q228c (g := (mkF m 12 #[rv a1, rv r2, rv r3] [(.ref r2), (.ref b226), (.ref al2)])) rfl (by rw [hml]; rfl) (Steps.refl _) (argsL := [(.ref r2)]) (rest := [(.ref al2)]) (lenOf pd_24 rfl) rfl (by show 2 * 0 + _ ≤ _; exact Nat.le_of_eq rfl) (hb hby d42_12) (fun _ _ => ⟨rfl, rfl, (by decide : 2 + 0 ≤ _), (by decide : 20 + 0 ≤ _)⟩)
  dsimp only [Pt.U, Pt.locs, Pt.cells, Pt.slots] at X228 l228 y228 z228 st228 hQ228
  subst l228 y228 z228
  obtain ⟨rfl, Nq228, K228, Ex228, Fv228, Fc228, Fn228, V228⟩ := hQ228
  have N228 := Fr.app N227 Nq228
  have C228 : CHr Z own_EL s.vm T227.heap s.vm T228.heap := CHr.keep K228 (sfS (Safe.exa hZ.alike Ex227 (by decide) (by decide)) (sfS Sf_vb227 sf0)) CR227.1
  have CR228 := CR227.trans C228
  have kz228 : _ ≤ T228.heap.size := Nat.le_trans kz227 K228.1
  have Z228 : n0 ≤ T228.heap.size := Nat.le_trans Z227 K228.1
  have O228 : Old Z n0 T228.heap := O227.keep K228 (allS g_b226 (allS g_vb227 all0))
  have f30_Exa_a1 : Exa Z T228.heap a1 "com/example/shaper/shaper/core/ConfigProblems" := (f15_Exa_a1.keep K228)
  have f31_Fld_a1 : Fld Z T228.heap a1 "com/example/shaper/shaper/core/ConfigProblems" "violations" "Ljava/util/List;" (.ref al1) := (f16_Fld_a1.keep K228 (ninS ne_a1_b226 (ninS ne_a1_vb227 nin0)))
  have f32_Fld_a1 : Fld Z T228.heap a1 "com/example/shaper/shaper/core/ConfigProblems" "unsupported" "Ljava/util/List;" (.ref al2) := (f17_Fld_a1.keep K228 (ninS ne_a1_b226 (ninS ne_a1_vb227 nin0)))
  have f33_Prd_al1 : own_AL Z wD T228.heap n0 al1 k1 dd1 f1 := (own_ALkeep f18_Prd_al1 K228 (ninS ne_al1_b226 (ninS ne_al1_vb227 nin0)) (ninS ne_dd1_b226 (ninS ne_dd1_vb227 nin0)))
  have f34_Prd_al2 : own_AL Z wD T228.heap n0 al2 k2 dd2 f2 := (own_ALkeep f19_Prd_al2 K228 (ninS ne_al2_b226 (ninS ne_al2_vb227 nin0)) (ninS ne_dd2_b226 (ninS ne_dd2_vb227 nin0)))
  have f35_Exa_al2 : Exa Z T228.heap al2 "java/util/ArrayList" := (f20_Exa_al2.keep K228)
  have f36_Exa_r2 : Exa Z T228.heap r2 "java/lang/String" := (f21_Exa_r2.keep K228)
  have f37_Fld_r2 : Fld Z T228.heap r2 "java/lang/String" "value" "[B" (.ref b2) := (f22_Fld_r2.keep K228 (ninS ne_r2_b226 (ninS ne_r2_vb227 nin0)))
  have f38_Fld_r2 : Fld Z T228.heap r2 "java/lang/String" "coder" "B" (.int (0 : Int32)) := (f23_Fld_r2.keep K228 (ninS ne_r2_b226 (ninS ne_r2_vb227 nin0)))
  have f39_Arv_b2 : Arv Z T228.heap b2 kb2 .byte (1 : Int32) ((bs2).map Value.int) (.int (0 : Int32)) := (f24_Arv_b2.keep K228 (ninS ne_b2_b226 (ninS ne_b2_vb227 nin0)))
  have f40_Exa_r3 : Exa Z T228.heap r3 "java/lang/String" := (f25_Exa_r3.keep K228)
  have f41_Fld_r3 : Fld Z T228.heap r3 "java/lang/String" "value" "[B" (.ref b3) := (f26_Fld_r3.keep K228 (ninS ne_r3_b226 (ninS ne_r3_vb227 nin0)))
  have f42_Fld_r3 : Fld Z T228.heap r3 "java/lang/String" "coder" "B" (.int (0 : Int32)) := (f27_Fld_r3.keep K228 (ninS ne_r3_b226 (ninS ne_r3_vb227 nin0)))
  have f43_Arv_b3 : Arv Z T228.heap b3 kb3 .byte (1 : Int32) ((bs3).map Value.int) (.int (0 : Int32)) := (f28_Arv_b3.keep K228 (ninS ne_b3_b226 (ninS ne_b3_vb227 nin0)))
  have f44_Exa_b226 : Exa Z T228.heap b226 "java/lang/StringBuilder" := (Ex227.keep K228)
  have f45_Saf_vb227 : Safe Z own_EL s.vm T228.heap vb227 := (C228.safe V227.lt Sf_vb227)
  refine own_jumpH (g' := (mkF m 15 #[rv a1, rv r2, rv r3] [(.ref b226), (.ref al2)])) st228 ?_
  obtain ⟨la229, T229, h229, kk229, lb229, kb229, X229, e229, E229, S229, kz229, hZ, hown, Ex229, Fc229, Fv229, V229, lta229, ltb229, C229, -, nl229, st229⟩ := ldcCH (vm0 := s.vm) (EL := own_EL) X228 hx hZ hown (hw_154 hw) (own_wS hw) rfl S0 kz228 hEL own_mem26 CR228.1 (vs := ([58, 32] : List Int32).map Value.int) (z := (2 : Int32)) own_txt26 (by decide) rfl (g := (mkF m 15 #[rv a1, rv r2, rv r3] [(.ref b226), (.ref al2)])) rfl (hb hby d42_15) (n := 8) own_tln26 (by decide) (by decide) (by decide)
  have CR229 := CR228.trans C229
  have Z229 : n0 ≤ h229.size := Nat.le_trans Z228 E229.1
  have O229 : Old Z n0 h229 := O228.ext E229
  have f46_Exa_a1 : Exa Z h229 a1 "com/example/shaper/shaper/core/ConfigProblems" := (f30_Exa_a1.ext E229)
  have f47_Fld_a1 : Fld Z h229 a1 "com/example/shaper/shaper/core/ConfigProblems" "violations" "Ljava/util/List;" (.ref al1) := (f31_Fld_a1.ext E229)
  have f48_Fld_a1 : Fld Z h229 a1 "com/example/shaper/shaper/core/ConfigProblems" "unsupported" "Ljava/util/List;" (.ref al2) := (f32_Fld_a1.ext E229)
  have f49_Prd_al1 : own_AL Z wD h229 n0 al1 k1 dd1 f1 := (own_ALext f33_Prd_al1 E229)
  have f50_Prd_al2 : own_AL Z wD h229 n0 al2 k2 dd2 f2 := (own_ALext f34_Prd_al2 E229)
  have f51_Exa_al2 : Exa Z h229 al2 "java/util/ArrayList" := (f35_Exa_al2.ext E229)
  have f52_Exa_r2 : Exa Z h229 r2 "java/lang/String" := (f36_Exa_r2.ext E229)
  have f53_Fld_r2 : Fld Z h229 r2 "java/lang/String" "value" "[B" (.ref b2) := (f37_Fld_r2.ext E229)
  have f54_Fld_r2 : Fld Z h229 r2 "java/lang/String" "coder" "B" (.int (0 : Int32)) := (f38_Fld_r2.ext E229)
  have f55_Arv_b2 : Arv Z h229 b2 kb2 .byte (1 : Int32) ((bs2).map Value.int) (.int (0 : Int32)) := (f39_Arv_b2.ext E229)
  have f56_Exa_r3 : Exa Z h229 r3 "java/lang/String" := (f40_Exa_r3.ext E229)
  have f57_Fld_r3 : Fld Z h229 r3 "java/lang/String" "value" "[B" (.ref b3) := (f41_Fld_r3.ext E229)
  have f58_Fld_r3 : Fld Z h229 r3 "java/lang/String" "coder" "B" (.int (0 : Int32)) := (f42_Fld_r3.ext E229)
  have f59_Arv_b3 : Arv Z h229 b3 kb3 .byte (1 : Int32) ((bs3).map Value.int) (.int (0 : Int32)) := (f43_Arv_b3.ext E229)
  have f60_Exa_b226 : Exa Z h229 b226 "java/lang/StringBuilder" := (Ex228.ext E229)
  have f61_Saf_vb227 : Safe Z own_EL T229.vm h229 vb227 := (C229.safe V228.lt f45_Saf_vb227)
  have f62_Fld_b226 : Fld Z h229 b226 "java/lang/AbstractStringBuilder" "value" "[B" (.ref vb227) := (Fv228.ext E229)
  have f63_Fld_b226 : Fld Z h229 b226 "java/lang/AbstractStringBuilder" "coder" "B" (.int (0 : Int32)) := (Fc228.ext E229)
  have f64_Fld_b226 : Fld Z h229 b226 "java/lang/AbstractStringBuilder" "count" "I" (.int (1 : Int32)) := (Fn228.ext E229)
  have f65_Arv_vb227 : Arv Z h229 vb227 kb227 .byte (16 : Int32) ((([] ++ bs2) ++ List.replicate 15 (0 : Int32)).map Value.int) (.int (0 : Int32)) := (V228.ext E229)
  obtain ⟨ne_b226_la229, ne_b226_lb229⟩ := nl229 b226 (Safe.exa hZ.alike f60_Exa_b226 (by decide) (by decide))
  obtain ⟨ne_vb227_la229, ne_vb227_lb229⟩ := nl229 vb227 f61_Saf_vb227
  refine own_stepH (g' := (mkF m 17 #[rv a1, rv r2, rv r3] [(.ref la229), (.ref b226), (.ref al2)])) st229 ?_
  obtain ⟨cq230, kq230, q230a, q230b, q230c⟩ := isOf hZ e229 f60_Exa_b226
  obtain ⟨_, _, ⟨T230, L230, k230, n230⟩, -, X230, ⟨Lc230, hQ230, l230, y230, z230⟩, st230⟩ := X229.virtualBack hx (y := (⟨"java/lang/StringBuilder", "append", "(Ljava/lang/String;)Ljava/lang/StringBuilder;"⟩ : MethodName)) (z := (⟨"java/lang/StringBuilder", "append", "(Ljava/lang/String;)Ljava/lang/StringBuilder;"⟩ : MethodName)) hown (mvT hZ (hw_107 hw)) (mvT hZ (hw_108 hw)) (notFace_of_selects (args := #[]) (mvT hZ (hw_110 hw))) (mvT hZ (hw_110 hw)) (mvT hZ (hw_109 hw)) (by decide) (backOf (W := 1) (own_rm17_1_2 l Z a0 hw [] b226 la229 vb227 kb227 lb229 ([58, 32] : List Int32) kb229 ([] ++ bs2) wc wD kD h229 n0 Z229 O229 SS (by simp [hb2]) rfl f60_Exa_b226 f62_Fld_b226 f63_Fld_b226 f64_Fld_b226 f65_Arv_vb227 Ex229 Fv229 Fc229 V229 g_b226 ne_b226_vb227 ne_b226_la229 ne_b226_lb229 (Ne.symm ne_vb227_la229) (Ne.symm ne_vb227_lb229) g_vb227) hZ (hw_111 hw) (hw_91 hw) (by decide) (by decide)) q230a q230c (g := (mkF m 17 #[rv a1, rv r2, rv r3] [(.ref la229), (.ref b226), (.ref al2)])) rfl (by rw [hml]; rfl) (Steps.refl _) (argsL := [(.ref la229)]) (rest := [(.ref al2)]) (lenOf pd_24 rfl) rfl (by show 2 * 0 + _ ≤ _; exact Nat.le_of_eq rfl) (hb hby d42_17) (fun _ _ => ⟨rfl, e229, (by decide : 4 + 0 ≤ _), (by decide : 32 + 0 ≤ _)⟩)
  dsimp only [Pt.U, Pt.locs, Pt.cells, Pt.slots] at X230 l230 y230 z230 st230 hQ230
  subst l230 y230 z230
  obtain ⟨rfl, Nq230, K230, Ex230, Fv230, Fc230, Fn230, V230⟩ := hQ230
  have N230 := Fr.app N228 Nq230
  have C230 : CHr Z own_EL T229.vm h229 T229.vm T230.heap := CHr.keep K230 (sfS (Safe.exa hZ.alike f60_Exa_b226 (by decide) (by decide)) (sfS f61_Saf_vb227 sf0)) CR229.1
  have CR230 := CR229.trans C230
  have kz230 : _ ≤ T230.heap.size := Nat.le_trans kz229 K230.1
  have Z230 : n0 ≤ T230.heap.size := Nat.le_trans Z229 K230.1
  have O230 : Old Z n0 T230.heap := O229.keep K230 (allS g_b226 (allS g_vb227 all0))
  have f66_Exa_a1 : Exa Z T230.heap a1 "com/example/shaper/shaper/core/ConfigProblems" := (f46_Exa_a1.keep K230)
  have f67_Fld_a1 : Fld Z T230.heap a1 "com/example/shaper/shaper/core/ConfigProblems" "violations" "Ljava/util/List;" (.ref al1) := (f47_Fld_a1.keep K230 (ninS ne_a1_b226 (ninS ne_a1_vb227 nin0)))
  have f68_Fld_a1 : Fld Z T230.heap a1 "com/example/shaper/shaper/core/ConfigProblems" "unsupported" "Ljava/util/List;" (.ref al2) := (f48_Fld_a1.keep K230 (ninS ne_a1_b226 (ninS ne_a1_vb227 nin0)))
  have f69_Prd_al1 : own_AL Z wD T230.heap n0 al1 k1 dd1 f1 := (own_ALkeep f49_Prd_al1 K230 (ninS ne_al1_b226 (ninS ne_al1_vb227 nin0)) (ninS ne_dd1_b226 (ninS ne_dd1_vb227 nin0)))
  have f70_Prd_al2 : own_AL Z wD T230.heap n0 al2 k2 dd2 f2 := (own_ALkeep f50_Prd_al2 K230 (ninS ne_al2_b226 (ninS ne_al2_vb227 nin0)) (ninS ne_dd2_b226 (ninS ne_dd2_vb227 nin0)))
  have f71_Exa_al2 : Exa Z T230.heap al2 "java/util/ArrayList" := (f51_Exa_al2.keep K230)
  have f72_Exa_r2 : Exa Z T230.heap r2 "java/lang/String" := (f52_Exa_r2.keep K230)
  have f73_Fld_r2 : Fld Z T230.heap r2 "java/lang/String" "value" "[B" (.ref b2) := (f53_Fld_r2.keep K230 (ninS ne_r2_b226 (ninS ne_r2_vb227 nin0)))
  have f74_Fld_r2 : Fld Z T230.heap r2 "java/lang/String" "coder" "B" (.int (0 : Int32)) := (f54_Fld_r2.keep K230 (ninS ne_r2_b226 (ninS ne_r2_vb227 nin0)))
  have f75_Arv_b2 : Arv Z T230.heap b2 kb2 .byte (1 : Int32) ((bs2).map Value.int) (.int (0 : Int32)) := (f55_Arv_b2.keep K230 (ninS ne_b2_b226 (ninS ne_b2_vb227 nin0)))
  have f76_Exa_r3 : Exa Z T230.heap r3 "java/lang/String" := (f56_Exa_r3.keep K230)
  have f77_Fld_r3 : Fld Z T230.heap r3 "java/lang/String" "value" "[B" (.ref b3) := (f57_Fld_r3.keep K230 (ninS ne_r3_b226 (ninS ne_r3_vb227 nin0)))
  have f78_Fld_r3 : Fld Z T230.heap r3 "java/lang/String" "coder" "B" (.int (0 : Int32)) := (f58_Fld_r3.keep K230 (ninS ne_r3_b226 (ninS ne_r3_vb227 nin0)))
  have f79_Arv_b3 : Arv Z T230.heap b3 kb3 .byte (1 : Int32) ((bs3).map Value.int) (.int (0 : Int32)) := (f59_Arv_b3.keep K230 (ninS ne_b3_b226 (ninS ne_b3_vb227 nin0)))
  have f80_Exa_b226 : Exa Z T230.heap b226 "java/lang/StringBuilder" := (f60_Exa_b226.keep K230)
  have f81_Saf_vb227 : Safe Z own_EL T229.vm T230.heap vb227 := (C230.safe f65_Arv_vb227.lt f61_Saf_vb227)
  have f82_Exa_la229 : Exa Z T230.heap la229 "java/lang/String" := (Ex229.keep K230)
  have f83_Fld_la229 : Fld Z T230.heap la229 "java/lang/String" "value" "[B" (.ref lb229) := (Fv229.keep K230 (ninS (Ne.symm ne_b226_la229) (ninS (Ne.symm ne_vb227_la229) nin0)))
  have f84_Fld_la229 : Fld Z T230.heap la229 "java/lang/String" "coder" "B" (.int (0 : Int32)) := (Fc229.keep K230 (ninS (Ne.symm ne_b226_la229) (ninS (Ne.symm ne_vb227_la229) nin0)))
  have f85_Arv_lb229 : Arv Z T230.heap lb229 kb229 .byte (2 : Int32) (([58, 32] : List Int32).map Value.int) (.int (0 : Int32)) := (V229.keep K230 (ninS (Ne.symm ne_b226_lb229) (ninS (Ne.symm ne_vb227_lb229) nin0)))
  refine own_jumpH (g' := (mkF m 20 #[rv a1, rv r2, rv r3] [(.ref b226), (.ref al2)])) st230 ?_
  refine own_stH (mkF m 21 #[rv a1, rv r2, rv r3] [(.ref r3), (.ref b226), (.ref al2)]) (fun t k => XS.aloadN X230.here hx rfl (hb hby d42_20) rfl rfl k) ?_
  obtain ⟨cq231, kq231, q231a, q231b, q231c⟩ := isOf hZ rfl Ex230
  obtain ⟨_, _, ⟨T231, L231, k231, n231⟩, -, X231, ⟨Lc231, hQ231, l231, y231, z231⟩, st231⟩ := X230.virtualBack hx (y := (⟨"java/lang/StringBuilder", "append", "(Ljava/lang/String;)Ljava/lang/StringBuilder;"⟩ : MethodName)) (z := (⟨"java/lang/StringBuilder", "append", "(Ljava/lang/String;)Ljava/lang/StringBuilder;"⟩ : MethodName)) hown (mvT hZ (hw_107 hw)) (mvT hZ (hw_108 hw)) (notFace_of_selects (args := #[]) (mvT hZ (hw_110 hw))) (mvT hZ (hw_110 hw)) (mvT hZ (hw_109 hw)) (by decide) (backOf (W := 1) (own_rm17_3_1 l Z a0 hw [] b226 r3 vb227 kb227 b3 bs3 kb3 (([] ++ bs2) ++ [58, 32]) wc wD kD T230.heap n0 Z230 O230 SS (by simp [hb2]) hb3 Ex230 Fv230 Fc230 Fn230 V230 f76_Exa_r3 f77_Fld_r3 f78_Fld_r3 f79_Arv_b3 g_b226 ne_b226_vb227 (Ne.symm ne_r3_b226) (Ne.symm ne_b3_b226) ne_r3_vb227 ne_b3_vb227 g_vb227) hZ (hw_111 hw) (hw_91 hw) (by decide) (by decide)) q231a q231c (g := (mkF m 21 #[rv a1, rv r2, rv r3] [(.ref r3), (.ref b226), (.ref al2)])) rfl (by rw [hml]; rfl) (Steps.refl _) (argsL := [(.ref r3)]) (rest := [(.ref al2)]) (lenOf pd_24 rfl) rfl (by show 2 * 0 + _ ≤ _; exact Nat.le_of_eq rfl) (hb hby d42_21) (fun _ _ => ⟨rfl, rfl, (by decide : 4 + 0 ≤ _), (by decide : 32 + 0 ≤ _)⟩)
  dsimp only [Pt.U, Pt.locs, Pt.cells, Pt.slots] at X231 l231 y231 z231 st231 hQ231
  subst l231 y231 z231
  obtain ⟨rfl, Nq231, K231, Ex231, Fv231, Fc231, Fn231, V231⟩ := hQ231
  have N231 := Fr.app N230 Nq231
  have C231 : CHr Z own_EL T229.vm T230.heap T229.vm T231.heap := CHr.keep K231 (sfS (Safe.exa hZ.alike Ex230 (by decide) (by decide)) (sfS f81_Saf_vb227 sf0)) CR230.1
  have CR231 := CR230.trans C231
  have kz231 : _ ≤ T231.heap.size := Nat.le_trans kz230 K231.1
  have Z231 : n0 ≤ T231.heap.size := Nat.le_trans Z230 K231.1
  have O231 : Old Z n0 T231.heap := O230.keep K231 (allS g_b226 (allS g_vb227 all0))
  have f86_Exa_a1 : Exa Z T231.heap a1 "com/example/shaper/shaper/core/ConfigProblems" := (f66_Exa_a1.keep K231)
  have f87_Fld_a1 : Fld Z T231.heap a1 "com/example/shaper/shaper/core/ConfigProblems" "violations" "Ljava/util/List;" (.ref al1) := (f67_Fld_a1.keep K231 (ninS ne_a1_b226 (ninS ne_a1_vb227 nin0)))
  have f88_Fld_a1 : Fld Z T231.heap a1 "com/example/shaper/shaper/core/ConfigProblems" "unsupported" "Ljava/util/List;" (.ref al2) := (f68_Fld_a1.keep K231 (ninS ne_a1_b226 (ninS ne_a1_vb227 nin0)))
  have f89_Prd_al1 : own_AL Z wD T231.heap n0 al1 k1 dd1 f1 := (own_ALkeep f69_Prd_al1 K231 (ninS ne_al1_b226 (ninS ne_al1_vb227 nin0)) (ninS ne_dd1_b226 (ninS ne_dd1_vb227 nin0)))
  have f90_Prd_al2 : own_AL Z wD T231.heap n0 al2 k2 dd2 f2 := (own_ALkeep f70_Prd_al2 K231 (ninS ne_al2_b226 (ninS ne_al2_vb227 nin0)) (ninS ne_dd2_b226 (ninS ne_dd2_vb227 nin0)))
  have f91_Exa_al2 : Exa Z T231.heap al2 "java/util/ArrayList" := (f71_Exa_al2.keep K231)
  have f92_Exa_r3 : Exa Z T231.heap r3 "java/lang/String" := (f76_Exa_r3.keep K231)
  have f93_Fld_r3 : Fld Z T231.heap r3 "java/lang/String" "value" "[B" (.ref b3) := (f77_Fld_r3.keep K231 (ninS ne_r3_b226 (ninS ne_r3_vb227 nin0)))
  have f94_Fld_r3 : Fld Z T231.heap r3 "java/lang/String" "coder" "B" (.int (0 : Int32)) := (f78_Fld_r3.keep K231 (ninS ne_r3_b226 (ninS ne_r3_vb227 nin0)))
  have f95_Arv_b3 : Arv Z T231.heap b3 kb3 .byte (1 : Int32) ((bs3).map Value.int) (.int (0 : Int32)) := (f79_Arv_b3.keep K231 (ninS ne_b3_b226 (ninS ne_b3_vb227 nin0)))
  have f96_Exa_b226 : Exa Z T231.heap b226 "java/lang/StringBuilder" := (Ex230.keep K231)
  have f97_Saf_vb227 : Safe Z own_EL T229.vm T231.heap vb227 := (C231.safe V230.lt f81_Saf_vb227)
  refine own_jumpH (g' := (mkF m 24 #[rv a1, rv r2, rv r3] [(.ref b226), (.ref al2)])) st231 ?_
  obtain ⟨cq232, kq232, q232a, q232b, q232c⟩ := isOf hZ rfl Ex231
  obtain ⟨_, _, ⟨T232, L232, k232, n232⟩, -, X232, ⟨Lc232, hQ232, l232, y232, z232⟩, st232⟩ := X231.virtualBack hx (y := (⟨"java/lang/StringBuilder", "toString", "()Ljava/lang/String;"⟩ : MethodName)) (z := (⟨"java/lang/StringBuilder", "toString", "()Ljava/lang/String;"⟩ : MethodName)) hown (mvT hZ (hw_157 hw)) (mvT hZ (hw_158 hw)) (notFace_of_selects (args := #[]) (mvT hZ (hw_160 hw))) (mvT hZ (hw_160 hw)) (mvT hZ (hw_159 hw)) (by decide) (backOf (W := 1) (own_rm25_t4 l Z a0 hw [] b226 vb227 kb227 ((((([] ++ bs2) ++ [58, 32])) ++ bs3) ++ List.replicate 12 (0 : Int32)) wc wD kD T231.heap n0 Z231 O231 SS (by simp [hb2, hb3]) Ex231 Fv231 Fc231 Fn231 V231) hZ (hw_161 hw) (hw_91 hw) (by decide) (by decide)) q232a q232c (g := (mkF m 24 #[rv a1, rv r2, rv r3] [(.ref b226), (.ref al2)])) rfl (by rw [hml]; rfl) (Steps.refl _) (argsL := []) (rest := [(.ref al2)]) (lenOf pd_25 rfl) rfl (by show 2 * 0 + _ ≤ _; exact Nat.le_of_eq rfl) (hb hby d42_24) (fun _ _ => ⟨rfl, rfl, (by decide : 4 + 2 ≤ _), (by decide : 32 + 8 ≤ _)⟩)
  dsimp only [Pt.U, Pt.locs, Pt.cells, Pt.slots] at X232 l232 y232 z232 st232 hQ232
  subst l232 y232 z232
  obtain ⟨sa232, ba232, kb232, rfl, Nq232, K232, ga232, gb232, ne232, Ex232, Fv232, Fc232, V232⟩ := hQ232
  have N232 := Fr.app N231 Nq232
  have g_sa232 : n0 ≤ sa232 := Nat.le_trans Z231 ga232
  have ne_a1_sa232 : a1 ≠ sa232 := Nat.ne_of_lt (Nat.lt_of_lt_of_le f86_Exa_a1.lt ga232)
  have ne_al1_sa232 : al1 ≠ sa232 := Nat.ne_of_lt (Nat.lt_of_lt_of_le (own_ALl1 f89_Prd_al1).lt ga232)
  have ne_dd1_sa232 : dd1 ≠ sa232 := Nat.ne_of_lt (Nat.lt_of_lt_of_le (own_ALl2 f89_Prd_al1).lt ga232)
  have ne_al2_sa232 : al2 ≠ sa232 := Nat.ne_of_lt (Nat.lt_of_lt_of_le (own_ALl1 f90_Prd_al2).lt ga232)
  have ne_dd2_sa232 : dd2 ≠ sa232 := Nat.ne_of_lt (Nat.lt_of_lt_of_le (own_ALl2 f90_Prd_al2).lt ga232)
  have ne_r3_sa232 : r3 ≠ sa232 := Nat.ne_of_lt (Nat.lt_of_lt_of_le f92_Exa_r3.lt ga232)
  have ne_b3_sa232 : b3 ≠ sa232 := Nat.ne_of_lt (Nat.lt_of_lt_of_le f95_Arv_b3.lt ga232)
  have ne_b226_sa232 : b226 ≠ sa232 := Nat.ne_of_lt (Nat.lt_of_lt_of_le Ex231.lt ga232)
  have ne_vb227_sa232 : vb227 ≠ sa232 := Nat.ne_of_lt (Nat.lt_of_lt_of_le V231.lt ga232)
  have g_ba232 : n0 ≤ ba232 := Nat.le_trans Z231 gb232
  have ne_a1_ba232 : a1 ≠ ba232 := Nat.ne_of_lt (Nat.lt_of_lt_of_le f86_Exa_a1.lt gb232)
  have ne_al1_ba232 : al1 ≠ ba232 := Nat.ne_of_lt (Nat.lt_of_lt_of_le (own_ALl1 f89_Prd_al1).lt gb232)
  have ne_dd1_ba232 : dd1 ≠ ba232 := Nat.ne_of_lt (Nat.lt_of_lt_of_le (own_ALl2 f89_Prd_al1).lt gb232)
  have ne_al2_ba232 : al2 ≠ ba232 := Nat.ne_of_lt (Nat.lt_of_lt_of_le (own_ALl1 f90_Prd_al2).lt gb232)
  have ne_dd2_ba232 : dd2 ≠ ba232 := Nat.ne_of_lt (Nat.lt_of_lt_of_le (own_ALl2 f90_Prd_al2).lt gb232)
  have ne_r3_ba232 : r3 ≠ ba232 := Nat.ne_of_lt (Nat.lt_of_lt_of_le f92_Exa_r3.lt gb232)
  have ne_b3_ba232 : b3 ≠ ba232 := Nat.ne_of_lt (Nat.lt_of_lt_of_le f95_Arv_b3.lt gb232)
  have ne_b226_ba232 : b226 ≠ ba232 := Nat.ne_of_lt (Nat.lt_of_lt_of_le Ex231.lt gb232)
  have ne_vb227_ba232 : vb227 ≠ ba232 := Nat.ne_of_lt (Nat.lt_of_lt_of_le V231.lt gb232)
  have C232 : CHr Z own_EL T229.vm T231.heap T229.vm T232.heap := CHr.keep K232 sf0 CR231.1
  have CR232 := CR231.trans C232
  have kz232 : _ ≤ T232.heap.size := Nat.le_trans kz231 K232.1
  have Z232 : n0 ≤ T232.heap.size := Nat.le_trans Z231 K232.1
  have O232 : Old Z n0 T232.heap := O231.keep K232 all0
  have f98_Exa_a1 : Exa Z T232.heap a1 "com/example/shaper/shaper/core/ConfigProblems" := (f86_Exa_a1.keep K232)
  have f99_Fld_a1 : Fld Z T232.heap a1 "com/example/shaper/shaper/core/ConfigProblems" "violations" "Ljava/util/List;" (.ref al1) := (f87_Fld_a1.keep K232 nin0)
  have f100_Fld_a1 : Fld Z T232.heap a1 "com/example/shaper/shaper/core/ConfigProblems" "unsupported" "Ljava/util/List;" (.ref al2) := (f88_Fld_a1.keep K232 nin0)
  have f101_Prd_al1 : own_AL Z wD T232.heap n0 al1 k1 dd1 f1 := (own_ALkeep f89_Prd_al1 K232 nin0 nin0)
  have f102_Prd_al2 : own_AL Z wD T232.heap n0 al2 k2 dd2 f2 := (own_ALkeep f90_Prd_al2 K232 nin0 nin0)
  have f103_Exa_al2 : Exa Z T232.heap al2 "java/util/ArrayList" := (f91_Exa_al2.keep K232)
  have f104_Exa_r3 : Exa Z T232.heap r3 "java/lang/String" := (f92_Exa_r3.keep K232)
  have f105_Fld_r3 : Fld Z T232.heap r3 "java/lang/String" "value" "[B" (.ref b3) := (f93_Fld_r3.keep K232 nin0)
  have f106_Fld_r3 : Fld Z T232.heap r3 "java/lang/String" "coder" "B" (.int (0 : Int32)) := (f94_Fld_r3.keep K232 nin0)
  have f107_Arv_b3 : Arv Z T232.heap b3 kb3 .byte (1 : Int32) ((bs3).map Value.int) (.int (0 : Int32)) := (f95_Arv_b3.keep K232 nin0)
  have f108_Exa_b226 : Exa Z T232.heap b226 "java/lang/StringBuilder" := (Ex231.keep K232)
  have f109_Saf_vb227 : Safe Z own_EL T229.vm T232.heap vb227 := (C232.safe V231.lt f97_Saf_vb227)
  have f110_Fld_b226 : Fld Z T232.heap b226 "java/lang/AbstractStringBuilder" "value" "[B" (.ref vb227) := (Fv231.keep K232 nin0)
  have f111_Fld_b226 : Fld Z T232.heap b226 "java/lang/AbstractStringBuilder" "coder" "B" (.int (0 : Int32)) := (Fc231.keep K232 nin0)
  have f112_Fld_b226 : Fld Z T232.heap b226 "java/lang/AbstractStringBuilder" "count" "I" (.int (4 : Int32)) := (Fn231.keep K232 nin0)
  have f113_Arv_vb227 : Arv Z T232.heap vb227 kb227 .byte (16 : Int32) (((((([] ++ bs2) ++ [58, 32])) ++ bs3) ++ List.replicate 12 (0 : Int32)).map Value.int) (.int (0 : Int32)) := (V231.keep K232 nin0)
  refine own_jumpH (g' := (mkF m 27 #[rv a1, rv r2, rv r3] [(.ref sa232), (.ref al2)])) st232 ?_
  obtain ⟨cq233, kq233, q233a, q233b, q233c⟩ := isOf hZ rfl f103_Exa_al2
  obtain ⟨_, _, ⟨T233, L233, k233, n233⟩, -, X233, ⟨Lc233, hQ233, l233, y233, z233⟩, st233⟩ := X232.interfaceBack hx (xi := (⟨"java/util/List", "add", "(Ljava/lang/Object;)Z"⟩ : MethodName)) (y := (⟨"java/util/ArrayList", "add", "(Ljava/lang/Object;)Z"⟩ : MethodName)) hown (mvT hZ (hw_202 hw)) (mvT hZ (hw_203 hw)) (mvT hZ (hw_204 hw)) (mvT hZ (hw_205 hw)) (mvT hZ (hw_206 hw)) (mvT hZ (hw_207 hw)) (mvT hZ (hw_208 hw)) (mvT hZ (hw_49 hw)) (by decide) (backOf (W := 0) (own_rm36 l Z a0 hw [] al2 sa232 k2 dd2 f2 wc wD kD T232.heap n0 Z232 O232 SS (by omega) f102_Prd_al2 Ex232) hZ (hw_209 hw) (hw_11 hw) (by decide) (by decide)) q233a q233b q233c (g := (mkF m 27 #[rv a1, rv r2, rv r3] [(.ref sa232), (.ref al2)])) rfl (by rw [hml]; rfl) (Steps.refl _) (argsL := [(.ref sa232)]) (rest := []) (lenOf pd_26 rfl) rfl (by show 2 * 0 + _ ≤ _; exact Nat.le_of_eq rfl) (hb hby d42_27) (fun _ _ => ⟨rfl, rfl, (by decide : 6 + 1 ≤ _), (by decide : 40 + 10 ≤ _)⟩)
  dsimp only [Pt.U, Pt.locs, Pt.cells, Pt.slots] at X233 l233 y233 z233 st233 hQ233
  subst l233 y233 z233
  obtain ⟨dn233, rfl, Nq233, K233, A233, hd233⟩ := hQ233
  have N233 := Fr.app N232 Nq233
  have lp := f98_Exa_a1.lt
  have lo1 := (own_ALl1 f101_Prd_al1).lt
  have lo2 := (own_ALl2 f101_Prd_al1).lt
  have C233 : CHr Z own_EL T229.vm T232.heap T229.vm T233.heap := CHr.keep K233 (sfS (Safe.exa hZ.alike f103_Exa_al2 (by decide) (by decide)) (sfS (own_ALsafe hZ.alike f102_Prd_al2) sf0)) CR232.1
  have CR233 := CR232.trans C233
  have kz233 : _ ≤ T233.heap.size := Nat.le_trans kz232 K233.1
  have Z233 : n0 ≤ T233.heap.size := Nat.le_trans Z232 K233.1
  have O233 : Old Z n0 T233.heap := O232.keep K233 (allS A2.1 (allS A2.2.1 all0))
  have f114_Exa_a1 : Exa Z T233.heap a1 "com/example/shaper/shaper/core/ConfigProblems" := (f98_Exa_a1.keep K233)
  have f115_Fld_a1 : Fld Z T233.heap a1 "com/example/shaper/shaper/core/ConfigProblems" "violations" "Ljava/util/List;" (.ref al1) := (f99_Fld_a1.keep K233 (ninS q3 (ninS q4 nin0)))
  have f116_Fld_a1 : Fld Z T233.heap a1 "com/example/shaper/shaper/core/ConfigProblems" "unsupported" "Ljava/util/List;" (.ref al2) := (f100_Fld_a1.keep K233 (ninS q3 (ninS q4 nin0)))
  have f117_Prd_al1 : own_AL Z wD T233.heap n0 al1 k1 dd1 f1 := (own_ALkeep f101_Prd_al1 K233 (ninS q5 (ninS q6 nin0)) (ninS q7 (ninS q8 nin0)))
  have f118_Exa_al2 : Exa Z T233.heap al2 "java/util/ArrayList" := (f103_Exa_al2.keep K233)
  have f119_Exa_sa232 : Exa Z T233.heap sa232 "java/lang/String" := (Ex232.keep K233)
  refine own_jumpH (g' := (mkF m 32 #[rv a1, rv r2, rv r3] [(.int (1 : Int32))])) st233 ?_
  refine own_stH (mkF m 33 #[rv a1, rv r2, rv r3] []) (fun t k => XS.pop X233.here hx rfl (hb hby d42_32) rfl rfl k) ?_
  refine own_retH X233 hlk S229 (own_leE rfl kz233) (v := none) (fun _ => rfl) (fun fs hr => X233.returnOut hx hret (hb hby d42_33) hr) ?_ (own_CHend hs0 rfl CR233 (CHv.at X233 hZ hEL CR233.1)) (by decide) (by decide)
  show own_Q42_1 Z a1 r2 r3 k1 k2 f1 f2 b2 kb2 bs2 b3 kb3 bs3 wc wD kD h0 n0 _ T233.heap _
  exact ⟨_, _, rfl, N233, O233, ⟨al1, dd1, al2, dn233, gp, f114_Exa_a1, f115_Fld_a1, f116_Fld_a1, f117_Prd_al1, A233, q1, q2, q3, (own_neD hd233 q4 lp), q5, (own_neD hd233 q6 lo1), q7, (own_neD hd233 q8 lo2)⟩⟩
theorem own_ef42_17 (m : MethodId) (a1 : Addr) (r2 : Addr) (r3 : Addr) : entryFrame m #[(.ref a1), (.ref r2), (.ref r3)] 3 = mkF m 0 #[rv a1, rv r2, rv r3] [] := by first | (simp [entryFrame, mkF, argsToLocals, Value.category]; done) | rfl
def own_Q42_17 (Z : State) (a1 : Addr) (r2 : Addr) (r3 : Addr) (k1 : Nat) (k2 : Nat) (f1 : Value) (f2 : Value) (b2 : Addr) (kb2 : ClassId) (bs2 : List Int32) (b3 : Addr) (kb3 : ClassId) (bs3 : List Int32) (wc : Int32) (wD : Addr) (kD : ClassId) (h0 : Heap) (n0 : Nat) (v : Option Value) (h : Heap) (L : List Loc) : Prop := ∃ g1 g2 : Value, v = none ∧ Fr n0 L ∧ Old Z n0 h ∧ own_CP Z wD h n0 a1 k1 (k2 + 1) g1 g2
set_option maxRecDepth 65536 in
set_option maxHeartbeats 40000000 in
theorem own_rm42_17 (l : Launch) (Z : State) (a0 : Array Value) (hw : own_W a0 Z) (ws : List Jvm.Cond) (a1 : Addr) (r2 : Addr) (r3 : Addr) (k1 : Nat) (k2 : Nat) (f1 : Value) (f2 : Value) (b2 : Addr) (kb2 : ClassId) (bs2 : List Int32) (b3 : Addr) (kb3 : ClassId) (bs3 : List Int32) (wc : Int32) (wD : Addr) (kD : ClassId) (h0 : Heap) (n0 : Nat) (Z0 : n0 ≤ h0.size) (O0 : Old Z n0 h0) (SS : own_St Z wc wD kD) (hEL : EW Z a0 own_EL) (hk : k1 + k2 ≤ 7) (hb2 : bs2.length = 1) (hb3 : bs3.length = 17) (P0 : own_CP Z wD h0 n0 a1 k1 k2 f1 f2) (S2e : Exa Z h0 r2 "java/lang/String") (S2v : Fld Z h0 r2 "java/lang/String" "value" "[B" (.ref b2)) (S2c : Fld Z h0 r2 "java/lang/String" "coder" "B" (.int (0 : Int32))) (S2a : Arv Z h0 b2 kb2 .byte (1 : Int32) ((bs2).map Value.int) (.int (0 : Int32))) (S3e : Exa Z h0 r3 "java/lang/String") (S3v : Fld Z h0 r3 "java/lang/String" "value" "[B" (.ref b3)) (S3c : Fld Z h0 r3 "java/lang/String" "coder" "B" (.int (0 : Int32))) (S3a : Arv Z h0 b3 kb3 .byte (17 : Int32) ((bs3).map Value.int) (.int (0 : Int32))) :
    MetFree l (⟨"com/example/shaper/shaper/core/ConfigProblems", "unsupported", "(Ljava/lang/String;Ljava/lang/String;)V"⟩ : MethodName) (head1 (Jvm.Cond.code (⟨"com/example/shaper/shaper/core/ConfigProblems", "unsupported", "(Ljava/lang/String;Ljava/lang/String;)V"⟩ : MethodName) prog_4_method_4_code 3 none :: ws) ({ frames := 6, cells := 8, slots := 100, locals := 92 } : Room)) (fun a U => a = #[(.ref a1), (.ref r2), (.ref r3)] ∧ Z.Warmed39 U.vm ∧ U.heap = h0 ∧ CHv Z own_EL U.vm h0) (fun _ _ _ _ _ => True) (fun _ U o U' => ∃ v L, o = .returned v ∧ own_Q42_17 Z a1 r2 r3 k1 k2 f1 f2 b2 kb2 bs2 b3 kb3 bs3 wc wD kD h0 n0 v U'.heap L ∧ CHr Z own_EL U.vm U.heap U'.vm U'.heap ∧ ReturnedEndW U o U' L ({ frames := 6, cells := 8, slots := 100, locals := 92 } : Room).cells ({ frames := 6, cells := 8, slots := 100, locals := 92 } : Room).slots) := by
  refine own_bodyH (plainFor_of_name pn_1) (fun m => own_ef42_17 m a1 r2 r3) ?_
  intro p e s m below meth c T0 X0 hx hby hml hZ hown hnm hret hlk e0 hs0 S0 CH0
  have hown : (s.setVm s.vm).vm.findClass "com/example/shaper/shaper/core/ConfigProblems" = some m.cls := hown
  have CR0 := CHr.refl CH0
  have kz0 : h0.size ≤ h0.size := Nat.le_refl _
  have hnm : meth.name = "unsupported" := hnm
  have N0 := Fr.nil n0
  obtain ⟨al1, dd1, al2, dd2, gp, Ep, Fvi, Fun, A1, A2, q1, q2, q3, q4, q5, q6, q7, q8⟩ := id P0
  have Eal := A2.2.2.1
  refine own_stH (mkF m 1 #[rv a1, rv r2, rv r3] [(.ref a1)]) (fun t k => XS.aloadN X0.here hx rfl (hb hby d42_0) rfl rfl k) ?_
  obtain ⟨T234, X234, e234, st234⟩ := getF X0 hx hZ hown (host := "") (Or.inl (hw_35 hw)) Via.refl e0 Fun (g := (mkF m 1 #[rv a1, rv r2, rv r3] [(.ref a1)])) rfl rfl (hb hby d42_1)
  refine own_stepH (g' := (mkF m 4 #[rv a1, rv r2, rv r3] [(.ref al2)])) st234 ?_
  obtain ⟨T235, h235, X235, e235, E235, A235, D235, -, st235⟩ := newO X234 hx hZ hown (hw_89 hw) (hw_90 hw) (hw_91 hw) e234 (g := (mkF m 4 #[rv a1, rv r2, rv r3] [(.ref al2)])) rfl (hb hby d42_4) (by decide) (by decide)
  obtain ⟨b235, g235⟩ : ∃ z, z = h0.size := ⟨_, rfl⟩
  rw [← g235] at A235 D235 st235
  have E_235 : Ext h0 h235 := E235
  have g_b235 : n0 ≤ b235 := Nat.le_trans Z0 (Nat.le_of_eq g235.symm)
  have ne_a1_b235 : a1 ≠ b235 := Nat.ne_of_lt (Nat.lt_of_lt_of_le Ep.lt (Nat.le_of_eq g235.symm))
  have ne_al1_b235 : al1 ≠ b235 := Nat.ne_of_lt (Nat.lt_of_lt_of_le (own_ALl1 A1).lt (Nat.le_of_eq g235.symm))
  have ne_dd1_b235 : dd1 ≠ b235 := Nat.ne_of_lt (Nat.lt_of_lt_of_le (own_ALl2 A1).lt (Nat.le_of_eq g235.symm))
  have ne_al2_b235 : al2 ≠ b235 := Nat.ne_of_lt (Nat.lt_of_lt_of_le (own_ALl1 A2).lt (Nat.le_of_eq g235.symm))
  have ne_dd2_b235 : dd2 ≠ b235 := Nat.ne_of_lt (Nat.lt_of_lt_of_le (own_ALl2 A2).lt (Nat.le_of_eq g235.symm))
  have ne_r2_b235 : r2 ≠ b235 := Nat.ne_of_lt (Nat.lt_of_lt_of_le S2e.lt (Nat.le_of_eq g235.symm))
  have ne_b2_b235 : b2 ≠ b235 := Nat.ne_of_lt (Nat.lt_of_lt_of_le S2a.lt (Nat.le_of_eq g235.symm))
  have ne_r3_b235 : r3 ≠ b235 := Nat.ne_of_lt (Nat.lt_of_lt_of_le S3e.lt (Nat.le_of_eq g235.symm))
  have ne_b3_b235 : b3 ≠ b235 := Nat.ne_of_lt (Nat.lt_of_lt_of_le S3a.lt (Nat.le_of_eq g235.symm))
  have Z235 : n0 ≤ h235.size := Nat.le_trans Z0 E235.1
  have C235 : CHr Z own_EL s.vm h0 s.vm h235 := CHr.ext E235 CR0.1
  have CR235 := CR0.trans C235
  have kz235 : _ ≤ h235.size := Nat.le_trans kz0 E235.1
  have O235 : Old Z n0 h235 := O0.ext E235
  have f1_Exa_a1 : Exa Z h235 a1 "com/example/shaper/shaper/core/ConfigProblems" := (Ep.ext E235)
  have f2_Fld_a1 : Fld Z h235 a1 "com/example/shaper/shaper/core/ConfigProblems" "violations" "Ljava/util/List;" (.ref al1) := (Fvi.ext E235)
  have f3_Fld_a1 : Fld Z h235 a1 "com/example/shaper/shaper/core/ConfigProblems" "unsupported" "Ljava/util/List;" (.ref al2) := (Fun.ext E235)
  have f4_Prd_al1 : own_AL Z wD h235 n0 al1 k1 dd1 f1 := (own_ALext A1 E235)
  have f5_Prd_al2 : own_AL Z wD h235 n0 al2 k2 dd2 f2 := (own_ALext A2 E235)
  have f6_Exa_al2 : Exa Z h235 al2 "java/util/ArrayList" := (Eal.ext E235)
  have f7_Exa_r2 : Exa Z h235 r2 "java/lang/String" := (S2e.ext E235)
  have f8_Fld_r2 : Fld Z h235 r2 "java/lang/String" "value" "[B" (.ref b2) := (S2v.ext E235)
  have f9_Fld_r2 : Fld Z h235 r2 "java/lang/String" "coder" "B" (.int (0 : Int32)) := (S2c.ext E235)
  have f10_Arv_b2 : Arv Z h235 b2 kb2 .byte (1 : Int32) ((bs2).map Value.int) (.int (0 : Int32)) := (S2a.ext E235)
  have f11_Exa_r3 : Exa Z h235 r3 "java/lang/String" := (S3e.ext E235)
  have f12_Fld_r3 : Fld Z h235 r3 "java/lang/String" "value" "[B" (.ref b3) := (S3v.ext E235)
  have f13_Fld_r3 : Fld Z h235 r3 "java/lang/String" "coder" "B" (.int (0 : Int32)) := (S3c.ext E235)
  have f14_Arv_b3 : Arv Z h235 b3 kb3 .byte (17 : Int32) ((bs3).map Value.int) (.int (0 : Int32)) := (S3a.ext E235)
  have F_value_b235 : Fld Z h235 b235 "java/lang/AbstractStringBuilder" "value" "[B" .null := D235 (Or.inl (hw_104 hw)) (ty := (.array .byte)) (by decide)
  have F_coder_b235 : Fld Z h235 b235 "java/lang/AbstractStringBuilder" "coder" "B" (.int (0 : Int32)) := D235 (Or.inl (hw_106 hw)) (ty := .byte) (by decide)
  have F_count_b235 : Fld Z h235 b235 "java/lang/AbstractStringBuilder" "count" "I" (.int (0 : Int32)) := D235 (Or.inl (hw_128 hw)) (ty := .int) (by decide)
  refine own_stepH (g' := (mkF m 7 #[rv a1, rv r2, rv r3] [(.ref b235), (.ref al2)])) st235 ?_
  refine own_stH (mkF m 8 #[rv a1, rv r2, rv r3] [(.ref b235), (.ref b235), (.ref al2)]) (fun t k => XS.dup X235.here hx rfl (hb hby d42_7) rfl rfl k) ?_
  obtain ⟨_, _, ⟨T236, L236, k236, n236⟩, -, X236, ⟨Lc236, hQ236, l236, y236, z236⟩, st236⟩ := X235.specialBack hx (y := (⟨"java/lang/StringBuilder", "<init>", "()V"⟩ : MethodName)) rfl hown (mvT hZ (hw_92 hw)) (mvT hZ (hw_93 hw)) (mvT hZ (hw_94 hw)) (by decide) (backOf (W := 2) (own_rm15 l Z a0 hw [] b235 wc wD kD h235 n0 Z235 O235 SS A235 F_value_b235 F_coder_b235 F_count_b235 g_b235) hZ (hw_94 hw) (hw_91 hw) (by decide) (by decide)) (g := (mkF m 8 #[rv a1, rv r2, rv r3] [(.ref b235), (.ref b235), (.ref al2)])) rfl (by rw [hml]; rfl) (Steps.refl _) (a := b235) (argsL := []) (rest := [(.ref b235), (.ref al2)]) (lenOf pd_20 rfl) rfl (by show 2 * 0 + _ ≤ _; exact Nat.le_of_eq rfl) (hb hby d42_8) (fun _ _ => ⟨rfl, e235, (by decide : 1 + 1 ≤ _), (by decide : 4 + 16 ≤ _)⟩)
  dsimp only [Pt.U, Pt.locs, Pt.cells, Pt.slots] at X236 l236 y236 z236 st236 hQ236
  subst l236 y236 z236
  obtain ⟨vb236, kb236, rfl, Nq236, K236, gb236, Ex236, Fv236, Fc236, Fn236, V236⟩ := hQ236
  have N236 := Fr.app N0 Nq236
  have g_vb236 : n0 ≤ vb236 := Nat.le_trans Z235 gb236
  have ne_a1_vb236 : a1 ≠ vb236 := Nat.ne_of_lt (Nat.lt_of_lt_of_le f1_Exa_a1.lt gb236)
  have ne_al1_vb236 : al1 ≠ vb236 := Nat.ne_of_lt (Nat.lt_of_lt_of_le (own_ALl1 f4_Prd_al1).lt gb236)
  have ne_dd1_vb236 : dd1 ≠ vb236 := Nat.ne_of_lt (Nat.lt_of_lt_of_le (own_ALl2 f4_Prd_al1).lt gb236)
  have ne_al2_vb236 : al2 ≠ vb236 := Nat.ne_of_lt (Nat.lt_of_lt_of_le (own_ALl1 f5_Prd_al2).lt gb236)
  have ne_dd2_vb236 : dd2 ≠ vb236 := Nat.ne_of_lt (Nat.lt_of_lt_of_le (own_ALl2 f5_Prd_al2).lt gb236)
  have ne_r2_vb236 : r2 ≠ vb236 := Nat.ne_of_lt (Nat.lt_of_lt_of_le f7_Exa_r2.lt gb236)
  have ne_b2_vb236 : b2 ≠ vb236 := Nat.ne_of_lt (Nat.lt_of_lt_of_le f10_Arv_b2.lt gb236)
  have ne_r3_vb236 : r3 ≠ vb236 := Nat.ne_of_lt (Nat.lt_of_lt_of_le f11_Exa_r3.lt gb236)
  have ne_b3_vb236 : b3 ≠ vb236 := Nat.ne_of_lt (Nat.lt_of_lt_of_le f14_Arv_b3.lt gb236)
  have ne_b235_vb236 : b235 ≠ vb236 := Nat.ne_of_lt (Nat.lt_of_lt_of_le A235.lt gb236)
  have C236 : CHr Z own_EL s.vm h235 s.vm T236.heap := CHr.keep K236 (sfS (Safe.exa hZ.alike A235 (by decide) (by decide)) sf0) CR235.1
  have CR236 := CR235.trans C236
  have kz236 : _ ≤ T236.heap.size := Nat.le_trans kz235 K236.1
  have Z236 : n0 ≤ T236.heap.size := Nat.le_trans Z235 K236.1
  have O236 : Old Z n0 T236.heap := O235.keep K236 (allS g_b235 all0)
  have f15_Exa_a1 : Exa Z T236.heap a1 "com/example/shaper/shaper/core/ConfigProblems" := (f1_Exa_a1.keep K236)
  have f16_Fld_a1 : Fld Z T236.heap a1 "com/example/shaper/shaper/core/ConfigProblems" "violations" "Ljava/util/List;" (.ref al1) := (f2_Fld_a1.keep K236 (ninS ne_a1_b235 nin0))
  have f17_Fld_a1 : Fld Z T236.heap a1 "com/example/shaper/shaper/core/ConfigProblems" "unsupported" "Ljava/util/List;" (.ref al2) := (f3_Fld_a1.keep K236 (ninS ne_a1_b235 nin0))
  have f18_Prd_al1 : own_AL Z wD T236.heap n0 al1 k1 dd1 f1 := (own_ALkeep f4_Prd_al1 K236 (ninS ne_al1_b235 nin0) (ninS ne_dd1_b235 nin0))
  have f19_Prd_al2 : own_AL Z wD T236.heap n0 al2 k2 dd2 f2 := (own_ALkeep f5_Prd_al2 K236 (ninS ne_al2_b235 nin0) (ninS ne_dd2_b235 nin0))
  have f20_Exa_al2 : Exa Z T236.heap al2 "java/util/ArrayList" := (f6_Exa_al2.keep K236)
  have f21_Exa_r2 : Exa Z T236.heap r2 "java/lang/String" := (f7_Exa_r2.keep K236)
  have f22_Fld_r2 : Fld Z T236.heap r2 "java/lang/String" "value" "[B" (.ref b2) := (f8_Fld_r2.keep K236 (ninS ne_r2_b235 nin0))
  have f23_Fld_r2 : Fld Z T236.heap r2 "java/lang/String" "coder" "B" (.int (0 : Int32)) := (f9_Fld_r2.keep K236 (ninS ne_r2_b235 nin0))
  have f24_Arv_b2 : Arv Z T236.heap b2 kb2 .byte (1 : Int32) ((bs2).map Value.int) (.int (0 : Int32)) := (f10_Arv_b2.keep K236 (ninS ne_b2_b235 nin0))
  have f25_Exa_r3 : Exa Z T236.heap r3 "java/lang/String" := (f11_Exa_r3.keep K236)
  have f26_Fld_r3 : Fld Z T236.heap r3 "java/lang/String" "value" "[B" (.ref b3) := (f12_Fld_r3.keep K236 (ninS ne_r3_b235 nin0))
  have f27_Fld_r3 : Fld Z T236.heap r3 "java/lang/String" "coder" "B" (.int (0 : Int32)) := (f13_Fld_r3.keep K236 (ninS ne_r3_b235 nin0))
  have f28_Arv_b3 : Arv Z T236.heap b3 kb3 .byte (17 : Int32) ((bs3).map Value.int) (.int (0 : Int32)) := (f14_Arv_b3.keep K236 (ninS ne_b3_b235 nin0))
  have f29_Exa_b235 : Exa Z T236.heap b235 "java/lang/StringBuilder" := (A235.keep K236)
  have Sf_vb236 : Safe Z own_EL s.vm T236.heap vb236 := Safe.keep K236 (sfS (Safe.exa hZ.alike A235 (by decide) (by decide)) sf0) CR235.1 (Safe.new gb236)
  refine own_jumpH (g' := (mkF m 11 #[rv a1, rv r2, rv r3] [(.ref b235), (.ref al2)])) st236 ?_
  refine own_stH (mkF m 12 #[rv a1, rv r2, rv r3] [(.ref r2), (.ref b235), (.ref al2)]) (fun t k => XS.aloadN X236.here hx rfl (hb hby d42_11) rfl rfl k) ?_
  obtain ⟨cq237, kq237, q237a, q237b, q237c⟩ := isOf hZ rfl Ex236
  obtain ⟨_, _, ⟨T237, L237, k237, n237⟩, -, X237, ⟨Lc237, hQ237, l237, y237, z237⟩, st237⟩ := X236.virtualBack hx (y := (⟨"java/lang/StringBuilder", "append", "(Ljava/lang/String;)Ljava/lang/StringBuilder;"⟩ : MethodName)) (z := (⟨"java/lang/StringBuilder", "append", "(Ljava/lang/String;)Ljava/lang/StringBuilder;"⟩ : MethodName)) hown (mvT hZ (hw_107 hw)) (mvT hZ (hw_108 hw)) (notFace_of_selects (args := #[]) (mvT hZ (hw_110 hw))) (mvT hZ (hw_110 hw)) (mvT hZ (hw_109 hw)) (by decide) (backOf (W := 1) (own_rm17_0_1 l Z a0 hw [] b235 r2 vb236 kb236 b2 bs2 kb2 [] wc wD kD T236.heap n0 Z236 O236 SS rfl hb2 Ex236 Fv236 Fc236 Fn236 V236 f21_Exa_r2 f22_Fld_r2 f23_Fld_r2 f24_Arv_b2 g_b235 ne_b235_vb236 (Ne.symm ne_r2_b235) (Ne.symm ne_b2_b235) ne_r2_vb236 ne_b2_vb236 g_vb236) hZ (hw_111 hw) (hw_91 hw) (by decide) (by decide)) q237a q237c (g := (mkF m 12 #[rv a1, rv r2, rv r3] [(.ref r2), (.ref b235), (.ref al2)])) rfl (by rw [hml]; rfl) (Steps.refl _) (argsL := [(.ref r2)]) (rest := [(.ref al2)]) (lenOf pd_24 rfl) rfl (by show 2 * 0 + _ ≤ _; exact Nat.le_of_eq rfl) (hb hby d42_12) (fun _ _ => ⟨rfl, rfl, (by decide : 2 + 0 ≤ _), (by decide : 20 + 0 ≤ _)⟩)
  dsimp only [Pt.U, Pt.locs, Pt.cells, Pt.slots] at X237 l237 y237 z237 st237 hQ237
  subst l237 y237 z237
  obtain ⟨rfl, Nq237, K237, Ex237, Fv237, Fc237, Fn237, V237⟩ := hQ237
  have N237 := Fr.app N236 Nq237
  have C237 : CHr Z own_EL s.vm T236.heap s.vm T237.heap := CHr.keep K237 (sfS (Safe.exa hZ.alike Ex236 (by decide) (by decide)) (sfS Sf_vb236 sf0)) CR236.1
  have CR237 := CR236.trans C237
  have kz237 : _ ≤ T237.heap.size := Nat.le_trans kz236 K237.1
  have Z237 : n0 ≤ T237.heap.size := Nat.le_trans Z236 K237.1
  have O237 : Old Z n0 T237.heap := O236.keep K237 (allS g_b235 (allS g_vb236 all0))
  have f30_Exa_a1 : Exa Z T237.heap a1 "com/example/shaper/shaper/core/ConfigProblems" := (f15_Exa_a1.keep K237)
  have f31_Fld_a1 : Fld Z T237.heap a1 "com/example/shaper/shaper/core/ConfigProblems" "violations" "Ljava/util/List;" (.ref al1) := (f16_Fld_a1.keep K237 (ninS ne_a1_b235 (ninS ne_a1_vb236 nin0)))
  have f32_Fld_a1 : Fld Z T237.heap a1 "com/example/shaper/shaper/core/ConfigProblems" "unsupported" "Ljava/util/List;" (.ref al2) := (f17_Fld_a1.keep K237 (ninS ne_a1_b235 (ninS ne_a1_vb236 nin0)))
  have f33_Prd_al1 : own_AL Z wD T237.heap n0 al1 k1 dd1 f1 := (own_ALkeep f18_Prd_al1 K237 (ninS ne_al1_b235 (ninS ne_al1_vb236 nin0)) (ninS ne_dd1_b235 (ninS ne_dd1_vb236 nin0)))
  have f34_Prd_al2 : own_AL Z wD T237.heap n0 al2 k2 dd2 f2 := (own_ALkeep f19_Prd_al2 K237 (ninS ne_al2_b235 (ninS ne_al2_vb236 nin0)) (ninS ne_dd2_b235 (ninS ne_dd2_vb236 nin0)))
  have f35_Exa_al2 : Exa Z T237.heap al2 "java/util/ArrayList" := (f20_Exa_al2.keep K237)
  have f36_Exa_r2 : Exa Z T237.heap r2 "java/lang/String" := (f21_Exa_r2.keep K237)
  have f37_Fld_r2 : Fld Z T237.heap r2 "java/lang/String" "value" "[B" (.ref b2) := (f22_Fld_r2.keep K237 (ninS ne_r2_b235 (ninS ne_r2_vb236 nin0)))
  have f38_Fld_r2 : Fld Z T237.heap r2 "java/lang/String" "coder" "B" (.int (0 : Int32)) := (f23_Fld_r2.keep K237 (ninS ne_r2_b235 (ninS ne_r2_vb236 nin0)))
  have f39_Arv_b2 : Arv Z T237.heap b2 kb2 .byte (1 : Int32) ((bs2).map Value.int) (.int (0 : Int32)) := (f24_Arv_b2.keep K237 (ninS ne_b2_b235 (ninS ne_b2_vb236 nin0)))
  have f40_Exa_r3 : Exa Z T237.heap r3 "java/lang/String" := (f25_Exa_r3.keep K237)
  have f41_Fld_r3 : Fld Z T237.heap r3 "java/lang/String" "value" "[B" (.ref b3) := (f26_Fld_r3.keep K237 (ninS ne_r3_b235 (ninS ne_r3_vb236 nin0)))
  have f42_Fld_r3 : Fld Z T237.heap r3 "java/lang/String" "coder" "B" (.int (0 : Int32)) := (f27_Fld_r3.keep K237 (ninS ne_r3_b235 (ninS ne_r3_vb236 nin0)))
  have f43_Arv_b3 : Arv Z T237.heap b3 kb3 .byte (17 : Int32) ((bs3).map Value.int) (.int (0 : Int32)) := (f28_Arv_b3.keep K237 (ninS ne_b3_b235 (ninS ne_b3_vb236 nin0)))
  have f44_Exa_b235 : Exa Z T237.heap b235 "java/lang/StringBuilder" := (Ex236.keep K237)
  have f45_Saf_vb236 : Safe Z own_EL s.vm T237.heap vb236 := (C237.safe V236.lt Sf_vb236)
  refine own_jumpH (g' := (mkF m 15 #[rv a1, rv r2, rv r3] [(.ref b235), (.ref al2)])) st237 ?_
  obtain ⟨la238, T238, h238, kk238, lb238, kb238, X238, e238, E238, S238, kz238, hZ, hown, Ex238, Fc238, Fv238, V238, lta238, ltb238, C238, -, nl238, st238⟩ := ldcCH (vm0 := s.vm) (EL := own_EL) X237 hx hZ hown (hw_154 hw) (own_wS hw) rfl S0 kz237 hEL own_mem26 CR237.1 (vs := ([58, 32] : List Int32).map Value.int) (z := (2 : Int32)) own_txt26 (by decide) rfl (g := (mkF m 15 #[rv a1, rv r2, rv r3] [(.ref b235), (.ref al2)])) rfl (hb hby d42_15) (n := 8) own_tln26 (by decide) (by decide) (by decide)
  have CR238 := CR237.trans C238
  have Z238 : n0 ≤ h238.size := Nat.le_trans Z237 E238.1
  have O238 : Old Z n0 h238 := O237.ext E238
  have f46_Exa_a1 : Exa Z h238 a1 "com/example/shaper/shaper/core/ConfigProblems" := (f30_Exa_a1.ext E238)
  have f47_Fld_a1 : Fld Z h238 a1 "com/example/shaper/shaper/core/ConfigProblems" "violations" "Ljava/util/List;" (.ref al1) := (f31_Fld_a1.ext E238)
  have f48_Fld_a1 : Fld Z h238 a1 "com/example/shaper/shaper/core/ConfigProblems" "unsupported" "Ljava/util/List;" (.ref al2) := (f32_Fld_a1.ext E238)
  have f49_Prd_al1 : own_AL Z wD h238 n0 al1 k1 dd1 f1 := (own_ALext f33_Prd_al1 E238)
  have f50_Prd_al2 : own_AL Z wD h238 n0 al2 k2 dd2 f2 := (own_ALext f34_Prd_al2 E238)
  have f51_Exa_al2 : Exa Z h238 al2 "java/util/ArrayList" := (f35_Exa_al2.ext E238)
  have f52_Exa_r2 : Exa Z h238 r2 "java/lang/String" := (f36_Exa_r2.ext E238)
  have f53_Fld_r2 : Fld Z h238 r2 "java/lang/String" "value" "[B" (.ref b2) := (f37_Fld_r2.ext E238)
  have f54_Fld_r2 : Fld Z h238 r2 "java/lang/String" "coder" "B" (.int (0 : Int32)) := (f38_Fld_r2.ext E238)
  have f55_Arv_b2 : Arv Z h238 b2 kb2 .byte (1 : Int32) ((bs2).map Value.int) (.int (0 : Int32)) := (f39_Arv_b2.ext E238)
  have f56_Exa_r3 : Exa Z h238 r3 "java/lang/String" := (f40_Exa_r3.ext E238)
  have f57_Fld_r3 : Fld Z h238 r3 "java/lang/String" "value" "[B" (.ref b3) := (f41_Fld_r3.ext E238)
  have f58_Fld_r3 : Fld Z h238 r3 "java/lang/String" "coder" "B" (.int (0 : Int32)) := (f42_Fld_r3.ext E238)
  have f59_Arv_b3 : Arv Z h238 b3 kb3 .byte (17 : Int32) ((bs3).map Value.int) (.int (0 : Int32)) := (f43_Arv_b3.ext E238)
  have f60_Exa_b235 : Exa Z h238 b235 "java/lang/StringBuilder" := (Ex237.ext E238)
  have f61_Saf_vb236 : Safe Z own_EL T238.vm h238 vb236 := (C238.safe V237.lt f45_Saf_vb236)
  have f62_Fld_b235 : Fld Z h238 b235 "java/lang/AbstractStringBuilder" "value" "[B" (.ref vb236) := (Fv237.ext E238)
  have f63_Fld_b235 : Fld Z h238 b235 "java/lang/AbstractStringBuilder" "coder" "B" (.int (0 : Int32)) := (Fc237.ext E238)
  have f64_Fld_b235 : Fld Z h238 b235 "java/lang/AbstractStringBuilder" "count" "I" (.int (1 : Int32)) := (Fn237.ext E238)
  have f65_Arv_vb236 : Arv Z h238 vb236 kb236 .byte (16 : Int32) ((([] ++ bs2) ++ List.replicate 15 (0 : Int32)).map Value.int) (.int (0 : Int32)) := (V237.ext E238)
  obtain ⟨ne_b235_la238, ne_b235_lb238⟩ := nl238 b235 (Safe.exa hZ.alike f60_Exa_b235 (by decide) (by decide))
  obtain ⟨ne_vb236_la238, ne_vb236_lb238⟩ := nl238 vb236 f61_Saf_vb236
  refine own_stepH (g' := (mkF m 17 #[rv a1, rv r2, rv r3] [(.ref la238), (.ref b235), (.ref al2)])) st238 ?_
  obtain ⟨cq239, kq239, q239a, q239b, q239c⟩ := isOf hZ e238 f60_Exa_b235
  obtain ⟨_, _, ⟨T239, L239, k239, n239⟩, -, X239, ⟨Lc239, hQ239, l239, y239, z239⟩, st239⟩ := X238.virtualBack hx (y := (⟨"java/lang/StringBuilder", "append", "(Ljava/lang/String;)Ljava/lang/StringBuilder;"⟩ : MethodName)) (z := (⟨"java/lang/StringBuilder", "append", "(Ljava/lang/String;)Ljava/lang/StringBuilder;"⟩ : MethodName)) hown (mvT hZ (hw_107 hw)) (mvT hZ (hw_108 hw)) (notFace_of_selects (args := #[]) (mvT hZ (hw_110 hw))) (mvT hZ (hw_110 hw)) (mvT hZ (hw_109 hw)) (by decide) (backOf (W := 1) (own_rm17_1_2 l Z a0 hw [] b235 la238 vb236 kb236 lb238 ([58, 32] : List Int32) kb238 ([] ++ bs2) wc wD kD h238 n0 Z238 O238 SS (by simp [hb2]) rfl f60_Exa_b235 f62_Fld_b235 f63_Fld_b235 f64_Fld_b235 f65_Arv_vb236 Ex238 Fv238 Fc238 V238 g_b235 ne_b235_vb236 ne_b235_la238 ne_b235_lb238 (Ne.symm ne_vb236_la238) (Ne.symm ne_vb236_lb238) g_vb236) hZ (hw_111 hw) (hw_91 hw) (by decide) (by decide)) q239a q239c (g := (mkF m 17 #[rv a1, rv r2, rv r3] [(.ref la238), (.ref b235), (.ref al2)])) rfl (by rw [hml]; rfl) (Steps.refl _) (argsL := [(.ref la238)]) (rest := [(.ref al2)]) (lenOf pd_24 rfl) rfl (by show 2 * 0 + _ ≤ _; exact Nat.le_of_eq rfl) (hb hby d42_17) (fun _ _ => ⟨rfl, e238, (by decide : 4 + 0 ≤ _), (by decide : 32 + 0 ≤ _)⟩)
  dsimp only [Pt.U, Pt.locs, Pt.cells, Pt.slots] at X239 l239 y239 z239 st239 hQ239
  subst l239 y239 z239
  obtain ⟨rfl, Nq239, K239, Ex239, Fv239, Fc239, Fn239, V239⟩ := hQ239
  have N239 := Fr.app N237 Nq239
  have C239 : CHr Z own_EL T238.vm h238 T238.vm T239.heap := CHr.keep K239 (sfS (Safe.exa hZ.alike f60_Exa_b235 (by decide) (by decide)) (sfS f61_Saf_vb236 sf0)) CR238.1
  have CR239 := CR238.trans C239
  have kz239 : _ ≤ T239.heap.size := Nat.le_trans kz238 K239.1
  have Z239 : n0 ≤ T239.heap.size := Nat.le_trans Z238 K239.1
  have O239 : Old Z n0 T239.heap := O238.keep K239 (allS g_b235 (allS g_vb236 all0))
  have f66_Exa_a1 : Exa Z T239.heap a1 "com/example/shaper/shaper/core/ConfigProblems" := (f46_Exa_a1.keep K239)
  have f67_Fld_a1 : Fld Z T239.heap a1 "com/example/shaper/shaper/core/ConfigProblems" "violations" "Ljava/util/List;" (.ref al1) := (f47_Fld_a1.keep K239 (ninS ne_a1_b235 (ninS ne_a1_vb236 nin0)))
  have f68_Fld_a1 : Fld Z T239.heap a1 "com/example/shaper/shaper/core/ConfigProblems" "unsupported" "Ljava/util/List;" (.ref al2) := (f48_Fld_a1.keep K239 (ninS ne_a1_b235 (ninS ne_a1_vb236 nin0)))
  have f69_Prd_al1 : own_AL Z wD T239.heap n0 al1 k1 dd1 f1 := (own_ALkeep f49_Prd_al1 K239 (ninS ne_al1_b235 (ninS ne_al1_vb236 nin0)) (ninS ne_dd1_b235 (ninS ne_dd1_vb236 nin0)))
  have f70_Prd_al2 : own_AL Z wD T239.heap n0 al2 k2 dd2 f2 := (own_ALkeep f50_Prd_al2 K239 (ninS ne_al2_b235 (ninS ne_al2_vb236 nin0)) (ninS ne_dd2_b235 (ninS ne_dd2_vb236 nin0)))
  have f71_Exa_al2 : Exa Z T239.heap al2 "java/util/ArrayList" := (f51_Exa_al2.keep K239)
  have f72_Exa_r2 : Exa Z T239.heap r2 "java/lang/String" := (f52_Exa_r2.keep K239)
  have f73_Fld_r2 : Fld Z T239.heap r2 "java/lang/String" "value" "[B" (.ref b2) := (f53_Fld_r2.keep K239 (ninS ne_r2_b235 (ninS ne_r2_vb236 nin0)))
  have f74_Fld_r2 : Fld Z T239.heap r2 "java/lang/String" "coder" "B" (.int (0 : Int32)) := (f54_Fld_r2.keep K239 (ninS ne_r2_b235 (ninS ne_r2_vb236 nin0)))
  have f75_Arv_b2 : Arv Z T239.heap b2 kb2 .byte (1 : Int32) ((bs2).map Value.int) (.int (0 : Int32)) := (f55_Arv_b2.keep K239 (ninS ne_b2_b235 (ninS ne_b2_vb236 nin0)))
  have f76_Exa_r3 : Exa Z T239.heap r3 "java/lang/String" := (f56_Exa_r3.keep K239)
  have f77_Fld_r3 : Fld Z T239.heap r3 "java/lang/String" "value" "[B" (.ref b3) := (f57_Fld_r3.keep K239 (ninS ne_r3_b235 (ninS ne_r3_vb236 nin0)))
  have f78_Fld_r3 : Fld Z T239.heap r3 "java/lang/String" "coder" "B" (.int (0 : Int32)) := (f58_Fld_r3.keep K239 (ninS ne_r3_b235 (ninS ne_r3_vb236 nin0)))
  have f79_Arv_b3 : Arv Z T239.heap b3 kb3 .byte (17 : Int32) ((bs3).map Value.int) (.int (0 : Int32)) := (f59_Arv_b3.keep K239 (ninS ne_b3_b235 (ninS ne_b3_vb236 nin0)))
  have f80_Exa_b235 : Exa Z T239.heap b235 "java/lang/StringBuilder" := (f60_Exa_b235.keep K239)
  have f81_Saf_vb236 : Safe Z own_EL T238.vm T239.heap vb236 := (C239.safe f65_Arv_vb236.lt f61_Saf_vb236)
  have f82_Exa_la238 : Exa Z T239.heap la238 "java/lang/String" := (Ex238.keep K239)
  have f83_Fld_la238 : Fld Z T239.heap la238 "java/lang/String" "value" "[B" (.ref lb238) := (Fv238.keep K239 (ninS (Ne.symm ne_b235_la238) (ninS (Ne.symm ne_vb236_la238) nin0)))
  have f84_Fld_la238 : Fld Z T239.heap la238 "java/lang/String" "coder" "B" (.int (0 : Int32)) := (Fc238.keep K239 (ninS (Ne.symm ne_b235_la238) (ninS (Ne.symm ne_vb236_la238) nin0)))
  have f85_Arv_lb238 : Arv Z T239.heap lb238 kb238 .byte (2 : Int32) (([58, 32] : List Int32).map Value.int) (.int (0 : Int32)) := (V238.keep K239 (ninS (Ne.symm ne_b235_lb238) (ninS (Ne.symm ne_vb236_lb238) nin0)))
  refine own_jumpH (g' := (mkF m 20 #[rv a1, rv r2, rv r3] [(.ref b235), (.ref al2)])) st239 ?_
  refine own_stH (mkF m 21 #[rv a1, rv r2, rv r3] [(.ref r3), (.ref b235), (.ref al2)]) (fun t k => XS.aloadN X239.here hx rfl (hb hby d42_20) rfl rfl k) ?_
  obtain ⟨cq240, kq240, q240a, q240b, q240c⟩ := isOf hZ rfl Ex239
  obtain ⟨_, _, ⟨T240, L240, k240, n240⟩, -, X240, ⟨Lc240, hQ240, l240, y240, z240⟩, st240⟩ := X239.virtualBack hx (y := (⟨"java/lang/StringBuilder", "append", "(Ljava/lang/String;)Ljava/lang/StringBuilder;"⟩ : MethodName)) (z := (⟨"java/lang/StringBuilder", "append", "(Ljava/lang/String;)Ljava/lang/StringBuilder;"⟩ : MethodName)) hown (mvT hZ (hw_107 hw)) (mvT hZ (hw_108 hw)) (notFace_of_selects (args := #[]) (mvT hZ (hw_110 hw))) (mvT hZ (hw_110 hw)) (mvT hZ (hw_109 hw)) (by decide) (backOf (W := 1) (own_rm17_3_17 l Z a0 hw [] b235 r3 vb236 kb236 b3 bs3 kb3 (([] ++ bs2) ++ [58, 32]) wc wD kD T239.heap n0 Z239 O239 SS (by simp [hb2]) hb3 Ex239 Fv239 Fc239 Fn239 V239 f76_Exa_r3 f77_Fld_r3 f78_Fld_r3 f79_Arv_b3 g_b235 ne_b235_vb236 (Ne.symm ne_r3_b235) (Ne.symm ne_b3_b235)) hZ (hw_111 hw) (hw_91 hw) (by decide) (by decide)) q240a q240c (g := (mkF m 21 #[rv a1, rv r2, rv r3] [(.ref r3), (.ref b235), (.ref al2)])) rfl (by rw [hml]; rfl) (Steps.refl _) (argsL := [(.ref r3)]) (rest := [(.ref al2)]) (lenOf pd_24 rfl) rfl (by show 2 * 0 + _ ≤ _; exact Nat.le_of_eq rfl) (hb hby d42_21) (fun _ _ => ⟨rfl, rfl, (by decide : 4 + 1 ≤ _), (by decide : 32 + 34 ≤ _)⟩)
  dsimp only [Pt.U, Pt.locs, Pt.cells, Pt.slots] at X240 l240 y240 z240 st240 hQ240
  subst l240 y240 z240
  obtain ⟨vb240, kb240, rfl, Nq240, K240, gb240, Ex240, Fv240, Fc240, Fn240, V240⟩ := hQ240
  have N240 := Fr.app N239 Nq240
  have g_vb240 : n0 ≤ vb240 := Nat.le_trans Z239 gb240
  have ne_a1_vb240 : a1 ≠ vb240 := Nat.ne_of_lt (Nat.lt_of_lt_of_le f66_Exa_a1.lt gb240)
  have ne_al1_vb240 : al1 ≠ vb240 := Nat.ne_of_lt (Nat.lt_of_lt_of_le (own_ALl1 f69_Prd_al1).lt gb240)
  have ne_dd1_vb240 : dd1 ≠ vb240 := Nat.ne_of_lt (Nat.lt_of_lt_of_le (own_ALl2 f69_Prd_al1).lt gb240)
  have ne_al2_vb240 : al2 ≠ vb240 := Nat.ne_of_lt (Nat.lt_of_lt_of_le (own_ALl1 f70_Prd_al2).lt gb240)
  have ne_dd2_vb240 : dd2 ≠ vb240 := Nat.ne_of_lt (Nat.lt_of_lt_of_le (own_ALl2 f70_Prd_al2).lt gb240)
  have ne_r3_vb240 : r3 ≠ vb240 := Nat.ne_of_lt (Nat.lt_of_lt_of_le f76_Exa_r3.lt gb240)
  have ne_b3_vb240 : b3 ≠ vb240 := Nat.ne_of_lt (Nat.lt_of_lt_of_le f79_Arv_b3.lt gb240)
  have ne_b235_vb240 : b235 ≠ vb240 := Nat.ne_of_lt (Nat.lt_of_lt_of_le Ex239.lt gb240)
  have ne_vb236_vb240 : vb236 ≠ vb240 := Nat.ne_of_lt (Nat.lt_of_lt_of_le V239.lt gb240)
  have C240 : CHr Z own_EL T238.vm T239.heap T238.vm T240.heap := CHr.keep K240 (sfS (Safe.exa hZ.alike Ex239 (by decide) (by decide)) sf0) CR239.1
  have CR240 := CR239.trans C240
  have kz240 : _ ≤ T240.heap.size := Nat.le_trans kz239 K240.1
  have Z240 : n0 ≤ T240.heap.size := Nat.le_trans Z239 K240.1
  have O240 : Old Z n0 T240.heap := O239.keep K240 (allS g_b235 all0)
  have f86_Exa_a1 : Exa Z T240.heap a1 "com/example/shaper/shaper/core/ConfigProblems" := (f66_Exa_a1.keep K240)
  have f87_Fld_a1 : Fld Z T240.heap a1 "com/example/shaper/shaper/core/ConfigProblems" "violations" "Ljava/util/List;" (.ref al1) := (f67_Fld_a1.keep K240 (ninS ne_a1_b235 nin0))
  have f88_Fld_a1 : Fld Z T240.heap a1 "com/example/shaper/shaper/core/ConfigProblems" "unsupported" "Ljava/util/List;" (.ref al2) := (f68_Fld_a1.keep K240 (ninS ne_a1_b235 nin0))
  have f89_Prd_al1 : own_AL Z wD T240.heap n0 al1 k1 dd1 f1 := (own_ALkeep f69_Prd_al1 K240 (ninS ne_al1_b235 nin0) (ninS ne_dd1_b235 nin0))
  have f90_Prd_al2 : own_AL Z wD T240.heap n0 al2 k2 dd2 f2 := (own_ALkeep f70_Prd_al2 K240 (ninS ne_al2_b235 nin0) (ninS ne_dd2_b235 nin0))
  have f91_Exa_al2 : Exa Z T240.heap al2 "java/util/ArrayList" := (f71_Exa_al2.keep K240)
  have f92_Exa_r3 : Exa Z T240.heap r3 "java/lang/String" := (f76_Exa_r3.keep K240)
  have f93_Fld_r3 : Fld Z T240.heap r3 "java/lang/String" "value" "[B" (.ref b3) := (f77_Fld_r3.keep K240 (ninS ne_r3_b235 nin0))
  have f94_Fld_r3 : Fld Z T240.heap r3 "java/lang/String" "coder" "B" (.int (0 : Int32)) := (f78_Fld_r3.keep K240 (ninS ne_r3_b235 nin0))
  have f95_Arv_b3 : Arv Z T240.heap b3 kb3 .byte (17 : Int32) ((bs3).map Value.int) (.int (0 : Int32)) := (f79_Arv_b3.keep K240 (ninS ne_b3_b235 nin0))
  have f96_Exa_b235 : Exa Z T240.heap b235 "java/lang/StringBuilder" := (Ex239.keep K240)
  have f97_Saf_vb236 : Safe Z own_EL T238.vm T240.heap vb236 := (C240.safe V239.lt f81_Saf_vb236)
  have f98_Arv_vb236 : Arv Z T240.heap vb236 kb236 .byte (16 : Int32) (((([] ++ bs2) ++ ([58, 32] : List Int32)) ++ List.replicate 13 (0 : Int32)).map Value.int) (.int (0 : Int32)) := (V239.keep K240 (ninS (Ne.symm ne_b235_vb236) nin0))
  have Sf_vb240 : Safe Z own_EL T238.vm T240.heap vb240 := Safe.keep K240 (sfS (Safe.exa hZ.alike Ex239 (by decide) (by decide)) sf0) CR239.1 (Safe.new gb240)
  refine own_jumpH (g' := (mkF m 24 #[rv a1, rv r2, rv r3] [(.ref b235), (.ref al2)])) st240 ?_
  obtain ⟨cq241, kq241, q241a, q241b, q241c⟩ := isOf hZ rfl Ex240
  obtain ⟨_, _, ⟨T241, L241, k241, n241⟩, -, X241, ⟨Lc241, hQ241, l241, y241, z241⟩, st241⟩ := X240.virtualBack hx (y := (⟨"java/lang/StringBuilder", "toString", "()Ljava/lang/String;"⟩ : MethodName)) (z := (⟨"java/lang/StringBuilder", "toString", "()Ljava/lang/String;"⟩ : MethodName)) hown (mvT hZ (hw_157 hw)) (mvT hZ (hw_158 hw)) (notFace_of_selects (args := #[]) (mvT hZ (hw_160 hw))) (mvT hZ (hw_160 hw)) (mvT hZ (hw_159 hw)) (by decide) (backOf (W := 1) (own_rm25_t20 l Z a0 hw [] b235 vb240 kb240 ((((([] ++ bs2) ++ [58, 32])) ++ bs3) ++ List.replicate 14 (0 : Int32)) wc wD kD T240.heap n0 Z240 O240 SS (by simp [hb2, hb3]) Ex240 Fv240 Fc240 Fn240 V240) hZ (hw_161 hw) (hw_91 hw) (by decide) (by decide)) q241a q241c (g := (mkF m 24 #[rv a1, rv r2, rv r3] [(.ref b235), (.ref al2)])) rfl (by rw [hml]; rfl) (Steps.refl _) (argsL := []) (rest := [(.ref al2)]) (lenOf pd_25 rfl) rfl (by show 2 * 0 + _ ≤ _; exact Nat.le_of_eq rfl) (hb hby d42_24) (fun _ _ => ⟨rfl, rfl, (by decide : 5 + 2 ≤ _), (by decide : 66 + 24 ≤ _)⟩)
  dsimp only [Pt.U, Pt.locs, Pt.cells, Pt.slots] at X241 l241 y241 z241 st241 hQ241
  subst l241 y241 z241
  obtain ⟨sa241, ba241, kb241, rfl, Nq241, K241, ga241, gb241, ne241, Ex241, Fv241, Fc241, V241⟩ := hQ241
  have N241 := Fr.app N240 Nq241
  have g_sa241 : n0 ≤ sa241 := Nat.le_trans Z240 ga241
  have ne_a1_sa241 : a1 ≠ sa241 := Nat.ne_of_lt (Nat.lt_of_lt_of_le f86_Exa_a1.lt ga241)
  have ne_al1_sa241 : al1 ≠ sa241 := Nat.ne_of_lt (Nat.lt_of_lt_of_le (own_ALl1 f89_Prd_al1).lt ga241)
  have ne_dd1_sa241 : dd1 ≠ sa241 := Nat.ne_of_lt (Nat.lt_of_lt_of_le (own_ALl2 f89_Prd_al1).lt ga241)
  have ne_al2_sa241 : al2 ≠ sa241 := Nat.ne_of_lt (Nat.lt_of_lt_of_le (own_ALl1 f90_Prd_al2).lt ga241)
  have ne_dd2_sa241 : dd2 ≠ sa241 := Nat.ne_of_lt (Nat.lt_of_lt_of_le (own_ALl2 f90_Prd_al2).lt ga241)
  have ne_r3_sa241 : r3 ≠ sa241 := Nat.ne_of_lt (Nat.lt_of_lt_of_le f92_Exa_r3.lt ga241)
  have ne_b3_sa241 : b3 ≠ sa241 := Nat.ne_of_lt (Nat.lt_of_lt_of_le f95_Arv_b3.lt ga241)
  have ne_b235_sa241 : b235 ≠ sa241 := Nat.ne_of_lt (Nat.lt_of_lt_of_le Ex240.lt ga241)
  have ne_vb236_sa241 : vb236 ≠ sa241 := Nat.ne_of_lt (Nat.lt_of_lt_of_le f98_Arv_vb236.lt ga241)
  have ne_vb240_sa241 : vb240 ≠ sa241 := Nat.ne_of_lt (Nat.lt_of_lt_of_le V240.lt ga241)
  have g_ba241 : n0 ≤ ba241 := Nat.le_trans Z240 gb241
  have ne_a1_ba241 : a1 ≠ ba241 := Nat.ne_of_lt (Nat.lt_of_lt_of_le f86_Exa_a1.lt gb241)
  have ne_al1_ba241 : al1 ≠ ba241 := Nat.ne_of_lt (Nat.lt_of_lt_of_le (own_ALl1 f89_Prd_al1).lt gb241)
  have ne_dd1_ba241 : dd1 ≠ ba241 := Nat.ne_of_lt (Nat.lt_of_lt_of_le (own_ALl2 f89_Prd_al1).lt gb241)
  have ne_al2_ba241 : al2 ≠ ba241 := Nat.ne_of_lt (Nat.lt_of_lt_of_le (own_ALl1 f90_Prd_al2).lt gb241)
  have ne_dd2_ba241 : dd2 ≠ ba241 := Nat.ne_of_lt (Nat.lt_of_lt_of_le (own_ALl2 f90_Prd_al2).lt gb241)
  have ne_r3_ba241 : r3 ≠ ba241 := Nat.ne_of_lt (Nat.lt_of_lt_of_le f92_Exa_r3.lt gb241)
  have ne_b3_ba241 : b3 ≠ ba241 := Nat.ne_of_lt (Nat.lt_of_lt_of_le f95_Arv_b3.lt gb241)
  have ne_b235_ba241 : b235 ≠ ba241 := Nat.ne_of_lt (Nat.lt_of_lt_of_le Ex240.lt gb241)
  have ne_vb236_ba241 : vb236 ≠ ba241 := Nat.ne_of_lt (Nat.lt_of_lt_of_le f98_Arv_vb236.lt gb241)
  have ne_vb240_ba241 : vb240 ≠ ba241 := Nat.ne_of_lt (Nat.lt_of_lt_of_le V240.lt gb241)
  have C241 : CHr Z own_EL T238.vm T240.heap T238.vm T241.heap := CHr.keep K241 sf0 CR240.1
  have CR241 := CR240.trans C241
  have kz241 : _ ≤ T241.heap.size := Nat.le_trans kz240 K241.1
  have Z241 : n0 ≤ T241.heap.size := Nat.le_trans Z240 K241.1
  have O241 : Old Z n0 T241.heap := O240.keep K241 all0
  have f99_Exa_a1 : Exa Z T241.heap a1 "com/example/shaper/shaper/core/ConfigProblems" := (f86_Exa_a1.keep K241)
  have f100_Fld_a1 : Fld Z T241.heap a1 "com/example/shaper/shaper/core/ConfigProblems" "violations" "Ljava/util/List;" (.ref al1) := (f87_Fld_a1.keep K241 nin0)
  have f101_Fld_a1 : Fld Z T241.heap a1 "com/example/shaper/shaper/core/ConfigProblems" "unsupported" "Ljava/util/List;" (.ref al2) := (f88_Fld_a1.keep K241 nin0)
  have f102_Prd_al1 : own_AL Z wD T241.heap n0 al1 k1 dd1 f1 := (own_ALkeep f89_Prd_al1 K241 nin0 nin0)
  have f103_Prd_al2 : own_AL Z wD T241.heap n0 al2 k2 dd2 f2 := (own_ALkeep f90_Prd_al2 K241 nin0 nin0)
  have f104_Exa_al2 : Exa Z T241.heap al2 "java/util/ArrayList" := (f91_Exa_al2.keep K241)
  have f105_Exa_r3 : Exa Z T241.heap r3 "java/lang/String" := (f92_Exa_r3.keep K241)
  have f106_Fld_r3 : Fld Z T241.heap r3 "java/lang/String" "value" "[B" (.ref b3) := (f93_Fld_r3.keep K241 nin0)
  have f107_Fld_r3 : Fld Z T241.heap r3 "java/lang/String" "coder" "B" (.int (0 : Int32)) := (f94_Fld_r3.keep K241 nin0)
  have f108_Arv_b3 : Arv Z T241.heap b3 kb3 .byte (17 : Int32) ((bs3).map Value.int) (.int (0 : Int32)) := (f95_Arv_b3.keep K241 nin0)
  have f109_Exa_b235 : Exa Z T241.heap b235 "java/lang/StringBuilder" := (Ex240.keep K241)
  have f110_Saf_vb236 : Safe Z own_EL T238.vm T241.heap vb236 := (C241.safe f98_Arv_vb236.lt f97_Saf_vb236)
  have f111_Arv_vb236 : Arv Z T241.heap vb236 kb236 .byte (16 : Int32) (((([] ++ bs2) ++ ([58, 32] : List Int32)) ++ List.replicate 13 (0 : Int32)).map Value.int) (.int (0 : Int32)) := (f98_Arv_vb236.keep K241 nin0)
  have f112_Fld_b235 : Fld Z T241.heap b235 "java/lang/AbstractStringBuilder" "value" "[B" (.ref vb240) := (Fv240.keep K241 nin0)
  have f113_Fld_b235 : Fld Z T241.heap b235 "java/lang/AbstractStringBuilder" "coder" "B" (.int (0 : Int32)) := (Fc240.keep K241 nin0)
  have f114_Fld_b235 : Fld Z T241.heap b235 "java/lang/AbstractStringBuilder" "count" "I" (.int (20 : Int32)) := (Fn240.keep K241 nin0)
  have f115_Arv_vb240 : Arv Z T241.heap vb240 kb240 .byte (34 : Int32) (((((([] ++ bs2) ++ [58, 32])) ++ bs3) ++ List.replicate 14 (0 : Int32)).map Value.int) (.int (0 : Int32)) := (V240.keep K241 nin0)
  have f116_Saf_vb240 : Safe Z own_EL T238.vm T241.heap vb240 := (C241.safe V240.lt Sf_vb240)
  refine own_jumpH (g' := (mkF m 27 #[rv a1, rv r2, rv r3] [(.ref sa241), (.ref al2)])) st241 ?_
  obtain ⟨cq242, kq242, q242a, q242b, q242c⟩ := isOf hZ rfl f104_Exa_al2
  obtain ⟨_, _, ⟨T242, L242, k242, n242⟩, -, X242, ⟨Lc242, hQ242, l242, y242, z242⟩, st242⟩ := X241.interfaceBack hx (xi := (⟨"java/util/List", "add", "(Ljava/lang/Object;)Z"⟩ : MethodName)) (y := (⟨"java/util/ArrayList", "add", "(Ljava/lang/Object;)Z"⟩ : MethodName)) hown (mvT hZ (hw_202 hw)) (mvT hZ (hw_203 hw)) (mvT hZ (hw_204 hw)) (mvT hZ (hw_205 hw)) (mvT hZ (hw_206 hw)) (mvT hZ (hw_207 hw)) (mvT hZ (hw_208 hw)) (mvT hZ (hw_49 hw)) (by decide) (backOf (W := 0) (own_rm36 l Z a0 hw [] al2 sa241 k2 dd2 f2 wc wD kD T241.heap n0 Z241 O241 SS (by omega) f103_Prd_al2 Ex241) hZ (hw_209 hw) (hw_11 hw) (by decide) (by decide)) q242a q242b q242c (g := (mkF m 27 #[rv a1, rv r2, rv r3] [(.ref sa241), (.ref al2)])) rfl (by rw [hml]; rfl) (Steps.refl _) (argsL := [(.ref sa241)]) (rest := []) (lenOf pd_26 rfl) rfl (by show 2 * 0 + _ ≤ _; exact Nat.le_of_eq rfl) (hb hby d42_27) (fun _ _ => ⟨rfl, rfl, (by decide : 7 + 1 ≤ _), (by decide : 90 + 10 ≤ _)⟩)
  dsimp only [Pt.U, Pt.locs, Pt.cells, Pt.slots] at X242 l242 y242 z242 st242 hQ242
  subst l242 y242 z242
  obtain ⟨dn242, rfl, Nq242, K242, A242, hd242⟩ := hQ242
  have N242 := Fr.app N241 Nq242
  have lp := f99_Exa_a1.lt
  have lo1 := (own_ALl1 f102_Prd_al1).lt
  have lo2 := (own_ALl2 f102_Prd_al1).lt
  have C242 : CHr Z own_EL T238.vm T241.heap T238.vm T242.heap := CHr.keep K242 (sfS (Safe.exa hZ.alike f104_Exa_al2 (by decide) (by decide)) (sfS (own_ALsafe hZ.alike f103_Prd_al2) sf0)) CR241.1
  have CR242 := CR241.trans C242
  have kz242 : _ ≤ T242.heap.size := Nat.le_trans kz241 K242.1
  have Z242 : n0 ≤ T242.heap.size := Nat.le_trans Z241 K242.1
  have O242 : Old Z n0 T242.heap := O241.keep K242 (allS A2.1 (allS A2.2.1 all0))
  have f117_Exa_a1 : Exa Z T242.heap a1 "com/example/shaper/shaper/core/ConfigProblems" := (f99_Exa_a1.keep K242)
  have f118_Fld_a1 : Fld Z T242.heap a1 "com/example/shaper/shaper/core/ConfigProblems" "violations" "Ljava/util/List;" (.ref al1) := (f100_Fld_a1.keep K242 (ninS q3 (ninS q4 nin0)))
  have f119_Fld_a1 : Fld Z T242.heap a1 "com/example/shaper/shaper/core/ConfigProblems" "unsupported" "Ljava/util/List;" (.ref al2) := (f101_Fld_a1.keep K242 (ninS q3 (ninS q4 nin0)))
  have f120_Prd_al1 : own_AL Z wD T242.heap n0 al1 k1 dd1 f1 := (own_ALkeep f102_Prd_al1 K242 (ninS q5 (ninS q6 nin0)) (ninS q7 (ninS q8 nin0)))
  have f121_Exa_al2 : Exa Z T242.heap al2 "java/util/ArrayList" := (f104_Exa_al2.keep K242)
  have f122_Exa_sa241 : Exa Z T242.heap sa241 "java/lang/String" := (Ex241.keep K242)
  refine own_jumpH (g' := (mkF m 32 #[rv a1, rv r2, rv r3] [(.int (1 : Int32))])) st242 ?_
  refine own_stH (mkF m 33 #[rv a1, rv r2, rv r3] []) (fun t k => XS.pop X242.here hx rfl (hb hby d42_32) rfl rfl k) ?_
  refine own_retH X242 hlk S238 (own_leE rfl kz242) (v := none) (fun _ => rfl) (fun fs hr => X242.returnOut hx hret (hb hby d42_33) hr) ?_ (own_CHend hs0 rfl CR242 (CHv.at X242 hZ hEL CR242.1)) (by decide) (by decide)
  show own_Q42_17 Z a1 r2 r3 k1 k2 f1 f2 b2 kb2 bs2 b3 kb3 bs3 wc wD kD h0 n0 _ T242.heap _
  exact ⟨_, _, rfl, N242, O242, ⟨al1, dd1, al2, dn242, gp, f117_Exa_a1, f118_Fld_a1, f119_Fld_a1, f120_Prd_al1, A242, q1, q2, q3, (own_neD hd242 q4 lp), q5, (own_neD hd242 q6 lo1), q7, (own_neD hd242 q8 lo2)⟩⟩
theorem d41_0 : decode prog_4_method_3_code 0 = .ok (.aload_n 0, 1) := by decide +kernel
theorem d41_1 : decode prog_4_method_3_code 1 = .ok (.aload_n 1, 1) := by decide +kernel
theorem d41_2 : decode prog_4_method_3_code 2 = .ok (.ldc 38, 2) := by decide +kernel
theorem hw_238 {a0 Z} (hw : own_W a0 Z) : (Jvm.Cond.stringLink "com/example/shaper/shaper/core/ConfigProblems" (38 : Nat) "not supported yet").before a0 Z = true := hw _ (List.mem_of_getElem? (i := 238) rfl)
theorem d41_4 : decode prog_4_method_3_code 4 = .ok (.invokevirtual 40, 3) := by decide +kernel
theorem hw_239 {a0 Z} (hw : own_W a0 Z) : (Jvm.Cond.methodLink "com/example/shaper/shaper/core/ConfigProblems" (40 : Nat) ({ cls := "com/example/shaper/shaper/core/ConfigProblems", name := "unsupported", desc := "(Ljava/lang/String;Ljava/lang/String;)V" } : Jvm.MethodName)).before a0 Z = true := hw _ (List.mem_of_getElem? (i := 239) rfl)
theorem hw_243 {a0 Z} (hw : own_W a0 Z) : (Jvm.Cond.code ({ cls := "com/example/shaper/shaper/core/ConfigProblems", name := "unsupported", desc := "(Ljava/lang/String;Ljava/lang/String;)V" } : Jvm.MethodName) prog_4_method_4_code (3 : Nat) (Option.none : Option Jvm.ClassFile.FieldType)).before a0 Z = true := hw _ (List.mem_of_getElem? (i := 243) rfl)
theorem hw_2 {a0 Z} (hw : own_W a0 Z) : (Jvm.Cond.initialized "com/example/shaper/shaper/core/ConfigProblems").before a0 Z = true := hw _ (List.mem_of_getElem? (i := 2) rfl)
theorem pd_27 : parseMethodDescriptor "(Ljava/lang/String;Ljava/lang/String;)V" = some ⟨[(.object "java/lang/String"), (.object "java/lang/String")], none⟩ := by decide +kernel
theorem hw_242 {a0 Z} (hw : own_W a0 Z) : (Jvm.Cond.selects "com/example/shaper/shaper/core/ConfigProblems" ({ cls := "com/example/shaper/shaper/core/ConfigProblems", name := "unsupported", desc := "(Ljava/lang/String;Ljava/lang/String;)V" } : Jvm.MethodName) ({ cls := "com/example/shaper/shaper/core/ConfigProblems", name := "unsupported", desc := "(Ljava/lang/String;Ljava/lang/String;)V" } : Jvm.MethodName)).before a0 Z = true := hw _ (List.mem_of_getElem? (i := 242) rfl)
theorem hw_240 {a0 Z} (hw : own_W a0 Z) : (Jvm.Cond.declares ({ cls := "com/example/shaper/shaper/core/ConfigProblems", name := "unsupported", desc := "(Ljava/lang/String;Ljava/lang/String;)V" } : Jvm.MethodName)).before a0 Z = true := hw _ (List.mem_of_getElem? (i := 240) rfl)
theorem hw_241 {a0 Z} (hw : own_W a0 Z) : (Jvm.Cond.instanceMethod ({ cls := "com/example/shaper/shaper/core/ConfigProblems", name := "unsupported", desc := "(Ljava/lang/String;Ljava/lang/String;)V" } : Jvm.MethodName)).before a0 Z = true := hw _ (List.mem_of_getElem? (i := 241) rfl)
theorem d41_7 : decode prog_4_method_3_code 7 = .ok (.return_, 1) := by decide +kernel
theorem own_ef41 (m : MethodId) (a1 : Addr) (r2 : Addr) : entryFrame m #[(.ref a1), (.ref r2)] 2 = mkF m 0 #[rv a1, rv r2] [] := by first | (simp [entryFrame, mkF, argsToLocals, Value.category]; done) | rfl
def own_Q41 (Z : State) (a1 : Addr) (r2 : Addr) (k1 : Nat) (k2 : Nat) (f1 : Value) (f2 : Value) (b2 : Addr) (kb2 : ClassId) (bs2 : List Int32) (wc : Int32) (wD : Addr) (kD : ClassId) (h0 : Heap) (n0 : Nat) (v : Option Value) (h : Heap) (L : List Loc) : Prop := ∃ g1 g2 : Value, v = none ∧ Fr n0 L ∧ Old Z n0 h ∧ own_CP Z wD h n0 a1 k1 (k2 + 1) g1 g2
set_option maxRecDepth 65536 in
set_option maxHeartbeats 40000000 in
theorem own_rm41 (l : Launch) (Z : State) (a0 : Array Value) (hw : own_W a0 Z) (ws : List Jvm.Cond) (a1 : Addr) (r2 : Addr) (k1 : Nat) (k2 : Nat) (f1 : Value) (f2 : Value) (b2 : Addr) (kb2 : ClassId) (bs2 : List Int32) (wc : Int32) (wD : Addr) (kD : ClassId) (h0 : Heap) (n0 : Nat) (Z0 : n0 ≤ h0.size) (O0 : Old Z n0 h0) (SS : own_St Z wc wD kD) (hEL : EW Z a0 own_EL) (hk : k1 + k2 ≤ 7) (hb2 : bs2.length = 1) (P0 : own_CP Z wD h0 n0 a1 k1 k2 f1 f2) (S2e : Exa Z h0 r2 "java/lang/String") (S2v : Fld Z h0 r2 "java/lang/String" "value" "[B" (.ref b2)) (S2c : Fld Z h0 r2 "java/lang/String" "coder" "B" (.int (0 : Int32))) (S2a : Arv Z h0 b2 kb2 .byte (1 : Int32) ((bs2).map Value.int) (.int (0 : Int32))) :
    MetFree l (⟨"com/example/shaper/shaper/core/ConfigProblems", "unsupported", "(Ljava/lang/String;)V"⟩ : MethodName) (head1 (Jvm.Cond.code (⟨"com/example/shaper/shaper/core/ConfigProblems", "unsupported", "(Ljava/lang/String;)V"⟩ : MethodName) prog_4_method_3_code 2 none :: ws) ({ frames := 7, cells := 10, slots := 172, locals := 106 } : Room)) (fun a U => a = #[(.ref a1), (.ref r2)] ∧ Z.Warmed39 U.vm ∧ U.heap = h0 ∧ CHv Z own_EL U.vm h0) (fun _ _ _ _ _ => True) (fun _ U o U' => ∃ v L, o = .returned v ∧ own_Q41 Z a1 r2 k1 k2 f1 f2 b2 kb2 bs2 wc wD kD h0 n0 v U'.heap L ∧ CHr Z own_EL U.vm U.heap U'.vm U'.heap ∧ ReturnedEndW U o U' L ({ frames := 7, cells := 10, slots := 172, locals := 106 } : Room).cells ({ frames := 7, cells := 10, slots := 172, locals := 106 } : Room).slots) := by
  refine own_bodyH (plainFor_of_name pn_1) (fun m => own_ef41 m a1 r2) ?_
  intro p e s m below meth c T0 X0 hx hby hml hZ hown hnm hret hlk e0 hs0 S0 CH0
  have hown : (s.setVm s.vm).vm.findClass "com/example/shaper/shaper/core/ConfigProblems" = some m.cls := hown
  have CR0 := CHr.refl CH0
  have kz0 : h0.size ≤ h0.size := Nat.le_refl _
  have hnm : meth.name = "unsupported" := hnm
  have N0 := Fr.nil n0
  have Ecp := own_CPexa P0
  refine own_stH (mkF m 1 #[rv a1, rv r2] [(.ref a1)]) (fun t k => XS.aloadN X0.here hx rfl (hb hby d41_0) rfl rfl k) ?_
  refine own_stH (mkF m 2 #[rv a1, rv r2] [(.ref r2), (.ref a1)]) (fun t k => XS.aloadN X0.here hx rfl (hb hby d41_1) rfl rfl k) ?_
  obtain ⟨la243, T243, h243, kk243, lb243, kb243, X243, e243, E243, S243, kz243, hZ, hown, Ex243, Fc243, Fv243, V243, lta243, ltb243, C243, -, nl243, st243⟩ := ldcCH (vm0 := s.vm) (EL := own_EL) X0 hx hZ hown (hw_238 hw) (own_wS hw) e0 S0 kz0 hEL own_mem38 CR0.1 (vs := ([110, 111, 116, 32, 115, 117, 112, 112, 111, 114, 116, 101, 100, 32, 121, 101, 116] : List Int32).map Value.int) (z := (17 : Int32)) own_txt38 (by decide) rfl (g := (mkF m 2 #[rv a1, rv r2] [(.ref r2), (.ref a1)])) rfl (hb hby d41_2) (n := 68) own_tln38 (by decide) (by decide) (by decide)
  have CR243 := CR0.trans C243
  have Z243 : n0 ≤ h243.size := Nat.le_trans Z0 E243.1
  have O243 : Old Z n0 h243 := O0.ext E243
  have f1_Prd_a1 : own_CP Z wD h243 n0 a1 k1 k2 f1 f2 := (own_CPext P0 E243)
  have f2_Exa_a1 : Exa Z h243 a1 "com/example/shaper/shaper/core/ConfigProblems" := (Ecp.ext E243)
  have f3_Exa_r2 : Exa Z h243 r2 "java/lang/String" := (S2e.ext E243)
  have f4_Fld_r2 : Fld Z h243 r2 "java/lang/String" "value" "[B" (.ref b2) := (S2v.ext E243)
  have f5_Fld_r2 : Fld Z h243 r2 "java/lang/String" "coder" "B" (.int (0 : Int32)) := (S2c.ext E243)
  have f6_Arv_b2 : Arv Z h243 b2 kb2 .byte (1 : Int32) ((bs2).map Value.int) (.int (0 : Int32)) := (S2a.ext E243)
  refine own_stepH (g' := (mkF m 4 #[rv a1, rv r2] [(.ref la243), (.ref r2), (.ref a1)])) st243 ?_
  obtain ⟨cq244, kq244, q244a, q244b, q244c⟩ := isOf hZ e243 f2_Exa_a1
  obtain ⟨_, _, ⟨T244, L244, k244, n244⟩, -, X244, S244, G244, ⟨Lc244, hQ244, l244, y244, z244, C244⟩, st244⟩ := X243.virtualBackS hx (y := (⟨"com/example/shaper/shaper/core/ConfigProblems", "unsupported", "(Ljava/lang/String;Ljava/lang/String;)V"⟩ : MethodName)) (z := (⟨"com/example/shaper/shaper/core/ConfigProblems", "unsupported", "(Ljava/lang/String;Ljava/lang/String;)V"⟩ : MethodName)) hown (mvT hZ (hw_239 hw)) (mvT hZ (hw_240 hw)) (notFace_of_selects (args := #[]) (mvT hZ (hw_242 hw))) (mvT hZ (hw_242 hw)) (mvT hZ (hw_241 hw)) (by decide) (backOfSH (s := s) (vm0 := T243.vm) (W := 0) (own_rm42_17 l Z a0 hw [] a1 r2 la243 k1 k2 f1 f2 b2 kb2 bs2 lb243 kb243 ([110, 111, 116, 32, 115, 117, 112, 112, 111, 114, 116, 101, 100, 32, 121, 101, 116] : List Int32) wc wD kD h243 n0 Z243 O243 SS hEL hk hb2 rfl f1_Prd_a1 f3_Exa_r2 f4_Fld_r2 f5_Fld_r2 f6_Arv_b2 Ex243 Fv243 Fc243 V243) hZ (hw_243 hw) (hw_2 hw) (by decide) (by decide) hEL CR243.1) q244a q244c (g := (mkF m 4 #[rv a1, rv r2] [(.ref la243), (.ref r2), (.ref a1)])) rfl (by rw [hml]; rfl) (Steps.refl _) (argsL := [(.ref r2), (.ref la243)]) (rest := []) (lenOf pd_27 rfl) rfl (by show 2 * 0 + _ ≤ _; exact Nat.le_of_eq rfl) (hb hby d41_4) (fun _ _ => ⟨rfl, e243, (by decide : 2 + 8 ≤ _), (by decide : 72 + 100 ≤ _)⟩)
  dsimp only [Pt.U, Pt.locs, Pt.cells, Pt.slots] at X244 l244 y244 z244 st244 hQ244 S244 G244 C244
  subst l244 y244 z244
  obtain ⟨X244, S244, hZ, hown⟩ := rebS S243 kz243 X244 S244 (show h243.size ≤ T244.heap.size from e243 ▸ G244) hZ hown
  have CR244 := CR243.trans C244
  have gr244 : h243.size ≤ T244.heap.size := C244.2.1
  obtain ⟨g1244, g2244, rfl, Nq244, O244, P244⟩ := hQ244
  have N244 := Fr.app N0 Nq244
  have Z244 : n0 ≤ T244.heap.size := Nat.le_trans Z243 gr244
  refine own_jumpH (g' := (mkF m 7 #[rv a1, rv r2] [])) st244 ?_
  refine own_retH X244 hlk S244 (own_leE rfl (Nat.le_refl T244.heap.size)) (v := none) (fun _ => rfl) (fun fs hr => X244.returnOut hx hret (hb hby d41_7) hr) ?_ (own_CHend hs0 rfl CR244 (CHv.at X244 hZ hEL CR244.1)) (by decide) (by decide)
  show own_Q41 Z a1 r2 k1 k2 f1 f2 b2 kb2 bs2 wc wD kD h0 n0 _ T244.heap _
  exact ⟨_, _, rfl, N244, O244, P244⟩
theorem d8_0 : decode method_2_code 0 = .ok (.iload_n 0, 1) := by decide +kernel
theorem d8_1 : decode method_2_code 1 = .ok (.sipush 255, 3) := by decide +kernel
theorem d8_4 : decode method_2_code 4 = .ok (.iand, 1) := by decide +kernel
theorem d8_5 : decode method_2_code 5 = .ok (.i2c, 1) := by decide +kernel
theorem d8_6 : decode method_2_code 6 = .ok (.invokestatic 7, 3) := by decide +kernel
theorem hw_57 {a0 Z} (hw : own_W a0 Z) : (Jvm.Cond.methodLink "com/example/shaper/shaper/core/ConfigProblemsCountPinLaw" (7 : Nat) ({ cls := "java/lang/String", name := "valueOf", desc := "(C)Ljava/lang/String;" } : Jvm.MethodName)).before a0 Z = true := hw _ (List.mem_of_getElem? (i := 57) rfl)
theorem hw_60 {a0 Z} (hw : own_W a0 Z) : (Jvm.Cond.code ({ cls := "java/lang/String", name := "valueOf", desc := "(C)Ljava/lang/String;" } : Jvm.MethodName) jdk_42_method_139_code (1 : Nat) (Option.some (Jvm.ClassFile.FieldType.object "java/lang/String"))).before a0 Z = true := hw _ (List.mem_of_getElem? (i := 60) rfl)
theorem pd_28 : parseMethodDescriptor "(C)Ljava/lang/String;" = some ⟨[.char], some (.object "java/lang/String")⟩ := by decide +kernel
theorem hw_58 {a0 Z} (hw : own_W a0 Z) : (Jvm.Cond.static ({ cls := "java/lang/String", name := "valueOf", desc := "(C)Ljava/lang/String;" } : Jvm.MethodName)).before a0 Z = true := hw _ (List.mem_of_getElem? (i := 58) rfl)
theorem d8_9 : decode method_2_code 9 = .ok (.areturn, 1) := by decide +kernel
theorem pn_8 : plainName "com/example/shaper/shaper/core/ConfigProblemsCountPinLaw" = true := by first | (simp [plainName, overriddenIn]; done) | decide +kernel
theorem own_ef8 (m : MethodId) (p1 : Int32) : entryFrame m #[(.int p1)] 1 = mkF m 0 #[iv p1] [] := by first | (simp [entryFrame, mkF, argsToLocals, Value.category]; done) | rfl
def own_Q8 (Z : State) (p1 : Int32) (wc : Int32) (wD : Addr) (kD : ClassId) (h0 : Heap) (n0 : Nat) (v : Option Value) (h : Heap) (L : List Loc) : Prop := ∃ (bb : Int32) (sa ba : Addr) (kb : ClassId), v = some (.ref sa) ∧ Fr n0 L ∧ Keep h0 h [] ∧ h0.size ≤ sa ∧ h0.size ≤ ba ∧ sa ≠ ba ∧ Exa Z h sa "java/lang/String" ∧ Fld Z h sa "java/lang/String" "value" "[B" (.ref ba) ∧ Fld Z h sa "java/lang/String" "coder" "B" (.int (0 : Int32)) ∧ Arv Z h ba kb .byte (1 : Int32) (([bb]).map Value.int) (.int (0 : Int32))
set_option maxRecDepth 65536 in
set_option maxHeartbeats 40000000 in
theorem own_rm8 (l : Launch) (Z : State) (a0 : Array Value) (hw : own_W a0 Z) (ws : List Jvm.Cond) (p1 : Int32) (wc : Int32) (wD : Addr) (kD : ClassId) (h0 : Heap) (n0 : Nat) (Z0 : n0 ≤ h0.size) (O0 : Old Z n0 h0) (SS : own_St Z wc wD kD) :
    MetFree l (⟨"com/example/shaper/shaper/core/ConfigProblemsCountPinLaw", "str", "(I)Ljava/lang/String;"⟩ : MethodName) (head1 (Jvm.Cond.code (⟨"com/example/shaper/shaper/core/ConfigProblemsCountPinLaw", "str", "(I)Ljava/lang/String;"⟩ : MethodName) method_2_code 1 (some (.object "java/lang/String")) :: ws) ({ frames := 3, cells := 2, slots := 5, locals := 39 } : Room)) (fun a U => a = #[(.int p1)] ∧ Z.Warmed39 U.vm ∧ U.heap = h0) (fun _ _ _ _ _ => True) (fun _ U o U' => ∃ v L, o = .returned v ∧ own_Q8 Z p1 wc wD kD h0 n0 v U'.heap L ∧ FrameEnd U o U' L ({ frames := 3, cells := 2, slots := 5, locals := 39 } : Room).cells ({ frames := 3, cells := 2, slots := 5, locals := 39 } : Room).slots) := by
  refine own_body (plainFor_of_name pn_8) (fun m => own_ef8 m p1) ?_
  intro p e s m below meth c T0 X0 hx hby hml hZ hown hnm hret hlk e0
  have hown : s.vm.findClass "com/example/shaper/shaper/core/ConfigProblemsCountPinLaw" = some m.cls := hown
  have hnm : meth.name = "str" := hnm
  have N0 := Fr.nil n0
  have K0 : Keep h0 h0 [] := Keep.refl _ _
  refine own_st (mkF m 1 #[iv p1] [(.int p1)]) (fun t k => XS.iloadN X0.here hx rfl (hb hby d8_0) rfl k) ?_
  refine own_st (mkF m 4 #[iv p1] [(.int (255 : Int32)), (.int p1)]) (fun t k => XS.sipush X0.here hx rfl (hb hby d8_1) k) ?_
  refine own_st (mkF m 5 #[iv p1] [(.int (p1 &&& (255 : Int32)))]) (fun t k => XS.iand X0.here hx rfl (hb hby d8_4) rfl k) ?_
  refine own_st (mkF m 6 #[iv p1] [(.int ((p1 &&& (255 : Int32)).toUInt32.toUInt16.toUInt32.toInt32))]) (fun t k => XS.i2c X0.here hx rfl (hb hby d8_5) rfl k) ?_
  have hcl := own_chle p1
  obtain ⟨ch, h_ch⟩ : ∃ z, z = ((p1 &&& (255 : Int32)).toUInt32.toUInt16.toUInt32.toInt32) := ⟨_, rfl⟩
  rw [← h_ch]
  rw [← h_ch] at hcl
  obtain ⟨_, _, ⟨T245, L245, k245, n245⟩, -, X245, ⟨Lc245, hQ245, l245, y245, z245⟩, st245⟩ := Jvm.LawKit.callS X0 hx (y := (⟨"java/lang/String", "valueOf", "(C)Ljava/lang/String;"⟩ : MethodName)) hown (mvT hZ (hw_57 hw)) (mvT hZ (hw_58 hw)) (mvT hZ (hw_59 hw)) (mvT hZ (hw_60 hw)) (by decide) (backOf (W := 0) (own_rm9 l Z a0 hw [] ch wc wD kD h0 n0 Z0 O0 SS hcl) hZ (hw_60 hw) (hw_59 hw) (by decide) (by decide)) (g := (mkF m 6 #[iv p1] [(.int ch)])) rfl (by rw [hml]; rfl) (argsL := [(.int ch)]) (rest := []) (lenOf pd_28 rfl) rfl (by show 2 * 0 + _ ≤ _; exact Nat.le_of_eq rfl) (hb hby d8_6) (fun _ _ => ⟨rfl, e0, (by decide : 0 + 2 ≤ _), (by decide : 0 + 5 ≤ _)⟩)
  dsimp only [Pt.U, Pt.locs, Pt.cells, Pt.slots] at X245 l245 y245 z245 st245 hQ245
  subst l245 y245 z245
  obtain ⟨sa245, ba245, kb245, rfl, Nq245, K245, ga245, gb245, ne245, Ex245, Fv245, Fc245, V245⟩ := hQ245
  have N245 := Fr.app N0 Nq245
  have g_sa245 : n0 ≤ sa245 := Nat.le_trans Z0 ga245
  have sz_sa245 : h0.size ≤ sa245 := Nat.le_trans K0.1 ga245
  have g_ba245 : n0 ≤ ba245 := Nat.le_trans Z0 gb245
  have sz_ba245 : h0.size ≤ ba245 := Nat.le_trans K0.1 gb245
  have Z245 : n0 ≤ T245.heap.size := Nat.le_trans Z0 K245.1
  have O245 : Old Z n0 T245.heap := O0.keep K245 all0
  have Kp245 : Keep h0 T245.heap [] := K0.trans K245 all0
  refine own_step (g' := (mkF m 9 #[iv p1] [(.ref sa245)])) st245 ?_
  refine own_ret X245 hlk (v := some (.ref sa245)) (fun h => by rw [hret] at h; cases h) (fun fs hr => X245.areturnOut hx (w := (.ref sa245)) rfl hret rfl (hb hby d8_9) hr) ?_ (by decide) (by decide)
  show own_Q8 Z p1 wc wD kD h0 n0 _ T245.heap _
  exact ⟨_, sa245, ba245, kb245, rfl, N245, Kp245, sz_sa245, sz_ba245, ne245, Ex245, Fv245, Fc245, V245⟩
theorem d13_0 : decode method_3_code 0 = .ok (.iload_n 1, 1) := by decide +kernel
theorem d13_1 : decode method_3_code 1 = .ok (.iconst 1, 1) := by decide +kernel
theorem d13_2 : decode method_3_code 2 = .ok (.if_icmp .ne 11, 3) := by decide +kernel
theorem d13_5 : decode method_3_code 5 = .ok (.aload_n 0, 1) := by decide +kernel
theorem d13_6 : decode method_3_code 6 = .ok (.aload_n 2, 1) := by decide +kernel
theorem d13_7 : decode method_3_code 7 = .ok (.aload_n 3, 1) := by decide +kernel
theorem d13_8 : decode method_3_code 8 = .ok (.invokevirtual 13, 3) := by decide +kernel
theorem hw_84 {a0 Z} (hw : own_W a0 Z) : (Jvm.Cond.methodLink "com/example/shaper/shaper/core/ConfigProblemsCountPinLaw" (13 : Nat) ({ cls := "com/example/shaper/shaper/core/ConfigProblems", name := "invalid", desc := "(Ljava/lang/String;Ljava/lang/String;)V" } : Jvm.MethodName)).before a0 Z = true := hw _ (List.mem_of_getElem? (i := 84) rfl)
theorem hw_88 {a0 Z} (hw : own_W a0 Z) : (Jvm.Cond.code ({ cls := "com/example/shaper/shaper/core/ConfigProblems", name := "invalid", desc := "(Ljava/lang/String;Ljava/lang/String;)V" } : Jvm.MethodName) prog_4_method_2_code (3 : Nat) (Option.none : Option Jvm.ClassFile.FieldType)).before a0 Z = true := hw _ (List.mem_of_getElem? (i := 88) rfl)
theorem hw_87 {a0 Z} (hw : own_W a0 Z) : (Jvm.Cond.selects "com/example/shaper/shaper/core/ConfigProblems" ({ cls := "com/example/shaper/shaper/core/ConfigProblems", name := "invalid", desc := "(Ljava/lang/String;Ljava/lang/String;)V" } : Jvm.MethodName) ({ cls := "com/example/shaper/shaper/core/ConfigProblems", name := "invalid", desc := "(Ljava/lang/String;Ljava/lang/String;)V" } : Jvm.MethodName)).before a0 Z = true := hw _ (List.mem_of_getElem? (i := 87) rfl)
theorem hw_85 {a0 Z} (hw : own_W a0 Z) : (Jvm.Cond.declares ({ cls := "com/example/shaper/shaper/core/ConfigProblems", name := "invalid", desc := "(Ljava/lang/String;Ljava/lang/String;)V" } : Jvm.MethodName)).before a0 Z = true := hw _ (List.mem_of_getElem? (i := 85) rfl)
theorem hw_86 {a0 Z} (hw : own_W a0 Z) : (Jvm.Cond.instanceMethod ({ cls := "com/example/shaper/shaper/core/ConfigProblems", name := "invalid", desc := "(Ljava/lang/String;Ljava/lang/String;)V" } : Jvm.MethodName)).before a0 Z = true := hw _ (List.mem_of_getElem? (i := 86) rfl)
theorem d13_11 : decode method_3_code 11 = .ok (.iconst 1, 1) := by decide +kernel
theorem d13_12 : decode method_3_code 12 = .ok (.ireturn, 1) := by decide +kernel
theorem d13_13 : decode method_3_code 13 = .ok (.iload_n 1, 1) := by decide +kernel
theorem d13_14 : decode method_3_code 14 = .ok (.iconst 2, 1) := by decide +kernel
theorem d13_15 : decode method_3_code 15 = .ok (.if_icmp .ne 10, 3) := by decide +kernel
theorem d13_18 : decode method_3_code 18 = .ok (.aload_n 0, 1) := by decide +kernel
theorem d13_19 : decode method_3_code 19 = .ok (.aload_n 2, 1) := by decide +kernel
theorem d13_20 : decode method_3_code 20 = .ok (.invokevirtual 19, 3) := by decide +kernel
theorem hw_233 {a0 Z} (hw : own_W a0 Z) : (Jvm.Cond.methodLink "com/example/shaper/shaper/core/ConfigProblemsCountPinLaw" (19 : Nat) ({ cls := "com/example/shaper/shaper/core/ConfigProblems", name := "unsupported", desc := "(Ljava/lang/String;)V" } : Jvm.MethodName)).before a0 Z = true := hw _ (List.mem_of_getElem? (i := 233) rfl)
theorem hw_237 {a0 Z} (hw : own_W a0 Z) : (Jvm.Cond.code ({ cls := "com/example/shaper/shaper/core/ConfigProblems", name := "unsupported", desc := "(Ljava/lang/String;)V" } : Jvm.MethodName) prog_4_method_3_code (2 : Nat) (Option.none : Option Jvm.ClassFile.FieldType)).before a0 Z = true := hw _ (List.mem_of_getElem? (i := 237) rfl)
theorem hw_236 {a0 Z} (hw : own_W a0 Z) : (Jvm.Cond.selects "com/example/shaper/shaper/core/ConfigProblems" ({ cls := "com/example/shaper/shaper/core/ConfigProblems", name := "unsupported", desc := "(Ljava/lang/String;)V" } : Jvm.MethodName) ({ cls := "com/example/shaper/shaper/core/ConfigProblems", name := "unsupported", desc := "(Ljava/lang/String;)V" } : Jvm.MethodName)).before a0 Z = true := hw _ (List.mem_of_getElem? (i := 236) rfl)
theorem hw_234 {a0 Z} (hw : own_W a0 Z) : (Jvm.Cond.declares ({ cls := "com/example/shaper/shaper/core/ConfigProblems", name := "unsupported", desc := "(Ljava/lang/String;)V" } : Jvm.MethodName)).before a0 Z = true := hw _ (List.mem_of_getElem? (i := 234) rfl)
theorem hw_235 {a0 Z} (hw : own_W a0 Z) : (Jvm.Cond.instanceMethod ({ cls := "com/example/shaper/shaper/core/ConfigProblems", name := "unsupported", desc := "(Ljava/lang/String;)V" } : Jvm.MethodName)).before a0 Z = true := hw _ (List.mem_of_getElem? (i := 235) rfl)
theorem d13_23 : decode method_3_code 23 = .ok (.iconst 1, 1) := by decide +kernel
theorem d13_24 : decode method_3_code 24 = .ok (.ireturn, 1) := by decide +kernel
theorem d13_25 : decode method_3_code 25 = .ok (.iload_n 1, 1) := by decide +kernel
theorem d13_26 : decode method_3_code 26 = .ok (.iconst 3, 1) := by decide +kernel
theorem d13_27 : decode method_3_code 27 = .ok (.if_icmp .ne 11, 3) := by decide +kernel
theorem d13_30 : decode method_3_code 30 = .ok (.aload_n 0, 1) := by decide +kernel
theorem d13_31 : decode method_3_code 31 = .ok (.aload_n 2, 1) := by decide +kernel
theorem d13_32 : decode method_3_code 32 = .ok (.aload_n 3, 1) := by decide +kernel
theorem d13_33 : decode method_3_code 33 = .ok (.invokevirtual 23, 3) := by decide +kernel
theorem hw_259 {a0 Z} (hw : own_W a0 Z) : (Jvm.Cond.methodLink "com/example/shaper/shaper/core/ConfigProblemsCountPinLaw" (23 : Nat) ({ cls := "com/example/shaper/shaper/core/ConfigProblems", name := "unsupported", desc := "(Ljava/lang/String;Ljava/lang/String;)V" } : Jvm.MethodName)).before a0 Z = true := hw _ (List.mem_of_getElem? (i := 259) rfl)
theorem d13_36 : decode method_3_code 36 = .ok (.iconst 1, 1) := by decide +kernel
theorem d13_37 : decode method_3_code 37 = .ok (.ireturn, 1) := by decide +kernel
theorem d13_38 : decode method_3_code 38 = .ok (.iconst 0, 1) := by decide +kernel
theorem d13_39 : decode method_3_code 39 = .ok (.ireturn, 1) := by decide +kernel
theorem own_ef13 (m : MethodId) (a1 : Addr) (p2 : Int32) (r3 : Addr) (r4 : Addr) : entryFrame m #[(.ref a1), (.int p2), (.ref r3), (.ref r4)] 4 = mkF m 0 #[rv a1, iv p2, rv r3, rv r4] [] := by first | (simp [entryFrame, mkF, argsToLocals, Value.category]; done) | rfl
def own_Q13 (Z : State) (a1 : Addr) (p2 : Int32) (r3 : Addr) (r4 : Addr) (k1 : Nat) (k2 : Nat) (f1 : Value) (f2 : Value) (b3 : Addr) (kb3 : ClassId) (bs3 : List Int32) (b4 : Addr) (kb4 : ClassId) (bs4 : List Int32) (wc : Int32) (wD : Addr) (kD : ClassId) (h0 : Heap) (n0 : Nat) (v : Option Value) (h : Heap) (L : List Loc) : Prop := ∃ (r j1 j2 : Nat) (g1 g2 : Value), v = some (.int (Int32.ofNat r)) ∧ Fr n0 L ∧ Old Z n0 h ∧ own_CP Z wD h n0 a1 j1 j2 g1 g2 ∧ j1 + j2 = k1 + k2 + r ∧ r ≤ 1
set_option maxRecDepth 65536 in
set_option maxHeartbeats 40000000 in
theorem own_rm13 (l : Launch) (Z : State) (a0 : Array Value) (hw : own_W a0 Z) (ws : List Jvm.Cond) (a1 : Addr) (p2 : Int32) (r3 : Addr) (r4 : Addr) (k1 : Nat) (k2 : Nat) (f1 : Value) (f2 : Value) (b3 : Addr) (kb3 : ClassId) (bs3 : List Int32) (b4 : Addr) (kb4 : ClassId) (bs4 : List Int32) (wc : Int32) (wD : Addr) (kD : ClassId) (h0 : Heap) (n0 : Nat) (Z0 : n0 ≤ h0.size) (O0 : Old Z n0 h0) (SS : own_St Z wc wD kD) (hEL : EW Z a0 own_EL) (hk : k1 + k2 ≤ 7) (hb3 : bs3.length = 1) (hb4 : bs4.length = 1) (P0 : own_CP Z wD h0 n0 a1 k1 k2 f1 f2) (S3e : Exa Z h0 r3 "java/lang/String") (S3v : Fld Z h0 r3 "java/lang/String" "value" "[B" (.ref b3)) (S3c : Fld Z h0 r3 "java/lang/String" "coder" "B" (.int (0 : Int32))) (S3a : Arv Z h0 b3 kb3 .byte (1 : Int32) ((bs3).map Value.int) (.int (0 : Int32))) (S4e : Exa Z h0 r4 "java/lang/String") (S4v : Fld Z h0 r4 "java/lang/String" "value" "[B" (.ref b4)) (S4c : Fld Z h0 r4 "java/lang/String" "coder" "B" (.int (0 : Int32))) (S4a : Arv Z h0 b4 kb4 .byte (1 : Int32) ((bs4).map Value.int) (.int (0 : Int32))) :
    MetFree l (⟨"com/example/shaper/shaper/core/ConfigProblemsCountPinLaw", "step", "(Lcom/example/shaper/shaper/core/ConfigProblems;ILjava/lang/String;Ljava/lang/String;)I"⟩ : MethodName) (head1 (Jvm.Cond.code (⟨"com/example/shaper/shaper/core/ConfigProblemsCountPinLaw", "step", "(Lcom/example/shaper/shaper/core/ConfigProblems;ILjava/lang/String;Ljava/lang/String;)I"⟩ : MethodName) method_3_code 4 (some .int) :: ws) ({ frames := 8, cells := 10, slots := 172, locals := 119 } : Room)) (fun a U => a = #[(.ref a1), (.int p2), (.ref r3), (.ref r4)] ∧ Z.Warmed39 U.vm ∧ U.heap = h0 ∧ CHv Z own_EL U.vm h0) (fun _ _ _ _ _ => True) (fun _ U o U' => ∃ v L, o = .returned v ∧ own_Q13 Z a1 p2 r3 r4 k1 k2 f1 f2 b3 kb3 bs3 b4 kb4 bs4 wc wD kD h0 n0 v U'.heap L ∧ CHr Z own_EL U.vm U.heap U'.vm U'.heap ∧ ReturnedEndW U o U' L ({ frames := 8, cells := 10, slots := 172, locals := 119 } : Room).cells ({ frames := 8, cells := 10, slots := 172, locals := 119 } : Room).slots) := by
  refine own_bodyH (plainFor_of_name pn_8) (fun m => own_ef13 m a1 p2 r3 r4) ?_
  intro p e s m below meth c T0 X0 hx hby hml hZ hown hnm hret hlk e0 hs0 S0 CH0
  have hown : (s.setVm s.vm).vm.findClass "com/example/shaper/shaper/core/ConfigProblemsCountPinLaw" = some m.cls := hown
  have CR0 := CHr.refl CH0
  have kz0 : h0.size ≤ h0.size := Nat.le_refl _
  have hnm : meth.name = "step" := hnm
  have N0 := Fr.nil n0
  have Ecp := own_CPexa P0
  refine own_stH (mkF m 1 #[rv a1, iv p2, rv r3, rv r4] [(.int p2)]) (fun t k => XS.iloadN X0.here hx rfl (hb hby d13_0) rfl k) ?_
  refine own_stH (mkF m 2 #[rv a1, iv p2, rv r3, rv r4] [(.int (1 : Int32)), (.int p2)]) (fun t k => XS.iconst X0.here hx rfl (hb hby d13_1) k) ?_
  by_cases hc246 : p2 = (1 : Int32)
  · refine own_stH (mkF m 5 #[rv a1, iv p2, rv r3, rv r4] []) (fun t k => XS.icmpNo X0.here hx rfl (hb hby d13_2) rfl (teq hc246).2 k) ?_
    refine own_stH (mkF m 6 #[rv a1, iv p2, rv r3, rv r4] [(.ref a1)]) (fun t k => XS.aloadN X0.here hx rfl (hb hby d13_5) rfl rfl k) ?_
    refine own_stH (mkF m 7 #[rv a1, iv p2, rv r3, rv r4] [(.ref r3), (.ref a1)]) (fun t k => XS.aloadN X0.here hx rfl (hb hby d13_6) rfl rfl k) ?_
    refine own_stH (mkF m 8 #[rv a1, iv p2, rv r3, rv r4] [(.ref r4), (.ref r3), (.ref a1)]) (fun t k => XS.aloadN X0.here hx rfl (hb hby d13_7) rfl rfl k) ?_
    obtain ⟨cq247, kq247, q247a, q247b, q247c⟩ := isOf hZ e0 Ecp
    obtain ⟨_, _, ⟨T247, L247, k247, n247⟩, -, X247, S247, G247, ⟨Lc247, hQ247, l247, y247, z247, C247⟩, st247⟩ := X0.virtualBackS hx (y := (⟨"com/example/shaper/shaper/core/ConfigProblems", "invalid", "(Ljava/lang/String;Ljava/lang/String;)V"⟩ : MethodName)) (z := (⟨"com/example/shaper/shaper/core/ConfigProblems", "invalid", "(Ljava/lang/String;Ljava/lang/String;)V"⟩ : MethodName)) hown (mvT hZ (hw_84 hw)) (mvT hZ (hw_85 hw)) (notFace_of_selects (args := #[]) (mvT hZ (hw_87 hw))) (mvT hZ (hw_87 hw)) (mvT hZ (hw_86 hw)) (by decide) (backOfSH (s := s) (vm0 := s.vm) (W := 0) (own_rm14 l Z a0 hw [] a1 r3 r4 k1 k2 f1 f2 b3 kb3 bs3 b4 kb4 bs4 wc wD kD h0 n0 Z0 O0 SS hEL hk hb3 hb4 P0 S3e S3v S3c S3a S4e S4v S4c S4a) hZ (hw_88 hw) (hw_2 hw) (by decide) (by decide) hEL CR0.1) q247a q247c (g := (mkF m 8 #[rv a1, iv p2, rv r3, rv r4] [(.ref r4), (.ref r3), (.ref a1)])) rfl (by rw [hml]; rfl) (Steps.refl _) (argsL := [(.ref r3), (.ref r4)]) (rest := []) (lenOf pd_27 rfl) rfl (by show 2 * 0 + _ ≤ _; exact Nat.le_of_eq rfl) (hb hby d13_8) (fun _ _ => ⟨rfl, e0, (by decide : 0 + 7 ≤ _), (by decide : 0 + 50 ≤ _)⟩)
    dsimp only [Pt.U, Pt.locs, Pt.cells, Pt.slots] at X247 l247 y247 z247 st247 hQ247 S247 G247 C247
    subst l247 y247 z247
    obtain ⟨X247, S247, hZ, hown⟩ := rebS S0 kz0 X247 S247 (show h0.size ≤ T247.heap.size from e0 ▸ G247) hZ hown
    have CR247 := CR0.trans C247
    have gr247 : h0.size ≤ T247.heap.size := C247.2.1
    obtain ⟨g1247, g2247, rfl, Nq247, O247, P247⟩ := hQ247
    have N247 := Fr.app N0 Nq247
    have Z247 : n0 ≤ T247.heap.size := Nat.le_trans Z0 gr247
    refine own_jumpH (g' := (mkF m 11 #[rv a1, iv p2, rv r3, rv r4] [])) st247 ?_
    refine own_stH (mkF m 12 #[rv a1, iv p2, rv r3, rv r4] [(.int (1 : Int32))]) (fun t k => XS.iconst X247.here hx rfl (hb hby d13_11) k) ?_
    refine own_retH X247 hlk S247 (own_leE rfl (Nat.le_refl T247.heap.size)) (v := some (.int (1 : Int32))) (fun h => by rw [hret] at h; cases h) (fun fs hr => X247.ireturnOut hx hret rfl (Or.inl rfl) (hb hby d13_12) hr) ?_ (own_CHend hs0 rfl CR247 (CHv.at X247 hZ hEL CR247.1)) (by decide) (by decide)
    show own_Q13 Z a1 p2 r3 r4 k1 k2 f1 f2 b3 kb3 bs3 b4 kb4 bs4 wc wD kD h0 n0 _ T247.heap _
    exact ⟨1, _, _, _, _, rfl, N247, O247, P247, by omega, by decide⟩
  · refine own_stH (mkF m 13 #[rv a1, iv p2, rv r3, rv r4] []) (fun t k => XS.icmpYes X0.here hx rfl (pc0 := 2) (pc' := 13) rfl (hb hby d13_2) rfl (feq hc246).2 (by decide) (by decide) k) ?_
    refine own_stH (mkF m 14 #[rv a1, iv p2, rv r3, rv r4] [(.int p2)]) (fun t k => XS.iloadN X0.here hx rfl (hb hby d13_13) rfl k) ?_
    refine own_stH (mkF m 15 #[rv a1, iv p2, rv r3, rv r4] [(.int (2 : Int32)), (.int p2)]) (fun t k => XS.iconst X0.here hx rfl (hb hby d13_14) k) ?_
    by_cases hc248 : p2 = (2 : Int32)
    · refine own_stH (mkF m 18 #[rv a1, iv p2, rv r3, rv r4] []) (fun t k => XS.icmpNo X0.here hx rfl (hb hby d13_15) rfl (teq hc248).2 k) ?_
      refine own_stH (mkF m 19 #[rv a1, iv p2, rv r3, rv r4] [(.ref a1)]) (fun t k => XS.aloadN X0.here hx rfl (hb hby d13_18) rfl rfl k) ?_
      refine own_stH (mkF m 20 #[rv a1, iv p2, rv r3, rv r4] [(.ref r3), (.ref a1)]) (fun t k => XS.aloadN X0.here hx rfl (hb hby d13_19) rfl rfl k) ?_
      obtain ⟨cq249, kq249, q249a, q249b, q249c⟩ := isOf hZ e0 Ecp
      obtain ⟨_, _, ⟨T249, L249, k249, n249⟩, -, X249, S249, G249, ⟨Lc249, hQ249, l249, y249, z249, C249⟩, st249⟩ := X0.virtualBackS hx (y := (⟨"com/example/shaper/shaper/core/ConfigProblems", "unsupported", "(Ljava/lang/String;)V"⟩ : MethodName)) (z := (⟨"com/example/shaper/shaper/core/ConfigProblems", "unsupported", "(Ljava/lang/String;)V"⟩ : MethodName)) hown (mvT hZ (hw_233 hw)) (mvT hZ (hw_234 hw)) (notFace_of_selects (args := #[]) (mvT hZ (hw_236 hw))) (mvT hZ (hw_236 hw)) (mvT hZ (hw_235 hw)) (by decide) (backOfSH (s := s) (vm0 := s.vm) (W := 0) (own_rm41 l Z a0 hw [] a1 r3 k1 k2 f1 f2 b3 kb3 bs3 wc wD kD h0 n0 Z0 O0 SS hEL hk hb3 P0 S3e S3v S3c S3a) hZ (hw_237 hw) (hw_2 hw) (by decide) (by decide) hEL CR0.1) q249a q249c (g := (mkF m 20 #[rv a1, iv p2, rv r3, rv r4] [(.ref r3), (.ref a1)])) rfl (by rw [hml]; rfl) (Steps.refl _) (argsL := [(.ref r3)]) (rest := []) (lenOf pd_6 rfl) rfl (by show 2 * 0 + _ ≤ _; exact Nat.le_of_eq rfl) (hb hby d13_20) (fun _ _ => ⟨rfl, e0, (by decide : 0 + 10 ≤ _), (by decide : 0 + 172 ≤ _)⟩)
      dsimp only [Pt.U, Pt.locs, Pt.cells, Pt.slots] at X249 l249 y249 z249 st249 hQ249 S249 G249 C249
      subst l249 y249 z249
      obtain ⟨X249, S249, hZ, hown⟩ := rebS S0 kz0 X249 S249 (show h0.size ≤ T249.heap.size from e0 ▸ G249) hZ hown
      have CR249 := CR0.trans C249
      have gr249 : h0.size ≤ T249.heap.size := C249.2.1
      obtain ⟨g1249, g2249, rfl, Nq249, O249, P249⟩ := hQ249
      have N249 := Fr.app N0 Nq249
      have Z249 : n0 ≤ T249.heap.size := Nat.le_trans Z0 gr249
      refine own_jumpH (g' := (mkF m 23 #[rv a1, iv p2, rv r3, rv r4] [])) st249 ?_
      refine own_stH (mkF m 24 #[rv a1, iv p2, rv r3, rv r4] [(.int (1 : Int32))]) (fun t k => XS.iconst X249.here hx rfl (hb hby d13_23) k) ?_
      refine own_retH X249 hlk S249 (own_leE rfl (Nat.le_refl T249.heap.size)) (v := some (.int (1 : Int32))) (fun h => by rw [hret] at h; cases h) (fun fs hr => X249.ireturnOut hx hret rfl (Or.inl rfl) (hb hby d13_24) hr) ?_ (own_CHend hs0 rfl CR249 (CHv.at X249 hZ hEL CR249.1)) (by decide) (by decide)
      show own_Q13 Z a1 p2 r3 r4 k1 k2 f1 f2 b3 kb3 bs3 b4 kb4 bs4 wc wD kD h0 n0 _ T249.heap _
      exact ⟨1, _, _, _, _, rfl, N249, O249, P249, by omega, by decide⟩
    · refine own_stH (mkF m 25 #[rv a1, iv p2, rv r3, rv r4] []) (fun t k => XS.icmpYes X0.here hx rfl (pc0 := 15) (pc' := 25) rfl (hb hby d13_15) rfl (feq hc248).2 (by decide) (by decide) k) ?_
      refine own_stH (mkF m 26 #[rv a1, iv p2, rv r3, rv r4] [(.int p2)]) (fun t k => XS.iloadN X0.here hx rfl (hb hby d13_25) rfl k) ?_
      refine own_stH (mkF m 27 #[rv a1, iv p2, rv r3, rv r4] [(.int (3 : Int32)), (.int p2)]) (fun t k => XS.iconst X0.here hx rfl (hb hby d13_26) k) ?_
      by_cases hc250 : p2 = (3 : Int32)
      · refine own_stH (mkF m 30 #[rv a1, iv p2, rv r3, rv r4] []) (fun t k => XS.icmpNo X0.here hx rfl (hb hby d13_27) rfl (teq hc250).2 k) ?_
        refine own_stH (mkF m 31 #[rv a1, iv p2, rv r3, rv r4] [(.ref a1)]) (fun t k => XS.aloadN X0.here hx rfl (hb hby d13_30) rfl rfl k) ?_
        refine own_stH (mkF m 32 #[rv a1, iv p2, rv r3, rv r4] [(.ref r3), (.ref a1)]) (fun t k => XS.aloadN X0.here hx rfl (hb hby d13_31) rfl rfl k) ?_
        refine own_stH (mkF m 33 #[rv a1, iv p2, rv r3, rv r4] [(.ref r4), (.ref r3), (.ref a1)]) (fun t k => XS.aloadN X0.here hx rfl (hb hby d13_32) rfl rfl k) ?_
        obtain ⟨cq251, kq251, q251a, q251b, q251c⟩ := isOf hZ e0 Ecp
        obtain ⟨_, _, ⟨T251, L251, k251, n251⟩, -, X251, S251, G251, ⟨Lc251, hQ251, l251, y251, z251, C251⟩, st251⟩ := X0.virtualBackS hx (y := (⟨"com/example/shaper/shaper/core/ConfigProblems", "unsupported", "(Ljava/lang/String;Ljava/lang/String;)V"⟩ : MethodName)) (z := (⟨"com/example/shaper/shaper/core/ConfigProblems", "unsupported", "(Ljava/lang/String;Ljava/lang/String;)V"⟩ : MethodName)) hown (mvT hZ (hw_259 hw)) (mvT hZ (hw_240 hw)) (notFace_of_selects (args := #[]) (mvT hZ (hw_242 hw))) (mvT hZ (hw_242 hw)) (mvT hZ (hw_241 hw)) (by decide) (backOfSH (s := s) (vm0 := s.vm) (W := 0) (own_rm42_1 l Z a0 hw [] a1 r3 r4 k1 k2 f1 f2 b3 kb3 bs3 b4 kb4 bs4 wc wD kD h0 n0 Z0 O0 SS hEL hk hb3 hb4 P0 S3e S3v S3c S3a S4e S4v S4c S4a) hZ (hw_243 hw) (hw_2 hw) (by decide) (by decide) hEL CR0.1) q251a q251c (g := (mkF m 33 #[rv a1, iv p2, rv r3, rv r4] [(.ref r4), (.ref r3), (.ref a1)])) rfl (by rw [hml]; rfl) (Steps.refl _) (argsL := [(.ref r3), (.ref r4)]) (rest := []) (lenOf pd_27 rfl) rfl (by show 2 * 0 + _ ≤ _; exact Nat.le_of_eq rfl) (hb hby d13_33) (fun _ _ => ⟨rfl, e0, (by decide : 0 + 7 ≤ _), (by decide : 0 + 50 ≤ _)⟩)
        dsimp only [Pt.U, Pt.locs, Pt.cells, Pt.slots] at X251 l251 y251 z251 st251 hQ251 S251 G251 C251
        subst l251 y251 z251
        obtain ⟨X251, S251, hZ, hown⟩ := rebS S0 kz0 X251 S251 (show h0.size ≤ T251.heap.size from e0 ▸ G251) hZ hown
        have CR251 := CR0.trans C251
        have gr251 : h0.size ≤ T251.heap.size := C251.2.1
        obtain ⟨g1251, g2251, rfl, Nq251, O251, P251⟩ := hQ251
        have N251 := Fr.app N0 Nq251
        have Z251 : n0 ≤ T251.heap.size := Nat.le_trans Z0 gr251
        refine own_jumpH (g' := (mkF m 36 #[rv a1, iv p2, rv r3, rv r4] [])) st251 ?_
        refine own_stH (mkF m 37 #[rv a1, iv p2, rv r3, rv r4] [(.int (1 : Int32))]) (fun t k => XS.iconst X251.here hx rfl (hb hby d13_36) k) ?_
        refine own_retH X251 hlk S251 (own_leE rfl (Nat.le_refl T251.heap.size)) (v := some (.int (1 : Int32))) (fun h => by rw [hret] at h; cases h) (fun fs hr => X251.ireturnOut hx hret rfl (Or.inl rfl) (hb hby d13_37) hr) ?_ (own_CHend hs0 rfl CR251 (CHv.at X251 hZ hEL CR251.1)) (by decide) (by decide)
        show own_Q13 Z a1 p2 r3 r4 k1 k2 f1 f2 b3 kb3 bs3 b4 kb4 bs4 wc wD kD h0 n0 _ T251.heap _
        exact ⟨1, _, _, _, _, rfl, N251, O251, P251, by omega, by decide⟩
      · refine own_stH (mkF m 38 #[rv a1, iv p2, rv r3, rv r4] []) (fun t k => XS.icmpYes X0.here hx rfl (pc0 := 27) (pc' := 38) rfl (hb hby d13_27) rfl (feq hc250).2 (by decide) (by decide) k) ?_
        refine own_stH (mkF m 39 #[rv a1, iv p2, rv r3, rv r4] [(.int (0 : Int32))]) (fun t k => XS.iconst X0.here hx rfl (hb hby d13_38) k) ?_
        refine own_retH X0 hlk S0 (own_leE e0 kz0) (v := some (.int (0 : Int32))) (fun h => by rw [hret] at h; cases h) (fun fs hr => X0.ireturnOut hx hret rfl (Or.inl rfl) (hb hby d13_39) hr) ?_ (own_CHend hs0 e0 CR0 (CHv.at X0 hZ hEL CR0.1)) (by decide) (by decide)
        show own_Q13 Z a1 p2 r3 r4 k1 k2 f1 f2 b3 kb3 bs3 b4 kb4 bs4 wc wD kD h0 n0 _ T0.heap _
        rw [e0]
        exact ⟨0, _, _, _, _, rfl, N0, O0, P0, by omega, by decide⟩
theorem hw_0 {a0 Z} (hw : own_W a0 Z) : (Jvm.Cond.classLink "com/example/shaper/shaper/core/ConfigProblemsCountPinLaw" (14 : Nat) "com/example/shaper/shaper/core/ConfigProblems").before a0 Z = true := hw _ (List.mem_of_getElem? (i := 0) rfl)
theorem hw_3 {a0 Z} (hw : own_W a0 Z) : (Jvm.Cond.methodLink "com/example/shaper/shaper/core/ConfigProblemsCountPinLaw" (25 : Nat) ({ cls := "com/example/shaper/shaper/core/ConfigProblems", name := "<init>", desc := "()V" } : Jvm.MethodName)).before a0 Z = true := hw _ (List.mem_of_getElem? (i := 3) rfl)
theorem hw_5 {a0 Z} (hw : own_W a0 Z) : (Jvm.Cond.code ({ cls := "com/example/shaper/shaper/core/ConfigProblems", name := "<init>", desc := "()V" } : Jvm.MethodName) prog_4_method_1_code (1 : Nat) (Option.none : Option Jvm.ClassFile.FieldType)).before a0 Z = true := hw _ (List.mem_of_getElem? (i := 5) rfl)
theorem hw_4 {a0 Z} (hw : own_W a0 Z) : (Jvm.Cond.instanceMethod ({ cls := "com/example/shaper/shaper/core/ConfigProblems", name := "<init>", desc := "()V" } : Jvm.MethodName)).before a0 Z = true := hw _ (List.mem_of_getElem? (i := 4) rfl)
theorem hw_37 {a0 Z} (hw : own_W a0 Z) : (Jvm.Cond.methodLink "com/example/shaper/shaper/core/ConfigProblemsCountPinLaw" (26 : Nat) ({ cls := "com/example/shaper/shaper/core/ConfigProblems", name := "count", desc := "()I" } : Jvm.MethodName)).before a0 Z = true := hw _ (List.mem_of_getElem? (i := 37) rfl)
theorem hw_41 {a0 Z} (hw : own_W a0 Z) : (Jvm.Cond.code ({ cls := "com/example/shaper/shaper/core/ConfigProblems", name := "count", desc := "()I" } : Jvm.MethodName) prog_4_method_11_code (1 : Nat) (Option.some Jvm.ClassFile.FieldType.int)).before a0 Z = true := hw _ (List.mem_of_getElem? (i := 41) rfl)
theorem hw_40 {a0 Z} (hw : own_W a0 Z) : (Jvm.Cond.selects "com/example/shaper/shaper/core/ConfigProblems" ({ cls := "com/example/shaper/shaper/core/ConfigProblems", name := "count", desc := "()I" } : Jvm.MethodName) ({ cls := "com/example/shaper/shaper/core/ConfigProblems", name := "count", desc := "()I" } : Jvm.MethodName)).before a0 Z = true := hw _ (List.mem_of_getElem? (i := 40) rfl)
theorem hw_38 {a0 Z} (hw : own_W a0 Z) : (Jvm.Cond.declares ({ cls := "com/example/shaper/shaper/core/ConfigProblems", name := "count", desc := "()I" } : Jvm.MethodName)).before a0 Z = true := hw _ (List.mem_of_getElem? (i := 38) rfl)
theorem hw_39 {a0 Z} (hw : own_W a0 Z) : (Jvm.Cond.instanceMethod ({ cls := "com/example/shaper/shaper/core/ConfigProblems", name := "count", desc := "()I" } : Jvm.MethodName)).before a0 Z = true := hw _ (List.mem_of_getElem? (i := 39) rfl)
theorem hw_53 {a0 Z} (hw : own_W a0 Z) : (Jvm.Cond.methodLink "com/example/shaper/shaper/core/ConfigProblemsCountPinLaw" (30 : Nat) ({ cls := "com/example/shaper/shaper/core/ConfigProblemsCountPinLaw", name := "str", desc := "(I)Ljava/lang/String;" } : Jvm.MethodName)).before a0 Z = true := hw _ (List.mem_of_getElem? (i := 53) rfl)
theorem hw_56 {a0 Z} (hw : own_W a0 Z) : (Jvm.Cond.code ({ cls := "com/example/shaper/shaper/core/ConfigProblemsCountPinLaw", name := "str", desc := "(I)Ljava/lang/String;" } : Jvm.MethodName) method_2_code (1 : Nat) (Option.some (Jvm.ClassFile.FieldType.object "java/lang/String"))).before a0 Z = true := hw _ (List.mem_of_getElem? (i := 56) rfl)
theorem hw_55 {a0 Z} (hw : own_W a0 Z) : (Jvm.Cond.initialized "com/example/shaper/shaper/core/ConfigProblemsCountPinLaw").before a0 Z = true := hw _ (List.mem_of_getElem? (i := 55) rfl)
theorem pd_29 : parseMethodDescriptor "(I)Ljava/lang/String;" = some ⟨[.int], some (.object "java/lang/String")⟩ := by decide +kernel
theorem hw_54 {a0 Z} (hw : own_W a0 Z) : (Jvm.Cond.static ({ cls := "com/example/shaper/shaper/core/ConfigProblemsCountPinLaw", name := "str", desc := "(I)Ljava/lang/String;" } : Jvm.MethodName)).before a0 Z = true := hw _ (List.mem_of_getElem? (i := 54) rfl)
theorem hw_81 {a0 Z} (hw : own_W a0 Z) : (Jvm.Cond.methodLink "com/example/shaper/shaper/core/ConfigProblemsCountPinLaw" (36 : Nat) ({ cls := "com/example/shaper/shaper/core/ConfigProblemsCountPinLaw", name := "step", desc := "(Lcom/example/shaper/shaper/core/ConfigProblems;ILjava/lang/String;Ljava/lang/String;)I" } : Jvm.MethodName)).before a0 Z = true := hw _ (List.mem_of_getElem? (i := 81) rfl)
theorem hw_83 {a0 Z} (hw : own_W a0 Z) : (Jvm.Cond.code ({ cls := "com/example/shaper/shaper/core/ConfigProblemsCountPinLaw", name := "step", desc := "(Lcom/example/shaper/shaper/core/ConfigProblems;ILjava/lang/String;Ljava/lang/String;)I" } : Jvm.MethodName) method_3_code (4 : Nat) (Option.some Jvm.ClassFile.FieldType.int)).before a0 Z = true := hw _ (List.mem_of_getElem? (i := 83) rfl)
theorem pd_30 : parseMethodDescriptor "(Lcom/example/shaper/shaper/core/ConfigProblems;ILjava/lang/String;Ljava/lang/String;)I" = some ⟨[(.object "com/example/shaper/shaper/core/ConfigProblems"), .int, (.object "java/lang/String"), (.object "java/lang/String")], some .int⟩ := by decide +kernel
theorem hw_82 {a0 Z} (hw : own_W a0 Z) : (Jvm.Cond.static ({ cls := "com/example/shaper/shaper/core/ConfigProblemsCountPinLaw", name := "step", desc := "(Lcom/example/shaper/shaper/core/ConfigProblems;ILjava/lang/String;Ljava/lang/String;)I" } : Jvm.MethodName)).before a0 Z = true := hw _ (List.mem_of_getElem? (i := 82) rfl)
theorem own_ef0 (m : MethodId) (p1 : Int32) (p2 : Int32) (p3 : Int32) : entryFrame m #[(.int p1), (.int p2), (.int p3)] maxLocals = mkF m 0 #[iv p1, iv p2, iv p3, .unset, .unset, .unset] [] := by first | (simp [entryFrame, mkF, argsToLocals, Value.category, maxLocals]; done) | rfl
def own_Q0 (Z : State) (p1 : Int32) (p2 : Int32) (p3 : Int32) (wc : Int32) (wD : Addr) (kD : ClassId) (h0 : Heap) (n0 : Nat) (v : Option Value) (h : Heap) (L : List Loc) : Prop := v = some (.int (1 : Int32)) ∧ Fr n0 L
set_option maxRecDepth 65536 in
set_option maxHeartbeats 40000000 in
theorem own_rm0 (l : Launch) (Z : State) (a0 : Array Value) (hw : own_W a0 Z) (ws : List Jvm.Cond) (p1 : Int32) (p2 : Int32) (p3 : Int32) (wc : Int32) (wD : Addr) (kD : ClassId) (h0 : Heap) (n0 : Nat) (Z0 : n0 ≤ h0.size) (O0 : Old Z n0 h0) (SS : own_St Z wc wD kD) (hEL : EW Z a0 own_EL) :
    MetFree l x (head1 (Jvm.Cond.code x code maxLocals ret :: ws) room_1) (fun a U => a = #[(.int p1), (.int p2), (.int p3)] ∧ Z.Warmed39 U.vm ∧ U.heap = h0 ∧ CHv Z own_EL U.vm h0) (fun _ _ _ _ _ => True) (fun _ U o U' => ∃ v L, o = .returned v ∧ own_Q0 Z p1 p2 p3 wc wD kD h0 n0 v U'.heap L ∧ CHr Z own_EL U.vm U.heap U'.vm U'.heap ∧ ReturnedEndW U o U' L 96 2816) := by
  refine own_bodyH (plainFor_of_name pn_8) (fun m => own_ef0 m p1 p2 p3) ?_
  intro p e s m below meth c T0 X0 hx hby hml hZ hown hnm hret hlk e0 hs0 S0 CH0
  have hown : (s.setVm s.vm).vm.findClass "com/example/shaper/shaper/core/ConfigProblemsCountPinLaw" = some m.cls := hown
  have CR0 := CHr.refl CH0
  have kz0 : h0.size ≤ h0.size := Nat.le_refl _
  have hnm : meth.name = "law" := hnm
  have N0 := Fr.nil n0
  obtain ⟨T252, h252, X252, e252, E252, A252, D252, -, st252⟩ := newO X0 hx hZ hown (hw_0 hw) (hw_1 hw) (hw_2 hw) e0 (g := (mkF m 0 #[iv p1, iv p2, iv p3, .unset, .unset, .unset] [])) rfl (hb hby at_0) (by decide) (by decide)
  obtain ⟨b252, g252⟩ : ∃ z, z = h0.size := ⟨_, rfl⟩
  rw [← g252] at A252 D252 st252
  have E_252 : Ext h0 h252 := E252
  have g_b252 : n0 ≤ b252 := Nat.le_trans Z0 (Nat.le_of_eq g252.symm)
  have Z252 : n0 ≤ h252.size := Nat.le_trans Z0 E252.1
  have C252 : CHr Z own_EL s.vm h0 s.vm h252 := CHr.ext E252 CR0.1
  have CR252 := CR0.trans C252
  have kz252 : _ ≤ h252.size := Nat.le_trans kz0 E252.1
  have O252 : Old Z n0 h252 := O0.ext E252
  have F_violations_b252 : Fld Z h252 b252 "com/example/shaper/shaper/core/ConfigProblems" "violations" "Ljava/util/List;" .null := D252 (Or.inr (hw_34 hw)) (ty := (.object "java/util/List")) (by decide)
  have F_unsupported_b252 : Fld Z h252 b252 "com/example/shaper/shaper/core/ConfigProblems" "unsupported" "Ljava/util/List;" .null := D252 (Or.inr (hw_36 hw)) (ty := (.object "java/util/List")) (by decide)
  refine own_stepH (g' := (mkF m 3 #[iv p1, iv p2, iv p3, .unset, .unset, .unset] [(.ref b252)])) st252 ?_
  refine own_stH (mkF m 4 #[iv p1, iv p2, iv p3, .unset, .unset, .unset] [(.ref b252), (.ref b252)]) (fun t k => XS.dup X252.here hx rfl (hb hby at_3) rfl rfl k) ?_
  obtain ⟨_, _, ⟨T253, L253, k253, n253⟩, -, X253, ⟨Lc253, hQ253, l253, y253, z253⟩, st253⟩ := X252.specialBack hx (y := (⟨"com/example/shaper/shaper/core/ConfigProblems", "<init>", "()V"⟩ : MethodName)) rfl hown (mvT hZ (hw_3 hw)) (mvT hZ (hw_4 hw)) (mvT hZ (hw_5 hw)) (by decide) (backOf (W := 1) (own_rm1 l Z a0 hw [] b252 wc wD kD h252 n0 Z252 O252 SS A252 F_violations_b252 F_unsupported_b252 g_b252) hZ (hw_5 hw) (hw_2 hw) (by decide) (by decide)) (g := (mkF m 4 #[iv p1, iv p2, iv p3, .unset, .unset, .unset] [(.ref b252), (.ref b252)])) rfl (by rw [hml]; rfl) (Steps.refl _) (a := b252) (argsL := []) (rest := [(.ref b252)]) (lenOf pd_20 rfl) rfl (by show 2 * 0 + _ ≤ _; exact Nat.le_of_eq rfl) (hb hby at_4) (fun _ _ => ⟨rfl, e252, (by decide : 1 + 2 ≤ _), (by decide : 2 + 6 ≤ _)⟩)
  dsimp only [Pt.U, Pt.locs, Pt.cells, Pt.slots] at X253 l253 y253 z253 st253 hQ253
  subst l253 y253 z253
  obtain ⟨rfl, Nq253, K253, P253⟩ := hQ253
  have N253 := Fr.app N0 Nq253
  have C253 : CHr Z own_EL s.vm h252 s.vm T253.heap := CHr.keep K253 (sfS (Safe.exa hZ.alike A252 (by decide) (by decide)) sf0) CR252.1
  have CR253 := CR252.trans C253
  have kz253 : _ ≤ T253.heap.size := Nat.le_trans kz252 K253.1
  have Z253 : n0 ≤ T253.heap.size := Nat.le_trans Z252 K253.1
  have O253 : Old Z n0 T253.heap := O252.keep K253 (allS g_b252 all0)
  have f1_Exa_b252 : Exa Z T253.heap b252 "com/example/shaper/shaper/core/ConfigProblems" := (A252.keep K253)
  refine own_jumpH (g' := (mkF m 7 #[iv p1, iv p2, iv p3, .unset, .unset, .unset] [(.ref b252)])) st253 ?_
  refine own_stH (mkF m 8 #[iv p1, iv p2, iv p3, rv b252, .unset, .unset] []) (fun t k => XS.astoreN X253.here hx rfl (hb hby at_7) rfl rfl (l' := #[iv p1, iv p2, iv p3, rv b252, .unset, .unset]) rfl k) ?_
  refine own_stH (mkF m 9 #[iv p1, iv p2, iv p3, rv b252, .unset, .unset] [(.ref b252)]) (fun t k => XS.aloadN X253.here hx rfl (hb hby at_8) rfl rfl k) ?_
  obtain ⟨cq254, kq254, q254a, q254b, q254c⟩ := isOf hZ rfl (own_CPexa P253)
  obtain ⟨_, _, ⟨T254, L254, k254, n254⟩, -, X254, ⟨Lc254, hQ254, l254, y254, z254⟩, st254⟩ := X253.virtualBack hx (y := (⟨"com/example/shaper/shaper/core/ConfigProblems", "count", "()I"⟩ : MethodName)) (z := (⟨"com/example/shaper/shaper/core/ConfigProblems", "count", "()I"⟩ : MethodName)) hown (mvT hZ (hw_37 hw)) (mvT hZ (hw_38 hw)) (notFace_of_selects (args := #[]) (mvT hZ (hw_40 hw))) (mvT hZ (hw_40 hw)) (mvT hZ (hw_39 hw)) (by decide) (backOf (W := 0) (own_rm6 l Z a0 hw [] b252 0 0 .null .null wD T253.heap n0 Z253 P253) hZ (hw_41 hw) (hw_2 hw) (by decide) (by decide)) q254a q254c (g := (mkF m 9 #[iv p1, iv p2, iv p3, rv b252, .unset, .unset] [(.ref b252)])) rfl (by rw [hml]; rfl) (Steps.refl _) (argsL := []) (rest := []) (lenOf pd_5 rfl) rfl (by show 2 * 0 + _ ≤ _; exact Nat.le_of_eq rfl) (hb hby at_9) (fun _ _ => ⟨rfl, rfl, (by decide : 3 + 0 ≤ _), (by decide : 8 + 0 ≤ _)⟩)
  dsimp only [Pt.U, Pt.locs, Pt.cells, Pt.slots] at X254 l254 y254 z254 st254 hQ254
  subst l254 y254 z254
  obtain ⟨rfl, Nq254, e254⟩ := hQ254
  have N254 := Fr.app N253 Nq254
  refine own_jumpH (g' := (mkF m 12 #[iv p1, iv p2, iv p3, rv b252, .unset, .unset] [(.int (Int32.ofNat 0 + Int32.ofNat 0))])) st254 ?_
  rw [show (Int32.ofNat 0 + Int32.ofNat 0) = (0 : Int32) from by decide]
  refine own_stH (mkF m 15 #[iv p1, iv p2, iv p3, rv b252, .unset, .unset] []) (fun t k => XS.ifNo X254.here hx rfl (hb hby at_12) rfl ((if0 _ _).trans (teq (by decide : (0 : Int32) = (0 : Int32))).2) k) ?_
  refine own_stH (mkF m 16 #[iv p1, iv p2, iv p3, rv b252, .unset, .unset] [(.int (1 : Int32))]) (fun t k => XS.iconst X254.here hx rfl (hb hby at_15) k) ?_
  refine own_stH (mkF m 20 #[iv p1, iv p2, iv p3, rv b252, .unset, .unset] [(.int (1 : Int32))]) (fun t k => XS.goto X254.here hx rfl (pc0 := 16) (pc' := 20) rfl (hb hby at_16) (by decide) (by decide) k) ?_
  refine own_stH (mkF m 22 #[iv p1, iv p2, iv p3, rv b252, iv (1 : Int32), .unset] []) (fun t k => XS.istore X254.here hx rfl (hb hby at_20) rfl (l' := #[iv p1, iv p2, iv p3, rv b252, iv (1 : Int32), .unset]) rfl k) ?_
  refine own_stH (mkF m 23 #[iv p1, iv p2, iv p3, rv b252, iv (1 : Int32), .unset] [(.int (0 : Int32))]) (fun t k => XS.iconst X254.here hx rfl (hb hby at_22) k) ?_
  refine own_stH (mkF m 25 #[iv p1, iv p2, iv p3, rv b252, iv (1 : Int32), iv (0 : Int32)] []) (fun t k => XS.istore X254.here hx rfl (hb hby at_23) rfl (l' := #[iv p1, iv p2, iv p3, rv b252, iv (1 : Int32), iv (0 : Int32)]) rfl k) ?_
  refine own_stH (mkF m 27 #[iv p1, iv p2, iv p3, rv b252, iv (1 : Int32), iv (0 : Int32)] [(.int (0 : Int32))]) (fun t k => XS.iload X254.here hx rfl (hb hby at_25) rfl k) ?_
  refine own_stH (mkF m 28 #[iv p1, iv p2, iv p3, rv b252, iv (1 : Int32), iv (0 : Int32)] [(.ref b252), (.int (0 : Int32))]) (fun t k => XS.aloadN X254.here hx rfl (hb hby at_27) rfl rfl k) ?_
  refine own_stH (mkF m 29 #[iv p1, iv p2, iv p3, rv b252, iv (1 : Int32), iv (0 : Int32)] [(.int p1), (.ref b252), (.int (0 : Int32))]) (fun t k => XS.iloadN X254.here hx rfl (hb hby at_28) rfl k) ?_
  refine own_stH (mkF m 30 #[iv p1, iv p2, iv p3, rv b252, iv (1 : Int32), iv (0 : Int32)] [(.int (3 : Int32)), (.int p1), (.ref b252), (.int (0 : Int32))]) (fun t k => XS.iconst X254.here hx rfl (hb hby at_29) k) ?_
  refine own_stH (mkF m 31 #[iv p1, iv p2, iv p3, rv b252, iv (1 : Int32), iv (0 : Int32)] [(.int (p1 &&& (3 : Int32))), (.ref b252), (.int (0 : Int32))]) (fun t k => XS.iand X254.here hx rfl (hb hby at_30) rfl k) ?_
  refine own_stH (mkF m 32 #[iv p1, iv p2, iv p3, rv b252, iv (1 : Int32), iv (0 : Int32)] [(.int p2), (.int (p1 &&& (3 : Int32))), (.ref b252), (.int (0 : Int32))]) (fun t k => XS.iloadN X254.here hx rfl (hb hby at_31) rfl k) ?_
  obtain ⟨_, _, ⟨T255, L255, k255, n255⟩, -, X255, ⟨Lc255, hQ255, l255, y255, z255⟩, st255⟩ := Jvm.LawKit.callS X254 hx (y := (⟨"com/example/shaper/shaper/core/ConfigProblemsCountPinLaw", "str", "(I)Ljava/lang/String;"⟩ : MethodName)) hown (mvT hZ (hw_53 hw)) (mvT hZ (hw_54 hw)) (mvT hZ (hw_55 hw)) (mvT hZ (hw_56 hw)) (by decide) (backOf (W := 3) (own_rm8 l Z a0 hw [] p2 wc wD kD T253.heap n0 Z253 O253 SS) hZ (hw_56 hw) (hw_55 hw) (by decide) (by decide)) (g := (mkF m 32 #[iv p1, iv p2, iv p3, rv b252, iv (1 : Int32), iv (0 : Int32)] [(.int p2), (.int (p1 &&& (3 : Int32))), (.ref b252), (.int (0 : Int32))])) rfl (by rw [hml]; rfl) (argsL := [(.int p2)]) (rest := [(.int (p1 &&& (3 : Int32))), (.ref b252), (.int (0 : Int32))]) (lenOf pd_29 rfl) rfl (by show 2 * 0 + _ ≤ _; exact Nat.le_of_eq rfl) (hb hby at_32) (fun _ _ => ⟨rfl, e254, (by decide : 3 + 2 ≤ _), (by decide : 8 + 5 ≤ _)⟩)
  dsimp only [Pt.U, Pt.locs, Pt.cells, Pt.slots] at X255 l255 y255 z255 st255 hQ255
  subst l255 y255 z255
  obtain ⟨bb255, hQ255⟩ := hQ255
  obtain ⟨sa255, ba255, kb255, rfl, Nq255, K255, ga255, gb255, ne255, Ex255, Fv255, Fc255, V255⟩ := hQ255
  have N255 := Fr.app N254 Nq255
  have g_sa255 : n0 ≤ sa255 := Nat.le_trans Z253 ga255
  have ne_b252_sa255 : b252 ≠ sa255 := Nat.ne_of_lt (Nat.lt_of_lt_of_le (own_CPexa P253).lt ga255)
  have g_ba255 : n0 ≤ ba255 := Nat.le_trans Z253 gb255
  have ne_b252_ba255 : b252 ≠ ba255 := Nat.ne_of_lt (Nat.lt_of_lt_of_le (own_CPexa P253).lt gb255)
  have C255 : CHr Z own_EL s.vm T253.heap s.vm T255.heap := CHr.keep K255 sf0 CR253.1
  have CR255 := CR253.trans C255
  have kz255 : _ ≤ T255.heap.size := Nat.le_trans kz253 K255.1
  have Z255 : n0 ≤ T255.heap.size := Nat.le_trans Z253 K255.1
  have O255 : Old Z n0 T255.heap := O253.keep K255 all0
  have f2_Exa_b252 : Exa Z T255.heap b252 "com/example/shaper/shaper/core/ConfigProblems" := ((own_CPexa P253).keep K255)
  have f3_Prd_b252 : own_CP Z wD T255.heap n0 b252 0 0 .null .null := (own_CPkeep P253 K255)
  refine own_stepH (g' := (mkF m 35 #[iv p1, iv p2, iv p3, rv b252, iv (1 : Int32), iv (0 : Int32)] [(.ref sa255), (.int (p1 &&& (3 : Int32))), (.ref b252), (.int (0 : Int32))])) st255 ?_
  refine own_stH (mkF m 36 #[iv p1, iv p2, iv p3, rv b252, iv (1 : Int32), iv (0 : Int32)] [(.int p2), (.ref sa255), (.int (p1 &&& (3 : Int32))), (.ref b252), (.int (0 : Int32))]) (fun t k => XS.iloadN X255.here hx rfl (hb hby at_35) rfl k) ?_
  refine own_stH (mkF m 38 #[iv p1, iv p2, iv p3, rv b252, iv (1 : Int32), iv (0 : Int32)] [(.int (8 : Int32)), (.int p2), (.ref sa255), (.int (p1 &&& (3 : Int32))), (.ref b252), (.int (0 : Int32))]) (fun t k => XS.bipush X255.here hx rfl (hb hby at_36) k) ?_
  refine own_stH (mkF m 39 #[iv p1, iv p2, iv p3, rv b252, iv (1 : Int32), iv (0 : Int32)] [(.int ((p2.toUInt32 >>> ((8 : Int32) &&& 31).toUInt32).toInt32)), (.ref sa255), (.int (p1 &&& (3 : Int32))), (.ref b252), (.int (0 : Int32))]) (fun t k => XS.iushr X255.here hx rfl (hb hby at_38) rfl k) ?_
  obtain ⟨_, _, ⟨T256, L256, k256, n256⟩, -, X256, ⟨Lc256, hQ256, l256, y256, z256⟩, st256⟩ := Jvm.LawKit.callS X255 hx (y := (⟨"com/example/shaper/shaper/core/ConfigProblemsCountPinLaw", "str", "(I)Ljava/lang/String;"⟩ : MethodName)) hown (mvT hZ (hw_53 hw)) (mvT hZ (hw_54 hw)) (mvT hZ (hw_55 hw)) (mvT hZ (hw_56 hw)) (by decide) (backOf (W := 4) (own_rm8 l Z a0 hw [] ((p2.toUInt32 >>> ((8 : Int32) &&& 31).toUInt32).toInt32) wc wD kD T255.heap n0 Z255 O255 SS) hZ (hw_56 hw) (hw_55 hw) (by decide) (by decide)) (g := (mkF m 39 #[iv p1, iv p2, iv p3, rv b252, iv (1 : Int32), iv (0 : Int32)] [(.int ((p2.toUInt32 >>> ((8 : Int32) &&& 31).toUInt32).toInt32)), (.ref sa255), (.int (p1 &&& (3 : Int32))), (.ref b252), (.int (0 : Int32))])) rfl (by rw [hml]; rfl) (argsL := [(.int ((p2.toUInt32 >>> ((8 : Int32) &&& 31).toUInt32).toInt32))]) (rest := [(.ref sa255), (.int (p1 &&& (3 : Int32))), (.ref b252), (.int (0 : Int32))]) (lenOf pd_29 rfl) rfl (by show 2 * 0 + _ ≤ _; exact Nat.le_of_eq rfl) (hb hby at_39) (fun _ _ => ⟨rfl, rfl, (by decide : 5 + 2 ≤ _), (by decide : 13 + 5 ≤ _)⟩)
  dsimp only [Pt.U, Pt.locs, Pt.cells, Pt.slots] at X256 l256 y256 z256 st256 hQ256
  subst l256 y256 z256
  obtain ⟨bb256, hQ256⟩ := hQ256
  obtain ⟨sa256, ba256, kb256, rfl, Nq256, K256, ga256, gb256, ne256, Ex256, Fv256, Fc256, V256⟩ := hQ256
  have N256 := Fr.app N255 Nq256
  have g_sa256 : n0 ≤ sa256 := Nat.le_trans Z255 ga256
  have ne_b252_sa256 : b252 ≠ sa256 := Nat.ne_of_lt (Nat.lt_of_lt_of_le f2_Exa_b252.lt ga256)
  have ne_sa255_sa256 : sa255 ≠ sa256 := Nat.ne_of_lt (Nat.lt_of_lt_of_le Ex255.lt ga256)
  have ne_ba255_sa256 : ba255 ≠ sa256 := Nat.ne_of_lt (Nat.lt_of_lt_of_le V255.lt ga256)
  have g_ba256 : n0 ≤ ba256 := Nat.le_trans Z255 gb256
  have ne_b252_ba256 : b252 ≠ ba256 := Nat.ne_of_lt (Nat.lt_of_lt_of_le f2_Exa_b252.lt gb256)
  have ne_sa255_ba256 : sa255 ≠ ba256 := Nat.ne_of_lt (Nat.lt_of_lt_of_le Ex255.lt gb256)
  have ne_ba255_ba256 : ba255 ≠ ba256 := Nat.ne_of_lt (Nat.lt_of_lt_of_le V255.lt gb256)
  have C256 : CHr Z own_EL s.vm T255.heap s.vm T256.heap := CHr.keep K256 sf0 CR255.1
  have CR256 := CR255.trans C256
  have kz256 : _ ≤ T256.heap.size := Nat.le_trans kz255 K256.1
  have Z256 : n0 ≤ T256.heap.size := Nat.le_trans Z255 K256.1
  have O256 : Old Z n0 T256.heap := O255.keep K256 all0
  have f4_Exa_b252 : Exa Z T256.heap b252 "com/example/shaper/shaper/core/ConfigProblems" := (f2_Exa_b252.keep K256)
  have f5_Prd_b252 : own_CP Z wD T256.heap n0 b252 0 0 .null .null := (own_CPkeep f3_Prd_b252 K256)
  have f6_Exa_sa255 : Exa Z T256.heap sa255 "java/lang/String" := (Ex255.keep K256)
  have f7_Fld_sa255 : Fld Z T256.heap sa255 "java/lang/String" "value" "[B" (.ref ba255) := (Fv255.keep K256 nin0)
  have f8_Fld_sa255 : Fld Z T256.heap sa255 "java/lang/String" "coder" "B" (.int (0 : Int32)) := (Fc255.keep K256 nin0)
  have f9_Arv_ba255 : Arv Z T256.heap ba255 kb255 .byte (1 : Int32) (([bb255]).map Value.int) (.int (0 : Int32)) := (V255.keep K256 nin0)
  refine own_stepH (g' := (mkF m 42 #[iv p1, iv p2, iv p3, rv b252, iv (1 : Int32), iv (0 : Int32)] [(.ref sa256), (.ref sa255), (.int (p1 &&& (3 : Int32))), (.ref b252), (.int (0 : Int32))])) st256 ?_
  obtain ⟨_, _, ⟨T257, L257, k257, n257⟩, -, X257, S257, G257, ⟨Lc257, hQ257, l257, y257, z257, C257⟩, st257⟩ := callSS X256 hx (y := (⟨"com/example/shaper/shaper/core/ConfigProblemsCountPinLaw", "step", "(Lcom/example/shaper/shaper/core/ConfigProblems;ILjava/lang/String;Ljava/lang/String;)I"⟩ : MethodName)) hown (mvT hZ (hw_81 hw)) (mvT hZ (hw_82 hw)) (mvT hZ (hw_55 hw)) (mvT hZ (hw_83 hw)) (by decide) (backOfSH (s := s) (vm0 := s.vm) (W := 1) (own_rm13 l Z a0 hw [] b252 (p1 &&& (3 : Int32)) sa255 sa256 0 0 .null .null ba255 kb255 [bb255] ba256 kb256 [bb256] wc wD kD T256.heap n0 Z256 O256 SS hEL (by omega) rfl rfl f5_Prd_b252 f6_Exa_sa255 f7_Fld_sa255 f8_Fld_sa255 f9_Arv_ba255 Ex256 Fv256 Fc256 V256) hZ (hw_83 hw) (hw_55 hw) (by decide) (by decide) hEL CR256.1) (g := (mkF m 42 #[iv p1, iv p2, iv p3, rv b252, iv (1 : Int32), iv (0 : Int32)] [(.ref sa256), (.ref sa255), (.int (p1 &&& (3 : Int32))), (.ref b252), (.int (0 : Int32))])) rfl (by rw [hml]; rfl) (argsL := [(.ref b252), (.int (p1 &&& (3 : Int32))), (.ref sa255), (.ref sa256)]) (rest := [(.int (0 : Int32))]) (lenOf pd_30 rfl) rfl (by show 2 * 0 + _ ≤ _; exact Nat.le_of_eq rfl) (hb hby at_42) (fun _ _ => ⟨rfl, rfl, (by decide : 7 + 10 ≤ _), (by decide : 18 + 172 ≤ _)⟩)
  dsimp only [Pt.U, Pt.locs, Pt.cells, Pt.slots] at X257 l257 y257 z257 st257 hQ257 S257 G257 C257
  subst l257 y257 z257
  obtain ⟨X257, S257, hZ, hown⟩ := rebS S0 kz256 X257 S257 (show T256.heap.size ≤ T257.heap.size from G257) hZ hown
  have CR257 := CR256.trans C257
  have gr257 : T256.heap.size ≤ T257.heap.size := C257.2.1
  obtain ⟨r257, j1257, j2257, g1257, g2257, rfl, Nq257, O257, P257, hj257, hr257⟩ := hQ257
  have N257 := Fr.app N256 Nq257
  have Z257 : n0 ≤ T257.heap.size := Nat.le_trans Z256 gr257
  refine own_jumpH (g' := (mkF m 45 #[iv p1, iv p2, iv p3, rv b252, iv (1 : Int32), iv (0 : Int32)] [(.int (Int32.ofNat r257)), (.int (0 : Int32))])) st257 ?_
  refine own_stH (mkF m 46 #[iv p1, iv p2, iv p3, rv b252, iv (1 : Int32), iv (0 : Int32)] [(.int ((0 : Int32) + (Int32.ofNat r257)))]) (fun t k => XS.iadd X257.here hx rfl (hb hby at_45) rfl k) ?_
  rw [show ((0 : Int32) + (Int32.ofNat r257)) = Int32.ofNat (j1257 + j2257) from own_sum0 hj257]
  refine own_stH (mkF m 48 #[iv p1, iv p2, iv p3, rv b252, iv (1 : Int32), iv (Int32.ofNat (j1257 + j2257))] []) (fun t k => XS.istore X257.here hx rfl (hb hby at_46) rfl (l' := #[iv p1, iv p2, iv p3, rv b252, iv (1 : Int32), iv (Int32.ofNat (j1257 + j2257))]) rfl k) ?_
  refine own_stH (mkF m 49 #[iv p1, iv p2, iv p3, rv b252, iv (1 : Int32), iv (Int32.ofNat (j1257 + j2257))] [(.ref b252)]) (fun t k => XS.aloadN X257.here hx rfl (hb hby at_48) rfl rfl k) ?_
  obtain ⟨cq258, kq258, q258a, q258b, q258c⟩ := isOf hZ rfl (own_CPexa P257)
  obtain ⟨_, _, ⟨T258, L258, k258, n258⟩, -, X258, ⟨Lc258, hQ258, l258, y258, z258⟩, st258⟩ := X257.virtualBack hx (y := (⟨"com/example/shaper/shaper/core/ConfigProblems", "count", "()I"⟩ : MethodName)) (z := (⟨"com/example/shaper/shaper/core/ConfigProblems", "count", "()I"⟩ : MethodName)) hown (mvT hZ (hw_37 hw)) (mvT hZ (hw_38 hw)) (notFace_of_selects (args := #[]) (mvT hZ (hw_40 hw))) (mvT hZ (hw_40 hw)) (mvT hZ (hw_39 hw)) (by decide) (backOf (W := 0) (own_rm6 l Z a0 hw [] b252 j1257 j2257 g1257 g2257 wD T257.heap n0 Z257 P257) hZ (hw_41 hw) (hw_2 hw) (by decide) (by decide)) q258a q258c (g := (mkF m 49 #[iv p1, iv p2, iv p3, rv b252, iv (1 : Int32), iv (Int32.ofNat (j1257 + j2257))] [(.ref b252)])) rfl (by rw [hml]; rfl) (Steps.refl _) (argsL := []) (rest := []) (lenOf pd_5 rfl) rfl (by show 2 * 0 + _ ≤ _; exact Nat.le_of_eq rfl) (hb hby at_49) (fun _ _ => ⟨rfl, rfl, (by decide : 17 + 0 ≤ _), (by decide : 190 + 0 ≤ _)⟩)
  dsimp only [Pt.U, Pt.locs, Pt.cells, Pt.slots] at X258 l258 y258 z258 st258 hQ258
  subst l258 y258 z258
  obtain ⟨rfl, Nq258, e258⟩ := hQ258
  have N258 := Fr.app N257 Nq258
  refine own_jumpH (g' := (mkF m 52 #[iv p1, iv p2, iv p3, rv b252, iv (1 : Int32), iv (Int32.ofNat (j1257 + j2257))] [(.int (Int32.ofNat j1257 + Int32.ofNat j2257))])) st258 ?_
  refine own_stH (mkF m 54 #[iv p1, iv p2, iv p3, rv b252, iv (1 : Int32), iv (Int32.ofNat (j1257 + j2257))] [(.int (Int32.ofNat (j1257 + j2257))), (.int (Int32.ofNat j1257 + Int32.ofNat j2257))]) (fun t k => XS.iload X258.here hx rfl (hb hby at_52) rfl k) ?_
  refine own_stH (mkF m 57 #[iv p1, iv p2, iv p3, rv b252, iv (1 : Int32), iv (Int32.ofNat (j1257 + j2257))] []) (fun t k => XS.icmpNo X258.here hx rfl (hb hby at_54) rfl (teq (own_addN j1257 j2257)).2 k) ?_
  refine own_stH (mkF m 58 #[iv p1, iv p2, iv p3, rv b252, iv (1 : Int32), iv (Int32.ofNat (j1257 + j2257))] [(.int (1 : Int32))]) (fun t k => XS.iconst X258.here hx rfl (hb hby at_57) k) ?_
  refine own_stH (mkF m 62 #[iv p1, iv p2, iv p3, rv b252, iv (1 : Int32), iv (Int32.ofNat (j1257 + j2257))] [(.int (1 : Int32))]) (fun t k => XS.goto X258.here hx rfl (pc0 := 58) (pc' := 62) rfl (hb hby at_58) (by decide) (by decide) k) ?_
  refine own_stH (mkF m 64 #[iv p1, iv p2, iv p3, rv b252, iv (1 : Int32), iv (Int32.ofNat (j1257 + j2257))] [(.int (1 : Int32)), (.int (1 : Int32))]) (fun t k => XS.iload X258.here hx rfl (hb hby at_62) rfl k) ?_
  refine own_stH (mkF m 65 #[iv p1, iv p2, iv p3, rv b252, iv (1 : Int32), iv (Int32.ofNat (j1257 + j2257))] [(.int ((1 : Int32) &&& (1 : Int32)))]) (fun t k => XS.iand X258.here hx rfl (hb hby at_64) rfl k) ?_
  rw [show ((1 : Int32) &&& (1 : Int32)) = (1 : Int32) from by decide]
  refine own_stH (mkF m 67 #[iv p1, iv p2, iv p3, rv b252, iv (1 : Int32), iv (Int32.ofNat (j1257 + j2257))] []) (fun t k => XS.istore X258.here hx rfl (hb hby at_65) rfl (l' := #[iv p1, iv p2, iv p3, rv b252, iv (1 : Int32), iv (Int32.ofNat (j1257 + j2257))]) rfl k) ?_
  refine own_stH (mkF m 69 #[iv p1, iv p2, iv p3, rv b252, iv (1 : Int32), iv (Int32.ofNat (j1257 + j2257))] [(.int (Int32.ofNat (j1257 + j2257)))]) (fun t k => XS.iload X258.here hx rfl (hb hby at_67) rfl k) ?_
  refine own_stH (mkF m 70 #[iv p1, iv p2, iv p3, rv b252, iv (1 : Int32), iv (Int32.ofNat (j1257 + j2257))] [(.ref b252), (.int (Int32.ofNat (j1257 + j2257)))]) (fun t k => XS.aloadN X258.here hx rfl (hb hby at_69) rfl rfl k) ?_
  refine own_stH (mkF m 71 #[iv p1, iv p2, iv p3, rv b252, iv (1 : Int32), iv (Int32.ofNat (j1257 + j2257))] [(.int p1), (.ref b252), (.int (Int32.ofNat (j1257 + j2257)))]) (fun t k => XS.iloadN X258.here hx rfl (hb hby at_70) rfl k) ?_
  refine own_stH (mkF m 72 #[iv p1, iv p2, iv p3, rv b252, iv (1 : Int32), iv (Int32.ofNat (j1257 + j2257))] [(.int (2 : Int32)), (.int p1), (.ref b252), (.int (Int32.ofNat (j1257 + j2257)))]) (fun t k => XS.iconst X258.here hx rfl (hb hby at_71) k) ?_
  refine own_stH (mkF m 73 #[iv p1, iv p2, iv p3, rv b252, iv (1 : Int32), iv (Int32.ofNat (j1257 + j2257))] [(.int ((p1.toUInt32 >>> ((2 : Int32) &&& 31).toUInt32).toInt32)), (.ref b252), (.int (Int32.ofNat (j1257 + j2257)))]) (fun t k => XS.iushr X258.here hx rfl (hb hby at_72) rfl k) ?_
  refine own_stH (mkF m 74 #[iv p1, iv p2, iv p3, rv b252, iv (1 : Int32), iv (Int32.ofNat (j1257 + j2257))] [(.int (3 : Int32)), (.int ((p1.toUInt32 >>> ((2 : Int32) &&& 31).toUInt32).toInt32)), (.ref b252), (.int (Int32.ofNat (j1257 + j2257)))]) (fun t k => XS.iconst X258.here hx rfl (hb hby at_73) k) ?_
  refine own_stH (mkF m 75 #[iv p1, iv p2, iv p3, rv b252, iv (1 : Int32), iv (Int32.ofNat (j1257 + j2257))] [(.int (((p1.toUInt32 >>> ((2 : Int32) &&& 31).toUInt32).toInt32) &&& (3 : Int32))), (.ref b252), (.int (Int32.ofNat (j1257 + j2257)))]) (fun t k => XS.iand X258.here hx rfl (hb hby at_74) rfl k) ?_
  refine own_stH (mkF m 76 #[iv p1, iv p2, iv p3, rv b252, iv (1 : Int32), iv (Int32.ofNat (j1257 + j2257))] [(.int p2), (.int (((p1.toUInt32 >>> ((2 : Int32) &&& 31).toUInt32).toInt32) &&& (3 : Int32))), (.ref b252), (.int (Int32.ofNat (j1257 + j2257)))]) (fun t k => XS.iloadN X258.here hx rfl (hb hby at_75) rfl k) ?_
  refine own_stH (mkF m 78 #[iv p1, iv p2, iv p3, rv b252, iv (1 : Int32), iv (Int32.ofNat (j1257 + j2257))] [(.int (16 : Int32)), (.int p2), (.int (((p1.toUInt32 >>> ((2 : Int32) &&& 31).toUInt32).toInt32) &&& (3 : Int32))), (.ref b252), (.int (Int32.ofNat (j1257 + j2257)))]) (fun t k => XS.bipush X258.here hx rfl (hb hby at_76) k) ?_
  refine own_stH (mkF m 79 #[iv p1, iv p2, iv p3, rv b252, iv (1 : Int32), iv (Int32.ofNat (j1257 + j2257))] [(.int ((p2.toUInt32 >>> ((16 : Int32) &&& 31).toUInt32).toInt32)), (.int (((p1.toUInt32 >>> ((2 : Int32) &&& 31).toUInt32).toInt32) &&& (3 : Int32))), (.ref b252), (.int (Int32.ofNat (j1257 + j2257)))]) (fun t k => XS.iushr X258.here hx rfl (hb hby at_78) rfl k) ?_
  obtain ⟨_, _, ⟨T259, L259, k259, n259⟩, -, X259, ⟨Lc259, hQ259, l259, y259, z259⟩, st259⟩ := Jvm.LawKit.callS X258 hx (y := (⟨"com/example/shaper/shaper/core/ConfigProblemsCountPinLaw", "str", "(I)Ljava/lang/String;"⟩ : MethodName)) hown (mvT hZ (hw_53 hw)) (mvT hZ (hw_54 hw)) (mvT hZ (hw_55 hw)) (mvT hZ (hw_56 hw)) (by decide) (backOf (W := 3) (own_rm8 l Z a0 hw [] ((p2.toUInt32 >>> ((16 : Int32) &&& 31).toUInt32).toInt32) wc wD kD T257.heap n0 Z257 O257 SS) hZ (hw_56 hw) (hw_55 hw) (by decide) (by decide)) (g := (mkF m 79 #[iv p1, iv p2, iv p3, rv b252, iv (1 : Int32), iv (Int32.ofNat (j1257 + j2257))] [(.int ((p2.toUInt32 >>> ((16 : Int32) &&& 31).toUInt32).toInt32)), (.int (((p1.toUInt32 >>> ((2 : Int32) &&& 31).toUInt32).toInt32) &&& (3 : Int32))), (.ref b252), (.int (Int32.ofNat (j1257 + j2257)))])) rfl (by rw [hml]; rfl) (argsL := [(.int ((p2.toUInt32 >>> ((16 : Int32) &&& 31).toUInt32).toInt32))]) (rest := [(.int (((p1.toUInt32 >>> ((2 : Int32) &&& 31).toUInt32).toInt32) &&& (3 : Int32))), (.ref b252), (.int (Int32.ofNat (j1257 + j2257)))]) (lenOf pd_29 rfl) rfl (by show 2 * 0 + _ ≤ _; exact Nat.le_of_eq rfl) (hb hby at_79) (fun _ _ => ⟨rfl, e258, (by decide : 17 + 2 ≤ _), (by decide : 190 + 5 ≤ _)⟩)
  dsimp only [Pt.U, Pt.locs, Pt.cells, Pt.slots] at X259 l259 y259 z259 st259 hQ259
  subst l259 y259 z259
  obtain ⟨bb259, hQ259⟩ := hQ259
  obtain ⟨sa259, ba259, kb259, rfl, Nq259, K259, ga259, gb259, ne259, Ex259, Fv259, Fc259, V259⟩ := hQ259
  have N259 := Fr.app N258 Nq259
  have g_sa259 : n0 ≤ sa259 := Nat.le_trans Z257 ga259
  have ne_b252_sa259 : b252 ≠ sa259 := Nat.ne_of_lt (Nat.lt_of_lt_of_le (own_CPexa P257).lt ga259)
  have g_ba259 : n0 ≤ ba259 := Nat.le_trans Z257 gb259
  have ne_b252_ba259 : b252 ≠ ba259 := Nat.ne_of_lt (Nat.lt_of_lt_of_le (own_CPexa P257).lt gb259)
  have C259 : CHr Z own_EL T257.vm T257.heap T257.vm T259.heap := CHr.keep K259 sf0 CR257.1
  have CR259 := CR257.trans C259
  have kz259 : _ ≤ T259.heap.size := Nat.le_trans (Nat.le_refl T257.heap.size) K259.1
  have Z259 : n0 ≤ T259.heap.size := Nat.le_trans Z257 K259.1
  have O259 : Old Z n0 T259.heap := O257.keep K259 all0
  have f10_Prd_b252 : own_CP Z wD T259.heap n0 b252 j1257 j2257 g1257 g2257 := (own_CPkeep P257 K259)
  have f11_Exa_b252 : Exa Z T259.heap b252 "com/example/shaper/shaper/core/ConfigProblems" := ((own_CPexa P257).keep K259)
  refine own_stepH (g' := (mkF m 82 #[iv p1, iv p2, iv p3, rv b252, iv (1 : Int32), iv (Int32.ofNat (j1257 + j2257))] [(.ref sa259), (.int (((p1.toUInt32 >>> ((2 : Int32) &&& 31).toUInt32).toInt32) &&& (3 : Int32))), (.ref b252), (.int (Int32.ofNat (j1257 + j2257)))])) st259 ?_
  refine own_stH (mkF m 83 #[iv p1, iv p2, iv p3, rv b252, iv (1 : Int32), iv (Int32.ofNat (j1257 + j2257))] [(.int p2), (.ref sa259), (.int (((p1.toUInt32 >>> ((2 : Int32) &&& 31).toUInt32).toInt32) &&& (3 : Int32))), (.ref b252), (.int (Int32.ofNat (j1257 + j2257)))]) (fun t k => XS.iloadN X259.here hx rfl (hb hby at_82) rfl k) ?_
  refine own_stH (mkF m 85 #[iv p1, iv p2, iv p3, rv b252, iv (1 : Int32), iv (Int32.ofNat (j1257 + j2257))] [(.int (24 : Int32)), (.int p2), (.ref sa259), (.int (((p1.toUInt32 >>> ((2 : Int32) &&& 31).toUInt32).toInt32) &&& (3 : Int32))), (.ref b252), (.int (Int32.ofNat (j1257 + j2257)))]) (fun t k => XS.bipush X259.here hx rfl (hb hby at_83) k) ?_
  refine own_stH (mkF m 86 #[iv p1, iv p2, iv p3, rv b252, iv (1 : Int32), iv (Int32.ofNat (j1257 + j2257))] [(.int ((p2.toUInt32 >>> ((24 : Int32) &&& 31).toUInt32).toInt32)), (.ref sa259), (.int (((p1.toUInt32 >>> ((2 : Int32) &&& 31).toUInt32).toInt32) &&& (3 : Int32))), (.ref b252), (.int (Int32.ofNat (j1257 + j2257)))]) (fun t k => XS.iushr X259.here hx rfl (hb hby at_85) rfl k) ?_
  obtain ⟨_, _, ⟨T260, L260, k260, n260⟩, -, X260, ⟨Lc260, hQ260, l260, y260, z260⟩, st260⟩ := Jvm.LawKit.callS X259 hx (y := (⟨"com/example/shaper/shaper/core/ConfigProblemsCountPinLaw", "str", "(I)Ljava/lang/String;"⟩ : MethodName)) hown (mvT hZ (hw_53 hw)) (mvT hZ (hw_54 hw)) (mvT hZ (hw_55 hw)) (mvT hZ (hw_56 hw)) (by decide) (backOf (W := 4) (own_rm8 l Z a0 hw [] ((p2.toUInt32 >>> ((24 : Int32) &&& 31).toUInt32).toInt32) wc wD kD T259.heap n0 Z259 O259 SS) hZ (hw_56 hw) (hw_55 hw) (by decide) (by decide)) (g := (mkF m 86 #[iv p1, iv p2, iv p3, rv b252, iv (1 : Int32), iv (Int32.ofNat (j1257 + j2257))] [(.int ((p2.toUInt32 >>> ((24 : Int32) &&& 31).toUInt32).toInt32)), (.ref sa259), (.int (((p1.toUInt32 >>> ((2 : Int32) &&& 31).toUInt32).toInt32) &&& (3 : Int32))), (.ref b252), (.int (Int32.ofNat (j1257 + j2257)))])) rfl (by rw [hml]; rfl) (argsL := [(.int ((p2.toUInt32 >>> ((24 : Int32) &&& 31).toUInt32).toInt32))]) (rest := [(.ref sa259), (.int (((p1.toUInt32 >>> ((2 : Int32) &&& 31).toUInt32).toInt32) &&& (3 : Int32))), (.ref b252), (.int (Int32.ofNat (j1257 + j2257)))]) (lenOf pd_29 rfl) rfl (by show 2 * 0 + _ ≤ _; exact Nat.le_of_eq rfl) (hb hby at_86) (fun _ _ => ⟨rfl, rfl, (by decide : 19 + 2 ≤ _), (by decide : 195 + 5 ≤ _)⟩)
  dsimp only [Pt.U, Pt.locs, Pt.cells, Pt.slots] at X260 l260 y260 z260 st260 hQ260
  subst l260 y260 z260
  obtain ⟨bb260, hQ260⟩ := hQ260
  obtain ⟨sa260, ba260, kb260, rfl, Nq260, K260, ga260, gb260, ne260, Ex260, Fv260, Fc260, V260⟩ := hQ260
  have N260 := Fr.app N259 Nq260
  have g_sa260 : n0 ≤ sa260 := Nat.le_trans Z259 ga260
  have ne_b252_sa260 : b252 ≠ sa260 := Nat.ne_of_lt (Nat.lt_of_lt_of_le f11_Exa_b252.lt ga260)
  have ne_sa259_sa260 : sa259 ≠ sa260 := Nat.ne_of_lt (Nat.lt_of_lt_of_le Ex259.lt ga260)
  have ne_ba259_sa260 : ba259 ≠ sa260 := Nat.ne_of_lt (Nat.lt_of_lt_of_le V259.lt ga260)
  have g_ba260 : n0 ≤ ba260 := Nat.le_trans Z259 gb260
  have ne_b252_ba260 : b252 ≠ ba260 := Nat.ne_of_lt (Nat.lt_of_lt_of_le f11_Exa_b252.lt gb260)
  have ne_sa259_ba260 : sa259 ≠ ba260 := Nat.ne_of_lt (Nat.lt_of_lt_of_le Ex259.lt gb260)
  have ne_ba259_ba260 : ba259 ≠ ba260 := Nat.ne_of_lt (Nat.lt_of_lt_of_le V259.lt gb260)
  have C260 : CHr Z own_EL T257.vm T259.heap T257.vm T260.heap := CHr.keep K260 sf0 CR259.1
  have CR260 := CR259.trans C260
  have kz260 : _ ≤ T260.heap.size := Nat.le_trans kz259 K260.1
  have Z260 : n0 ≤ T260.heap.size := Nat.le_trans Z259 K260.1
  have O260 : Old Z n0 T260.heap := O259.keep K260 all0
  have f12_Prd_b252 : own_CP Z wD T260.heap n0 b252 j1257 j2257 g1257 g2257 := (own_CPkeep f10_Prd_b252 K260)
  have f13_Exa_b252 : Exa Z T260.heap b252 "com/example/shaper/shaper/core/ConfigProblems" := (f11_Exa_b252.keep K260)
  have f14_Exa_sa259 : Exa Z T260.heap sa259 "java/lang/String" := (Ex259.keep K260)
  have f15_Fld_sa259 : Fld Z T260.heap sa259 "java/lang/String" "value" "[B" (.ref ba259) := (Fv259.keep K260 nin0)
  have f16_Fld_sa259 : Fld Z T260.heap sa259 "java/lang/String" "coder" "B" (.int (0 : Int32)) := (Fc259.keep K260 nin0)
  have f17_Arv_ba259 : Arv Z T260.heap ba259 kb259 .byte (1 : Int32) (([bb259]).map Value.int) (.int (0 : Int32)) := (V259.keep K260 nin0)
  refine own_stepH (g' := (mkF m 89 #[iv p1, iv p2, iv p3, rv b252, iv (1 : Int32), iv (Int32.ofNat (j1257 + j2257))] [(.ref sa260), (.ref sa259), (.int (((p1.toUInt32 >>> ((2 : Int32) &&& 31).toUInt32).toInt32) &&& (3 : Int32))), (.ref b252), (.int (Int32.ofNat (j1257 + j2257)))])) st260 ?_
  obtain ⟨_, _, ⟨T261, L261, k261, n261⟩, -, X261, S261, G261, ⟨Lc261, hQ261, l261, y261, z261, C261⟩, st261⟩ := callSS X260 hx (y := (⟨"com/example/shaper/shaper/core/ConfigProblemsCountPinLaw", "step", "(Lcom/example/shaper/shaper/core/ConfigProblems;ILjava/lang/String;Ljava/lang/String;)I"⟩ : MethodName)) hown (mvT hZ (hw_81 hw)) (mvT hZ (hw_82 hw)) (mvT hZ (hw_55 hw)) (mvT hZ (hw_83 hw)) (by decide) (backOfSH (s := s) (vm0 := T257.vm) (W := 1) (own_rm13 l Z a0 hw [] b252 (((p1.toUInt32 >>> ((2 : Int32) &&& 31).toUInt32).toInt32) &&& (3 : Int32)) sa259 sa260 j1257 j2257 g1257 g2257 ba259 kb259 [bb259] ba260 kb260 [bb260] wc wD kD T260.heap n0 Z260 O260 SS hEL (by omega) rfl rfl f12_Prd_b252 f14_Exa_sa259 f15_Fld_sa259 f16_Fld_sa259 f17_Arv_ba259 Ex260 Fv260 Fc260 V260) hZ (hw_83 hw) (hw_55 hw) (by decide) (by decide) hEL CR260.1) (g := (mkF m 89 #[iv p1, iv p2, iv p3, rv b252, iv (1 : Int32), iv (Int32.ofNat (j1257 + j2257))] [(.ref sa260), (.ref sa259), (.int (((p1.toUInt32 >>> ((2 : Int32) &&& 31).toUInt32).toInt32) &&& (3 : Int32))), (.ref b252), (.int (Int32.ofNat (j1257 + j2257)))])) rfl (by rw [hml]; rfl) (argsL := [(.ref b252), (.int (((p1.toUInt32 >>> ((2 : Int32) &&& 31).toUInt32).toInt32) &&& (3 : Int32))), (.ref sa259), (.ref sa260)]) (rest := [(.int (Int32.ofNat (j1257 + j2257)))]) (lenOf pd_30 rfl) rfl (by show 2 * 0 + _ ≤ _; exact Nat.le_of_eq rfl) (hb hby at_89) (fun _ _ => ⟨rfl, rfl, (by decide : 21 + 10 ≤ _), (by decide : 200 + 172 ≤ _)⟩)
  dsimp only [Pt.U, Pt.locs, Pt.cells, Pt.slots] at X261 l261 y261 z261 st261 hQ261 S261 G261 C261
  subst l261 y261 z261
  obtain ⟨X261, S261, hZ, hown⟩ := rebS S257 kz260 X261 S261 (show T260.heap.size ≤ T261.heap.size from G261) hZ hown
  have CR261 := CR260.trans C261
  have gr261 : T260.heap.size ≤ T261.heap.size := C261.2.1
  obtain ⟨r261, j1261, j2261, g1261, g2261, rfl, Nq261, O261, P261, hj261, hr261⟩ := hQ261
  have N261 := Fr.app N260 Nq261
  have Z261 : n0 ≤ T261.heap.size := Nat.le_trans Z260 gr261
  refine own_jumpH (g' := (mkF m 92 #[iv p1, iv p2, iv p3, rv b252, iv (1 : Int32), iv (Int32.ofNat (j1257 + j2257))] [(.int (Int32.ofNat r261)), (.int (Int32.ofNat (j1257 + j2257)))])) st261 ?_
  refine own_stH (mkF m 93 #[iv p1, iv p2, iv p3, rv b252, iv (1 : Int32), iv (Int32.ofNat (j1257 + j2257))] [(.int ((Int32.ofNat (j1257 + j2257)) + (Int32.ofNat r261)))]) (fun t k => XS.iadd X261.here hx rfl (hb hby at_92) rfl k) ?_
  rw [show ((Int32.ofNat (j1257 + j2257)) + (Int32.ofNat r261)) = Int32.ofNat (j1261 + j2261) from own_sum hj261]
  refine own_stH (mkF m 95 #[iv p1, iv p2, iv p3, rv b252, iv (1 : Int32), iv (Int32.ofNat (j1261 + j2261))] []) (fun t k => XS.istore X261.here hx rfl (hb hby at_93) rfl (l' := #[iv p1, iv p2, iv p3, rv b252, iv (1 : Int32), iv (Int32.ofNat (j1261 + j2261))]) rfl k) ?_
  refine own_stH (mkF m 96 #[iv p1, iv p2, iv p3, rv b252, iv (1 : Int32), iv (Int32.ofNat (j1261 + j2261))] [(.ref b252)]) (fun t k => XS.aloadN X261.here hx rfl (hb hby at_95) rfl rfl k) ?_
  obtain ⟨cq262, kq262, q262a, q262b, q262c⟩ := isOf hZ rfl (own_CPexa P261)
  obtain ⟨_, _, ⟨T262, L262, k262, n262⟩, -, X262, ⟨Lc262, hQ262, l262, y262, z262⟩, st262⟩ := X261.virtualBack hx (y := (⟨"com/example/shaper/shaper/core/ConfigProblems", "count", "()I"⟩ : MethodName)) (z := (⟨"com/example/shaper/shaper/core/ConfigProblems", "count", "()I"⟩ : MethodName)) hown (mvT hZ (hw_37 hw)) (mvT hZ (hw_38 hw)) (notFace_of_selects (args := #[]) (mvT hZ (hw_40 hw))) (mvT hZ (hw_40 hw)) (mvT hZ (hw_39 hw)) (by decide) (backOf (W := 0) (own_rm6 l Z a0 hw [] b252 j1261 j2261 g1261 g2261 wD T261.heap n0 Z261 P261) hZ (hw_41 hw) (hw_2 hw) (by decide) (by decide)) q262a q262c (g := (mkF m 96 #[iv p1, iv p2, iv p3, rv b252, iv (1 : Int32), iv (Int32.ofNat (j1261 + j2261))] [(.ref b252)])) rfl (by rw [hml]; rfl) (Steps.refl _) (argsL := []) (rest := []) (lenOf pd_5 rfl) rfl (by show 2 * 0 + _ ≤ _; exact Nat.le_of_eq rfl) (hb hby at_96) (fun _ _ => ⟨rfl, rfl, (by decide : 31 + 0 ≤ _), (by decide : 372 + 0 ≤ _)⟩)
  dsimp only [Pt.U, Pt.locs, Pt.cells, Pt.slots] at X262 l262 y262 z262 st262 hQ262
  subst l262 y262 z262
  obtain ⟨rfl, Nq262, e262⟩ := hQ262
  have N262 := Fr.app N261 Nq262
  refine own_jumpH (g' := (mkF m 99 #[iv p1, iv p2, iv p3, rv b252, iv (1 : Int32), iv (Int32.ofNat (j1261 + j2261))] [(.int (Int32.ofNat j1261 + Int32.ofNat j2261))])) st262 ?_
  refine own_stH (mkF m 101 #[iv p1, iv p2, iv p3, rv b252, iv (1 : Int32), iv (Int32.ofNat (j1261 + j2261))] [(.int (Int32.ofNat (j1261 + j2261))), (.int (Int32.ofNat j1261 + Int32.ofNat j2261))]) (fun t k => XS.iload X262.here hx rfl (hb hby at_99) rfl k) ?_
  refine own_stH (mkF m 104 #[iv p1, iv p2, iv p3, rv b252, iv (1 : Int32), iv (Int32.ofNat (j1261 + j2261))] []) (fun t k => XS.icmpNo X262.here hx rfl (hb hby at_101) rfl (teq (own_addN j1261 j2261)).2 k) ?_
  refine own_stH (mkF m 105 #[iv p1, iv p2, iv p3, rv b252, iv (1 : Int32), iv (Int32.ofNat (j1261 + j2261))] [(.int (1 : Int32))]) (fun t k => XS.iconst X262.here hx rfl (hb hby at_104) k) ?_
  refine own_stH (mkF m 109 #[iv p1, iv p2, iv p3, rv b252, iv (1 : Int32), iv (Int32.ofNat (j1261 + j2261))] [(.int (1 : Int32))]) (fun t k => XS.goto X262.here hx rfl (pc0 := 105) (pc' := 109) rfl (hb hby at_105) (by decide) (by decide) k) ?_
  refine own_stH (mkF m 111 #[iv p1, iv p2, iv p3, rv b252, iv (1 : Int32), iv (Int32.ofNat (j1261 + j2261))] [(.int (1 : Int32)), (.int (1 : Int32))]) (fun t k => XS.iload X262.here hx rfl (hb hby at_109) rfl k) ?_
  refine own_stH (mkF m 112 #[iv p1, iv p2, iv p3, rv b252, iv (1 : Int32), iv (Int32.ofNat (j1261 + j2261))] [(.int ((1 : Int32) &&& (1 : Int32)))]) (fun t k => XS.iand X262.here hx rfl (hb hby at_111) rfl k) ?_
  rw [show ((1 : Int32) &&& (1 : Int32)) = (1 : Int32) from by decide]
  refine own_stH (mkF m 114 #[iv p1, iv p2, iv p3, rv b252, iv (1 : Int32), iv (Int32.ofNat (j1261 + j2261))] []) (fun t k => XS.istore X262.here hx rfl (hb hby at_112) rfl (l' := #[iv p1, iv p2, iv p3, rv b252, iv (1 : Int32), iv (Int32.ofNat (j1261 + j2261))]) rfl k) ?_
  refine own_stH (mkF m 116 #[iv p1, iv p2, iv p3, rv b252, iv (1 : Int32), iv (Int32.ofNat (j1261 + j2261))] [(.int (Int32.ofNat (j1261 + j2261)))]) (fun t k => XS.iload X262.here hx rfl (hb hby at_114) rfl k) ?_
  refine own_stH (mkF m 117 #[iv p1, iv p2, iv p3, rv b252, iv (1 : Int32), iv (Int32.ofNat (j1261 + j2261))] [(.ref b252), (.int (Int32.ofNat (j1261 + j2261)))]) (fun t k => XS.aloadN X262.here hx rfl (hb hby at_116) rfl rfl k) ?_
  refine own_stH (mkF m 118 #[iv p1, iv p2, iv p3, rv b252, iv (1 : Int32), iv (Int32.ofNat (j1261 + j2261))] [(.int p1), (.ref b252), (.int (Int32.ofNat (j1261 + j2261)))]) (fun t k => XS.iloadN X262.here hx rfl (hb hby at_117) rfl k) ?_
  refine own_stH (mkF m 119 #[iv p1, iv p2, iv p3, rv b252, iv (1 : Int32), iv (Int32.ofNat (j1261 + j2261))] [(.int (4 : Int32)), (.int p1), (.ref b252), (.int (Int32.ofNat (j1261 + j2261)))]) (fun t k => XS.iconst X262.here hx rfl (hb hby at_118) k) ?_
  refine own_stH (mkF m 120 #[iv p1, iv p2, iv p3, rv b252, iv (1 : Int32), iv (Int32.ofNat (j1261 + j2261))] [(.int ((p1.toUInt32 >>> ((4 : Int32) &&& 31).toUInt32).toInt32)), (.ref b252), (.int (Int32.ofNat (j1261 + j2261)))]) (fun t k => XS.iushr X262.here hx rfl (hb hby at_119) rfl k) ?_
  refine own_stH (mkF m 121 #[iv p1, iv p2, iv p3, rv b252, iv (1 : Int32), iv (Int32.ofNat (j1261 + j2261))] [(.int (3 : Int32)), (.int ((p1.toUInt32 >>> ((4 : Int32) &&& 31).toUInt32).toInt32)), (.ref b252), (.int (Int32.ofNat (j1261 + j2261)))]) (fun t k => XS.iconst X262.here hx rfl (hb hby at_120) k) ?_
  refine own_stH (mkF m 122 #[iv p1, iv p2, iv p3, rv b252, iv (1 : Int32), iv (Int32.ofNat (j1261 + j2261))] [(.int (((p1.toUInt32 >>> ((4 : Int32) &&& 31).toUInt32).toInt32) &&& (3 : Int32))), (.ref b252), (.int (Int32.ofNat (j1261 + j2261)))]) (fun t k => XS.iand X262.here hx rfl (hb hby at_121) rfl k) ?_
  refine own_stH (mkF m 123 #[iv p1, iv p2, iv p3, rv b252, iv (1 : Int32), iv (Int32.ofNat (j1261 + j2261))] [(.int p3), (.int (((p1.toUInt32 >>> ((4 : Int32) &&& 31).toUInt32).toInt32) &&& (3 : Int32))), (.ref b252), (.int (Int32.ofNat (j1261 + j2261)))]) (fun t k => XS.iloadN X262.here hx rfl (hb hby at_122) rfl k) ?_
  obtain ⟨_, _, ⟨T263, L263, k263, n263⟩, -, X263, ⟨Lc263, hQ263, l263, y263, z263⟩, st263⟩ := Jvm.LawKit.callS X262 hx (y := (⟨"com/example/shaper/shaper/core/ConfigProblemsCountPinLaw", "str", "(I)Ljava/lang/String;"⟩ : MethodName)) hown (mvT hZ (hw_53 hw)) (mvT hZ (hw_54 hw)) (mvT hZ (hw_55 hw)) (mvT hZ (hw_56 hw)) (by decide) (backOf (W := 3) (own_rm8 l Z a0 hw [] p3 wc wD kD T261.heap n0 Z261 O261 SS) hZ (hw_56 hw) (hw_55 hw) (by decide) (by decide)) (g := (mkF m 123 #[iv p1, iv p2, iv p3, rv b252, iv (1 : Int32), iv (Int32.ofNat (j1261 + j2261))] [(.int p3), (.int (((p1.toUInt32 >>> ((4 : Int32) &&& 31).toUInt32).toInt32) &&& (3 : Int32))), (.ref b252), (.int (Int32.ofNat (j1261 + j2261)))])) rfl (by rw [hml]; rfl) (argsL := [(.int p3)]) (rest := [(.int (((p1.toUInt32 >>> ((4 : Int32) &&& 31).toUInt32).toInt32) &&& (3 : Int32))), (.ref b252), (.int (Int32.ofNat (j1261 + j2261)))]) (lenOf pd_29 rfl) rfl (by show 2 * 0 + _ ≤ _; exact Nat.le_of_eq rfl) (hb hby at_123) (fun _ _ => ⟨rfl, e262, (by decide : 31 + 2 ≤ _), (by decide : 372 + 5 ≤ _)⟩)
  dsimp only [Pt.U, Pt.locs, Pt.cells, Pt.slots] at X263 l263 y263 z263 st263 hQ263
  subst l263 y263 z263
  obtain ⟨bb263, hQ263⟩ := hQ263
  obtain ⟨sa263, ba263, kb263, rfl, Nq263, K263, ga263, gb263, ne263, Ex263, Fv263, Fc263, V263⟩ := hQ263
  have N263 := Fr.app N262 Nq263
  have g_sa263 : n0 ≤ sa263 := Nat.le_trans Z261 ga263
  have ne_b252_sa263 : b252 ≠ sa263 := Nat.ne_of_lt (Nat.lt_of_lt_of_le (own_CPexa P261).lt ga263)
  have g_ba263 : n0 ≤ ba263 := Nat.le_trans Z261 gb263
  have ne_b252_ba263 : b252 ≠ ba263 := Nat.ne_of_lt (Nat.lt_of_lt_of_le (own_CPexa P261).lt gb263)
  have C263 : CHr Z own_EL T261.vm T261.heap T261.vm T263.heap := CHr.keep K263 sf0 CR261.1
  have CR263 := CR261.trans C263
  have kz263 : _ ≤ T263.heap.size := Nat.le_trans (Nat.le_refl T261.heap.size) K263.1
  have Z263 : n0 ≤ T263.heap.size := Nat.le_trans Z261 K263.1
  have O263 : Old Z n0 T263.heap := O261.keep K263 all0
  have f18_Prd_b252 : own_CP Z wD T263.heap n0 b252 j1261 j2261 g1261 g2261 := (own_CPkeep P261 K263)
  have f19_Exa_b252 : Exa Z T263.heap b252 "com/example/shaper/shaper/core/ConfigProblems" := ((own_CPexa P261).keep K263)
  refine own_stepH (g' := (mkF m 126 #[iv p1, iv p2, iv p3, rv b252, iv (1 : Int32), iv (Int32.ofNat (j1261 + j2261))] [(.ref sa263), (.int (((p1.toUInt32 >>> ((4 : Int32) &&& 31).toUInt32).toInt32) &&& (3 : Int32))), (.ref b252), (.int (Int32.ofNat (j1261 + j2261)))])) st263 ?_
  refine own_stH (mkF m 127 #[iv p1, iv p2, iv p3, rv b252, iv (1 : Int32), iv (Int32.ofNat (j1261 + j2261))] [(.int p3), (.ref sa263), (.int (((p1.toUInt32 >>> ((4 : Int32) &&& 31).toUInt32).toInt32) &&& (3 : Int32))), (.ref b252), (.int (Int32.ofNat (j1261 + j2261)))]) (fun t k => XS.iloadN X263.here hx rfl (hb hby at_126) rfl k) ?_
  refine own_stH (mkF m 129 #[iv p1, iv p2, iv p3, rv b252, iv (1 : Int32), iv (Int32.ofNat (j1261 + j2261))] [(.int (8 : Int32)), (.int p3), (.ref sa263), (.int (((p1.toUInt32 >>> ((4 : Int32) &&& 31).toUInt32).toInt32) &&& (3 : Int32))), (.ref b252), (.int (Int32.ofNat (j1261 + j2261)))]) (fun t k => XS.bipush X263.here hx rfl (hb hby at_127) k) ?_
  refine own_stH (mkF m 130 #[iv p1, iv p2, iv p3, rv b252, iv (1 : Int32), iv (Int32.ofNat (j1261 + j2261))] [(.int ((p3.toUInt32 >>> ((8 : Int32) &&& 31).toUInt32).toInt32)), (.ref sa263), (.int (((p1.toUInt32 >>> ((4 : Int32) &&& 31).toUInt32).toInt32) &&& (3 : Int32))), (.ref b252), (.int (Int32.ofNat (j1261 + j2261)))]) (fun t k => XS.iushr X263.here hx rfl (hb hby at_129) rfl k) ?_
  obtain ⟨_, _, ⟨T264, L264, k264, n264⟩, -, X264, ⟨Lc264, hQ264, l264, y264, z264⟩, st264⟩ := Jvm.LawKit.callS X263 hx (y := (⟨"com/example/shaper/shaper/core/ConfigProblemsCountPinLaw", "str", "(I)Ljava/lang/String;"⟩ : MethodName)) hown (mvT hZ (hw_53 hw)) (mvT hZ (hw_54 hw)) (mvT hZ (hw_55 hw)) (mvT hZ (hw_56 hw)) (by decide) (backOf (W := 4) (own_rm8 l Z a0 hw [] ((p3.toUInt32 >>> ((8 : Int32) &&& 31).toUInt32).toInt32) wc wD kD T263.heap n0 Z263 O263 SS) hZ (hw_56 hw) (hw_55 hw) (by decide) (by decide)) (g := (mkF m 130 #[iv p1, iv p2, iv p3, rv b252, iv (1 : Int32), iv (Int32.ofNat (j1261 + j2261))] [(.int ((p3.toUInt32 >>> ((8 : Int32) &&& 31).toUInt32).toInt32)), (.ref sa263), (.int (((p1.toUInt32 >>> ((4 : Int32) &&& 31).toUInt32).toInt32) &&& (3 : Int32))), (.ref b252), (.int (Int32.ofNat (j1261 + j2261)))])) rfl (by rw [hml]; rfl) (argsL := [(.int ((p3.toUInt32 >>> ((8 : Int32) &&& 31).toUInt32).toInt32))]) (rest := [(.ref sa263), (.int (((p1.toUInt32 >>> ((4 : Int32) &&& 31).toUInt32).toInt32) &&& (3 : Int32))), (.ref b252), (.int (Int32.ofNat (j1261 + j2261)))]) (lenOf pd_29 rfl) rfl (by show 2 * 0 + _ ≤ _; exact Nat.le_of_eq rfl) (hb hby at_130) (fun _ _ => ⟨rfl, rfl, (by decide : 33 + 2 ≤ _), (by decide : 377 + 5 ≤ _)⟩)
  dsimp only [Pt.U, Pt.locs, Pt.cells, Pt.slots] at X264 l264 y264 z264 st264 hQ264
  subst l264 y264 z264
  obtain ⟨bb264, hQ264⟩ := hQ264
  obtain ⟨sa264, ba264, kb264, rfl, Nq264, K264, ga264, gb264, ne264, Ex264, Fv264, Fc264, V264⟩ := hQ264
  have N264 := Fr.app N263 Nq264
  have g_sa264 : n0 ≤ sa264 := Nat.le_trans Z263 ga264
  have ne_b252_sa264 : b252 ≠ sa264 := Nat.ne_of_lt (Nat.lt_of_lt_of_le f19_Exa_b252.lt ga264)
  have ne_sa263_sa264 : sa263 ≠ sa264 := Nat.ne_of_lt (Nat.lt_of_lt_of_le Ex263.lt ga264)
  have ne_ba263_sa264 : ba263 ≠ sa264 := Nat.ne_of_lt (Nat.lt_of_lt_of_le V263.lt ga264)
  have g_ba264 : n0 ≤ ba264 := Nat.le_trans Z263 gb264
  have ne_b252_ba264 : b252 ≠ ba264 := Nat.ne_of_lt (Nat.lt_of_lt_of_le f19_Exa_b252.lt gb264)
  have ne_sa263_ba264 : sa263 ≠ ba264 := Nat.ne_of_lt (Nat.lt_of_lt_of_le Ex263.lt gb264)
  have ne_ba263_ba264 : ba263 ≠ ba264 := Nat.ne_of_lt (Nat.lt_of_lt_of_le V263.lt gb264)
  have C264 : CHr Z own_EL T261.vm T263.heap T261.vm T264.heap := CHr.keep K264 sf0 CR263.1
  have CR264 := CR263.trans C264
  have kz264 : _ ≤ T264.heap.size := Nat.le_trans kz263 K264.1
  have Z264 : n0 ≤ T264.heap.size := Nat.le_trans Z263 K264.1
  have O264 : Old Z n0 T264.heap := O263.keep K264 all0
  have f20_Prd_b252 : own_CP Z wD T264.heap n0 b252 j1261 j2261 g1261 g2261 := (own_CPkeep f18_Prd_b252 K264)
  have f21_Exa_b252 : Exa Z T264.heap b252 "com/example/shaper/shaper/core/ConfigProblems" := (f19_Exa_b252.keep K264)
  have f22_Exa_sa263 : Exa Z T264.heap sa263 "java/lang/String" := (Ex263.keep K264)
  have f23_Fld_sa263 : Fld Z T264.heap sa263 "java/lang/String" "value" "[B" (.ref ba263) := (Fv263.keep K264 nin0)
  have f24_Fld_sa263 : Fld Z T264.heap sa263 "java/lang/String" "coder" "B" (.int (0 : Int32)) := (Fc263.keep K264 nin0)
  have f25_Arv_ba263 : Arv Z T264.heap ba263 kb263 .byte (1 : Int32) (([bb263]).map Value.int) (.int (0 : Int32)) := (V263.keep K264 nin0)
  refine own_stepH (g' := (mkF m 133 #[iv p1, iv p2, iv p3, rv b252, iv (1 : Int32), iv (Int32.ofNat (j1261 + j2261))] [(.ref sa264), (.ref sa263), (.int (((p1.toUInt32 >>> ((4 : Int32) &&& 31).toUInt32).toInt32) &&& (3 : Int32))), (.ref b252), (.int (Int32.ofNat (j1261 + j2261)))])) st264 ?_
  obtain ⟨_, _, ⟨T265, L265, k265, n265⟩, -, X265, S265, G265, ⟨Lc265, hQ265, l265, y265, z265, C265⟩, st265⟩ := callSS X264 hx (y := (⟨"com/example/shaper/shaper/core/ConfigProblemsCountPinLaw", "step", "(Lcom/example/shaper/shaper/core/ConfigProblems;ILjava/lang/String;Ljava/lang/String;)I"⟩ : MethodName)) hown (mvT hZ (hw_81 hw)) (mvT hZ (hw_82 hw)) (mvT hZ (hw_55 hw)) (mvT hZ (hw_83 hw)) (by decide) (backOfSH (s := s) (vm0 := T261.vm) (W := 1) (own_rm13 l Z a0 hw [] b252 (((p1.toUInt32 >>> ((4 : Int32) &&& 31).toUInt32).toInt32) &&& (3 : Int32)) sa263 sa264 j1261 j2261 g1261 g2261 ba263 kb263 [bb263] ba264 kb264 [bb264] wc wD kD T264.heap n0 Z264 O264 SS hEL (by omega) rfl rfl f20_Prd_b252 f22_Exa_sa263 f23_Fld_sa263 f24_Fld_sa263 f25_Arv_ba263 Ex264 Fv264 Fc264 V264) hZ (hw_83 hw) (hw_55 hw) (by decide) (by decide) hEL CR264.1) (g := (mkF m 133 #[iv p1, iv p2, iv p3, rv b252, iv (1 : Int32), iv (Int32.ofNat (j1261 + j2261))] [(.ref sa264), (.ref sa263), (.int (((p1.toUInt32 >>> ((4 : Int32) &&& 31).toUInt32).toInt32) &&& (3 : Int32))), (.ref b252), (.int (Int32.ofNat (j1261 + j2261)))])) rfl (by rw [hml]; rfl) (argsL := [(.ref b252), (.int (((p1.toUInt32 >>> ((4 : Int32) &&& 31).toUInt32).toInt32) &&& (3 : Int32))), (.ref sa263), (.ref sa264)]) (rest := [(.int (Int32.ofNat (j1261 + j2261)))]) (lenOf pd_30 rfl) rfl (by show 2 * 0 + _ ≤ _; exact Nat.le_of_eq rfl) (hb hby at_133) (fun _ _ => ⟨rfl, rfl, (by decide : 35 + 10 ≤ _), (by decide : 382 + 172 ≤ _)⟩)
  dsimp only [Pt.U, Pt.locs, Pt.cells, Pt.slots] at X265 l265 y265 z265 st265 hQ265 S265 G265 C265
  subst l265 y265 z265
  obtain ⟨X265, S265, hZ, hown⟩ := rebS S261 kz264 X265 S265 (show T264.heap.size ≤ T265.heap.size from G265) hZ hown
  have CR265 := CR264.trans C265
  have gr265 : T264.heap.size ≤ T265.heap.size := C265.2.1
  obtain ⟨r265, j1265, j2265, g1265, g2265, rfl, Nq265, O265, P265, hj265, hr265⟩ := hQ265
  have N265 := Fr.app N264 Nq265
  have Z265 : n0 ≤ T265.heap.size := Nat.le_trans Z264 gr265
  refine own_jumpH (g' := (mkF m 136 #[iv p1, iv p2, iv p3, rv b252, iv (1 : Int32), iv (Int32.ofNat (j1261 + j2261))] [(.int (Int32.ofNat r265)), (.int (Int32.ofNat (j1261 + j2261)))])) st265 ?_
  refine own_stH (mkF m 137 #[iv p1, iv p2, iv p3, rv b252, iv (1 : Int32), iv (Int32.ofNat (j1261 + j2261))] [(.int ((Int32.ofNat (j1261 + j2261)) + (Int32.ofNat r265)))]) (fun t k => XS.iadd X265.here hx rfl (hb hby at_136) rfl k) ?_
  rw [show ((Int32.ofNat (j1261 + j2261)) + (Int32.ofNat r265)) = Int32.ofNat (j1265 + j2265) from own_sum hj265]
  refine own_stH (mkF m 139 #[iv p1, iv p2, iv p3, rv b252, iv (1 : Int32), iv (Int32.ofNat (j1265 + j2265))] []) (fun t k => XS.istore X265.here hx rfl (hb hby at_137) rfl (l' := #[iv p1, iv p2, iv p3, rv b252, iv (1 : Int32), iv (Int32.ofNat (j1265 + j2265))]) rfl k) ?_
  refine own_stH (mkF m 140 #[iv p1, iv p2, iv p3, rv b252, iv (1 : Int32), iv (Int32.ofNat (j1265 + j2265))] [(.ref b252)]) (fun t k => XS.aloadN X265.here hx rfl (hb hby at_139) rfl rfl k) ?_
  obtain ⟨cq266, kq266, q266a, q266b, q266c⟩ := isOf hZ rfl (own_CPexa P265)
  obtain ⟨_, _, ⟨T266, L266, k266, n266⟩, -, X266, ⟨Lc266, hQ266, l266, y266, z266⟩, st266⟩ := X265.virtualBack hx (y := (⟨"com/example/shaper/shaper/core/ConfigProblems", "count", "()I"⟩ : MethodName)) (z := (⟨"com/example/shaper/shaper/core/ConfigProblems", "count", "()I"⟩ : MethodName)) hown (mvT hZ (hw_37 hw)) (mvT hZ (hw_38 hw)) (notFace_of_selects (args := #[]) (mvT hZ (hw_40 hw))) (mvT hZ (hw_40 hw)) (mvT hZ (hw_39 hw)) (by decide) (backOf (W := 0) (own_rm6 l Z a0 hw [] b252 j1265 j2265 g1265 g2265 wD T265.heap n0 Z265 P265) hZ (hw_41 hw) (hw_2 hw) (by decide) (by decide)) q266a q266c (g := (mkF m 140 #[iv p1, iv p2, iv p3, rv b252, iv (1 : Int32), iv (Int32.ofNat (j1265 + j2265))] [(.ref b252)])) rfl (by rw [hml]; rfl) (Steps.refl _) (argsL := []) (rest := []) (lenOf pd_5 rfl) rfl (by show 2 * 0 + _ ≤ _; exact Nat.le_of_eq rfl) (hb hby at_140) (fun _ _ => ⟨rfl, rfl, (by decide : 45 + 0 ≤ _), (by decide : 554 + 0 ≤ _)⟩)
  dsimp only [Pt.U, Pt.locs, Pt.cells, Pt.slots] at X266 l266 y266 z266 st266 hQ266
  subst l266 y266 z266
  obtain ⟨rfl, Nq266, e266⟩ := hQ266
  have N266 := Fr.app N265 Nq266
  refine own_jumpH (g' := (mkF m 143 #[iv p1, iv p2, iv p3, rv b252, iv (1 : Int32), iv (Int32.ofNat (j1265 + j2265))] [(.int (Int32.ofNat j1265 + Int32.ofNat j2265))])) st266 ?_
  refine own_stH (mkF m 145 #[iv p1, iv p2, iv p3, rv b252, iv (1 : Int32), iv (Int32.ofNat (j1265 + j2265))] [(.int (Int32.ofNat (j1265 + j2265))), (.int (Int32.ofNat j1265 + Int32.ofNat j2265))]) (fun t k => XS.iload X266.here hx rfl (hb hby at_143) rfl k) ?_
  refine own_stH (mkF m 148 #[iv p1, iv p2, iv p3, rv b252, iv (1 : Int32), iv (Int32.ofNat (j1265 + j2265))] []) (fun t k => XS.icmpNo X266.here hx rfl (hb hby at_145) rfl (teq (own_addN j1265 j2265)).2 k) ?_
  refine own_stH (mkF m 149 #[iv p1, iv p2, iv p3, rv b252, iv (1 : Int32), iv (Int32.ofNat (j1265 + j2265))] [(.int (1 : Int32))]) (fun t k => XS.iconst X266.here hx rfl (hb hby at_148) k) ?_
  refine own_stH (mkF m 153 #[iv p1, iv p2, iv p3, rv b252, iv (1 : Int32), iv (Int32.ofNat (j1265 + j2265))] [(.int (1 : Int32))]) (fun t k => XS.goto X266.here hx rfl (pc0 := 149) (pc' := 153) rfl (hb hby at_149) (by decide) (by decide) k) ?_
  refine own_stH (mkF m 155 #[iv p1, iv p2, iv p3, rv b252, iv (1 : Int32), iv (Int32.ofNat (j1265 + j2265))] [(.int (1 : Int32)), (.int (1 : Int32))]) (fun t k => XS.iload X266.here hx rfl (hb hby at_153) rfl k) ?_
  refine own_stH (mkF m 156 #[iv p1, iv p2, iv p3, rv b252, iv (1 : Int32), iv (Int32.ofNat (j1265 + j2265))] [(.int ((1 : Int32) &&& (1 : Int32)))]) (fun t k => XS.iand X266.here hx rfl (hb hby at_155) rfl k) ?_
  rw [show ((1 : Int32) &&& (1 : Int32)) = (1 : Int32) from by decide]
  refine own_stH (mkF m 158 #[iv p1, iv p2, iv p3, rv b252, iv (1 : Int32), iv (Int32.ofNat (j1265 + j2265))] []) (fun t k => XS.istore X266.here hx rfl (hb hby at_156) rfl (l' := #[iv p1, iv p2, iv p3, rv b252, iv (1 : Int32), iv (Int32.ofNat (j1265 + j2265))]) rfl k) ?_
  refine own_stH (mkF m 160 #[iv p1, iv p2, iv p3, rv b252, iv (1 : Int32), iv (Int32.ofNat (j1265 + j2265))] [(.int (Int32.ofNat (j1265 + j2265)))]) (fun t k => XS.iload X266.here hx rfl (hb hby at_158) rfl k) ?_
  refine own_stH (mkF m 161 #[iv p1, iv p2, iv p3, rv b252, iv (1 : Int32), iv (Int32.ofNat (j1265 + j2265))] [(.ref b252), (.int (Int32.ofNat (j1265 + j2265)))]) (fun t k => XS.aloadN X266.here hx rfl (hb hby at_160) rfl rfl k) ?_
  refine own_stH (mkF m 162 #[iv p1, iv p2, iv p3, rv b252, iv (1 : Int32), iv (Int32.ofNat (j1265 + j2265))] [(.int p1), (.ref b252), (.int (Int32.ofNat (j1265 + j2265)))]) (fun t k => XS.iloadN X266.here hx rfl (hb hby at_161) rfl k) ?_
  refine own_stH (mkF m 164 #[iv p1, iv p2, iv p3, rv b252, iv (1 : Int32), iv (Int32.ofNat (j1265 + j2265))] [(.int (6 : Int32)), (.int p1), (.ref b252), (.int (Int32.ofNat (j1265 + j2265)))]) (fun t k => XS.bipush X266.here hx rfl (hb hby at_162) k) ?_
  refine own_stH (mkF m 165 #[iv p1, iv p2, iv p3, rv b252, iv (1 : Int32), iv (Int32.ofNat (j1265 + j2265))] [(.int ((p1.toUInt32 >>> ((6 : Int32) &&& 31).toUInt32).toInt32)), (.ref b252), (.int (Int32.ofNat (j1265 + j2265)))]) (fun t k => XS.iushr X266.here hx rfl (hb hby at_164) rfl k) ?_
  refine own_stH (mkF m 166 #[iv p1, iv p2, iv p3, rv b252, iv (1 : Int32), iv (Int32.ofNat (j1265 + j2265))] [(.int (3 : Int32)), (.int ((p1.toUInt32 >>> ((6 : Int32) &&& 31).toUInt32).toInt32)), (.ref b252), (.int (Int32.ofNat (j1265 + j2265)))]) (fun t k => XS.iconst X266.here hx rfl (hb hby at_165) k) ?_
  refine own_stH (mkF m 167 #[iv p1, iv p2, iv p3, rv b252, iv (1 : Int32), iv (Int32.ofNat (j1265 + j2265))] [(.int (((p1.toUInt32 >>> ((6 : Int32) &&& 31).toUInt32).toInt32) &&& (3 : Int32))), (.ref b252), (.int (Int32.ofNat (j1265 + j2265)))]) (fun t k => XS.iand X266.here hx rfl (hb hby at_166) rfl k) ?_
  refine own_stH (mkF m 168 #[iv p1, iv p2, iv p3, rv b252, iv (1 : Int32), iv (Int32.ofNat (j1265 + j2265))] [(.int p3), (.int (((p1.toUInt32 >>> ((6 : Int32) &&& 31).toUInt32).toInt32) &&& (3 : Int32))), (.ref b252), (.int (Int32.ofNat (j1265 + j2265)))]) (fun t k => XS.iloadN X266.here hx rfl (hb hby at_167) rfl k) ?_
  refine own_stH (mkF m 170 #[iv p1, iv p2, iv p3, rv b252, iv (1 : Int32), iv (Int32.ofNat (j1265 + j2265))] [(.int (16 : Int32)), (.int p3), (.int (((p1.toUInt32 >>> ((6 : Int32) &&& 31).toUInt32).toInt32) &&& (3 : Int32))), (.ref b252), (.int (Int32.ofNat (j1265 + j2265)))]) (fun t k => XS.bipush X266.here hx rfl (hb hby at_168) k) ?_
  refine own_stH (mkF m 171 #[iv p1, iv p2, iv p3, rv b252, iv (1 : Int32), iv (Int32.ofNat (j1265 + j2265))] [(.int ((p3.toUInt32 >>> ((16 : Int32) &&& 31).toUInt32).toInt32)), (.int (((p1.toUInt32 >>> ((6 : Int32) &&& 31).toUInt32).toInt32) &&& (3 : Int32))), (.ref b252), (.int (Int32.ofNat (j1265 + j2265)))]) (fun t k => XS.iushr X266.here hx rfl (hb hby at_170) rfl k) ?_
  obtain ⟨_, _, ⟨T267, L267, k267, n267⟩, -, X267, ⟨Lc267, hQ267, l267, y267, z267⟩, st267⟩ := Jvm.LawKit.callS X266 hx (y := (⟨"com/example/shaper/shaper/core/ConfigProblemsCountPinLaw", "str", "(I)Ljava/lang/String;"⟩ : MethodName)) hown (mvT hZ (hw_53 hw)) (mvT hZ (hw_54 hw)) (mvT hZ (hw_55 hw)) (mvT hZ (hw_56 hw)) (by decide) (backOf (W := 3) (own_rm8 l Z a0 hw [] ((p3.toUInt32 >>> ((16 : Int32) &&& 31).toUInt32).toInt32) wc wD kD T265.heap n0 Z265 O265 SS) hZ (hw_56 hw) (hw_55 hw) (by decide) (by decide)) (g := (mkF m 171 #[iv p1, iv p2, iv p3, rv b252, iv (1 : Int32), iv (Int32.ofNat (j1265 + j2265))] [(.int ((p3.toUInt32 >>> ((16 : Int32) &&& 31).toUInt32).toInt32)), (.int (((p1.toUInt32 >>> ((6 : Int32) &&& 31).toUInt32).toInt32) &&& (3 : Int32))), (.ref b252), (.int (Int32.ofNat (j1265 + j2265)))])) rfl (by rw [hml]; rfl) (argsL := [(.int ((p3.toUInt32 >>> ((16 : Int32) &&& 31).toUInt32).toInt32))]) (rest := [(.int (((p1.toUInt32 >>> ((6 : Int32) &&& 31).toUInt32).toInt32) &&& (3 : Int32))), (.ref b252), (.int (Int32.ofNat (j1265 + j2265)))]) (lenOf pd_29 rfl) rfl (by show 2 * 0 + _ ≤ _; exact Nat.le_of_eq rfl) (hb hby at_171) (fun _ _ => ⟨rfl, e266, (by decide : 45 + 2 ≤ _), (by decide : 554 + 5 ≤ _)⟩)
  dsimp only [Pt.U, Pt.locs, Pt.cells, Pt.slots] at X267 l267 y267 z267 st267 hQ267
  subst l267 y267 z267
  obtain ⟨bb267, hQ267⟩ := hQ267
  obtain ⟨sa267, ba267, kb267, rfl, Nq267, K267, ga267, gb267, ne267, Ex267, Fv267, Fc267, V267⟩ := hQ267
  have N267 := Fr.app N266 Nq267
  have g_sa267 : n0 ≤ sa267 := Nat.le_trans Z265 ga267
  have ne_b252_sa267 : b252 ≠ sa267 := Nat.ne_of_lt (Nat.lt_of_lt_of_le (own_CPexa P265).lt ga267)
  have g_ba267 : n0 ≤ ba267 := Nat.le_trans Z265 gb267
  have ne_b252_ba267 : b252 ≠ ba267 := Nat.ne_of_lt (Nat.lt_of_lt_of_le (own_CPexa P265).lt gb267)
  have C267 : CHr Z own_EL T265.vm T265.heap T265.vm T267.heap := CHr.keep K267 sf0 CR265.1
  have CR267 := CR265.trans C267
  have kz267 : _ ≤ T267.heap.size := Nat.le_trans (Nat.le_refl T265.heap.size) K267.1
  have Z267 : n0 ≤ T267.heap.size := Nat.le_trans Z265 K267.1
  have O267 : Old Z n0 T267.heap := O265.keep K267 all0
  have f26_Prd_b252 : own_CP Z wD T267.heap n0 b252 j1265 j2265 g1265 g2265 := (own_CPkeep P265 K267)
  have f27_Exa_b252 : Exa Z T267.heap b252 "com/example/shaper/shaper/core/ConfigProblems" := ((own_CPexa P265).keep K267)
  refine own_stepH (g' := (mkF m 174 #[iv p1, iv p2, iv p3, rv b252, iv (1 : Int32), iv (Int32.ofNat (j1265 + j2265))] [(.ref sa267), (.int (((p1.toUInt32 >>> ((6 : Int32) &&& 31).toUInt32).toInt32) &&& (3 : Int32))), (.ref b252), (.int (Int32.ofNat (j1265 + j2265)))])) st267 ?_
  refine own_stH (mkF m 175 #[iv p1, iv p2, iv p3, rv b252, iv (1 : Int32), iv (Int32.ofNat (j1265 + j2265))] [(.int p3), (.ref sa267), (.int (((p1.toUInt32 >>> ((6 : Int32) &&& 31).toUInt32).toInt32) &&& (3 : Int32))), (.ref b252), (.int (Int32.ofNat (j1265 + j2265)))]) (fun t k => XS.iloadN X267.here hx rfl (hb hby at_174) rfl k) ?_
  refine own_stH (mkF m 177 #[iv p1, iv p2, iv p3, rv b252, iv (1 : Int32), iv (Int32.ofNat (j1265 + j2265))] [(.int (24 : Int32)), (.int p3), (.ref sa267), (.int (((p1.toUInt32 >>> ((6 : Int32) &&& 31).toUInt32).toInt32) &&& (3 : Int32))), (.ref b252), (.int (Int32.ofNat (j1265 + j2265)))]) (fun t k => XS.bipush X267.here hx rfl (hb hby at_175) k) ?_
  refine own_stH (mkF m 178 #[iv p1, iv p2, iv p3, rv b252, iv (1 : Int32), iv (Int32.ofNat (j1265 + j2265))] [(.int ((p3.toUInt32 >>> ((24 : Int32) &&& 31).toUInt32).toInt32)), (.ref sa267), (.int (((p1.toUInt32 >>> ((6 : Int32) &&& 31).toUInt32).toInt32) &&& (3 : Int32))), (.ref b252), (.int (Int32.ofNat (j1265 + j2265)))]) (fun t k => XS.iushr X267.here hx rfl (hb hby at_177) rfl k) ?_
  obtain ⟨_, _, ⟨T268, L268, k268, n268⟩, -, X268, ⟨Lc268, hQ268, l268, y268, z268⟩, st268⟩ := Jvm.LawKit.callS X267 hx (y := (⟨"com/example/shaper/shaper/core/ConfigProblemsCountPinLaw", "str", "(I)Ljava/lang/String;"⟩ : MethodName)) hown (mvT hZ (hw_53 hw)) (mvT hZ (hw_54 hw)) (mvT hZ (hw_55 hw)) (mvT hZ (hw_56 hw)) (by decide) (backOf (W := 4) (own_rm8 l Z a0 hw [] ((p3.toUInt32 >>> ((24 : Int32) &&& 31).toUInt32).toInt32) wc wD kD T267.heap n0 Z267 O267 SS) hZ (hw_56 hw) (hw_55 hw) (by decide) (by decide)) (g := (mkF m 178 #[iv p1, iv p2, iv p3, rv b252, iv (1 : Int32), iv (Int32.ofNat (j1265 + j2265))] [(.int ((p3.toUInt32 >>> ((24 : Int32) &&& 31).toUInt32).toInt32)), (.ref sa267), (.int (((p1.toUInt32 >>> ((6 : Int32) &&& 31).toUInt32).toInt32) &&& (3 : Int32))), (.ref b252), (.int (Int32.ofNat (j1265 + j2265)))])) rfl (by rw [hml]; rfl) (argsL := [(.int ((p3.toUInt32 >>> ((24 : Int32) &&& 31).toUInt32).toInt32))]) (rest := [(.ref sa267), (.int (((p1.toUInt32 >>> ((6 : Int32) &&& 31).toUInt32).toInt32) &&& (3 : Int32))), (.ref b252), (.int (Int32.ofNat (j1265 + j2265)))]) (lenOf pd_29 rfl) rfl (by show 2 * 0 + _ ≤ _; exact Nat.le_of_eq rfl) (hb hby at_178) (fun _ _ => ⟨rfl, rfl, (by decide : 47 + 2 ≤ _), (by decide : 559 + 5 ≤ _)⟩)
  dsimp only [Pt.U, Pt.locs, Pt.cells, Pt.slots] at X268 l268 y268 z268 st268 hQ268
  subst l268 y268 z268
  obtain ⟨bb268, hQ268⟩ := hQ268
  obtain ⟨sa268, ba268, kb268, rfl, Nq268, K268, ga268, gb268, ne268, Ex268, Fv268, Fc268, V268⟩ := hQ268
  have N268 := Fr.app N267 Nq268
  have g_sa268 : n0 ≤ sa268 := Nat.le_trans Z267 ga268
  have ne_b252_sa268 : b252 ≠ sa268 := Nat.ne_of_lt (Nat.lt_of_lt_of_le f27_Exa_b252.lt ga268)
  have ne_sa267_sa268 : sa267 ≠ sa268 := Nat.ne_of_lt (Nat.lt_of_lt_of_le Ex267.lt ga268)
  have ne_ba267_sa268 : ba267 ≠ sa268 := Nat.ne_of_lt (Nat.lt_of_lt_of_le V267.lt ga268)
  have g_ba268 : n0 ≤ ba268 := Nat.le_trans Z267 gb268
  have ne_b252_ba268 : b252 ≠ ba268 := Nat.ne_of_lt (Nat.lt_of_lt_of_le f27_Exa_b252.lt gb268)
  have ne_sa267_ba268 : sa267 ≠ ba268 := Nat.ne_of_lt (Nat.lt_of_lt_of_le Ex267.lt gb268)
  have ne_ba267_ba268 : ba267 ≠ ba268 := Nat.ne_of_lt (Nat.lt_of_lt_of_le V267.lt gb268)
  have C268 : CHr Z own_EL T265.vm T267.heap T265.vm T268.heap := CHr.keep K268 sf0 CR267.1
  have CR268 := CR267.trans C268
  have kz268 : _ ≤ T268.heap.size := Nat.le_trans kz267 K268.1
  have Z268 : n0 ≤ T268.heap.size := Nat.le_trans Z267 K268.1
  have O268 : Old Z n0 T268.heap := O267.keep K268 all0
  have f28_Prd_b252 : own_CP Z wD T268.heap n0 b252 j1265 j2265 g1265 g2265 := (own_CPkeep f26_Prd_b252 K268)
  have f29_Exa_b252 : Exa Z T268.heap b252 "com/example/shaper/shaper/core/ConfigProblems" := (f27_Exa_b252.keep K268)
  have f30_Exa_sa267 : Exa Z T268.heap sa267 "java/lang/String" := (Ex267.keep K268)
  have f31_Fld_sa267 : Fld Z T268.heap sa267 "java/lang/String" "value" "[B" (.ref ba267) := (Fv267.keep K268 nin0)
  have f32_Fld_sa267 : Fld Z T268.heap sa267 "java/lang/String" "coder" "B" (.int (0 : Int32)) := (Fc267.keep K268 nin0)
  have f33_Arv_ba267 : Arv Z T268.heap ba267 kb267 .byte (1 : Int32) (([bb267]).map Value.int) (.int (0 : Int32)) := (V267.keep K268 nin0)
  refine own_stepH (g' := (mkF m 181 #[iv p1, iv p2, iv p3, rv b252, iv (1 : Int32), iv (Int32.ofNat (j1265 + j2265))] [(.ref sa268), (.ref sa267), (.int (((p1.toUInt32 >>> ((6 : Int32) &&& 31).toUInt32).toInt32) &&& (3 : Int32))), (.ref b252), (.int (Int32.ofNat (j1265 + j2265)))])) st268 ?_
  obtain ⟨_, _, ⟨T269, L269, k269, n269⟩, -, X269, S269, G269, ⟨Lc269, hQ269, l269, y269, z269, C269⟩, st269⟩ := callSS X268 hx (y := (⟨"com/example/shaper/shaper/core/ConfigProblemsCountPinLaw", "step", "(Lcom/example/shaper/shaper/core/ConfigProblems;ILjava/lang/String;Ljava/lang/String;)I"⟩ : MethodName)) hown (mvT hZ (hw_81 hw)) (mvT hZ (hw_82 hw)) (mvT hZ (hw_55 hw)) (mvT hZ (hw_83 hw)) (by decide) (backOfSH (s := s) (vm0 := T265.vm) (W := 1) (own_rm13 l Z a0 hw [] b252 (((p1.toUInt32 >>> ((6 : Int32) &&& 31).toUInt32).toInt32) &&& (3 : Int32)) sa267 sa268 j1265 j2265 g1265 g2265 ba267 kb267 [bb267] ba268 kb268 [bb268] wc wD kD T268.heap n0 Z268 O268 SS hEL (by omega) rfl rfl f28_Prd_b252 f30_Exa_sa267 f31_Fld_sa267 f32_Fld_sa267 f33_Arv_ba267 Ex268 Fv268 Fc268 V268) hZ (hw_83 hw) (hw_55 hw) (by decide) (by decide) hEL CR268.1) (g := (mkF m 181 #[iv p1, iv p2, iv p3, rv b252, iv (1 : Int32), iv (Int32.ofNat (j1265 + j2265))] [(.ref sa268), (.ref sa267), (.int (((p1.toUInt32 >>> ((6 : Int32) &&& 31).toUInt32).toInt32) &&& (3 : Int32))), (.ref b252), (.int (Int32.ofNat (j1265 + j2265)))])) rfl (by rw [hml]; rfl) (argsL := [(.ref b252), (.int (((p1.toUInt32 >>> ((6 : Int32) &&& 31).toUInt32).toInt32) &&& (3 : Int32))), (.ref sa267), (.ref sa268)]) (rest := [(.int (Int32.ofNat (j1265 + j2265)))]) (lenOf pd_30 rfl) rfl (by show 2 * 0 + _ ≤ _; exact Nat.le_of_eq rfl) (hb hby at_181) (fun _ _ => ⟨rfl, rfl, (by decide : 49 + 10 ≤ _), (by decide : 564 + 172 ≤ _)⟩)
  dsimp only [Pt.U, Pt.locs, Pt.cells, Pt.slots] at X269 l269 y269 z269 st269 hQ269 S269 G269 C269
  subst l269 y269 z269
  obtain ⟨X269, S269, hZ, hown⟩ := rebS S265 kz268 X269 S269 (show T268.heap.size ≤ T269.heap.size from G269) hZ hown
  have CR269 := CR268.trans C269
  have gr269 : T268.heap.size ≤ T269.heap.size := C269.2.1
  obtain ⟨r269, j1269, j2269, g1269, g2269, rfl, Nq269, O269, P269, hj269, hr269⟩ := hQ269
  have N269 := Fr.app N268 Nq269
  have Z269 : n0 ≤ T269.heap.size := Nat.le_trans Z268 gr269
  refine own_jumpH (g' := (mkF m 184 #[iv p1, iv p2, iv p3, rv b252, iv (1 : Int32), iv (Int32.ofNat (j1265 + j2265))] [(.int (Int32.ofNat r269)), (.int (Int32.ofNat (j1265 + j2265)))])) st269 ?_
  refine own_stH (mkF m 185 #[iv p1, iv p2, iv p3, rv b252, iv (1 : Int32), iv (Int32.ofNat (j1265 + j2265))] [(.int ((Int32.ofNat (j1265 + j2265)) + (Int32.ofNat r269)))]) (fun t k => XS.iadd X269.here hx rfl (hb hby at_184) rfl k) ?_
  rw [show ((Int32.ofNat (j1265 + j2265)) + (Int32.ofNat r269)) = Int32.ofNat (j1269 + j2269) from own_sum hj269]
  refine own_stH (mkF m 187 #[iv p1, iv p2, iv p3, rv b252, iv (1 : Int32), iv (Int32.ofNat (j1269 + j2269))] []) (fun t k => XS.istore X269.here hx rfl (hb hby at_185) rfl (l' := #[iv p1, iv p2, iv p3, rv b252, iv (1 : Int32), iv (Int32.ofNat (j1269 + j2269))]) rfl k) ?_
  refine own_stH (mkF m 188 #[iv p1, iv p2, iv p3, rv b252, iv (1 : Int32), iv (Int32.ofNat (j1269 + j2269))] [(.ref b252)]) (fun t k => XS.aloadN X269.here hx rfl (hb hby at_187) rfl rfl k) ?_
  obtain ⟨cq270, kq270, q270a, q270b, q270c⟩ := isOf hZ rfl (own_CPexa P269)
  obtain ⟨_, _, ⟨T270, L270, k270, n270⟩, -, X270, ⟨Lc270, hQ270, l270, y270, z270⟩, st270⟩ := X269.virtualBack hx (y := (⟨"com/example/shaper/shaper/core/ConfigProblems", "count", "()I"⟩ : MethodName)) (z := (⟨"com/example/shaper/shaper/core/ConfigProblems", "count", "()I"⟩ : MethodName)) hown (mvT hZ (hw_37 hw)) (mvT hZ (hw_38 hw)) (notFace_of_selects (args := #[]) (mvT hZ (hw_40 hw))) (mvT hZ (hw_40 hw)) (mvT hZ (hw_39 hw)) (by decide) (backOf (W := 0) (own_rm6 l Z a0 hw [] b252 j1269 j2269 g1269 g2269 wD T269.heap n0 Z269 P269) hZ (hw_41 hw) (hw_2 hw) (by decide) (by decide)) q270a q270c (g := (mkF m 188 #[iv p1, iv p2, iv p3, rv b252, iv (1 : Int32), iv (Int32.ofNat (j1269 + j2269))] [(.ref b252)])) rfl (by rw [hml]; rfl) (Steps.refl _) (argsL := []) (rest := []) (lenOf pd_5 rfl) rfl (by show 2 * 0 + _ ≤ _; exact Nat.le_of_eq rfl) (hb hby at_188) (fun _ _ => ⟨rfl, rfl, (by decide : 59 + 0 ≤ _), (by decide : 736 + 0 ≤ _)⟩)
  dsimp only [Pt.U, Pt.locs, Pt.cells, Pt.slots] at X270 l270 y270 z270 st270 hQ270
  subst l270 y270 z270
  obtain ⟨rfl, Nq270, e270⟩ := hQ270
  have N270 := Fr.app N269 Nq270
  refine own_jumpH (g' := (mkF m 191 #[iv p1, iv p2, iv p3, rv b252, iv (1 : Int32), iv (Int32.ofNat (j1269 + j2269))] [(.int (Int32.ofNat j1269 + Int32.ofNat j2269))])) st270 ?_
  refine own_stH (mkF m 193 #[iv p1, iv p2, iv p3, rv b252, iv (1 : Int32), iv (Int32.ofNat (j1269 + j2269))] [(.int (Int32.ofNat (j1269 + j2269))), (.int (Int32.ofNat j1269 + Int32.ofNat j2269))]) (fun t k => XS.iload X270.here hx rfl (hb hby at_191) rfl k) ?_
  refine own_stH (mkF m 196 #[iv p1, iv p2, iv p3, rv b252, iv (1 : Int32), iv (Int32.ofNat (j1269 + j2269))] []) (fun t k => XS.icmpNo X270.here hx rfl (hb hby at_193) rfl (teq (own_addN j1269 j2269)).2 k) ?_
  refine own_stH (mkF m 197 #[iv p1, iv p2, iv p3, rv b252, iv (1 : Int32), iv (Int32.ofNat (j1269 + j2269))] [(.int (1 : Int32))]) (fun t k => XS.iconst X270.here hx rfl (hb hby at_196) k) ?_
  refine own_stH (mkF m 201 #[iv p1, iv p2, iv p3, rv b252, iv (1 : Int32), iv (Int32.ofNat (j1269 + j2269))] [(.int (1 : Int32))]) (fun t k => XS.goto X270.here hx rfl (pc0 := 197) (pc' := 201) rfl (hb hby at_197) (by decide) (by decide) k) ?_
  refine own_stH (mkF m 203 #[iv p1, iv p2, iv p3, rv b252, iv (1 : Int32), iv (Int32.ofNat (j1269 + j2269))] [(.int (1 : Int32)), (.int (1 : Int32))]) (fun t k => XS.iload X270.here hx rfl (hb hby at_201) rfl k) ?_
  refine own_stH (mkF m 204 #[iv p1, iv p2, iv p3, rv b252, iv (1 : Int32), iv (Int32.ofNat (j1269 + j2269))] [(.int ((1 : Int32) &&& (1 : Int32)))]) (fun t k => XS.iand X270.here hx rfl (hb hby at_203) rfl k) ?_
  rw [show ((1 : Int32) &&& (1 : Int32)) = (1 : Int32) from by decide]
  refine own_stH (mkF m 206 #[iv p1, iv p2, iv p3, rv b252, iv (1 : Int32), iv (Int32.ofNat (j1269 + j2269))] []) (fun t k => XS.istore X270.here hx rfl (hb hby at_204) rfl (l' := #[iv p1, iv p2, iv p3, rv b252, iv (1 : Int32), iv (Int32.ofNat (j1269 + j2269))]) rfl k) ?_
  refine own_stH (mkF m 208 #[iv p1, iv p2, iv p3, rv b252, iv (1 : Int32), iv (Int32.ofNat (j1269 + j2269))] [(.int (1 : Int32))]) (fun t k => XS.iload X270.here hx rfl (hb hby at_206) rfl k) ?_
  refine own_retH X270 hlk S269 (own_leE e270 (Nat.le_refl T269.heap.size)) (v := some (.int (1 : Int32))) (fun h => by rw [hret] at h; cases h) (fun fs hr => retN X270 hx (t := .boolean) hret (by simp) (hb hby at_208) hr) ?_ (own_CHend hs0 e270 CR269 (CHv.at X270 hZ hEL CR269.1)) (by decide) (by decide)
  show own_Q0 Z p1 p2 p3 wc wD kD h0 n0 _ T270.heap _
  rw [e270]
  exact ⟨rfl, N270⟩
set_option maxRecDepth 65536 in
set_option maxHeartbeats 40000000 in
theorem own_comes {Post : Tables → Env → Array Value → State → Outcome → State → Prop} (hpost : ∀ tb e args s v u, (limb_1_1.after args s (.returned v) u = true ∧ limb_1_2.after args s (.returned v) u = true ∧ True) → ReturnedEndW s (.returned v) u (Jvm.fieldLocs frame_1_writes args s ++ Jvm.arrayLocs frame_1_arrays args s ++ Jvm.staticLocs frame_1_statics s) 96 2816 → Post tb e args s (.returned v) u) :
    ArmFor flags0 classFile x code maxLocals ret World_1 tables_1 room_1 Calls_1 rest_1 Pre_1 Post := by
  intro l hfl _ _ p e ha hc hk s m args below hf hA hF happ hP
  obtain ⟨hcalls, hrest, hpre⟩ := hP
  obtain ⟨-, -, -, hnamed, -, -, -, hat⟩ := (Spec.applies_iff hf).mp happ
  obtain ⟨hg, hn⟩ := and_e (Cond.before_iff.mp (show (Jvm.Cond.and given_1 narrow_1).before args s = true from hpre))
  obtain ⟨hcnt, hg0⟩ := and_e hg
  obtain ⟨ha0, hg1⟩ := and_e hg0
  obtain ⟨ha1, hg2⟩ := and_e hg1
  obtain ⟨w0, w1, w2, rfl⟩ : ∃ w0 w1 w2 : Value, args = #[w0, w1, w2] := by
    have hs : args.size = 3 := by simpa [Cond.value, given_1] using hcnt
    obtain ⟨L⟩ := args
    match L, hs with
    | [w0, w1, w2], _ => exact ⟨w0, w1, w2, rfl⟩
  have hw := fun d (hd : d ∈ tables_1) => atoms_spec (ws := Jvm.Cond.code x code maxLocals ret :: tables_1) hat d (List.mem_cons_of_mem _ hd)
  have hfit : Fit s := fun {y c} hc i hi => by
    obtain ⟨ha, rfl⟩ := Array.getElem?_eq_some_iff.mp hc
    have q := List.all_eq_true.mp ((Array.all_eq_true_iff_forall_mem.mp hF) _ (Array.getElem_mem ha)) i (List.mem_range.mpr hi)
    simpa [Array.getElem?_eq_getElem hi] using q
  obtain ⟨hsets, hown0⟩ := atoms_of _ (rest_1_c_eq ▸ (show rest_1_c.before _ s = true from hrest))
  obtain ⟨i0, ei0⟩ := is_v ha0
  obtain rfl : w0 = (.int i0) := Option.some.inj ei0
  obtain ⟨i1, ei1⟩ := is_v ha1
  obtain rfl : w1 = (.int i1) := Option.some.inj ei1
  obtain ⟨i2, ei2⟩ := is_v hg2
  obtain rfl : w2 = (.int i2) := Option.some.inj ei2
  obtain ⟨wc, v_wc⟩ := is_v (Cond.before_iff.mp (hsets _ (List.mem_of_getElem? (i := 10) rfl)))
  have S_wc := Sta.start v_wc (Or.inl (hsets _ (List.mem_of_getElem? (i := 9) rfl)))
  have hwc := own_neint v_wc (Cond.before_iff.mp (hsets _ (List.mem_of_getElem? (i := 11) rfl)))
  have hcw := (hsets _ (List.mem_of_getElem? (i := 11) rfl))
  obtain ⟨wD, v_wD⟩ := exa_v (Cond.before_iff.mp (hsets _ (List.mem_of_getElem? (i := 7) rfl)))
  have S_wD := Sta.start v_wD (Or.inr ⟨(hw_11 hw), (hsets _ (List.mem_of_getElem? (i := 2) rfl))⟩)
  obtain ⟨kD, V_wD⟩ := own_arr0 hfit v_wD (Cond.before_iff.mp (hsets _ (List.mem_of_getElem? (i := 6) rfl))) (Cond.before_iff.mp (hsets _ (List.mem_of_getElem? (i := 8) rfl)))
  have SS : own_St s wc wD kD := ⟨S_wc, hwc, S_wD, V_wD⟩
  have hheld : ∀ q ∈ own_EL, Jvm.Lit.constHeld s q.1 q.2 := fun q hq => hcalls.1 q hq
  have hEL : EW s _ own_EL := EW.cons (hw_154 hw) own_txt26.1 (EW.cons (hw_238 hw) own_txt38.1 EW.nil)
  have CH0 := CHv.start hEL hheld (show Jvm.Lit.compactW.before _ s = true from hcw) (hw_71 hw) (hw_67 hw)
  obtain ⟨n, o, h1, h2, h3, _, L, rfl, ⟨rfl, N⟩, -, hq⟩ := own_rm0 l s _ hw tables_1 i0 i1 i2 wc wD kD s.heap s.heap.size (Nat.le_refl _) (Old.start s) SS hEL p e ha hc hk s m _ below hf ((Spec.applies_iff_loose hf).mp happ).1 ⟨rfl, State.Warmed39.refl s, rfl, CH0⟩ trivial
  refine ⟨n, _, h1, h2, h3, hpost _ _ _ _ _ _ ⟨Cond.after_iff.mpr rfl, Cond.after_iff.mpr (eq_i res_at (Term.int_eval (1)) rfl), trivial⟩ ⟨hq.1, hq.2.1, hq.2.2.1, (hq.2.2.2.sift fun y hy => Or.inr (N y hy)).mono (by decide) (by decide)⟩⟩
theorem main_1_1 : Claimed_1_1 := own_comes fun _ _ _ _ _ _ h hF => ⟨h.1, hF⟩
theorem main_1_2 : Claimed_1_2 := own_comes fun _ _ _ _ _ _ h hF => ⟨h.2.1, hF⟩
end Jvm.Pilot.@@N@@
namespace Jvm.Pilot.@@N@@
open Jvm Jvm.ClassFile Sem Op Lib Jvm.Free Jvm.Stand Jvm.Pilot.@@N@@.Jvm.D
/-! MADE BY PROGRAM (witnessworld.py) out of the Statement's table words and the real class files: 32 classes; the members and pool entries that the words name. The judged class is class 1, her method 3. -/
namespace start1
open Jvm.ClassFile
def u (s : String) : CpInfo := .utf8 (stringToUtf16 s)
/-- a pool by its gaps: so many unusable entries, then the entry; so many at the end -/
def gap : Nat → List CpInfo → List CpInfo
  | 0, r => r
  | n + 1, r => .unusable :: gap n r
def poolList (es : List (Nat × CpInfo)) (last : Nat) : List CpInfo := es.foldr (fun e r => gap e.1 (e.2 :: r)) (gap last [])
def pool (es : List (Nat × CpInfo)) (last : Nat) : Array CpInfo := ⟨poolList es last⟩
def fileOf (pool : Array CpInfo) (this : Nat) (attrs : Array Attribute := #[]) (ms : Array MethodInfo := #[]) (fl : Nat := 33) (sup : Nat := 0) (ifs : Array Nat := #[]) (fds : Array FieldInfo := #[]) : ClassFile where
  minorVersion := 0
  majorVersion := 65
  constantPool := pool
  accessFlags := fl
  thisClass := this
  superClass := sup
  interfaces := ifs
  fields := fds
  methods := ms
  attributes := attrs
def plain (name : String) (sup : Option ClassId) : Class where
  name := name
  kind := .ordinary
  loader := none
  accessFlags := 33
  super := sup
  interfaces := #[]
  cf := none
  fields := #[]
  methods := #[]
  instanceTypes := #[]
  staticTypes := #[]
  resolved := #[]
  callSites := []
  init := .initialized
  statics := none
  mirror := none

def pool0 : Array CpInfo := pool [(5, u "<init>"), (0, u "()V"), (1, .class_ 10), (1, u "java/lang/Object")] 113

def k0c0 : Code := { maxStack := 0, maxLocals := 1, code := object_method_1_code, exceptionTable := #[], attributes := #[] }
def k0m0 : Method := { name := "<init>", desc := "()V", sig := { parameters := [], returnType := none }, accessFlags := 1, code := some k0c0 }
/-- java/lang/Object -/
def k0 : Class := { plain "java/lang/Object" none with
  accessFlags := 33
  interfaces := #[]
  cf := some (fileOf pool0 8 #[] #[{ accessFlags := 1, nameIndex := 5, descriptorIndex := 6, attributes := #[] }] 33 0 #[] #[])
  fields := #[]
  methods := #[k0m0]
  instanceTypes := #[]
  staticTypes := #[]
  resolved := Array.replicate 124 none
  statics := none }

def pool1 : Array CpInfo := pool [(2, .class_ 4), (0, .nameAndType 5 6), (0, u "java/lang/Object"), (0, u "<init>"), (0, u "()V"), (0, .methodref 8 9), (0, .class_ 10), (0, .nameAndType 11 12), (0, u "java/lang/String"), (0, u "valueOf"), (0, u "(C)Ljava/lang/String;"), (0, .methodref 14 15), (0, .class_ 16), (0, .nameAndType 17 18), (0, u "com/example/shaper/shaper/core/ConfigProblems"), (0, u "invalid"), (0, u "(Ljava/lang/String;Ljava/lang/String;)V"), (0, .methodref 14 20), (0, .nameAndType 21 22), (0, u "unsupported"), (0, u "(Ljava/lang/String;)V"), (0, .methodref 14 24), (0, .nameAndType 21 18), (0, .methodref 14 3), (0, .methodref 14 27), (0, .nameAndType 28 29), (0, u "count"), (0, u "()I"), (0, .methodref 31 32), (0, .class_ 33), (0, .nameAndType 34 35), (0, u "com/example/shaper/shaper/core/ConfigProblemsCountPinLaw"), (0, u "str"), (0, u "(I)Ljava/lang/String;"), (0, .methodref 31 37), (0, .nameAndType 38 39), (0, u "step"), (0, u "(Lcom/example/shaper/shaper/core/ConfigProblems;ILjava/lang/String;Ljava/lang/String;)I"), (3, u "law"), (0, u "(III)Z")] 2

def k1m0 : Method := { name := "<init>", desc := "()V", sig := { parameters := [], returnType := none }, accessFlags := 2, code := none }
def k1c1 : Code := { maxStack := 2, maxLocals := 1, code := method_2_code, exceptionTable := #[], attributes := #[] }
def k1m1 : Method := { name := "str", desc := "(I)Ljava/lang/String;", sig := { parameters := [.int], returnType := some (.object "java/lang/String") }, accessFlags := 10, code := some k1c1 }
def k1c2 : Code := { maxStack := 3, maxLocals := 4, code := method_3_code, exceptionTable := #[], attributes := #[] }
def k1m2 : Method := { name := "step", desc := "(Lcom/example/shaper/shaper/core/ConfigProblems;ILjava/lang/String;Ljava/lang/String;)I", sig := { parameters := [(.object "com/example/shaper/shaper/core/ConfigProblems"), .int, (.object "java/lang/String"), (.object "java/lang/String")], returnType := some .int }, accessFlags := 10, code := some k1c2 }
def k1c3 : Code := { maxStack := 6, maxLocals := 6, code := code, exceptionTable := #[], attributes := #[] }
def k1m3 : Method := { name := "law", desc := "(III)Z", sig := { parameters := [.int, .int, .int], returnType := some .boolean }, accessFlags := 9, code := some k1c3 }
/-- com/example/shaper/shaper/core/ConfigProblemsCountPinLaw -/
def k1 : Class := { plain "com/example/shaper/shaper/core/ConfigProblemsCountPinLaw" (some 0) with
  accessFlags := 49
  interfaces := #[]
  cf := some (fileOf pool1 31 #[] #[{ accessFlags := 2, nameIndex := 5, descriptorIndex := 6, attributes := #[] }, { accessFlags := 10, nameIndex := 34, descriptorIndex := 35, attributes := #[] }, { accessFlags := 10, nameIndex := 38, descriptorIndex := 39, attributes := #[] }, { accessFlags := 9, nameIndex := 43, descriptorIndex := 44, attributes := #[] }] 49 2 #[] #[])
  fields := #[]
  methods := #[k1m0, k1m1, k1m2, k1m3]
  instanceTypes := #[]
  staticTypes := #[]
  resolved := Array.replicate 47 none
  statics := none }

def pool2 : Array CpInfo := pool [(1, .methodref 2 3), (0, .class_ 4), (0, .nameAndType 5 6), (0, u "java/lang/Object"), (0, u "<init>"), (0, u "()V"), (0, .class_ 8), (0, u "java/util/ArrayList"), (0, .methodref 7 3), (0, .fieldref 11 12), (0, .class_ 13), (0, .nameAndType 14 15), (0, u "com/example/shaper/shaper/core/ConfigProblems"), (0, u "violations"), (0, u "Ljava/util/List;"), (0, .fieldref 11 17), (0, .nameAndType 18 15), (0, u "unsupported"), (0, .class_ 20), (0, u "java/lang/StringBuilder"), (0, .methodref 19 3), (0, .methodref 19 23), (0, .nameAndType 24 25), (0, u "append"), (0, u "(Ljava/lang/String;)Ljava/lang/StringBuilder;"), (0, .string 27), (0, u ": "), (0, .methodref 19 29), (0, .nameAndType 30 31), (0, u "toString"), (0, u "()Ljava/lang/String;"), (0, .interfaceMethodref 33 34), (0, .class_ 35), (0, .nameAndType 36 37), (0, u "java/util/List"), (0, u "add"), (0, u "(Ljava/lang/Object;)Z"), (0, .string 39), (0, u "not supported yet"), (0, .methodref 11 41), (0, .nameAndType 18 42), (0, u "(Ljava/lang/String;Ljava/lang/String;)V"), (16, u "(Ljava/lang/String;)V"), (5, u "()I"), (56, .interfaceMethodref 33 123), (0, .nameAndType 124 65), (0, u "size"), (37, u "LINE_PREFIX"), (0, u "Ljava/lang/String;"), (5, u "invalid"), (7, u "count")] 7

def k2c0 : Code := { maxStack := 3, maxLocals := 1, code := prog_4_method_1_code, exceptionTable := #[], attributes := #[] }
def k2m0 : Method := { name := "<init>", desc := "()V", sig := { parameters := [], returnType := none }, accessFlags := 1, code := some k2c0 }
def k2c1 : Code := { maxStack := 3, maxLocals := 3, code := prog_4_method_2_code, exceptionTable := #[], attributes := #[] }
def k2m1 : Method := { name := "invalid", desc := "(Ljava/lang/String;Ljava/lang/String;)V", sig := { parameters := [(.object "java/lang/String"), (.object "java/lang/String")], returnType := none }, accessFlags := 1, code := some k2c1 }
def k2c2 : Code := { maxStack := 3, maxLocals := 2, code := prog_4_method_3_code, exceptionTable := #[], attributes := #[] }
def k2m2 : Method := { name := "unsupported", desc := "(Ljava/lang/String;)V", sig := { parameters := [(.object "java/lang/String")], returnType := none }, accessFlags := 1, code := some k2c2 }
def k2c3 : Code := { maxStack := 3, maxLocals := 3, code := prog_4_method_4_code, exceptionTable := #[], attributes := #[] }
def k2m3 : Method := { name := "unsupported", desc := "(Ljava/lang/String;Ljava/lang/String;)V", sig := { parameters := [(.object "java/lang/String"), (.object "java/lang/String")], returnType := none }, accessFlags := 1, code := some k2c3 }
def k2c4 : Code := { maxStack := 2, maxLocals := 1, code := prog_4_method_11_code, exceptionTable := #[], attributes := #[] }
def k2m4 : Method := { name := "count", desc := "()I", sig := { parameters := [], returnType := some .int }, accessFlags := 1, code := some k2c4 }
/-- com/example/shaper/shaper/core/ConfigProblems -/
def k2 : Class := { plain "com/example/shaper/shaper/core/ConfigProblems" (some 0) with
  accessFlags := 49
  interfaces := #[]
  cf := some (fileOf pool2 11 #[] #[{ accessFlags := 1, nameIndex := 5, descriptorIndex := 6, attributes := #[] }, { accessFlags := 1, nameIndex := 169, descriptorIndex := 42, attributes := #[] }, { accessFlags := 1, nameIndex := 18, descriptorIndex := 59, attributes := #[] }, { accessFlags := 1, nameIndex := 18, descriptorIndex := 42, attributes := #[] }, { accessFlags := 1, nameIndex := 177, descriptorIndex := 65, attributes := #[] }] 49 2 #[] #[{ accessFlags := 26, nameIndex := 162, descriptorIndex := 163, attributes := #[] }, { accessFlags := 18, nameIndex := 14, descriptorIndex := 15, attributes := #[] }, { accessFlags := 18, nameIndex := 18, descriptorIndex := 15, attributes := #[] }])
  fields := #[{ name := "LINE_PREFIX", type := (.object "java/lang/String"), accessFlags := 26, slot := 0, constantValue := 0 }, { name := "violations", type := (.object "java/util/List"), accessFlags := 18, slot := 0, constantValue := 0 }, { name := "unsupported", type := (.object "java/util/List"), accessFlags := 18, slot := 1, constantValue := 0 }]
  methods := #[k2m0, k2m1, k2m2, k2m3, k2m4]
  instanceTypes := #[(.object "java/util/List"), (.object "java/util/List")]
  staticTypes := #[(.object "java/lang/String")]
  resolved := Array.replicate 185 none
  statics := none }

def pool3 : Array CpInfo := pool [(8, .class_ 10), (1, u "java/lang/Iterable"), (24, .class_ 36), (0, u "java/lang/Object")] 25

/-- java/lang/Iterable -/
def k3 : Class := { plain "java/lang/Iterable" (some 0) with
  accessFlags := 1537
  interfaces := #[]
  cf := some (fileOf pool3 8 #[] #[] 1537 35 #[] #[])
  fields := #[]
  methods := #[]
  instanceTypes := #[]
  staticTypes := #[]
  resolved := Array.replicate 62 none
  statics := none }

def pool4 : Array CpInfo := pool [(10, .class_ 12), (1, u "java/util/Collection"), (47, .class_ 61), (0, u "java/lang/Object"), (0, .class_ 63), (0, u "java/lang/Iterable")] 51

/-- java/util/Collection -/
def k4 : Class := { plain "java/util/Collection" (some 0) with
  accessFlags := 1537
  interfaces := #[3]
  cf := some (fileOf pool4 10 #[] #[] 1537 60 #[62] #[])
  fields := #[]
  methods := #[]
  instanceTypes := #[]
  staticTypes := #[]
  resolved := Array.replicate 115 none
  statics := none }

def pool5 : Array CpInfo := pool [(1, .methodref 2 3), (0, .class_ 4), (0, .nameAndType 5 6), (0, u "java/lang/Object"), (0, u "<init>"), (0, u "()V"), (1, .class_ 10), (1, u "java/util/AbstractCollection"), (66, .class_ 78), (0, u "java/util/Collection")] 81

def k5c0 : Code := { maxStack := 1, maxLocals := 1, code := jdk_22_method_1_code, exceptionTable := #[], attributes := #[] }
def k5m0 : Method := { name := "<init>", desc := "()V", sig := { parameters := [], returnType := none }, accessFlags := 4, code := some k5c0 }
/-- java/util/AbstractCollection -/
def k5 : Class := { plain "java/util/AbstractCollection" (some 0) with
  accessFlags := 1057
  interfaces := #[4]
  cf := some (fileOf pool5 8 #[] #[{ accessFlags := 4, nameIndex := 5, descriptorIndex := 6, attributes := #[] }] 1057 2 #[77] #[])
  fields := #[]
  methods := #[k5m0]
  instanceTypes := #[]
  staticTypes := #[]
  resolved := Array.replicate 160 none
  statics := none }

def pool6 : Array CpInfo := pool [(8, .class_ 10), (1, u "java/util/SequencedCollection"), (15, .class_ 27), (0, u "java/lang/Object"), (0, .class_ 29), (0, u "java/util/Collection")] 27

/-- java/util/SequencedCollection -/
def k6 : Class := { plain "java/util/SequencedCollection" (some 0) with
  accessFlags := 1537
  interfaces := #[4]
  cf := some (fileOf pool6 8 #[] #[] 1537 26 #[28] #[])
  fields := #[]
  methods := #[]
  instanceTypes := #[]
  staticTypes := #[]
  resolved := Array.replicate 57 none
  statics := none }

def pool7 : Array CpInfo := pool [(8, .class_ 10), (1, u "java/util/List"), (49, u "add"), (3, u "(Ljava/lang/Object;)Z"), (14, u "size"), (0, u "()I"), (22, .class_ 104), (0, u "java/lang/Object"), (15, .class_ 121), (0, u "java/util/SequencedCollection")] 129

def k7m0 : Method := { name := "size", desc := "()I", sig := { parameters := [], returnType := some .int }, accessFlags := 1025, code := none }
def k7m1 : Method := { name := "add", desc := "(Ljava/lang/Object;)Z", sig := { parameters := [(.object "java/lang/Object")], returnType := some .boolean }, accessFlags := 1025, code := none }
/-- java/util/List -/
def k7 : Class := { plain "java/util/List" (some 0) with
  accessFlags := 1537
  interfaces := #[6]
  cf := some (fileOf pool7 8 #[] #[{ accessFlags := 1025, nameIndex := 79, descriptorIndex := 80, attributes := #[] }, { accessFlags := 1025, nameIndex := 60, descriptorIndex := 64, attributes := #[] }] 1537 103 #[120] #[])
  fields := #[]
  methods := #[k7m0, k7m1]
  instanceTypes := #[]
  staticTypes := #[]
  resolved := Array.replicate 251 none
  statics := none }

def pool8 : Array CpInfo := pool [(1, .methodref 2 3), (0, .class_ 4), (0, .nameAndType 5 6), (0, u "java/util/AbstractCollection"), (0, u "<init>"), (0, u "()V"), (0, .fieldref 8 9), (0, .class_ 10), (0, .nameAndType 11 12), (0, u "java/util/AbstractList"), (0, u "modCount"), (0, u "I"), (64, .class_ 78), (0, u "java/util/AbstractList$Itr"), (3, .class_ 83), (0, u "java/util/AbstractList$ListItr"), (9, .class_ 94), (0, u "java/util/AbstractList$RandomAccessSubList"), (3, .class_ 99), (0, u "java/util/AbstractList$SubList"), (33, .class_ 134), (0, u "java/util/List"), (73, .class_ 209), (0, u "java/util/AbstractList$SubList$1"), (0, .class_ 211), (0, u "java/util/AbstractList$RandomAccessSpliterator")] 6

def k8c0 : Code := { maxStack := 2, maxLocals := 1, code := jdk_39_method_1_code, exceptionTable := #[], attributes := #[] }
def k8m0 : Method := { name := "<init>", desc := "()V", sig := { parameters := [], returnType := none }, accessFlags := 4, code := some k8c0 }
/-- java/util/AbstractList -/
def k8 : Class := { plain "java/util/AbstractList" (some 5) with
  accessFlags := 1057
  interfaces := #[7]
  cf := some (fileOf pool8 8 #[.nestMembers #[93, 98, 208, 210, 82, 77]] #[{ accessFlags := 4, nameIndex := 5, descriptorIndex := 6, attributes := #[] }] 1057 2 #[133] #[{ accessFlags := 132, nameIndex := 11, descriptorIndex := 12, attributes := #[] }])
  fields := #[{ name := "modCount", type := .int, accessFlags := 132, slot := 0, constantValue := 0 }]
  methods := #[k8m0]
  instanceTypes := #[.int]
  staticTypes := #[]
  resolved := Array.replicate 218 none
  statics := none }

def pool9 : Array CpInfo := pool [(1, .class_ 2), (0, u "java/util/RandomAccess"), (0, .class_ 4), (0, u "java/lang/Object")] 2

/-- java/util/RandomAccess -/
def k9 : Class := { plain "java/util/RandomAccess" (some 0) with
  accessFlags := 1537
  interfaces := #[]
  cf := some (fileOf pool9 1 #[] #[] 1537 3 #[] #[])
  fields := #[]
  methods := #[]
  instanceTypes := #[]
  staticTypes := #[]
  resolved := Array.replicate 7 none
  statics := none }

def pool10 : Array CpInfo := pool [(1, .class_ 2), (0, u "java/lang/Cloneable"), (0, .class_ 4), (0, u "java/lang/Object")] 2

/-- java/lang/Cloneable -/
def k10 : Class := { plain "java/lang/Cloneable" (some 0) with
  accessFlags := 1537
  interfaces := #[]
  cf := some (fileOf pool10 1 #[] #[] 1537 3 #[] #[])
  fields := #[]
  methods := #[]
  instanceTypes := #[]
  staticTypes := #[]
  resolved := Array.replicate 7 none
  statics := none }

def pool11 : Array CpInfo := pool [(1, .class_ 2), (0, u "java/io/Serializable"), (0, .class_ 4), (0, u "java/lang/Object")] 2

/-- java/io/Serializable -/
def k11 : Class := { plain "java/io/Serializable" (some 0) with
  accessFlags := 1537
  interfaces := #[]
  cf := some (fileOf pool11 1 #[] #[] 1537 3 #[] #[])
  fields := #[]
  methods := #[]
  instanceTypes := #[]
  staticTypes := #[]
  resolved := Array.replicate 7 none
  statics := none }

def pool12 : Array CpInfo := pool [(1, .methodref 2 3), (0, .class_ 4), (0, .nameAndType 5 6), (0, u "java/util/AbstractList"), (0, u "<init>"), (0, u "()V"), (0, .class_ 8), (0, u "java/lang/Object"), (0, .fieldref 10 11), (0, .class_ 12), (0, .nameAndType 13 14), (0, u "java/util/ArrayList"), (0, u "elementData"), (0, u "[Ljava/lang/Object;"), (2, u "EMPTY_ELEMENTDATA"), (21, .fieldref 10 40), (0, .nameAndType 41 14), (0, u "DEFAULTCAPACITY_EMPTY_ELEMENTDATA"), (5, u "()[Ljava/lang/Object;"), (0, .fieldref 10 49), (0, .nameAndType 50 51), (0, u "size"), (0, u "I"), (11, .fieldref 10 64), (0, .nameAndType 65 51), (0, u "modCount"), (3, .methodref 10 70), (0, .nameAndType 71 72), (0, u "grow"), (0, u "(I)[Ljava/lang/Object;"), (6, .methodref 80 81), (0, .class_ 82), (0, .nameAndType 83 84), (0, u "java/lang/Math"), (0, u "max"), (0, u "(II)I"), (11, u "(Ljava/lang/Object;)Z"), (32, .methodref 10 130), (0, .nameAndType 71 47), (0, .methodref 10 132), (0, .nameAndType 133 134), (0, u "add"), (0, u "(Ljava/lang/Object;[Ljava/lang/Object;I)V"), (13, .class_ 149), (0, u "java/util/List"), (36, u "()I"), (75, .class_ 263), (0, u "java/util/ArrayList$ListItr"), (3, .class_ 268), (0, u "java/util/ArrayList$Itr"), (7, .class_ 277), (0, u "java/util/ArrayList$SubList"), (12, .class_ 291), (0, u "java/util/ArrayList$ArrayListSpliterator"), (37, .class_ 330), (0, u "java/util/RandomAccess"), (0, .class_ 332), (0, u "java/lang/Cloneable"), (0, .class_ 334), (0, u "java/io/Serializable"), (0, u "serialVersionUID"), (0, u "J"), (3, u "DEFAULT_CAPACITY"), (159, .class_ 501), (0, u "java/util/ArrayList$SubList$2"), (0, .class_ 503), (0, u "java/util/ArrayList$SubList$1")] 5

def k12c0 : Code := { maxStack := 2, maxLocals := 1, code := jdk_38_method_2_code, exceptionTable := #[], attributes := #[] }
def k12m0 : Method := { name := "<init>", desc := "()V", sig := { parameters := [], returnType := none }, accessFlags := 1, code := some k12c0 }
def k12c1 : Code := { maxStack := 4, maxLocals := 4, code := jdk_38_method_6_code, exceptionTable := #[], attributes := #[] }
def k12m1 : Method := { name := "grow", desc := "(I)[Ljava/lang/Object;", sig := { parameters := [.int], returnType := some (.array (.object "java/lang/Object")) }, accessFlags := 2, code := some k12c1 }
def k12c2 : Code := { maxStack := 3, maxLocals := 1, code := jdk_38_method_7_code, exceptionTable := #[], attributes := #[] }
def k12m2 : Method := { name := "grow", desc := "()[Ljava/lang/Object;", sig := { parameters := [], returnType := some (.array (.object "java/lang/Object")) }, accessFlags := 2, code := some k12c2 }
def k12c3 : Code := { maxStack := 1, maxLocals := 1, code := jdk_38_method_8_code, exceptionTable := #[], attributes := #[] }
def k12m3 : Method := { name := "size", desc := "()I", sig := { parameters := [], returnType := some .int }, accessFlags := 1, code := some k12c3 }
def k12c4 : Code := { maxStack := 3, maxLocals := 4, code := jdk_38_method_24_code, exceptionTable := #[], attributes := #[] }
def k12m4 : Method := { name := "add", desc := "(Ljava/lang/Object;[Ljava/lang/Object;I)V", sig := { parameters := [(.object "java/lang/Object"), (.array (.object "java/lang/Object")), .int], returnType := none }, accessFlags := 2, code := some k12c4 }
def k12c5 : Code := { maxStack := 4, maxLocals := 2, code := jdk_38_method_25_code, exceptionTable := #[], attributes := #[] }
def k12m5 : Method := { name := "add", desc := "(Ljava/lang/Object;)Z", sig := { parameters := [(.object "java/lang/Object")], returnType := some .boolean }, accessFlags := 1, code := some k12c5 }
/-- java/util/ArrayList -/
def k12 : Class := { plain "java/util/ArrayList" (some 8) with
  accessFlags := 33
  interfaces := #[7, 9, 10, 11]
  cf := some (fileOf pool12 10 #[.nestMembers #[290, 276, 500, 502, 262, 267]] #[{ accessFlags := 1, nameIndex := 5, descriptorIndex := 6, attributes := #[] }, { accessFlags := 2, nameIndex := 71, descriptorIndex := 72, attributes := #[] }, { accessFlags := 2, nameIndex := 71, descriptorIndex := 47, attributes := #[] }, { accessFlags := 1, nameIndex := 50, descriptorIndex := 186, attributes := #[] }, { accessFlags := 2, nameIndex := 133, descriptorIndex := 134, attributes := #[] }, { accessFlags := 1, nameIndex := 133, descriptorIndex := 96, attributes := #[] }] 33 2 #[148, 329, 331, 333] #[{ accessFlags := 26, nameIndex := 335, descriptorIndex := 336, attributes := #[] }, { accessFlags := 26, nameIndex := 340, descriptorIndex := 51, attributes := #[] }, { accessFlags := 26, nameIndex := 17, descriptorIndex := 14, attributes := #[] }, { accessFlags := 26, nameIndex := 41, descriptorIndex := 14, attributes := #[] }, { accessFlags := 128, nameIndex := 13, descriptorIndex := 14, attributes := #[] }, { accessFlags := 2, nameIndex := 50, descriptorIndex := 51, attributes := #[] }])
  fields := #[{ name := "serialVersionUID", type := .long, accessFlags := 26, slot := 0, constantValue := 0 }, { name := "DEFAULT_CAPACITY", type := .int, accessFlags := 26, slot := 1, constantValue := 0 }, { name := "EMPTY_ELEMENTDATA", type := (.array (.object "java/lang/Object")), accessFlags := 26, slot := 2, constantValue := 0 }, { name := "DEFAULTCAPACITY_EMPTY_ELEMENTDATA", type := (.array (.object "java/lang/Object")), accessFlags := 26, slot := 3, constantValue := 0 }, { name := "elementData", type := (.array (.object "java/lang/Object")), accessFlags := 128, slot := 1, constantValue := 0 }, { name := "size", type := .int, accessFlags := 2, slot := 2, constantValue := 0 }]
  methods := #[k12m0, k12m1, k12m2, k12m3, k12m4, k12m5]
  instanceTypes := #[.int, (.array (.object "java/lang/Object")), .int]
  staticTypes := #[.long, .int, (.array (.object "java/lang/Object")), (.array (.object "java/lang/Object"))]
  resolved := Array.replicate 509 none
  statics := some 0 }

def pool13 : Array CpInfo := pool [(1, .class_ 2), (0, u "java/lang/Comparable"), (0, .class_ 4), (0, u "java/lang/Object")] 7

/-- java/lang/Comparable -/
def k13 : Class := { plain "java/lang/Comparable" (some 0) with
  accessFlags := 1537
  interfaces := #[]
  cf := some (fileOf pool13 1 #[] #[] 1537 3 #[] #[])
  fields := #[]
  methods := #[]
  instanceTypes := #[]
  staticTypes := #[]
  resolved := Array.replicate 12 none
  statics := none }

def pool14 : Array CpInfo := pool [(2, .class_ 4), (1, u "java/lang/CharSequence"), (42, .class_ 48), (0, u "java/lang/CharSequence$1CodePointIterator"), (10, .class_ 60), (0, u "java/lang/CharSequence$1CharIterator"), (5, .class_ 67), (0, u "java/lang/Object")] 63

/-- java/lang/CharSequence -/
def k14 : Class := { plain "java/lang/CharSequence" (some 0) with
  accessFlags := 1537
  interfaces := #[]
  cf := some (fileOf pool14 2 #[.nestMembers #[47, 59]] #[] 1537 66 #[] #[])
  fields := #[]
  methods := #[]
  instanceTypes := #[]
  staticTypes := #[]
  resolved := Array.replicate 131 none
  statics := none }

def pool15 : Array CpInfo := pool [(1, .class_ 2), (0, u "java/lang/constant/Constable"), (0, .class_ 4), (0, u "java/lang/Object")] 6

/-- java/lang/constant/Constable -/
def k15 : Class := { plain "java/lang/constant/Constable" (some 0) with
  accessFlags := 1537
  interfaces := #[]
  cf := some (fileOf pool15 1 #[] #[] 1537 3 #[] #[])
  fields := #[]
  methods := #[]
  instanceTypes := #[]
  staticTypes := #[]
  resolved := Array.replicate 11 none
  statics := none }

def pool16 : Array CpInfo := pool [(1, .class_ 2), (0, u "java/lang/constant/ConstantDesc"), (0, .class_ 4), (0, u "java/lang/Object")] 32

/-- java/lang/constant/ConstantDesc -/
def k16 : Class := { plain "java/lang/constant/ConstantDesc" (some 0) with
  accessFlags := 1537
  interfaces := #[]
  cf := some (fileOf pool16 1 #[] #[] 1537 3 #[] #[])
  fields := #[]
  methods := #[]
  instanceTypes := #[]
  staticTypes := #[]
  resolved := Array.replicate 37 none
  statics := none }

def pool17 : Array CpInfo := pool [(1, .methodref 2 3), (0, .class_ 4), (0, .nameAndType 5 6), (0, u "java/lang/Object"), (0, u "<init>"), (0, u "()V"), (2, .fieldref 10 11), (0, .class_ 12), (0, .nameAndType 13 14), (0, u "java/lang/String"), (0, u "value"), (0, u "[B"), (0, .fieldref 10 16), (0, .nameAndType 17 18), (0, u "coder"), (0, u "B"), (2, u "hash"), (0, u "I"), (2, u "hashIsZero"), (0, u "Z"), (11, .fieldref 10 39), (0, .nameAndType 40 26), (0, u "COMPACT_STRINGS"), (12, u "toBytes"), (0, .methodref 55 56), (0, .class_ 57), (0, .nameAndType 58 59), (0, u "java/util/Arrays"), (0, u "copyOfRange"), (0, u "([BII)[B"), (47, .class_ 109), (1, u "java/lang/StringLatin1"), (32, u "()Z"), (50, .class_ 195), (1, u "java/lang/System"), (13, .methodref 10 210), (0, .nameAndType 5 211), (0, u "([BB)V"), (0, .methodref 193 213), (0, .nameAndType 214 215), (0, u "arraycopy"), (0, u "(Ljava/lang/Object;ILjava/lang/Object;II)V"), (118, u "()I"), (0, .methodref 10 336), (0, .nameAndType 17 337), (0, u "()B"), (2, u "()[B"), (28, u "(C)Z"), (119, .methodref 10 490), (0, .nameAndType 5 491), (0, u "(Ljava/lang/AbstractStringBuilder;Ljava/lang/Void;)V"), (1, .nameAndType 494 142), (0, u "isLatin1"), (11, .nameAndType 507 334), (0, u "length"), (24, u "getBytes"), (16, .methodref 550 506), (0, .class_ 551), (0, u "java/lang/AbstractStringBuilder"), (0, .methodref 550 553), (0, .nameAndType 554 340), (0, u "getValue"), (20, .class_ 576), (0, u "java/lang/CharSequence"), (22, u "CASE_INSENSITIVE_ORDER"), (0, u "Ljava/util/Comparator;"), (181, u "valueOf"), (0, u "(C)Ljava/lang/String;"), (37, u "([BIB)V"), (193, .methodref 107 1016), (0, .nameAndType 1017 369), (0, u "canEncode"), (0, .methodref 107 1019), (0, .nameAndType 53 1020), (0, u "(C)[B"), (26, .methodref 550 493), (53, u "serialPersistentFields"), (0, u "[Ljava/io/ObjectStreamField;"), (0, .class_ 1104), (0, u "java/lang/String$CaseInsensitiveComparator"), (1, .class_ 1107), (0, u "java/io/Serializable"), (0, .class_ 1109), (0, u "java/lang/Comparable"), (0, .class_ 1111), (0, u "java/lang/constant/Constable"), (0, .class_ 1113), (0, u "java/lang/constant/ConstantDesc"), (2, u "serialVersionUID"), (0, u "J"), (3, u "REPL"), (0, u "C"), (2, u "LATIN1"), (1, u "UTF16"), (105, u "(Ljava/lang/StringBuilder;)V")] 217

def k17m0 : Method := { name := "<init>", desc := "()V", sig := { parameters := [], returnType := none }, accessFlags := 1, code := none }
def k17c1 : Code := { maxStack := 3, maxLocals := 2, code := jdk_42_method_53_code, exceptionTable := #[], attributes := #[] }
def k17m1 : Method := { name := "<init>", desc := "(Ljava/lang/StringBuilder;)V", sig := { parameters := [(.object "java/lang/StringBuilder")], returnType := none }, accessFlags := 1, code := some k17c1 }
def k17c2 : Code := { maxStack := 2, maxLocals := 1, code := jdk_42_method_54_code, exceptionTable := #[], attributes := #[] }
def k17m2 : Method := { name := "length", desc := "()I", sig := { parameters := [], returnType := some .int }, accessFlags := 1, code := some k17c2 }
def k17c3 : Code := { maxStack := 4, maxLocals := 1, code := jdk_42_method_139_code, exceptionTable := #[], attributes := #[] }
def k17m3 : Method := { name := "valueOf", desc := "(C)Ljava/lang/String;", sig := { parameters := [.char], returnType := some (.object "java/lang/String") }, accessFlags := 9, code := some k17c3 }
def k17c4 : Code := { maxStack := 5, maxLocals := 4, code := jdk_42_method_147_code, exceptionTable := #[], attributes := #[] }
def k17m4 : Method := { name := "getBytes", desc := "([BIB)V", sig := { parameters := [(.array .byte), .int, .byte], returnType := none }, accessFlags := 0, code := some k17c4 }
def k17c5 : Code := { maxStack := 5, maxLocals := 5, code := jdk_42_method_150_code, exceptionTable := #[], attributes := #[] }
def k17m5 : Method := { name := "<init>", desc := "(Ljava/lang/AbstractStringBuilder;Ljava/lang/Void;)V", sig := { parameters := [(.object "java/lang/AbstractStringBuilder"), (.object "java/lang/Void")], returnType := none }, accessFlags := 0, code := some k17c5 }
def k17c6 : Code := { maxStack := 2, maxLocals := 3, code := jdk_42_method_151_code, exceptionTable := #[], attributes := #[] }
def k17m6 : Method := { name := "<init>", desc := "([BB)V", sig := { parameters := [(.array .byte), .byte], returnType := none }, accessFlags := 0, code := some k17c6 }
def k17c7 : Code := { maxStack := 1, maxLocals := 1, code := jdk_42_method_152_code, exceptionTable := #[], attributes := #[] }
def k17m7 : Method := { name := "coder", desc := "()B", sig := { parameters := [], returnType := some .byte }, accessFlags := 0, code := some k17c7 }
/-- java/lang/String -/
def k17 : Class := { plain "java/lang/String" (some 0) with
  accessFlags := 49
  interfaces := #[11, 13, 14, 15, 16]
  cf := some (fileOf pool17 10 #[.nestMembers #[1103]] #[{ accessFlags := 1, nameIndex := 5, descriptorIndex := 6, attributes := #[] }, { accessFlags := 1, nameIndex := 5, descriptorIndex := 1233, attributes := #[] }, { accessFlags := 1, nameIndex := 507, descriptorIndex := 334, attributes := #[] }, { accessFlags := 9, nameIndex := 782, descriptorIndex := 783, attributes := #[] }, { accessFlags := 0, nameIndex := 532, descriptorIndex := 821, attributes := #[] }, { accessFlags := 0, nameIndex := 5, descriptorIndex := 491, attributes := #[] }, { accessFlags := 0, nameIndex := 5, descriptorIndex := 211, attributes := #[] }, { accessFlags := 0, nameIndex := 17, descriptorIndex := 337, attributes := #[] }] 49 2 #[1106, 1108, 575, 1110, 1112] #[{ accessFlags := 18, nameIndex := 13, descriptorIndex := 14, attributes := #[] }, { accessFlags := 18, nameIndex := 17, descriptorIndex := 18, attributes := #[] }, { accessFlags := 2, nameIndex := 21, descriptorIndex := 22, attributes := #[] }, { accessFlags := 2, nameIndex := 25, descriptorIndex := 26, attributes := #[] }, { accessFlags := 26, nameIndex := 1116, descriptorIndex := 1117, attributes := #[] }, { accessFlags := 24, nameIndex := 40, descriptorIndex := 26, attributes := #[] }, { accessFlags := 26, nameIndex := 1101, descriptorIndex := 1102, attributes := #[] }, { accessFlags := 26, nameIndex := 1121, descriptorIndex := 1122, attributes := #[] }, { accessFlags := 25, nameIndex := 599, descriptorIndex := 600, attributes := #[] }, { accessFlags := 24, nameIndex := 1125, descriptorIndex := 18, attributes := #[] }, { accessFlags := 24, nameIndex := 1127, descriptorIndex := 18, attributes := #[] }])
  fields := #[{ name := "value", type := (.array .byte), accessFlags := 18, slot := 0, constantValue := 0 }, { name := "coder", type := .byte, accessFlags := 18, slot := 1, constantValue := 0 }, { name := "hash", type := .int, accessFlags := 2, slot := 2, constantValue := 0 }, { name := "hashIsZero", type := .boolean, accessFlags := 2, slot := 3, constantValue := 0 }, { name := "serialVersionUID", type := .long, accessFlags := 26, slot := 0, constantValue := 0 }, { name := "COMPACT_STRINGS", type := .boolean, accessFlags := 24, slot := 1, constantValue := 0 }, { name := "serialPersistentFields", type := (.array (.object "java/io/ObjectStreamField")), accessFlags := 26, slot := 2, constantValue := 0 }, { name := "REPL", type := .char, accessFlags := 26, slot := 3, constantValue := 0 }, { name := "CASE_INSENSITIVE_ORDER", type := (.object "java/util/Comparator"), accessFlags := 25, slot := 4, constantValue := 0 }, { name := "LATIN1", type := .byte, accessFlags := 24, slot := 5, constantValue := 0 }, { name := "UTF16", type := .byte, accessFlags := 24, slot := 6, constantValue := 0 }]
  methods := #[k17m0, k17m1, k17m2, k17m3, k17m4, k17m5, k17m6, k17m7]
  instanceTypes := #[(.array .byte), .byte, .int, .boolean]
  staticTypes := #[.long, .boolean, (.array (.object "java/io/ObjectStreamField")), .char, (.object "java/util/Comparator"), .byte, .byte]
  resolved := Array.replicate 1451 none
  statics := some 1 }

def pool18 : Array CpInfo := pool [(4, .class_ 6), (1, u "java/lang/Object"), (0, u "<init>"), (0, u "()V"), (5, .class_ 16), (1, u "java/lang/StringLatin1"), (73, u "canEncode"), (14, u "(C)Z"), (15, u "$assertionsDisabled"), (0, u "Z"), (98, .class_ 223), (1, u "java/lang/StringLatin1$LinesSpliterator"), (156, u "toBytes"), (1, u "(C)[B"), (7, .class_ 391), (0, u "java/lang/StringLatin1$CharsSpliterator")] 3

def k18m0 : Method := { name := "<init>", desc := "()V", sig := { parameters := [], returnType := none }, accessFlags := 0, code := none }
def k18c1 : Code := { maxStack := 2, maxLocals := 1, code := jdk_43_method_3_code, exceptionTable := #[], attributes := #[] }
def k18m1 : Method := { name := "canEncode", desc := "(C)Z", sig := { parameters := [.char], returnType := some .boolean }, accessFlags := 9, code := some k18c1 }
def k18c2 : Code := { maxStack := 4, maxLocals := 1, code := jdk_43_method_46_code, exceptionTable := #[], attributes := #[] }
def k18m2 : Method := { name := "toBytes", desc := "(C)[B", sig := { parameters := [.char], returnType := some (.array .byte) }, accessFlags := 9, code := some k18c2 }
/-- java/lang/StringLatin1 -/
def k18 : Class := { plain "java/lang/StringLatin1" (some 0) with
  accessFlags := 48
  interfaces := #[]
  cf := some (fileOf pool18 14 #[.nestMembers #[390, 221]] #[{ accessFlags := 0, nameIndex := 7, descriptorIndex := 8, attributes := #[] }, { accessFlags := 9, nameIndex := 90, descriptorIndex := 105, attributes := #[] }, { accessFlags := 9, nameIndex := 380, descriptorIndex := 382, attributes := #[] }] 48 4 #[] #[{ accessFlags := 4120, nameIndex := 121, descriptorIndex := 122, attributes := #[] }])
  fields := #[{ name := "$assertionsDisabled", type := .boolean, accessFlags := 4120, slot := 0, constantValue := 0 }]
  methods := #[k18m0, k18m1, k18m2]
  instanceTypes := #[]
  staticTypes := #[.boolean]
  resolved := Array.replicate 395 none
  statics := none }

def pool19 : Array CpInfo := pool [(1, .class_ 2), (0, u "java/lang/Appendable"), (0, .class_ 4), (0, u "java/lang/Object")] 9

/-- java/lang/Appendable -/
def k19 : Class := { plain "java/lang/Appendable" (some 0) with
  accessFlags := 1537
  interfaces := #[]
  cf := some (fileOf pool19 1 #[] #[] 1537 3 #[] #[])
  fields := #[]
  methods := #[]
  instanceTypes := #[]
  staticTypes := #[]
  resolved := Array.replicate 14 none
  statics := none }

def pool20 : Array CpInfo := pool [(1, .class_ 2), (0, u "java/lang/String"), (0, .methodref 4 5), (0, .class_ 6), (0, .nameAndType 7 8), (0, u "java/lang/Object"), (0, u "<init>"), (0, u "()V"), (1, .class_ 12), (1, u "java/lang/AbstractStringBuilder"), (0, u "EMPTYVALUE"), (0, u "[B"), (0, .fieldref 10 16), (0, .nameAndType 17 14), (0, u "value"), (0, .fieldref 1 19), (0, .nameAndType 20 21), (0, u "COMPACT_STRINGS"), (0, u "Z"), (0, .fieldref 10 23), (0, .nameAndType 24 25), (0, u "coder"), (0, u "B"), (6, .methodref 1 33), (0, .nameAndType 34 35), (0, u "length"), (0, u "()I"), (3, .integer 2147483647), (0, .methodref 1 41), (0, .nameAndType 24 42), (0, u "()B"), (2, u "append"), (0, u "(Ljava/lang/String;)Ljava/lang/AbstractStringBuilder;"), (1, .class_ 49), (0, u "java/lang/CharSequence"), (19, u "(Ljava/lang/String;)V"), (5, u "maybeLatin1"), (3, .fieldref 10 80), (0, .nameAndType 81 82), (0, u "count"), (0, u "I"), (2, u "isLatin1"), (0, u "()Z"), (13, .methodref 10 101), (0, .nameAndType 102 103), (0, u "ensureCapacityInternal"), (0, u "(I)V"), (0, .methodref 10 105), (0, .nameAndType 106 107), (0, u "newCapacity"), (0, u "(I)I"), (0, .methodref 109 110), (0, .class_ 111), (0, .nameAndType 112 113), (0, u "java/util/Arrays"), (0, u "copyOf"), (0, u "([BI)[B"), (0, .methodref 115 116), (0, .class_ 117), (0, .nameAndType 118 119), (0, u "jdk/internal/util/ArraysSupport"), (0, u "newLength"), (0, u "(III)I"), (88, .methodref 10 209), (0, .nameAndType 210 211), (0, u "putStringAt"), (0, u "(ILjava/lang/String;)V"), (5, u "inflateIfNeededFor"), (2, .nameAndType 221 222), (0, u "getBytes"), (0, u "([BIB)V"), (174, .methodref 10 398), (0, .nameAndType 217 69), (0, .methodref 1 220), (3, u "()[B"), (40, .class_ 445), (0, u "java/lang/Appendable"), (106, u "getValue")] 56

def k20m0 : Method := { name := "<init>", desc := "()V", sig := { parameters := [], returnType := none }, accessFlags := 0, code := none }
def k20c1 : Code := { maxStack := 2, maxLocals := 2, code := jdk_68_method_2_code, exceptionTable := #[], attributes := #[] }
def k20m1 : Method := { name := "<init>", desc := "(I)V", sig := { parameters := [.int], returnType := none }, accessFlags := 0, code := some k20c1 }
def k20c2 : Code := { maxStack := 1, maxLocals := 1, code := jdk_68_method_6_code, exceptionTable := #[], attributes := #[] }
def k20m2 : Method := { name := "length", desc := "()I", sig := { parameters := [], returnType := some .int }, accessFlags := 1, code := some k20c2 }
def k20c3 : Code := { maxStack := 4, maxLocals := 3, code := jdk_68_method_9_code, exceptionTable := #[], attributes := #[] }
def k20m3 : Method := { name := "ensureCapacityInternal", desc := "(I)V", sig := { parameters := [.int], returnType := none }, accessFlags := 2, code := some k20c3 }
def k20c4 : Code := { maxStack := 5, maxLocals := 6, code := jdk_68_method_10_code, exceptionTable := #[], attributes := #[] }
def k20m4 : Method := { name := "newCapacity", desc := "(I)I", sig := { parameters := [.int], returnType := some .int }, accessFlags := 2, code := some k20c4 }
def k20c5 : Code := { maxStack := 3, maxLocals := 3, code := jdk_68_method_22_code, exceptionTable := #[], attributes := #[] }
def k20m5 : Method := { name := "append", desc := "(Ljava/lang/String;)Ljava/lang/AbstractStringBuilder;", sig := { parameters := [(.object "java/lang/String")], returnType := some (.object "java/lang/AbstractStringBuilder") }, accessFlags := 1, code := some k20c5 }
def k20c6 : Code := { maxStack := 1, maxLocals := 1, code := jdk_68_method_64_code, exceptionTable := #[], attributes := #[] }
def k20m6 : Method := { name := "getValue", desc := "()[B", sig := { parameters := [], returnType := some (.array .byte) }, accessFlags := 16, code := some k20c6 }
def k20c7 : Code := { maxStack := 1, maxLocals := 1, code := jdk_68_method_68_code, exceptionTable := #[], attributes := #[] }
def k20m7 : Method := { name := "isLatin1", desc := "()Z", sig := { parameters := [], returnType := some .boolean }, accessFlags := 16, code := some k20c7 }
def k20c8 : Code := { maxStack := 2, maxLocals := 2, code := jdk_68_method_71_code, exceptionTable := #[], attributes := #[] }
def k20m8 : Method := { name := "inflateIfNeededFor", desc := "(Ljava/lang/String;)V", sig := { parameters := [(.object "java/lang/String")], returnType := none }, accessFlags := 2, code := some k20c8 }
def k20c9 : Code := { maxStack := 4, maxLocals := 3, code := jdk_68_method_73_code, exceptionTable := #[], attributes := #[] }
def k20m9 : Method := { name := "putStringAt", desc := "(ILjava/lang/String;)V", sig := { parameters := [.int, (.object "java/lang/String")], returnType := none }, accessFlags := 2, code := some k20c9 }
/-- java/lang/AbstractStringBuilder -/
def k20 : Class := { plain "java/lang/AbstractStringBuilder" (some 0) with
  accessFlags := 1056
  interfaces := #[19, 14]
  cf := some (fileOf pool20 10 #[] #[{ accessFlags := 0, nameIndex := 7, descriptorIndex := 8, attributes := #[] }, { accessFlags := 0, nameIndex := 7, descriptorIndex := 103, attributes := #[] }, { accessFlags := 1, nameIndex := 34, descriptorIndex := 35, attributes := #[] }, { accessFlags := 2, nameIndex := 102, descriptorIndex := 103, attributes := #[] }, { accessFlags := 2, nameIndex := 106, descriptorIndex := 107, attributes := #[] }, { accessFlags := 1, nameIndex := 45, descriptorIndex := 46, attributes := #[] }, { accessFlags := 16, nameIndex := 552, descriptorIndex := 403, attributes := #[] }, { accessFlags := 16, nameIndex := 85, descriptorIndex := 86, attributes := #[] }, { accessFlags := 2, nameIndex := 217, descriptorIndex := 69, attributes := #[] }, { accessFlags := 2, nameIndex := 210, descriptorIndex := 211, attributes := #[] }] 1056 4 #[444, 48] #[{ accessFlags := 0, nameIndex := 17, descriptorIndex := 14, attributes := #[] }, { accessFlags := 0, nameIndex := 24, descriptorIndex := 25, attributes := #[] }, { accessFlags := 0, nameIndex := 75, descriptorIndex := 21, attributes := #[] }, { accessFlags := 0, nameIndex := 81, descriptorIndex := 82, attributes := #[] }, { accessFlags := 26, nameIndex := 13, descriptorIndex := 14, attributes := #[] }])
  fields := #[{ name := "value", type := (.array .byte), accessFlags := 0, slot := 0, constantValue := 0 }, { name := "coder", type := .byte, accessFlags := 0, slot := 1, constantValue := 0 }, { name := "maybeLatin1", type := .boolean, accessFlags := 0, slot := 2, constantValue := 0 }, { name := "count", type := .int, accessFlags := 0, slot := 3, constantValue := 0 }, { name := "EMPTYVALUE", type := (.array .byte), accessFlags := 26, slot := 0, constantValue := 0 }]
  methods := #[k20m0, k20m1, k20m2, k20m3, k20m4, k20m5, k20m6, k20m7, k20m8, k20m9]
  instanceTypes := #[(.array .byte), .byte, .boolean, .int]
  staticTypes := #[(.array .byte)]
  resolved := Array.replicate 609 none
  statics := none }

def pool21 : Array CpInfo := pool [(1, .methodref 2 3), (0, .class_ 4), (0, .nameAndType 5 6), (0, u "java/lang/AbstractStringBuilder"), (0, u "<init>"), (0, u "(I)V"), (11, .class_ 20), (1, u "java/lang/String"), (3, .class_ 26), (1, u "java/lang/StringBuilder"), (0, u "append"), (0, u "(Ljava/lang/String;)Ljava/lang/StringBuilder;"), (0, .methodref 2 30), (0, .nameAndType 27 31), (0, u "(Ljava/lang/String;)Ljava/lang/AbstractStringBuilder;"), (105, .methodref 18 138), (0, .nameAndType 5 139), (0, u "(Ljava/lang/StringBuilder;)V"), (5, u "()V"), (10, u "()I"), (186, .methodref 2 344), (0, .nameAndType 345 156), (0, u "length"), (3, .class_ 350), (0, u "java/lang/Appendable"), (0, .class_ 352), (0, u "java/io/Serializable"), (0, .class_ 354), (0, u "java/lang/Comparable"), (0, .class_ 356), (0, u "java/lang/CharSequence"), (0, u "serialVersionUID"), (0, u "J"), (40, u "toString"), (0, u "()Ljava/lang/String;")] 21

def k21c0 : Code := { maxStack := 2, maxLocals := 1, code := jdk_67_method_1_code, exceptionTable := #[], attributes := #[] }
def k21m0 : Method := { name := "<init>", desc := "()V", sig := { parameters := [], returnType := none }, accessFlags := 1, code := some k21c0 }
def k21c1 : Code := { maxStack := 2, maxLocals := 2, code := jdk_67_method_7_code, exceptionTable := #[], attributes := #[] }
def k21m1 : Method := { name := "append", desc := "(Ljava/lang/String;)Ljava/lang/StringBuilder;", sig := { parameters := [(.object "java/lang/String")], returnType := some (.object "java/lang/StringBuilder") }, accessFlags := 1, code := some k21c1 }
def k21c2 : Code := { maxStack := 3, maxLocals := 1, code := jdk_67_method_42_code, exceptionTable := #[], attributes := #[] }
def k21m2 : Method := { name := "toString", desc := "()Ljava/lang/String;", sig := { parameters := [], returnType := some (.object "java/lang/String") }, accessFlags := 1, code := some k21c2 }
def k21c3 : Code := { maxStack := 1, maxLocals := 1, code := jdk_67_method_93_code, exceptionTable := #[], attributes := #[] }
def k21m3 : Method := { name := "length", desc := "()I", sig := { parameters := [], returnType := some .int }, accessFlags := 4161, code := some k21c3 }
/-- java/lang/StringBuilder -/
def k21 : Class := { plain "java/lang/StringBuilder" (some 20) with
  accessFlags := 49
  interfaces := #[19, 11, 13, 14]
  cf := some (fileOf pool21 24 #[] #[{ accessFlags := 1, nameIndex := 5, descriptorIndex := 145, attributes := #[] }, { accessFlags := 1, nameIndex := 27, descriptorIndex := 28, attributes := #[] }, { accessFlags := 1, nameIndex := 399, descriptorIndex := 400, attributes := #[] }, { accessFlags := 4161, nameIndex := 345, descriptorIndex := 156, attributes := #[] }] 49 2 #[349, 351, 353, 355] #[{ accessFlags := 24, nameIndex := 357, descriptorIndex := 358, attributes := #[] }])
  fields := #[{ name := "serialVersionUID", type := .long, accessFlags := 24, slot := 0, constantValue := 0 }]
  methods := #[k21m0, k21m1, k21m2, k21m3]
  instanceTypes := #[(.array .byte), .byte, .boolean, .int]
  staticTypes := #[.long]
  resolved := Array.replicate 422 none
  statics := none }

def pool22 : Array CpInfo := pool [(2, .class_ 4), (1, u "java/lang/Object"), (0, u "<init>"), (0, u "()V"), (1, .class_ 10), (1, u "java/lang/System"), (0, u "allowSecurityManager"), (0, u "I"), (16, u "cons"), (0, u "Ljava/io/Console;"), (77, .class_ 110), (1, u "java/lang/System$CallersHolder"), (43, u "initialErrStream"), (0, u "Ljava/io/PrintStream;"), (19, u "security"), (0, u "Ljava/lang/SecurityManager;"), (31, .class_ 209), (0, u "java/lang/System$1"), (7, u "props"), (0, u "Ljava/util/Properties;"), (2, u "lineSeparator"), (0, u "Ljava/lang/String;"), (96, .class_ 321), (1, u "java/lang/System$LoggerFinder"), (5, .class_ 328), (0, u "java/lang/System$Logger"), (67, u "err"), (2, u "out"), (91, u "notSupportedJnuEncoding"), (15, u "in"), (17, u "initialIn"), (0, u "Ljava/io/InputStream;"), (35, u "bootLayer"), (0, u "Ljava/lang/ModuleLayer;"), (99, .class_ 664), (0, u "java/lang/System$2"), (9, u "NEVER"), (2, u "MAYBE"), (49, u "arraycopy"), (0, u "(Ljava/lang/Object;ILjava/lang/Object;II)V"), (72, .class_ 802), (0, u "java/lang/System$Logger$Level")] 31

def k22m0 : Method := { name := "<init>", desc := "()V", sig := { parameters := [], returnType := none }, accessFlags := 2, code := none }
def k22m1 : Method := { name := "arraycopy", desc := "(Ljava/lang/Object;ILjava/lang/Object;II)V", sig := { parameters := [(.object "java/lang/Object"), .int, (.object "java/lang/Object"), .int, .int], returnType := none }, accessFlags := 265, code := none }
/-- java/lang/System -/
def k22 : Class := { plain "java/lang/System" (some 0) with
  accessFlags := 49
  interfaces := #[]
  cf := some (fileOf pool22 8 #[.nestMembers #[319, 327, 801, 108, 663, 208]] #[{ accessFlags := 2, nameIndex := 5, descriptorIndex := 6, attributes := #[] }, { accessFlags := 265, nameIndex := 727, descriptorIndex := 728, attributes := #[] }] 49 2 #[] #[{ accessFlags := 25, nameIndex := 507, descriptorIndex := 526, attributes := #[] }, { accessFlags := 25, nameIndex := 399, descriptorIndex := 155, attributes := #[] }, { accessFlags := 25, nameIndex := 396, descriptorIndex := 155, attributes := #[] }, { accessFlags := 10, nameIndex := 525, descriptorIndex := 526, attributes := #[] }, { accessFlags := 26, nameIndex := 674, descriptorIndex := 12, attributes := #[] }, { accessFlags := 26, nameIndex := 677, descriptorIndex := 12, attributes := #[] }, { accessFlags := 10, nameIndex := 11, descriptorIndex := 12, attributes := #[] }, { accessFlags := 74, nameIndex := 175, descriptorIndex := 176, attributes := #[] }, { accessFlags := 10, nameIndex := 491, descriptorIndex := 222, attributes := #[] }, { accessFlags := 74, nameIndex := 29, descriptorIndex := 30, attributes := #[] }, { accessFlags := 74, nameIndex := 154, descriptorIndex := 155, attributes := #[] }, { accessFlags := 10, nameIndex := 217, descriptorIndex := 218, attributes := #[] }, { accessFlags := 10, nameIndex := 221, descriptorIndex := 222, attributes := #[] }, { accessFlags := 8, nameIndex := 562, descriptorIndex := 563, attributes := #[] }])
  fields := #[{ name := "in", type := (.object "java/io/InputStream"), accessFlags := 25, slot := 0, constantValue := 0 }, { name := "out", type := (.object "java/io/PrintStream"), accessFlags := 25, slot := 1, constantValue := 0 }, { name := "err", type := (.object "java/io/PrintStream"), accessFlags := 25, slot := 2, constantValue := 0 }, { name := "initialIn", type := (.object "java/io/InputStream"), accessFlags := 10, slot := 3, constantValue := 0 }, { name := "NEVER", type := .int, accessFlags := 26, slot := 4, constantValue := 0 }, { name := "MAYBE", type := .int, accessFlags := 26, slot := 5, constantValue := 0 }, { name := "allowSecurityManager", type := .int, accessFlags := 10, slot := 6, constantValue := 0 }, { name := "security", type := (.object "java/lang/SecurityManager"), accessFlags := 74, slot := 7, constantValue := 0 }, { name := "notSupportedJnuEncoding", type := (.object "java/lang/String"), accessFlags := 10, slot := 8, constantValue := 0 }, { name := "cons", type := (.object "java/io/Console"), accessFlags := 74, slot := 9, constantValue := 0 }, { name := "initialErrStream", type := (.object "java/io/PrintStream"), accessFlags := 74, slot := 10, constantValue := 0 }, { name := "props", type := (.object "java/util/Properties"), accessFlags := 10, slot := 11, constantValue := 0 }, { name := "lineSeparator", type := (.object "java/lang/String"), accessFlags := 10, slot := 12, constantValue := 0 }, { name := "bootLayer", type := (.object "java/lang/ModuleLayer"), accessFlags := 8, slot := 13, constantValue := 0 }]
  methods := #[k22m0, k22m1]
  instanceTypes := #[]
  staticTypes := #[(.object "java/io/InputStream"), (.object "java/io/PrintStream"), (.object "java/io/PrintStream"), (.object "java/io/InputStream"), .int, .int, .int, (.object "java/lang/SecurityManager"), (.object "java/lang/String"), (.object "java/io/Console"), (.object "java/io/PrintStream"), (.object "java/util/Properties"), (.object "java/lang/String"), (.object "java/lang/ModuleLayer")]
  resolved := Array.replicate 834 none
  statics := none }

def pool23 : Array CpInfo := pool [(2, .class_ 4), (1, u "java/lang/Object"), (0, u "<init>"), (0, u "()V"), (7, .class_ 16), (1, u "java/util/Arrays"), (57, .class_ 76), (1, u "java/util/Arrays$NaturalOrder"), (36, .class_ 115), (1, u "java/util/Arrays$LegacyMergeSort"), (1, u "Z"), (21, u "copyOfRange"), (10, .methodref 151 152), (0, .class_ 153), (0, .nameAndType 154 155), (0, u "java/lang/System"), (0, u "arraycopy"), (0, u "(Ljava/lang/Object;ILjava/lang/Object;II)V"), (146, u "copyOf"), (1, .methodref 305 306), (0, .class_ 307), (0, .nameAndType 308 309), (0, u "java/lang/Math"), (0, u "min"), (0, u "(II)I"), (29, .methodref 14 340), (0, .nameAndType 341 342), (0, u "copyOfRangeByte"), (0, u "([BII)[B"), (0, .methodref 14 344), (0, .nameAndType 345 346), (0, u "checkLength"), (0, u "(II)V"), (28, .class_ 376), (0, u "java/util/Arrays$ArrayList"), (68, u "$assertionsDisabled"), (269, u "MIN_ARRAY_SORT_GRAN"), (0, u "I"), (2, u "INSERTIONSORT_THRESHOLD"), (149, u "([BI)[B"), (105, .class_ 976), (0, u "java/util/Arrays$ArrayItr")] 52

def k23m0 : Method := { name := "<init>", desc := "()V", sig := { parameters := [], returnType := none }, accessFlags := 2, code := none }
def k23c1 : Code := { maxStack := 6, maxLocals := 3, code := jdk_65_method_121_code, exceptionTable := #[], attributes := #[] }
def k23m1 : Method := { name := "copyOf", desc := "([BI)[B", sig := { parameters := [(.array .byte), .int], returnType := some (.array .byte) }, accessFlags := 9, code := some k23c1 }
def k23c2 : Code := { maxStack := 4, maxLocals := 2, code := jdk_65_method_131_code, exceptionTable := #[], attributes := #[] }
def k23m2 : Method := { name := "checkLength", desc := "(II)V", sig := { parameters := [.int, .int], returnType := none }, accessFlags := 10, code := some k23c2 }
def k23c3 : Code := { maxStack := 3, maxLocals := 3, code := jdk_65_method_132_code, exceptionTable := #[], attributes := #[] }
def k23m3 : Method := { name := "copyOfRange", desc := "([BII)[B", sig := { parameters := [(.array .byte), .int, .int], returnType := some (.array .byte) }, accessFlags := 9, code := some k23c3 }
def k23c4 : Code := { maxStack := 6, maxLocals := 5, code := jdk_65_method_133_code, exceptionTable := #[], attributes := #[] }
def k23m4 : Method := { name := "copyOfRangeByte", desc := "([BII)[B", sig := { parameters := [(.array .byte), .int, .int], returnType := some (.array .byte) }, accessFlags := 10, code := some k23c4 }
/-- java/util/Arrays -/
def k23 : Class := { plain "java/util/Arrays" (some 0) with
  accessFlags := 49
  interfaces := #[]
  cf := some (fileOf pool23 14 #[.nestMembers #[975, 375, 113, 74]] #[{ accessFlags := 2, nameIndex := 5, descriptorIndex := 6, attributes := #[] }, { accessFlags := 9, nameIndex := 302, descriptorIndex := 869, attributes := #[] }, { accessFlags := 10, nameIndex := 345, descriptorIndex := 346, attributes := #[] }, { accessFlags := 9, nameIndex := 139, descriptorIndex := 342, attributes := #[] }, { accessFlags := 10, nameIndex := 341, descriptorIndex := 342, attributes := #[] }] 49 2 #[] #[{ accessFlags := 26, nameIndex := 715, descriptorIndex := 716, attributes := #[] }, { accessFlags := 26, nameIndex := 719, descriptorIndex := 716, attributes := #[] }, { accessFlags := 4120, nameIndex := 445, descriptorIndex := 117, attributes := #[] }])
  fields := #[{ name := "MIN_ARRAY_SORT_GRAN", type := .int, accessFlags := 26, slot := 0, constantValue := 0 }, { name := "INSERTIONSORT_THRESHOLD", type := .int, accessFlags := 26, slot := 1, constantValue := 0 }, { name := "$assertionsDisabled", type := .boolean, accessFlags := 4120, slot := 2, constantValue := 0 }]
  methods := #[k23m0, k23m1, k23m2, k23m3, k23m4]
  instanceTypes := #[]
  staticTypes := #[.int, .int, .boolean]
  resolved := Array.replicate 1029 none
  statics := none }

def pool24 : Array CpInfo := pool [(1, .class_ 2), (0, u "java/lang/Math"), (1, .class_ 6), (1, u "java/lang/Object"), (0, u "<init>"), (0, u "()V"), (89, .class_ 100), (1, u "java/lang/Math$RandomNumberGeneratorHolder"), (71, u "negativeZeroFloatBits"), (0, u "J"), (2, u "negativeZeroDoubleBits"), (21, u "max"), (2, u "min"), (43, u "$assertionsDisabled"), (0, u "Z"), (88, u "(II)I"), (2, u "twoToTheDoubleScaleDown"), (0, u "D"), (4, u "twoToTheDoubleScaleUp"), (9, u "E"), (3, u "PI"), (2, u "TAU"), (2, u "DEGREES_TO_RADIANS"), (0, u "RADIANS_TO_DEGREES")] 94

def k24m0 : Method := { name := "<init>", desc := "()V", sig := { parameters := [], returnType := none }, accessFlags := 2, code := none }
def k24c1 : Code := { maxStack := 2, maxLocals := 2, code := jdk_29_method_65_code, exceptionTable := #[], attributes := #[] }
def k24m1 : Method := { name := "max", desc := "(II)I", sig := { parameters := [.int, .int], returnType := some .int }, accessFlags := 9, code := some k24c1 }
def k24c2 : Code := { maxStack := 2, maxLocals := 2, code := jdk_29_method_69_code, exceptionTable := #[], attributes := #[] }
def k24m2 : Method := { name := "min", desc := "(II)I", sig := { parameters := [.int, .int], returnType := some .int }, accessFlags := 9, code := some k24c2 }
/-- java/lang/Math -/
def k24 : Class := { plain "java/lang/Math" (some 0) with
  accessFlags := 49
  interfaces := #[]
  cf := some (fileOf pool24 1 #[.nestMembers #[98]] #[{ accessFlags := 2, nameIndex := 7, descriptorIndex := 8, attributes := #[] }, { accessFlags := 9, nameIndex := 198, descriptorIndex := 335, attributes := #[] }, { accessFlags := 9, nameIndex := 201, descriptorIndex := 335, attributes := #[] }] 49 4 #[] #[{ accessFlags := 25, nameIndex := 354, descriptorIndex := 339, attributes := #[] }, { accessFlags := 25, nameIndex := 358, descriptorIndex := 339, attributes := #[] }, { accessFlags := 25, nameIndex := 361, descriptorIndex := 339, attributes := #[] }, { accessFlags := 26, nameIndex := 364, descriptorIndex := 339, attributes := #[] }, { accessFlags := 26, nameIndex := 365, descriptorIndex := 339, attributes := #[] }, { accessFlags := 26, nameIndex := 172, descriptorIndex := 173, attributes := #[] }, { accessFlags := 26, nameIndex := 176, descriptorIndex := 173, attributes := #[] }, { accessFlags := 8, nameIndex := 344, descriptorIndex := 339, attributes := #[] }, { accessFlags := 8, nameIndex := 338, descriptorIndex := 339, attributes := #[] }, { accessFlags := 4120, nameIndex := 245, descriptorIndex := 246, attributes := #[] }])
  fields := #[{ name := "E", type := .double, accessFlags := 25, slot := 0, constantValue := 0 }, { name := "PI", type := .double, accessFlags := 25, slot := 1, constantValue := 0 }, { name := "TAU", type := .double, accessFlags := 25, slot := 2, constantValue := 0 }, { name := "DEGREES_TO_RADIANS", type := .double, accessFlags := 26, slot := 3, constantValue := 0 }, { name := "RADIANS_TO_DEGREES", type := .double, accessFlags := 26, slot := 4, constantValue := 0 }, { name := "negativeZeroFloatBits", type := .long, accessFlags := 26, slot := 5, constantValue := 0 }, { name := "negativeZeroDoubleBits", type := .long, accessFlags := 26, slot := 6, constantValue := 0 }, { name := "twoToTheDoubleScaleUp", type := .double, accessFlags := 8, slot := 7, constantValue := 0 }, { name := "twoToTheDoubleScaleDown", type := .double, accessFlags := 8, slot := 8, constantValue := 0 }, { name := "$assertionsDisabled", type := .boolean, accessFlags := 4120, slot := 9, constantValue := 0 }]
  methods := #[k24m0, k24m1, k24m2]
  instanceTypes := #[]
  staticTypes := #[.double, .double, .double, .double, .double, .long, .long, .double, .double, .boolean]
  resolved := Array.replicate 460 none
  statics := none }

def pool25 : Array CpInfo := pool [(9, u "<init>"), (6, .class_ 18), (1, u "java/lang/Object"), (0, u "()V"), (1, .class_ 23), (1, u "jdk/internal/util/ArraysSupport"), (0, u "LOG2_ARRAY_LONG_INDEX_SCALE"), (0, u "I"), (2, u "U"), (0, u "Ljdk/internal/misc/Unsafe;"), (8, u "BIG_ENDIAN"), (0, u "Z"), (8, u "LOG2_BYTE_BIT_SIZE"), (4, u "LOG2_ARRAY_INT_INDEX_SCALE"), (54, u "JLA"), (0, u "Ljdk/internal/access/JavaLangAccess;"), (11, u "LOG2_ARRAY_BOOLEAN_INDEX_SCALE"), (9, u "LOG2_ARRAY_BYTE_INDEX_SCALE"), (5, u "LOG2_ARRAY_CHAR_INDEX_SCALE"), (5, u "LOG2_ARRAY_SHORT_INDEX_SCALE"), (18, u "LOG2_ARRAY_FLOAT_INDEX_SCALE"), (24, u "LOG2_ARRAY_DOUBLE_INDEX_SCALE"), (6, .methodref 195 196), (0, .class_ 197), (0, .nameAndType 198 199), (0, u "java/lang/Math"), (0, u "max"), (0, u "(II)I"), (0, .integer 2147483639), (76, u "T_BOOLEAN"), (2, u "T_CHAR"), (1, u "T_FLOAT"), (1, u "T_DOUBLE"), (1, u "T_BYTE"), (1, u "T_SHORT"), (1, u "T_INT"), (1, u "T_LONG"), (1, u "SOFT_MAX_ARRAY_LENGTH"), (56, u "newLength"), (0, u "(III)I")] 25

def k25m0 : Method := { name := "<init>", desc := "()V", sig := { parameters := [], returnType := none }, accessFlags := 2, code := none }
def k25c1 : Code := { maxStack := 3, maxLocals := 4, code := jdk_48_method_27_code, exceptionTable := #[], attributes := #[] }
def k25m1 : Method := { name := "newLength", desc := "(III)I", sig := { parameters := [.int, .int, .int], returnType := some .int }, accessFlags := 9, code := some k25c1 }
/-- jdk/internal/util/ArraysSupport -/
def k25 : Class := { plain "jdk/internal/util/ArraysSupport" (some 0) with
  accessFlags := 33
  interfaces := #[]
  cf := some (fileOf pool25 21 #[] #[{ accessFlags := 2, nameIndex := 9, descriptorIndex := 19, attributes := #[] }, { accessFlags := 9, nameIndex := 351, descriptorIndex := 352, attributes := #[] }] 33 16 #[] #[{ accessFlags := 24, nameIndex := 28, descriptorIndex := 29, attributes := #[] }, { accessFlags := 26, nameIndex := 38, descriptorIndex := 39, attributes := #[] }, { accessFlags := 25, nameIndex := 121, descriptorIndex := 25, attributes := #[] }, { accessFlags := 25, nameIndex := 131, descriptorIndex := 25, attributes := #[] }, { accessFlags := 25, nameIndex := 137, descriptorIndex := 25, attributes := #[] }, { accessFlags := 25, nameIndex := 143, descriptorIndex := 25, attributes := #[] }, { accessFlags := 25, nameIndex := 53, descriptorIndex := 25, attributes := #[] }, { accessFlags := 25, nameIndex := 24, descriptorIndex := 25, attributes := #[] }, { accessFlags := 25, nameIndex := 162, descriptorIndex := 25, attributes := #[] }, { accessFlags := 25, nameIndex := 187, descriptorIndex := 25, attributes := #[] }, { accessFlags := 26, nameIndex := 48, descriptorIndex := 25, attributes := #[] }, { accessFlags := 25, nameIndex := 277, descriptorIndex := 25, attributes := #[] }, { accessFlags := 25, nameIndex := 280, descriptorIndex := 25, attributes := #[] }, { accessFlags := 25, nameIndex := 282, descriptorIndex := 25, attributes := #[] }, { accessFlags := 25, nameIndex := 284, descriptorIndex := 25, attributes := #[] }, { accessFlags := 25, nameIndex := 286, descriptorIndex := 25, attributes := #[] }, { accessFlags := 25, nameIndex := 288, descriptorIndex := 25, attributes := #[] }, { accessFlags := 25, nameIndex := 290, descriptorIndex := 25, attributes := #[] }, { accessFlags := 25, nameIndex := 292, descriptorIndex := 25, attributes := #[] }, { accessFlags := 26, nameIndex := 108, descriptorIndex := 109, attributes := #[] }, { accessFlags := 25, nameIndex := 294, descriptorIndex := 25, attributes := #[] }])
  fields := #[{ name := "U", type := (.object "jdk/internal/misc/Unsafe"), accessFlags := 24, slot := 0, constantValue := 0 }, { name := "BIG_ENDIAN", type := .boolean, accessFlags := 26, slot := 1, constantValue := 0 }, { name := "LOG2_ARRAY_BOOLEAN_INDEX_SCALE", type := .int, accessFlags := 25, slot := 2, constantValue := 0 }, { name := "LOG2_ARRAY_BYTE_INDEX_SCALE", type := .int, accessFlags := 25, slot := 3, constantValue := 0 }, { name := "LOG2_ARRAY_CHAR_INDEX_SCALE", type := .int, accessFlags := 25, slot := 4, constantValue := 0 }, { name := "LOG2_ARRAY_SHORT_INDEX_SCALE", type := .int, accessFlags := 25, slot := 5, constantValue := 0 }, { name := "LOG2_ARRAY_INT_INDEX_SCALE", type := .int, accessFlags := 25, slot := 6, constantValue := 0 }, { name := "LOG2_ARRAY_LONG_INDEX_SCALE", type := .int, accessFlags := 25, slot := 7, constantValue := 0 }, { name := "LOG2_ARRAY_FLOAT_INDEX_SCALE", type := .int, accessFlags := 25, slot := 8, constantValue := 0 }, { name := "LOG2_ARRAY_DOUBLE_INDEX_SCALE", type := .int, accessFlags := 25, slot := 9, constantValue := 0 }, { name := "LOG2_BYTE_BIT_SIZE", type := .int, accessFlags := 26, slot := 10, constantValue := 0 }, { name := "T_BOOLEAN", type := .int, accessFlags := 25, slot := 11, constantValue := 0 }, { name := "T_CHAR", type := .int, accessFlags := 25, slot := 12, constantValue := 0 }, { name := "T_FLOAT", type := .int, accessFlags := 25, slot := 13, constantValue := 0 }, { name := "T_DOUBLE", type := .int, accessFlags := 25, slot := 14, constantValue := 0 }, { name := "T_BYTE", type := .int, accessFlags := 25, slot := 15, constantValue := 0 }, { name := "T_SHORT", type := .int, accessFlags := 25, slot := 16, constantValue := 0 }, { name := "T_INT", type := .int, accessFlags := 25, slot := 17, constantValue := 0 }, { name := "T_LONG", type := .int, accessFlags := 25, slot := 18, constantValue := 0 }, { name := "JLA", type := (.object "jdk/internal/access/JavaLangAccess"), accessFlags := 26, slot := 19, constantValue := 0 }, { name := "SOFT_MAX_ARRAY_LENGTH", type := .int, accessFlags := 25, slot := 20, constantValue := 0 }]
  methods := #[k25m0, k25m1]
  instanceTypes := #[]
  staticTypes := #[(.object "jdk/internal/misc/Unsafe"), .boolean, .int, .int, .int, .int, .int, .int, .int, .int, .int, .int, .int, .int, .int, .int, .int, .int, .int, (.object "jdk/internal/access/JavaLangAccess"), .int]
  resolved := Array.replicate 378 none
  statics := none }

def pool26 : Array CpInfo := pool [(2, .class_ 4), (1, u "java/lang/Object"), (0, u "<init>"), (0, u "()V"), (17, .class_ 26), (1, u "jdk/internal/util/Preconditions"), (28, .class_ 56), (0, u "jdk/internal/util/Preconditions$4"), (57, .class_ 115), (0, u "jdk/internal/util/Preconditions$1"), (7, u "SIOOBE_FORMATTER"), (0, u "Ljava/util/function/BiFunction;"), (0, .class_ 126), (0, u "jdk/internal/util/Preconditions$2"), (3, u "AIOOBE_FORMATTER"), (0, .class_ 132), (0, u "jdk/internal/util/Preconditions$3"), (3, u "IOOBE_FORMATTER")] 57

def k26m0 : Method := { name := "<init>", desc := "()V", sig := { parameters := [], returnType := none }, accessFlags := 1, code := none }
/-- jdk/internal/util/Preconditions -/
def k26 : Class := { plain "jdk/internal/util/Preconditions" (some 0) with
  accessFlags := 33
  interfaces := #[]
  cf := some (fileOf pool26 24 #[.nestMembers #[55, 131, 125, 114]] #[{ accessFlags := 1, nameIndex := 5, descriptorIndex := 6, attributes := #[] }] 33 2 #[] #[{ accessFlags := 25, nameIndex := 123, descriptorIndex := 124, attributes := #[] }, { accessFlags := 25, nameIndex := 130, descriptorIndex := 124, attributes := #[] }, { accessFlags := 25, nameIndex := 136, descriptorIndex := 124, attributes := #[] }])
  fields := #[{ name := "SIOOBE_FORMATTER", type := (.object "java/util/function/BiFunction"), accessFlags := 25, slot := 0, constantValue := 0 }, { name := "AIOOBE_FORMATTER", type := (.object "java/util/function/BiFunction"), accessFlags := 25, slot := 1, constantValue := 0 }, { name := "IOOBE_FORMATTER", type := (.object "java/util/function/BiFunction"), accessFlags := 25, slot := 2, constantValue := 0 }]
  methods := #[k26m0]
  instanceTypes := #[]
  staticTypes := #[(.object "java/util/function/BiFunction"), (.object "java/util/function/BiFunction"), (.object "java/util/function/BiFunction")]
  resolved := Array.replicate 194 none
  statics := some 2 }

/-- the primitive byte -/
def k27 : Class := { plain "byte" none with kind := .primitive 'B', accessFlags := 0x411 }
/-- [B -/
def k28 : Class := { plain "[B" (some 0) with kind := .array 27 .byte, interfaces := #[10, 11], accessFlags := 1041 }

/-- the primitive int -/
def k29 : Class := { plain "int" none with kind := .primitive 'I', accessFlags := 0x411 }
/-- [I -/
def k30 : Class := { plain "[I" (some 0) with kind := .array 29 .int, interfaces := #[10, 11], accessFlags := 1041 }

/-- [Ljava/lang/Object; -/
def k31 : Class := { plain "[Ljava/lang/Object;" (some 0) with kind := .array 0 (.object "java/lang/Object"), interfaces := #[10, 11], accessFlags := 1041 }

def heap : Heap := #[{ cls := 12, slots := #[.long 0, .int 0, .ref 3, .ref 4], vm := .statics 12 },
  { cls := 17, slots := #[.long 0, .int 1, .null, .int 0, .null, .int 0, .int 0], vm := .statics 17 },
  { cls := 26, slots := #[.null, .null, .null], vm := .statics 26 },
  { cls := 31, slots := #[], vm := .none },
  { cls := 31, slots := #[], vm := .none }]
def classes : Array Class := #[k0, k1, k2, k3, k4, k5, k6, k7, k8, k9, k10, k11, k12, k13, k14, k15, k16, k17, k18, k19, k20, k21, k22, k23, k24, k25, k26, k27, k28, k29, k30, k31]
def interned : List (Array UInt16 × Addr) := []
def slotsUsed : Nat := 14
def theMethod : MethodId := ⟨1, 3⟩
def args0 : Array Value := #[.int 5, .int 6, .int 7]
def aboutOver (below : List Frame) : State where
  vm := { classes := classes, interned := interned.toArray }
  heap := heap
  slotsUsed := slotsUsed
  threads := #[{ frames := .invoking theMethod args0 :: below }]
def below0 : List Frame := [.native { method := ⟨0, 0⟩, args := #[] }]
def about1 : State := aboutOver below0
def p0 : Program := .bare "" "" ""
def e0 : Env := launch0.env 0 0 0
theorem w_frames : about1.frames = Frame.invoking theMethod args0 :: below0 := rfl
set_option maxRecDepth 65536 in
theorem w_args : argsFit about1.vm theMethod args0 = true := by decide +kernel
set_option maxRecDepth 65536 in
theorem w_heap : heapFits about1 = true := by decide +kernel
set_option maxRecDepth 65536 in
theorem w_runnable : about1.curStatus? = some .runnable := by decide +kernel
set_option maxRecDepth 65536 in
theorem w_alone : about1.alone = true := by decide +kernel
set_option maxRecDepth 65536 in
theorem w_named : about1.methodNamed? x = some theMethod := by decide +kernel
set_option maxRecDepth 65536 in
theorem w_hears : about1.hears theMethod below0 = true := by decide +kernel
set_option maxRecDepth 65536 in
theorem w_ripe : about1.ripe theMethod args0 below0 = true := by decide +kernel
theorem w_running : about1.status = .running := rfl
set_option maxRecDepth 65536 in
theorem w_room : about1.hasRoom e0.platform room_1 = true :=
  launch0.hasRoom_least _ room_1 (by decide +kernel) (by decide +kernel) (by decide +kernel) (by decide +kernel) (by decide +kernel) (by decide +kernel)
theorem allAtoms_all (ts : List Jvm.Cond) (a : Array Jvm.Value) (st : Jvm.State) : (allAtoms ts).before a st = ts.all (fun c => c.before a st) := by
  induction ts with
  | nil => rfl
  | cons c t ih =>
    show (Jvm.Cond.and c (allAtoms t)).before a st = _
    rw [Jvm.Cond.before_and, ih, List.all_cons]
def words1 : List Jvm.Cond := Jvm.Cond.code x code maxLocals ret :: tables_1
/-- a 'code' word, met by the world's own term for the bytes: nothing is compared byte by byte -/
theorem code_word {y : MethodName} {bytes : ByteArray} {mx : Nat} {rt : Option FieldType} {a : Array Value} {s : State} {m : MethodId} {meth : Method} {c : Code} (h1 : s.methodNamed? y = some m) (h2 : s.vm.method? m = some meth) (h3 : meth.code = some c) (h4 : c.code = bytes)
    (h5 : (c.maxLocals == mx && c.exceptionTable.isEmpty && decide (c.maxStack ≤ mostOperands) && decide (meth.sig.returnType = rt) && !meth.locks && decide (parseMethodDescriptor y.desc = some meth.sig)) = true) : (Jvm.Cond.code y bytes mx rt).before a s = true := by
  simp only [Bool.and_eq_true, beq_iff_eq, Bool.not_eq_true', decide_eq_true_eq] at h5
  obtain ⟨⟨⟨⟨⟨g1, g2⟩, g3⟩, g4⟩, g5⟩, g6⟩ := h5
  simp [Cond.before, Cond.holds, Cond.value, h1, h2, h3, h4, g1, g2, g3, g4, g5, g6]
def isCode : Jvm.Cond → Bool
  | .code _ _ _ _ => true
  | _ => false
theorem all_split {L : List Jvm.Cond} {P : Jvm.Cond → Bool} (h1 : L.all (fun c => isCode c || P c) = true) (h2 : ∀ c ∈ L.filter isCode, P c = true) : L.all P = true := by
  refine List.all_eq_true.mpr fun c hc => ?_
  have h := List.all_eq_true.mp h1 c hc
  rcases Bool.eq_false_or_eq_true (isCode c) with hi | hi
  · exact h2 c (List.mem_filter.mpr ⟨hc, hi⟩)
  · simpa [hi] using h
set_option maxRecDepth 65536 in
theorem w_c0 : (Jvm.Cond.code x code maxLocals ret).before args0 about1 = true := code_word (m := ⟨1, 3⟩) (meth := k1m3) (c := k1c3) (by decide +kernel) rfl rfl rfl (by decide +kernel)
set_option maxRecDepth 65536 in
theorem w_c1 : (Jvm.Cond.code ({ cls := "com/example/shaper/shaper/core/ConfigProblems", name := "<init>", desc := "()V" } : Jvm.MethodName) prog_4_method_1_code (1 : Nat) (Option.none : Option Jvm.ClassFile.FieldType)).before args0 about1 = true := code_word (m := ⟨2, 0⟩) (meth := k2m0) (c := k2c0) (by decide +kernel) rfl rfl rfl (by decide +kernel)
set_option maxRecDepth 65536 in
theorem w_c2 : (Jvm.Cond.code ({ cls := "java/lang/Object", name := "<init>", desc := "()V" } : Jvm.MethodName) object_method_1_code (1 : Nat) (Option.none : Option Jvm.ClassFile.FieldType)).before args0 about1 = true := code_word (m := ⟨0, 0⟩) (meth := k0m0) (c := k0c0) (by decide +kernel) rfl rfl rfl (by decide +kernel)
set_option maxRecDepth 65536 in
theorem w_c3 : (Jvm.Cond.code ({ cls := "java/util/ArrayList", name := "<init>", desc := "()V" } : Jvm.MethodName) jdk_38_method_2_code (1 : Nat) (Option.none : Option Jvm.ClassFile.FieldType)).before args0 about1 = true := code_word (m := ⟨12, 0⟩) (meth := k12m0) (c := k12c0) (by decide +kernel) rfl rfl rfl (by decide +kernel)
set_option maxRecDepth 65536 in
theorem w_c4 : (Jvm.Cond.code ({ cls := "java/util/AbstractList", name := "<init>", desc := "()V" } : Jvm.MethodName) jdk_39_method_1_code (1 : Nat) (Option.none : Option Jvm.ClassFile.FieldType)).before args0 about1 = true := code_word (m := ⟨8, 0⟩) (meth := k8m0) (c := k8c0) (by decide +kernel) rfl rfl rfl (by decide +kernel)
set_option maxRecDepth 65536 in
theorem w_c5 : (Jvm.Cond.code ({ cls := "java/util/AbstractCollection", name := "<init>", desc := "()V" } : Jvm.MethodName) jdk_22_method_1_code (1 : Nat) (Option.none : Option Jvm.ClassFile.FieldType)).before args0 about1 = true := code_word (m := ⟨5, 0⟩) (meth := k5m0) (c := k5c0) (by decide +kernel) rfl rfl rfl (by decide +kernel)
set_option maxRecDepth 65536 in
theorem w_c6 : (Jvm.Cond.code ({ cls := "com/example/shaper/shaper/core/ConfigProblems", name := "count", desc := "()I" } : Jvm.MethodName) prog_4_method_11_code (1 : Nat) (Option.some Jvm.ClassFile.FieldType.int)).before args0 about1 = true := code_word (m := ⟨2, 4⟩) (meth := k2m4) (c := k2c4) (by decide +kernel) rfl rfl rfl (by decide +kernel)
set_option maxRecDepth 65536 in
theorem w_c7 : (Jvm.Cond.code ({ cls := "java/util/ArrayList", name := "size", desc := "()I" } : Jvm.MethodName) jdk_38_method_8_code (1 : Nat) (Option.some Jvm.ClassFile.FieldType.int)).before args0 about1 = true := code_word (m := ⟨12, 3⟩) (meth := k12m3) (c := k12c3) (by decide +kernel) rfl rfl rfl (by decide +kernel)
set_option maxRecDepth 65536 in
theorem w_c8 : (Jvm.Cond.code ({ cls := "com/example/shaper/shaper/core/ConfigProblemsCountPinLaw", name := "str", desc := "(I)Ljava/lang/String;" } : Jvm.MethodName) method_2_code (1 : Nat) (Option.some (Jvm.ClassFile.FieldType.object "java/lang/String"))).before args0 about1 = true := code_word (m := ⟨1, 1⟩) (meth := k1m1) (c := k1c1) (by decide +kernel) rfl rfl rfl (by decide +kernel)
set_option maxRecDepth 65536 in
theorem w_c9 : (Jvm.Cond.code ({ cls := "java/lang/String", name := "valueOf", desc := "(C)Ljava/lang/String;" } : Jvm.MethodName) jdk_42_method_139_code (1 : Nat) (Option.some (Jvm.ClassFile.FieldType.object "java/lang/String"))).before args0 about1 = true := code_word (m := ⟨17, 3⟩) (meth := k17m3) (c := k17c3) (by decide +kernel) rfl rfl rfl (by decide +kernel)
set_option maxRecDepth 65536 in
theorem w_c10 : (Jvm.Cond.code ({ cls := "java/lang/StringLatin1", name := "canEncode", desc := "(C)Z" } : Jvm.MethodName) jdk_43_method_3_code (1 : Nat) (Option.some Jvm.ClassFile.FieldType.boolean)).before args0 about1 = true := code_word (m := ⟨18, 1⟩) (meth := k18m1) (c := k18c1) (by decide +kernel) rfl rfl rfl (by decide +kernel)
set_option maxRecDepth 65536 in
theorem w_c11 : (Jvm.Cond.code ({ cls := "java/lang/StringLatin1", name := "toBytes", desc := "(C)[B" } : Jvm.MethodName) jdk_43_method_46_code (1 : Nat) (Option.some (Jvm.ClassFile.FieldType.array Jvm.ClassFile.FieldType.byte))).before args0 about1 = true := code_word (m := ⟨18, 2⟩) (meth := k18m2) (c := k18c2) (by decide +kernel) rfl rfl rfl (by decide +kernel)
set_option maxRecDepth 65536 in
theorem w_c12 : (Jvm.Cond.code ({ cls := "java/lang/String", name := "<init>", desc := "([BB)V" } : Jvm.MethodName) jdk_42_method_151_code (3 : Nat) (Option.none : Option Jvm.ClassFile.FieldType)).before args0 about1 = true := code_word (m := ⟨17, 6⟩) (meth := k17m6) (c := k17c6) (by decide +kernel) rfl rfl rfl (by decide +kernel)
set_option maxRecDepth 65536 in
theorem w_c13 : (Jvm.Cond.code ({ cls := "com/example/shaper/shaper/core/ConfigProblemsCountPinLaw", name := "step", desc := "(Lcom/example/shaper/shaper/core/ConfigProblems;ILjava/lang/String;Ljava/lang/String;)I" } : Jvm.MethodName) method_3_code (4 : Nat) (Option.some Jvm.ClassFile.FieldType.int)).before args0 about1 = true := code_word (m := ⟨1, 2⟩) (meth := k1m2) (c := k1c2) (by decide +kernel) rfl rfl rfl (by decide +kernel)
set_option maxRecDepth 65536 in
theorem w_c14 : (Jvm.Cond.code ({ cls := "com/example/shaper/shaper/core/ConfigProblems", name := "invalid", desc := "(Ljava/lang/String;Ljava/lang/String;)V" } : Jvm.MethodName) prog_4_method_2_code (3 : Nat) (Option.none : Option Jvm.ClassFile.FieldType)).before args0 about1 = true := code_word (m := ⟨2, 1⟩) (meth := k2m1) (c := k2c1) (by decide +kernel) rfl rfl rfl (by decide +kernel)
set_option maxRecDepth 65536 in
theorem w_c15 : (Jvm.Cond.code ({ cls := "java/lang/StringBuilder", name := "<init>", desc := "()V" } : Jvm.MethodName) jdk_67_method_1_code (1 : Nat) (Option.none : Option Jvm.ClassFile.FieldType)).before args0 about1 = true := code_word (m := ⟨21, 0⟩) (meth := k21m0) (c := k21c0) (by decide +kernel) rfl rfl rfl (by decide +kernel)
set_option maxRecDepth 65536 in
theorem w_c16 : (Jvm.Cond.code ({ cls := "java/lang/AbstractStringBuilder", name := "<init>", desc := "(I)V" } : Jvm.MethodName) jdk_68_method_2_code (2 : Nat) (Option.none : Option Jvm.ClassFile.FieldType)).before args0 about1 = true := code_word (m := ⟨20, 1⟩) (meth := k20m1) (c := k20c1) (by decide +kernel) rfl rfl rfl (by decide +kernel)
set_option maxRecDepth 65536 in
theorem w_c17 : (Jvm.Cond.code ({ cls := "java/lang/StringBuilder", name := "append", desc := "(Ljava/lang/String;)Ljava/lang/StringBuilder;" } : Jvm.MethodName) jdk_67_method_7_code (2 : Nat) (Option.some (Jvm.ClassFile.FieldType.object "java/lang/StringBuilder"))).before args0 about1 = true := code_word (m := ⟨21, 1⟩) (meth := k21m1) (c := k21c1) (by decide +kernel) rfl rfl rfl (by decide +kernel)
set_option maxRecDepth 65536 in
theorem w_c18 : (Jvm.Cond.code ({ cls := "java/lang/AbstractStringBuilder", name := "append", desc := "(Ljava/lang/String;)Ljava/lang/AbstractStringBuilder;" } : Jvm.MethodName) jdk_68_method_22_code (3 : Nat) (Option.some (Jvm.ClassFile.FieldType.object "java/lang/AbstractStringBuilder"))).before args0 about1 = true := code_word (m := ⟨20, 5⟩) (meth := k20m5) (c := k20c5) (by decide +kernel) rfl rfl rfl (by decide +kernel)
set_option maxRecDepth 65536 in
theorem w_c19 : (Jvm.Cond.code ({ cls := "java/lang/String", name := "length", desc := "()I" } : Jvm.MethodName) jdk_42_method_54_code (1 : Nat) (Option.some Jvm.ClassFile.FieldType.int)).before args0 about1 = true := code_word (m := ⟨17, 2⟩) (meth := k17m2) (c := k17c2) (by decide +kernel) rfl rfl rfl (by decide +kernel)
set_option maxRecDepth 65536 in
theorem w_c20 : (Jvm.Cond.code ({ cls := "java/lang/String", name := "coder", desc := "()B" } : Jvm.MethodName) jdk_42_method_152_code (1 : Nat) (Option.some Jvm.ClassFile.FieldType.byte)).before args0 about1 = true := code_word (m := ⟨17, 7⟩) (meth := k17m7) (c := k17c7) (by decide +kernel) rfl rfl rfl (by decide +kernel)
set_option maxRecDepth 65536 in
theorem w_c21 : (Jvm.Cond.code ({ cls := "java/lang/AbstractStringBuilder", name := "ensureCapacityInternal", desc := "(I)V" } : Jvm.MethodName) jdk_68_method_9_code (3 : Nat) (Option.none : Option Jvm.ClassFile.FieldType)).before args0 about1 = true := code_word (m := ⟨20, 3⟩) (meth := k20m3) (c := k20c3) (by decide +kernel) rfl rfl rfl (by decide +kernel)
set_option maxRecDepth 65536 in
theorem w_c22 : (Jvm.Cond.code ({ cls := "java/lang/AbstractStringBuilder", name := "putStringAt", desc := "(ILjava/lang/String;)V" } : Jvm.MethodName) jdk_68_method_73_code (3 : Nat) (Option.none : Option Jvm.ClassFile.FieldType)).before args0 about1 = true := code_word (m := ⟨20, 9⟩) (meth := k20m9) (c := k20c9) (by decide +kernel) rfl rfl rfl (by decide +kernel)
set_option maxRecDepth 65536 in
theorem w_c23 : (Jvm.Cond.code ({ cls := "java/lang/AbstractStringBuilder", name := "inflateIfNeededFor", desc := "(Ljava/lang/String;)V" } : Jvm.MethodName) jdk_68_method_71_code (2 : Nat) (Option.none : Option Jvm.ClassFile.FieldType)).before args0 about1 = true := code_word (m := ⟨20, 8⟩) (meth := k20m8) (c := k20c8) (by decide +kernel) rfl rfl rfl (by decide +kernel)
set_option maxRecDepth 65536 in
theorem w_c24 : (Jvm.Cond.code ({ cls := "java/lang/String", name := "getBytes", desc := "([BIB)V" } : Jvm.MethodName) jdk_42_method_147_code (4 : Nat) (Option.none : Option Jvm.ClassFile.FieldType)).before args0 about1 = true := code_word (m := ⟨17, 4⟩) (meth := k17m4) (c := k17c4) (by decide +kernel) rfl rfl rfl (by decide +kernel)
set_option maxRecDepth 65536 in
theorem w_c25 : (Jvm.Cond.code ({ cls := "java/lang/StringBuilder", name := "toString", desc := "()Ljava/lang/String;" } : Jvm.MethodName) jdk_67_method_42_code (1 : Nat) (Option.some (Jvm.ClassFile.FieldType.object "java/lang/String"))).before args0 about1 = true := code_word (m := ⟨21, 2⟩) (meth := k21m2) (c := k21c2) (by decide +kernel) rfl rfl rfl (by decide +kernel)
set_option maxRecDepth 65536 in
theorem w_c26 : (Jvm.Cond.code ({ cls := "java/lang/String", name := "<init>", desc := "(Ljava/lang/StringBuilder;)V" } : Jvm.MethodName) jdk_42_method_53_code (2 : Nat) (Option.none : Option Jvm.ClassFile.FieldType)).before args0 about1 = true := code_word (m := ⟨17, 1⟩) (meth := k17m1) (c := k17c1) (by decide +kernel) rfl rfl rfl (by decide +kernel)
set_option maxRecDepth 65536 in
theorem w_c27 : (Jvm.Cond.code ({ cls := "java/lang/String", name := "<init>", desc := "(Ljava/lang/AbstractStringBuilder;Ljava/lang/Void;)V" } : Jvm.MethodName) jdk_42_method_150_code (5 : Nat) (Option.none : Option Jvm.ClassFile.FieldType)).before args0 about1 = true := code_word (m := ⟨17, 5⟩) (meth := k17m5) (c := k17c5) (by decide +kernel) rfl rfl rfl (by decide +kernel)
set_option maxRecDepth 65536 in
theorem w_c28 : (Jvm.Cond.code ({ cls := "java/lang/AbstractStringBuilder", name := "getValue", desc := "()[B" } : Jvm.MethodName) jdk_68_method_64_code (1 : Nat) (Option.some (Jvm.ClassFile.FieldType.array Jvm.ClassFile.FieldType.byte))).before args0 about1 = true := code_word (m := ⟨20, 6⟩) (meth := k20m6) (c := k20c6) (by decide +kernel) rfl rfl rfl (by decide +kernel)
set_option maxRecDepth 65536 in
theorem w_c29 : (Jvm.Cond.code ({ cls := "java/lang/StringBuilder", name := "length", desc := "()I" } : Jvm.MethodName) jdk_67_method_93_code (1 : Nat) (Option.some Jvm.ClassFile.FieldType.int)).before args0 about1 = true := code_word (m := ⟨21, 3⟩) (meth := k21m3) (c := k21c3) (by decide +kernel) rfl rfl rfl (by decide +kernel)
set_option maxRecDepth 65536 in
theorem w_c30 : (Jvm.Cond.code ({ cls := "java/lang/AbstractStringBuilder", name := "length", desc := "()I" } : Jvm.MethodName) jdk_68_method_6_code (1 : Nat) (Option.some Jvm.ClassFile.FieldType.int)).before args0 about1 = true := code_word (m := ⟨20, 2⟩) (meth := k20m2) (c := k20c2) (by decide +kernel) rfl rfl rfl (by decide +kernel)
set_option maxRecDepth 65536 in
theorem w_c31 : (Jvm.Cond.code ({ cls := "java/lang/AbstractStringBuilder", name := "isLatin1", desc := "()Z" } : Jvm.MethodName) jdk_68_method_68_code (1 : Nat) (Option.some Jvm.ClassFile.FieldType.boolean)).before args0 about1 = true := code_word (m := ⟨20, 7⟩) (meth := k20m7) (c := k20c7) (by decide +kernel) rfl rfl rfl (by decide +kernel)
set_option maxRecDepth 65536 in
theorem w_c32 : (Jvm.Cond.code ({ cls := "java/util/Arrays", name := "copyOfRange", desc := "([BII)[B" } : Jvm.MethodName) jdk_65_method_132_code (3 : Nat) (Option.some (Jvm.ClassFile.FieldType.array Jvm.ClassFile.FieldType.byte))).before args0 about1 = true := code_word (m := ⟨23, 3⟩) (meth := k23m3) (c := k23c3) (by decide +kernel) rfl rfl rfl (by decide +kernel)
set_option maxRecDepth 65536 in
theorem w_c33 : (Jvm.Cond.code ({ cls := "java/util/Arrays", name := "copyOfRangeByte", desc := "([BII)[B" } : Jvm.MethodName) jdk_65_method_133_code (5 : Nat) (Option.some (Jvm.ClassFile.FieldType.array Jvm.ClassFile.FieldType.byte))).before args0 about1 = true := code_word (m := ⟨23, 4⟩) (meth := k23m4) (c := k23c4) (by decide +kernel) rfl rfl rfl (by decide +kernel)
set_option maxRecDepth 65536 in
theorem w_c34 : (Jvm.Cond.code ({ cls := "java/util/Arrays", name := "checkLength", desc := "(II)V" } : Jvm.MethodName) jdk_65_method_131_code (2 : Nat) (Option.none : Option Jvm.ClassFile.FieldType)).before args0 about1 = true := code_word (m := ⟨23, 2⟩) (meth := k23m2) (c := k23c2) (by decide +kernel) rfl rfl rfl (by decide +kernel)
set_option maxRecDepth 65536 in
theorem w_c35 : (Jvm.Cond.code ({ cls := "java/lang/Math", name := "min", desc := "(II)I" } : Jvm.MethodName) jdk_29_method_69_code (2 : Nat) (Option.some Jvm.ClassFile.FieldType.int)).before args0 about1 = true := code_word (m := ⟨24, 2⟩) (meth := k24m2) (c := k24c2) (by decide +kernel) rfl rfl rfl (by decide +kernel)
set_option maxRecDepth 65536 in
theorem w_c36 : (Jvm.Cond.code ({ cls := "java/util/ArrayList", name := "add", desc := "(Ljava/lang/Object;)Z" } : Jvm.MethodName) jdk_38_method_25_code (2 : Nat) (Option.some Jvm.ClassFile.FieldType.boolean)).before args0 about1 = true := code_word (m := ⟨12, 5⟩) (meth := k12m5) (c := k12c5) (by decide +kernel) rfl rfl rfl (by decide +kernel)
set_option maxRecDepth 65536 in
theorem w_c37 : (Jvm.Cond.code ({ cls := "java/util/ArrayList", name := "add", desc := "(Ljava/lang/Object;[Ljava/lang/Object;I)V" } : Jvm.MethodName) jdk_38_method_24_code (4 : Nat) (Option.none : Option Jvm.ClassFile.FieldType)).before args0 about1 = true := code_word (m := ⟨12, 4⟩) (meth := k12m4) (c := k12c4) (by decide +kernel) rfl rfl rfl (by decide +kernel)
set_option maxRecDepth 65536 in
theorem w_c38 : (Jvm.Cond.code ({ cls := "java/util/ArrayList", name := "grow", desc := "()[Ljava/lang/Object;" } : Jvm.MethodName) jdk_38_method_7_code (1 : Nat) (Option.some (Jvm.ClassFile.FieldType.array (Jvm.ClassFile.FieldType.object "java/lang/Object")))).before args0 about1 = true := code_word (m := ⟨12, 2⟩) (meth := k12m2) (c := k12c2) (by decide +kernel) rfl rfl rfl (by decide +kernel)
set_option maxRecDepth 65536 in
theorem w_c39 : (Jvm.Cond.code ({ cls := "java/util/ArrayList", name := "grow", desc := "(I)[Ljava/lang/Object;" } : Jvm.MethodName) jdk_38_method_6_code (4 : Nat) (Option.some (Jvm.ClassFile.FieldType.array (Jvm.ClassFile.FieldType.object "java/lang/Object")))).before args0 about1 = true := code_word (m := ⟨12, 1⟩) (meth := k12m1) (c := k12c1) (by decide +kernel) rfl rfl rfl (by decide +kernel)
set_option maxRecDepth 65536 in
theorem w_c40 : (Jvm.Cond.code ({ cls := "java/lang/Math", name := "max", desc := "(II)I" } : Jvm.MethodName) jdk_29_method_65_code (2 : Nat) (Option.some Jvm.ClassFile.FieldType.int)).before args0 about1 = true := code_word (m := ⟨24, 1⟩) (meth := k24m1) (c := k24c1) (by decide +kernel) rfl rfl rfl (by decide +kernel)
set_option maxRecDepth 65536 in
theorem w_c41 : (Jvm.Cond.code ({ cls := "com/example/shaper/shaper/core/ConfigProblems", name := "unsupported", desc := "(Ljava/lang/String;)V" } : Jvm.MethodName) prog_4_method_3_code (2 : Nat) (Option.none : Option Jvm.ClassFile.FieldType)).before args0 about1 = true := code_word (m := ⟨2, 2⟩) (meth := k2m2) (c := k2c2) (by decide +kernel) rfl rfl rfl (by decide +kernel)
set_option maxRecDepth 65536 in
theorem w_c42 : (Jvm.Cond.code ({ cls := "com/example/shaper/shaper/core/ConfigProblems", name := "unsupported", desc := "(Ljava/lang/String;Ljava/lang/String;)V" } : Jvm.MethodName) prog_4_method_4_code (3 : Nat) (Option.none : Option Jvm.ClassFile.FieldType)).before args0 about1 = true := code_word (m := ⟨2, 3⟩) (meth := k2m3) (c := k2c3) (by decide +kernel) rfl rfl rfl (by decide +kernel)
set_option maxRecDepth 65536 in
theorem w_c43 : (Jvm.Cond.code ({ cls := "java/lang/AbstractStringBuilder", name := "newCapacity", desc := "(I)I" } : Jvm.MethodName) jdk_68_method_10_code (6 : Nat) (Option.some Jvm.ClassFile.FieldType.int)).before args0 about1 = true := code_word (m := ⟨20, 4⟩) (meth := k20m4) (c := k20c4) (by decide +kernel) rfl rfl rfl (by decide +kernel)
set_option maxRecDepth 65536 in
theorem w_c44 : (Jvm.Cond.code ({ cls := "jdk/internal/util/ArraysSupport", name := "newLength", desc := "(III)I" } : Jvm.MethodName) jdk_48_method_27_code (4 : Nat) (Option.some Jvm.ClassFile.FieldType.int)).before args0 about1 = true := code_word (m := ⟨25, 1⟩) (meth := k25m1) (c := k25c1) (by decide +kernel) rfl rfl rfl (by decide +kernel)
set_option maxRecDepth 65536 in
theorem w_c45 : (Jvm.Cond.code ({ cls := "java/util/Arrays", name := "copyOf", desc := "([BI)[B" } : Jvm.MethodName) jdk_65_method_121_code (3 : Nat) (Option.some (Jvm.ClassFile.FieldType.array Jvm.ClassFile.FieldType.byte))).before args0 about1 = true := code_word (m := ⟨23, 1⟩) (meth := k23m1) (c := k23c1) (by decide +kernel) rfl rfl rfl (by decide +kernel)
def codes1 : List Jvm.Cond := [Jvm.Cond.code x code maxLocals ret, Jvm.Cond.code ({ cls := "com/example/shaper/shaper/core/ConfigProblems", name := "<init>", desc := "()V" } : Jvm.MethodName) prog_4_method_1_code (1 : Nat) (Option.none : Option Jvm.ClassFile.FieldType), Jvm.Cond.code ({ cls := "java/lang/Object", name := "<init>", desc := "()V" } : Jvm.MethodName) object_method_1_code (1 : Nat) (Option.none : Option Jvm.ClassFile.FieldType), Jvm.Cond.code ({ cls := "java/util/ArrayList", name := "<init>", desc := "()V" } : Jvm.MethodName) jdk_38_method_2_code (1 : Nat) (Option.none : Option Jvm.ClassFile.FieldType), Jvm.Cond.code ({ cls := "java/util/AbstractList", name := "<init>", desc := "()V" } : Jvm.MethodName) jdk_39_method_1_code (1 : Nat) (Option.none : Option Jvm.ClassFile.FieldType), Jvm.Cond.code ({ cls := "java/util/AbstractCollection", name := "<init>", desc := "()V" } : Jvm.MethodName) jdk_22_method_1_code (1 : Nat) (Option.none : Option Jvm.ClassFile.FieldType), Jvm.Cond.code ({ cls := "com/example/shaper/shaper/core/ConfigProblems", name := "count", desc := "()I" } : Jvm.MethodName) prog_4_method_11_code (1 : Nat) (Option.some Jvm.ClassFile.FieldType.int), Jvm.Cond.code ({ cls := "java/util/ArrayList", name := "size", desc := "()I" } : Jvm.MethodName) jdk_38_method_8_code (1 : Nat) (Option.some Jvm.ClassFile.FieldType.int), Jvm.Cond.code ({ cls := "com/example/shaper/shaper/core/ConfigProblemsCountPinLaw", name := "str", desc := "(I)Ljava/lang/String;" } : Jvm.MethodName) method_2_code (1 : Nat) (Option.some (Jvm.ClassFile.FieldType.object "java/lang/String")), Jvm.Cond.code ({ cls := "java/lang/String", name := "valueOf", desc := "(C)Ljava/lang/String;" } : Jvm.MethodName) jdk_42_method_139_code (1 : Nat) (Option.some (Jvm.ClassFile.FieldType.object "java/lang/String")), Jvm.Cond.code ({ cls := "java/lang/StringLatin1", name := "canEncode", desc := "(C)Z" } : Jvm.MethodName) jdk_43_method_3_code (1 : Nat) (Option.some Jvm.ClassFile.FieldType.boolean), Jvm.Cond.code ({ cls := "java/lang/StringLatin1", name := "toBytes", desc := "(C)[B" } : Jvm.MethodName) jdk_43_method_46_code (1 : Nat) (Option.some (Jvm.ClassFile.FieldType.array Jvm.ClassFile.FieldType.byte)), Jvm.Cond.code ({ cls := "java/lang/String", name := "<init>", desc := "([BB)V" } : Jvm.MethodName) jdk_42_method_151_code (3 : Nat) (Option.none : Option Jvm.ClassFile.FieldType), Jvm.Cond.code ({ cls := "com/example/shaper/shaper/core/ConfigProblemsCountPinLaw", name := "step", desc := "(Lcom/example/shaper/shaper/core/ConfigProblems;ILjava/lang/String;Ljava/lang/String;)I" } : Jvm.MethodName) method_3_code (4 : Nat) (Option.some Jvm.ClassFile.FieldType.int), Jvm.Cond.code ({ cls := "com/example/shaper/shaper/core/ConfigProblems", name := "invalid", desc := "(Ljava/lang/String;Ljava/lang/String;)V" } : Jvm.MethodName) prog_4_method_2_code (3 : Nat) (Option.none : Option Jvm.ClassFile.FieldType), Jvm.Cond.code ({ cls := "java/lang/StringBuilder", name := "<init>", desc := "()V" } : Jvm.MethodName) jdk_67_method_1_code (1 : Nat) (Option.none : Option Jvm.ClassFile.FieldType), Jvm.Cond.code ({ cls := "java/lang/AbstractStringBuilder", name := "<init>", desc := "(I)V" } : Jvm.MethodName) jdk_68_method_2_code (2 : Nat) (Option.none : Option Jvm.ClassFile.FieldType), Jvm.Cond.code ({ cls := "java/lang/StringBuilder", name := "append", desc := "(Ljava/lang/String;)Ljava/lang/StringBuilder;" } : Jvm.MethodName) jdk_67_method_7_code (2 : Nat) (Option.some (Jvm.ClassFile.FieldType.object "java/lang/StringBuilder")), Jvm.Cond.code ({ cls := "java/lang/AbstractStringBuilder", name := "append", desc := "(Ljava/lang/String;)Ljava/lang/AbstractStringBuilder;" } : Jvm.MethodName) jdk_68_method_22_code (3 : Nat) (Option.some (Jvm.ClassFile.FieldType.object "java/lang/AbstractStringBuilder")), Jvm.Cond.code ({ cls := "java/lang/String", name := "length", desc := "()I" } : Jvm.MethodName) jdk_42_method_54_code (1 : Nat) (Option.some Jvm.ClassFile.FieldType.int), Jvm.Cond.code ({ cls := "java/lang/String", name := "coder", desc := "()B" } : Jvm.MethodName) jdk_42_method_152_code (1 : Nat) (Option.some Jvm.ClassFile.FieldType.byte), Jvm.Cond.code ({ cls := "java/lang/AbstractStringBuilder", name := "ensureCapacityInternal", desc := "(I)V" } : Jvm.MethodName) jdk_68_method_9_code (3 : Nat) (Option.none : Option Jvm.ClassFile.FieldType), Jvm.Cond.code ({ cls := "java/lang/AbstractStringBuilder", name := "putStringAt", desc := "(ILjava/lang/String;)V" } : Jvm.MethodName) jdk_68_method_73_code (3 : Nat) (Option.none : Option Jvm.ClassFile.FieldType), Jvm.Cond.code ({ cls := "java/lang/AbstractStringBuilder", name := "inflateIfNeededFor", desc := "(Ljava/lang/String;)V" } : Jvm.MethodName) jdk_68_method_71_code (2 : Nat) (Option.none : Option Jvm.ClassFile.FieldType), Jvm.Cond.code ({ cls := "java/lang/String", name := "getBytes", desc := "([BIB)V" } : Jvm.MethodName) jdk_42_method_147_code (4 : Nat) (Option.none : Option Jvm.ClassFile.FieldType), Jvm.Cond.code ({ cls := "java/lang/StringBuilder", name := "toString", desc := "()Ljava/lang/String;" } : Jvm.MethodName) jdk_67_method_42_code (1 : Nat) (Option.some (Jvm.ClassFile.FieldType.object "java/lang/String")), Jvm.Cond.code ({ cls := "java/lang/String", name := "<init>", desc := "(Ljava/lang/StringBuilder;)V" } : Jvm.MethodName) jdk_42_method_53_code (2 : Nat) (Option.none : Option Jvm.ClassFile.FieldType), Jvm.Cond.code ({ cls := "java/lang/String", name := "<init>", desc := "(Ljava/lang/AbstractStringBuilder;Ljava/lang/Void;)V" } : Jvm.MethodName) jdk_42_method_150_code (5 : Nat) (Option.none : Option Jvm.ClassFile.FieldType), Jvm.Cond.code ({ cls := "java/lang/AbstractStringBuilder", name := "getValue", desc := "()[B" } : Jvm.MethodName) jdk_68_method_64_code (1 : Nat) (Option.some (Jvm.ClassFile.FieldType.array Jvm.ClassFile.FieldType.byte)), Jvm.Cond.code ({ cls := "java/lang/StringBuilder", name := "length", desc := "()I" } : Jvm.MethodName) jdk_67_method_93_code (1 : Nat) (Option.some Jvm.ClassFile.FieldType.int), Jvm.Cond.code ({ cls := "java/lang/AbstractStringBuilder", name := "length", desc := "()I" } : Jvm.MethodName) jdk_68_method_6_code (1 : Nat) (Option.some Jvm.ClassFile.FieldType.int), Jvm.Cond.code ({ cls := "java/lang/AbstractStringBuilder", name := "isLatin1", desc := "()Z" } : Jvm.MethodName) jdk_68_method_68_code (1 : Nat) (Option.some Jvm.ClassFile.FieldType.boolean), Jvm.Cond.code ({ cls := "java/util/Arrays", name := "copyOfRange", desc := "([BII)[B" } : Jvm.MethodName) jdk_65_method_132_code (3 : Nat) (Option.some (Jvm.ClassFile.FieldType.array Jvm.ClassFile.FieldType.byte)), Jvm.Cond.code ({ cls := "java/util/Arrays", name := "copyOfRangeByte", desc := "([BII)[B" } : Jvm.MethodName) jdk_65_method_133_code (5 : Nat) (Option.some (Jvm.ClassFile.FieldType.array Jvm.ClassFile.FieldType.byte)), Jvm.Cond.code ({ cls := "java/util/Arrays", name := "checkLength", desc := "(II)V" } : Jvm.MethodName) jdk_65_method_131_code (2 : Nat) (Option.none : Option Jvm.ClassFile.FieldType), Jvm.Cond.code ({ cls := "java/lang/Math", name := "min", desc := "(II)I" } : Jvm.MethodName) jdk_29_method_69_code (2 : Nat) (Option.some Jvm.ClassFile.FieldType.int), Jvm.Cond.code ({ cls := "java/util/ArrayList", name := "add", desc := "(Ljava/lang/Object;)Z" } : Jvm.MethodName) jdk_38_method_25_code (2 : Nat) (Option.some Jvm.ClassFile.FieldType.boolean), Jvm.Cond.code ({ cls := "java/util/ArrayList", name := "add", desc := "(Ljava/lang/Object;[Ljava/lang/Object;I)V" } : Jvm.MethodName) jdk_38_method_24_code (4 : Nat) (Option.none : Option Jvm.ClassFile.FieldType), Jvm.Cond.code ({ cls := "java/util/ArrayList", name := "grow", desc := "()[Ljava/lang/Object;" } : Jvm.MethodName) jdk_38_method_7_code (1 : Nat) (Option.some (Jvm.ClassFile.FieldType.array (Jvm.ClassFile.FieldType.object "java/lang/Object"))), Jvm.Cond.code ({ cls := "java/util/ArrayList", name := "grow", desc := "(I)[Ljava/lang/Object;" } : Jvm.MethodName) jdk_38_method_6_code (4 : Nat) (Option.some (Jvm.ClassFile.FieldType.array (Jvm.ClassFile.FieldType.object "java/lang/Object"))), Jvm.Cond.code ({ cls := "java/lang/Math", name := "max", desc := "(II)I" } : Jvm.MethodName) jdk_29_method_65_code (2 : Nat) (Option.some Jvm.ClassFile.FieldType.int), Jvm.Cond.code ({ cls := "com/example/shaper/shaper/core/ConfigProblems", name := "unsupported", desc := "(Ljava/lang/String;)V" } : Jvm.MethodName) prog_4_method_3_code (2 : Nat) (Option.none : Option Jvm.ClassFile.FieldType), Jvm.Cond.code ({ cls := "com/example/shaper/shaper/core/ConfigProblems", name := "unsupported", desc := "(Ljava/lang/String;Ljava/lang/String;)V" } : Jvm.MethodName) prog_4_method_4_code (3 : Nat) (Option.none : Option Jvm.ClassFile.FieldType), Jvm.Cond.code ({ cls := "java/lang/AbstractStringBuilder", name := "newCapacity", desc := "(I)I" } : Jvm.MethodName) jdk_68_method_10_code (6 : Nat) (Option.some Jvm.ClassFile.FieldType.int), Jvm.Cond.code ({ cls := "jdk/internal/util/ArraysSupport", name := "newLength", desc := "(III)I" } : Jvm.MethodName) jdk_48_method_27_code (4 : Nat) (Option.some Jvm.ClassFile.FieldType.int), Jvm.Cond.code ({ cls := "java/util/Arrays", name := "copyOf", desc := "([BI)[B" } : Jvm.MethodName) jdk_65_method_121_code (3 : Nat) (Option.some (Jvm.ClassFile.FieldType.array Jvm.ClassFile.FieldType.byte))]
set_option maxRecDepth 65536 in
theorem codes_eq : words1.filter isCode = codes1 := rfl
theorem w_codes : ∀ c ∈ words1.filter isCode, c.before args0 about1 = true := by
  rw [codes_eq]
  intro c hc
  simp only [codes1, List.mem_cons, List.not_mem_nil, or_false] at hc
  rcases hc with rfl | rfl | rfl | rfl | rfl | rfl | rfl | rfl | rfl | rfl | rfl | rfl | rfl | rfl | rfl | rfl | rfl | rfl | rfl | rfl | rfl | rfl | rfl | rfl | rfl | rfl | rfl | rfl | rfl | rfl | rfl | rfl | rfl | rfl | rfl | rfl | rfl | rfl | rfl | rfl | rfl | rfl | rfl | rfl | rfl | rfl
  · exact w_c0
  · exact w_c1
  · exact w_c2
  · exact w_c3
  · exact w_c4
  · exact w_c5
  · exact w_c6
  · exact w_c7
  · exact w_c8
  · exact w_c9
  · exact w_c10
  · exact w_c11
  · exact w_c12
  · exact w_c13
  · exact w_c14
  · exact w_c15
  · exact w_c16
  · exact w_c17
  · exact w_c18
  · exact w_c19
  · exact w_c20
  · exact w_c21
  · exact w_c22
  · exact w_c23
  · exact w_c24
  · exact w_c25
  · exact w_c26
  · exact w_c27
  · exact w_c28
  · exact w_c29
  · exact w_c30
  · exact w_c31
  · exact w_c32
  · exact w_c33
  · exact w_c34
  · exact w_c35
  · exact w_c36
  · exact w_c37
  · exact w_c38
  · exact w_c39
  · exact w_c40
  · exact w_c41
  · exact w_c42
  · exact w_c43
  · exact w_c44
  · exact w_c45
set_option maxRecDepth 65536 in
theorem w_t1 : (words1.take 24).all (fun c => isCode c || c.before args0 about1) = true := by decide +kernel
set_option maxRecDepth 65536 in
theorem w_t2 : ((words1.drop 24).take 24).all (fun c => isCode c || c.before args0 about1) = true := by decide +kernel
set_option maxRecDepth 65536 in
theorem w_t3 : (((words1.drop 24).drop 24).take 24).all (fun c => isCode c || c.before args0 about1) = true := by decide +kernel
set_option maxRecDepth 65536 in
theorem w_t4 : ((((words1.drop 24).drop 24).drop 24).take 24).all (fun c => isCode c || c.before args0 about1) = true := by decide +kernel
set_option maxRecDepth 65536 in
theorem w_t5 : (((((words1.drop 24).drop 24).drop 24).drop 24).take 24).all (fun c => isCode c || c.before args0 about1) = true := by decide +kernel
set_option maxRecDepth 65536 in
theorem w_t6 : ((((((words1.drop 24).drop 24).drop 24).drop 24).drop 24).take 24).all (fun c => isCode c || c.before args0 about1) = true := by decide +kernel
set_option maxRecDepth 65536 in
theorem w_t7 : (((((((words1.drop 24).drop 24).drop 24).drop 24).drop 24).drop 24).take 24).all (fun c => isCode c || c.before args0 about1) = true := by decide +kernel
set_option maxRecDepth 65536 in
theorem w_t8 : ((((((((words1.drop 24).drop 24).drop 24).drop 24).drop 24).drop 24).drop 24).take 24).all (fun c => isCode c || c.before args0 about1) = true := by decide +kernel
set_option maxRecDepth 65536 in
theorem w_t9 : (((((((((words1.drop 24).drop 24).drop 24).drop 24).drop 24).drop 24).drop 24).drop 24).take 24).all (fun c => isCode c || c.before args0 about1) = true := by decide +kernel
set_option maxRecDepth 65536 in
theorem w_t10 : ((((((((((words1.drop 24).drop 24).drop 24).drop 24).drop 24).drop 24).drop 24).drop 24).drop 24).take 24).all (fun c => isCode c || c.before args0 about1) = true := by decide +kernel
set_option maxRecDepth 65536 in
theorem w_t11 : ((((((((((words1.drop 24).drop 24).drop 24).drop 24).drop 24).drop 24).drop 24).drop 24).drop 24).drop 24).all (fun c => isCode c || c.before args0 about1) = true := by decide +kernel
theorem w_tables : (allAtoms (Jvm.Cond.code x code maxLocals ret :: tables_1)).before args0 about1 = true := by
  rw [allAtoms_all]
  show words1.all (fun c => c.before args0 about1) = true
  refine all_split ?_ w_codes
  rw [← List.take_append_drop 24 words1, List.all_append, w_t1, ← List.take_append_drop 24 (words1.drop 24), List.all_append, w_t2, ← List.take_append_drop 24 ((words1.drop 24).drop 24), List.all_append, w_t3, ← List.take_append_drop 24 (((words1.drop 24).drop 24).drop 24), List.all_append, w_t4, ← List.take_append_drop 24 ((((words1.drop 24).drop 24).drop 24).drop 24), List.all_append, w_t5, ← List.take_append_drop 24 (((((words1.drop 24).drop 24).drop 24).drop 24).drop 24), List.all_append, w_t6, ← List.take_append_drop 24 ((((((words1.drop 24).drop 24).drop 24).drop 24).drop 24).drop 24), List.all_append, w_t7, ← List.take_append_drop 24 (((((((words1.drop 24).drop 24).drop 24).drop 24).drop 24).drop 24).drop 24), List.all_append, w_t8, ← List.take_append_drop 24 ((((((((words1.drop 24).drop 24).drop 24).drop 24).drop 24).drop 24).drop 24).drop 24), List.all_append, w_t9, ← List.take_append_drop 24 (((((((((words1.drop 24).drop 24).drop 24).drop 24).drop 24).drop 24).drop 24).drop 24).drop 24), List.all_append, w_t10, w_t11]
  rfl
set_option maxRecDepth 65536 in
theorem w_rest : rest_1_c.before args0 about1 = true := by decide +kernel
set_option maxRecDepth 65536 in
theorem w_case : (Jvm.Cond.and given_1 narrow_1).before args0 about1 = true := by decide +kernel
set_option maxRecDepth 65536 in
theorem w_consts : constsHeld consts_1 about1 := Jvm.Lit.constsHeldB_iff.mp (by decide +kernel)
theorem w_applies : (headSpec (Jvm.Cond.code x code maxLocals ret :: tables_1) room_1).applies x e0.platform about1 = true :=
  (Spec.applies_iff w_frames).mpr ⟨w_running, w_runnable, w_alone, w_named, w_hears, w_ripe, w_room, w_tables⟩
theorem atStart : AtStart classFile x code maxLocals ret World_1 tables_1 room_1 Calls_1 rest_1 Pre_1 launch0 p0 e0 about1 theMethod args0 below0 :=
  ⟨lists_1, trivial, launch0.admits_env _ _ _, launch0.least_env, fairChoices_fair.cas, fairChoices_fair.clock, w_frames, w_args, w_heap, w_applies, ⟨w_consts, trivial⟩, w_rest, w_case⟩
end start1
theorem witness_1 : WitnessClaimed_1 := ⟨start1.p0, start1.e0, start1.about1, start1.theMethod, start1.args0, start1.below0, start1.atStart⟩
end Jvm.Pilot.@@N@@
