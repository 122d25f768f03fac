import JvmDerived
import JvmDerived.Pilot.@@N@@Statement
import JvmDerived.Pilot.@@N@@Code
set_option linter.unusedVariables false
set_option linter.unusedSimpArgs false
namespace Jvm.Pilot.@@N@@
open Jvm Jvm.ClassFile Sem Op Lib Jvm.Free Jvm.Stand Jvm.LawKit Jvm.RoadKit Bundle Jvm.Pilot.@@N@@.Jvm.D
abbrev jv (x : Int64) : Slot := .val (.long x)
section OwnKit
variable {p : Program} {l : Launch} {e : Env} {R : Room} {s : State} {m : MethodId} {args : Array Value} {below : List Frame} {meth : Method} {c : Code} {T T' : State} {locs : List Loc} {cells slots kc ks : Nat} {Q : Option Value → Heap → List Loc → Prop} {g g' : JFrame}
/-- from the state T, its top frame g, the invocation comes to its end with Q -/
def own_WP (p : Program) (e : Env) (below : List Frame) (s : State) (Q : Option Value → Heap → List Loc → Prop) (kc ks : Nat) (T : State) (g : JFrame) : Prop :=
  ∃ s₂ o, Steps p.tables e below (T.setTop g) s₂ ∧ s₂.status = .running ∧ Ended s₂ below o ∧ ∃ v L, o = .returned v ∧ Q v s₂.heap L ∧ FrameEnd s o s₂ L kc ks
theorem own_step (h : ∀ t, Steps p.tables e below (T'.setTop g') t → Steps p.tables e below (T.setTop g) t) (hr : own_WP p e below s Q kc ks T' g') : own_WP p e below s Q kc ks T g := by
  obtain ⟨s₂, o, h1, h2⟩ := hr
  exact ⟨s₂, o, h _ h1, h2⟩
theorem own_st (g' : JFrame) (h : ∀ t, Steps p.tables e below (T.setTop g') t → Steps p.tables e below (T.setTop g) t) (hr : own_WP p e below s Q kc ks T g') : own_WP p e below s Q kc ks T g := own_step h hr
theorem own_jump (h : Steps p.tables e below (T.setTop g) (T'.setTop g')) (hr : own_WP p e below s Q kc ks T' g') : own_WP p e below s Q kc ks T g := by
  obtain ⟨s₂, o, h1, h2⟩ := hr
  exact ⟨s₂, o, h.trans h1, h2⟩
theorem own_ret (X : Stand p l e R s m args below meth c T locs cells slots) (hlk : meth.locks = false) {v : Option Value} (hv : meth.sig.returnType = none → v = none)
    (hst : ∀ fs, (∀ (f : JFrame) (acts : List Action), f.method = m → f.locked = none → f.entered = [] → (doReturn e (T.setTop f) acts v).1 = T.setFrames fs) → Steps p.tables e below (T.setTop g) (T.setFrames fs))
    (hq : Q v T.heap locs) (h1 : cells ≤ kc) (h2 : slots ≤ ks) : own_WP p e below s Q kc ks T g := by
  obtain ⟨fs, hr, hrun, hended, hW, hsame⟩ := X.leave (v := v) hv hlk
  exact ⟨_, _, hst fs hr, hrun, hended, v, locs, rfl, hq, ⟨v, rfl⟩, hW, hsame.mono h1 h2⟩
theorem own_wide (X : Stand p l e R s m args below meth c T locs cells slots) {cells' slots' : Nat} (h1 : cells ≤ cells') (h2 : slots ≤ slots') : Stand p l e R s m args below meth c T locs cells' slots' :=
  ⟨X.admits, X.cas, X.clock, X.frames, X.room, X.hears, X.method, X.code, X.here, X.tail, X.warmed, X.limits, X.bytes, X.same.mono h1 h2⟩
end OwnKit
theorem own_body {l : Launch} {y : MethodName} {bytes : ByteArray} {maxL : Nat} {ret : Option FieldType} {ws : List Jvm.Cond} {rm : Room} {A : Array Value} {Z : State} {h0 : Heap} {Q : Option Value → Heap → List Loc → Prop} {ls : Array Slot} {kc ks : Nat}
    (hpl : plainFor y = true) (ef : ∀ m, entryFrame m A maxL = mkF m 0 ls [])
    (body : ∀ (p : Program) (e : Env) (s : State) (m : MethodId) (below : List Frame) (meth : Method) (c : Code) (T : State), Stand p l e rm s m A below meth c T [] 0 0 → p.tables.exec = Jvm.exec → c.code = bytes → c.maxLocals = maxL → Z.Warmed39 s.vm → s.vm.findClass y.cls = some m.cls → meth.name = y.name → meth.sig.returnType = ret → meth.locks = false → T.heap = h0 →
      own_WP p e below s Q kc ks T (mkF m 0 ls [])) :
    MetFree l y (head1 (Jvm.Cond.code y bytes maxL ret :: ws) rm) (fun a U => a = A ∧ Z.Warmed39 U.vm ∧ U.heap = h0) (fun _ _ _ _ _ => True) (fun _ U o U' => ∃ v L, o = .returned v ∧ Q v U'.heap L ∧ FrameEnd U o U' L kc ks) := by
  refine MetFree.of_bodySF hpl hisR ?_
  intro p e s m args below meth c s₁ Bd hml0 hP hK
  obtain ⟨rfl, hZ, hh⟩ := hP
  obtain ⟨s₂, o, h1, h2⟩ := body p e s m below meth c s₁ (Stand.of_body Bd) Bd.exec Bd.bytes hml0 hZ (findClass_of_methodNamed Bd.named) (name_of_methodNamed Bd.named Bd.method).1 Bd.returns Bd.notSynchronized (by rw [← hh, Bd.state]; rfl)
  exact ⟨s₂, o, castTop (ef m) h1, h2⟩
theorem own_llt1 {x y : Int64} (h : x < y) : ifCond.holds .lt (lcmpW x y) = true := (if0 _ _).trans (tlt ((lw_lt x y).mpr h)).1
theorem own_llt0 {x y : Int64} (h : ¬ x < y) : ifCond.holds .lt (lcmpW x y) = false := (if0 _ _).trans (flt (mt (lw_lt x y).mp h)).1
theorem own_lge1 {x y : Int64} (h : ¬ x < y) : ifCond.holds .ge (lcmpW x y) = true := (if0 _ _).trans (flt (mt (lw_lt x y).mp h)).2.1
theorem own_lge0 {x y : Int64} (h : x < y) : ifCond.holds .ge (lcmpW x y) = false := (if0 _ _).trans (tlt ((lw_lt x y).mpr h)).2.1
theorem own_lgt1 {x y : Int64} (h : y < x) : ifCond.holds .gt (lcmpW x y) = true := (if0 _ _).trans (tlt ((lw_gt x y).mpr h)).2.2.1
theorem own_lgt0 {x y : Int64} (h : ¬ y < x) : ifCond.holds .gt (lcmpW x y) = false := (if0 _ _).trans (flt (mt (lw_gt x y).mp h)).2.2.1
theorem own_lle1 {x y : Int64} (h : ¬ y < x) : ifCond.holds .le (lcmpW x y) = true := (if0 _ _).trans (flt (mt (lw_gt x y).mp h)).2.2.2
theorem own_lle0 {x y : Int64} (h : y < x) : ifCond.holds .le (lcmpW x y) = false := (if0 _ _).trans (tlt ((lw_gt x y).mpr h)).2.2.2
theorem own_leq1 {x y : Int64} (h : x = y) : ifCond.holds .eq (lcmpW x y) = true := (if0 _ _).trans (teq ((lw_eq x y).mpr h)).1
theorem own_leq0 {x y : Int64} (h : ¬ x = y) : ifCond.holds .eq (lcmpW x y) = false := (if0 _ _).trans (feq (mt (lw_eq x y).mp h)).1
theorem own_lne1 {x y : Int64} (h : ¬ x = y) : ifCond.holds .ne (lcmpW x y) = true := (if0 _ _).trans (feq (mt (lw_eq x y).mp h)).2
theorem own_lne0 {x y : Int64} (h : x = y) : ifCond.holds .ne (lcmpW x y) = false := (if0 _ _).trans (teq ((lw_eq x y).mpr h)).2
theorem own_b64 {n : Int} (h1 : -2 ^ 63 ≤ n) (h2 : n < 2 ^ 63) : n.bmod (2 ^ 64) = n := by rw [Int.bmod_def]; omega
theorem own_add64 {x y : Int64} (h1 : -2 ^ 63 ≤ x.toInt + y.toInt) (h2 : x.toInt + y.toInt < 2 ^ 63) : (x + y).toInt = x.toInt + y.toInt := by rw [Int64.toInt_add, own_b64 h1 h2]
theorem own_sub64 {x y : Int64} (h1 : -2 ^ 63 ≤ x.toInt - y.toInt) (h2 : x.toInt - y.toInt < 2 ^ 63) : (x - y).toInt = x.toInt - y.toInt := by rw [Int64.toInt_sub, own_b64 h1 h2]
theorem own_mul64 {x y : Int64} (h1 : -2 ^ 63 ≤ x.toInt * y.toInt) (h2 : x.toInt * y.toInt < 2 ^ 63) : (x * y).toInt = x.toInt * y.toInt := by rw [Int64.toInt_mul, own_b64 h1 h2]
theorem own_div64 {x y : Int64} (hx : 0 ≤ x.toInt) (hy : 0 < y.toInt) : (x / y).toInt = x.toInt / y.toInt := by
  rw [Int64.toInt_div, Int.tdiv_eq_ediv_of_nonneg hx]
  have h1 : 0 ≤ x.toInt / y.toInt := Int.ediv_nonneg hx (by omega)
  have h2 : x.toInt / y.toInt ≤ x.toInt := Int.ediv_le_self _ hx
  have h3 := x.toInt_lt
  exact own_b64 (by omega) (by omega)
theorem own_mod64 {x y : Int64} (hx : 0 ≤ x.toInt) : (x % y).toInt = x.toInt % y.toInt := by
  rw [Int64.toInt_mod, Int.tmod_eq_emod_of_nonneg hx]
theorem own_lrem (x y : Int64) : x - (x / y) * y = x % y := by
  apply Int64.toInt_inj.mp
  have h1 := Int64.le_toInt (x % y)
  have h2 := Int64.toInt_lt (x % y)
  rw [Int64.toInt_sub, Int64.toInt_mul, Int64.toInt_div, Int.bmod_mul_bmod, Int.sub_bmod_bmod, Int.mul_comm (x.toInt.tdiv y.toInt), ← Int.tmod_def, ← Int64.toInt_mod]
  exact Int.bmod_eq_of_le_mul_two (by omega) (by omega)
theorem own_i64nat (v : Int64) : v.toInt = if v.toBitVec.toNat < 2 ^ 63 then (v.toBitVec.toNat : Int) else (v.toBitVec.toNat : Int) - 2 ^ 64 := by
  have := v.toBitVec.isLt
  rw [← Int64.toInt_toBitVec, BitVec.toInt_eq_toNat_cond]
  split <;> split <;> omega
theorem own_i32nat (v : Int32) : v.toInt = if v.toBitVec.toNat < 2 ^ 31 then (v.toBitVec.toNat : Int) else (v.toBitVec.toNat : Int) - 2 ^ 32 := by
  have := v.toBitVec.isLt
  rw [← Int32.toInt_toBitVec, BitVec.toInt_eq_toNat_cond]
  split <;> split <;> omega
/-- a mask of k ones, k at most 31 -/
theorem own_and32 (x m : Int32) {k : Nat} (hk : k ≤ 31) (hm : m.toBitVec.toNat = 2 ^ k - 1) : 0 ≤ (x &&& m).toInt ∧ (x &&& m).toInt < 2 ^ k ∧ (x &&& m).toBitVec.toNat = x.toBitVec.toNat % 2 ^ k := by
  have h1 := own_i32nat (x &&& m)
  have h2 : (x &&& m).toBitVec.toNat = x.toBitVec.toNat &&& m.toBitVec.toNat := rfl
  rw [hm, Nat.and_two_pow_sub_one_eq_mod] at h2
  have h3 : x.toBitVec.toNat % 2 ^ k < 2 ^ k := Nat.mod_lt _ (Nat.two_pow_pos k)
  have h4 : 2 ^ k ≤ 2 ^ 31 := Nat.pow_le_pow_right (by decide) hk
  rw [h2, if_pos (Nat.lt_of_lt_of_le h3 h4)] at h1
  refine ⟨by omega, ?_, h2⟩
  rw [h1]
  exact_mod_cast h3
theorem own_and64 (x m : Int64) {k : Nat} (hk : k ≤ 63) (hm : m.toBitVec.toNat = 2 ^ k - 1) : 0 ≤ (x &&& m).toInt ∧ (x &&& m).toInt < 2 ^ k ∧ (x &&& m).toBitVec.toNat = x.toBitVec.toNat % 2 ^ k := by
  have h1 := own_i64nat (x &&& m)
  have h2 : (x &&& m).toBitVec.toNat = x.toBitVec.toNat &&& m.toBitVec.toNat := rfl
  rw [hm, Nat.and_two_pow_sub_one_eq_mod] at h2
  have h3 : x.toBitVec.toNat % 2 ^ k < 2 ^ k := Nat.mod_lt _ (Nat.two_pow_pos k)
  have h4 : 2 ^ k ≤ 2 ^ 63 := Nat.pow_le_pow_right (by decide) hk
  rw [h2, if_pos (Nat.lt_of_lt_of_le h3 h4)] at h1
  refine ⟨by omega, ?_, h2⟩
  rw [h1]
  exact_mod_cast h3
theorem own_lremM {p : Program} {l : Launch} {e : Env} {R : Room} {s : State} {m : MethodId} {args : Array Value} {below : List Frame} {meth : Method} {c : Code} {T : State} {locs : List Loc} {cells slots : Nat} {g : JFrame} {target : State} (X : Stand p l e R s m args below meth c T locs cells slots) (hx : p.tables.exec = Jvm.exec) (hg : g.method = m) {x y : Int64} {rest : List Value} (hd : decode c.code g.pc = .ok (.lrem, 1)) (hs : g.stack = .long y :: .long x :: rest) (hy : y ≠ 0)
    (hr : Steps p.tables e below (T.setTop { g with pc := g.pc + 1, stack := .long (x % y) :: rest }) target) : Steps p.tables e below (T.setTop g) target :=
  XS.lrem X.here hx hg hd hs hy (by rw [own_lrem]; exact hr)
theorem own_pos_ne {x : Int64} (h : (0 : Int64) < x) : x ≠ 0 := fun q => by rw [q] at h; exact absurd h (by decide)

def own_min (x y : Int64) : Int64 := if y < x then y else x
def own_max (x y : Int64) : Int64 := if x < y then y else x
def own_pick (x : Int64) (k : Int32) : Int64 := if k = (0 : Int32) then (9223372036854775807 : Int64) else if k = (1 : Int32) then (9223372036854775806 : Int64) else if k = (2 : Int32) then (1 : Int64) else own_max (1 : Int64) (x &&& (9223372036854775807 : Int64))
def own_syncs (a b : Int64) : Int32 := if ¬ a = (9223372036854775807 : Int64) ∨ ¬ b = (9223372036854775807 : Int64) then 1 else 0
theorem own_pick_pos (x : Int64) (k : Int32) : ¬ own_pick x k < (1 : Int64) := by
  unfold own_pick own_max
  repeat' split
  · decide
  · decide
  · decide
  · rename_i h; rw [Int64.lt_iff_toInt_lt] at h ⊢; omega
  · decide
theorem own_yes (a b : Int64) (h : own_min a b < (9223372036854775807 : Int64)) : own_syncs a b = (1 : Int32) := by
  unfold own_min at h
  unfold own_syncs
  rw [if_pos]
  by_cases q : a = (9223372036854775807 : Int64)
  · right
    intro r
    rw [q, r] at h
    exact absurd h (by decide)
  · exact Or.inl q
theorem own_no (a b : Int64) (h : ¬ own_min a b < (9223372036854775807 : Int64)) : own_syncs a b = (0 : Int32) := by
  have ha := a.toInt_lt
  have hb := b.toInt_lt
  have e : (9223372036854775807 : Int64).toInt = 9223372036854775807 := rfl
  unfold own_min at h
  unfold own_syncs
  simp only [Int64.lt_iff_toInt_lt, ← Int64.toInt_inj, e] at *
  split at h <;> (rw [if_neg]; omega)
theorem d5_0 : decode jdk_29_method_70_code 0 = .ok (.lload_n 0, 1) := by decide +kernel
theorem d5_1 : decode jdk_29_method_70_code 1 = .ok (.lload_n 2, 1) := by decide +kernel
theorem d5_2 : decode jdk_29_method_70_code 2 = .ok (.lcmp, 1) := by decide +kernel
theorem d5_3 : decode jdk_29_method_70_code 3 = .ok (.ifCond .gt 7, 3) := by decide +kernel
theorem d5_10 : decode jdk_29_method_70_code 10 = .ok (.lload_n 2, 1) := by decide +kernel
theorem d5_11 : decode jdk_29_method_70_code 11 = .ok (.lreturn, 1) := by decide +kernel
theorem d5_6 : decode jdk_29_method_70_code 6 = .ok (.lload_n 0, 1) := by decide +kernel
theorem d5_7 : decode jdk_29_method_70_code 7 = .ok (.goto 4, 3) := by decide +kernel
theorem own_ef5 (m : MethodId) (q1 : Int64) (q2 : Int64) : entryFrame m #[(.long q1), (.long q2)] 4 = mkF m 0 #[jv q1, .second, jv q2, .second] [] := by first | (simp [entryFrame, mkF, argsToLocals, Value.category]; done) | rfl
def own_Q5 (Z : State) (q1 : Int64) (q2 : Int64) (h0 : Heap) (n0 : Nat) (v : Option Value) (h : Heap) (L : List Loc) : Prop := v = some (.long (own_min q1 q2)) ∧ Fr n0 L ∧ h = h0
set_option maxRecDepth 65536 in
set_option maxHeartbeats 40000000 in
theorem own_rm5 (l : Launch) (Z : State) (a0 : Array Value) (hw : ∀ d ∈ tables_1, d.before a0 Z = true) (ws : List Jvm.Cond) (q1 : Int64) (q2 : Int64) (h0 : Heap) (n0 : Nat) (Z0 : n0 ≤ h0.size) :
    MetFree l (⟨"java/lang/Math", "min", "(JJ)J"⟩ : MethodName) (head1 (Jvm.Cond.code (⟨"java/lang/Math", "min", "(JJ)J"⟩ : MethodName) jdk_29_method_70_code 4 (some .long) :: ws) ({ frames := 0, cells := 0, slots := 0, locals := 0 } : Room)) (fun a U => a = #[(.long q1), (.long q2)] ∧ Z.Warmed39 U.vm ∧ U.heap = h0) (fun _ _ _ _ _ => True) (fun _ U o U' => ∃ v L, o = .returned v ∧ own_Q5 Z q1 q2 h0 n0 v U'.heap L ∧ FrameEnd U o U' L ({ frames := 0, cells := 0, slots := 0, locals := 0 } : Room).cells ({ frames := 0, cells := 0, slots := 0, locals := 0 } : Room).slots) := by
  refine own_body (Jvm.Free.JP.mathPlain rfl (by decide +kernel)) (fun m => own_ef5 m q1 q2) ?_
  intro p e s m below meth c T0 X0 hx hby hml hZ hown hnm hret hlk e0
  have hown : s.vm.findClass "java/lang/Math" = some m.cls := hown
  have hnm : meth.name = "min" := hnm
  have N0 := Fr.nil n0
  refine own_st (mkF m 1 #[jv q1, .second, jv q2, .second] [(.long q1)]) (fun t k => XS.lloadN X0.here hx rfl (hb hby d5_0) rfl k) ?_
  refine own_st (mkF m 2 #[jv q1, .second, jv q2, .second] [(.long q2), (.long q1)]) (fun t k => XS.lloadN X0.here hx rfl (hb hby d5_1) rfl k) ?_
  refine own_st (mkF m 3 #[jv q1, .second, jv q2, .second] [(.int (lcmpW q1 q2))]) (fun t k => XS.lcmp X0.here hx rfl (hb hby d5_2) rfl k) ?_
  by_cases hc1 : q2 < q1
  · refine own_st (mkF m 10 #[jv q1, .second, jv q2, .second] []) (fun t k => XS.ifYes X0.here hx rfl (pc0 := 3) (pc' := 10) rfl (hb hby d5_3) rfl (own_lgt1 hc1) (by decide) (by decide) k) ?_
    refine own_st (mkF m 11 #[jv q1, .second, jv q2, .second] [(.long q2)]) (fun t k => XS.lloadN X0.here hx rfl (hb hby d5_10) rfl k) ?_
    refine own_ret X0 hlk (v := some (.long q2)) (fun h => by rw [hret] at h; cases h) (fun fs hr => X0.lreturnOut hx hret (hb hby d5_11) hr) ?_ (by decide) (by decide)
    show own_Q5 Z q1 q2 h0 n0 _ T0.heap _
    rw [e0]
    exact ⟨congrArg (fun z => some (Value.long z)) (by simp [own_min, hc1] : q2 = own_min q1 q2), N0, rfl⟩
  · refine own_st (mkF m 6 #[jv q1, .second, jv q2, .second] []) (fun t k => XS.ifNo X0.here hx rfl (hb hby d5_3) rfl (own_lgt0 hc1) k) ?_
    refine own_st (mkF m 7 #[jv q1, .second, jv q2, .second] [(.long q1)]) (fun t k => XS.lloadN X0.here hx rfl (hb hby d5_6) rfl k) ?_
    refine own_st (mkF m 11 #[jv q1, .second, jv q2, .second] [(.long q1)]) (fun t k => XS.goto X0.here hx rfl (pc0 := 7) (pc' := 11) rfl (hb hby d5_7) (by decide) (by decide) k) ?_
    refine own_ret X0 hlk (v := some (.long q1)) (fun h => by rw [hret] at h; cases h) (fun fs hr => X0.lreturnOut hx hret (hb hby d5_11) hr) ?_ (by decide) (by decide)
    show own_Q5 Z q1 q2 h0 n0 _ T0.heap _
    rw [e0]
    exact ⟨congrArg (fun z => some (Value.long z)) (by simp [own_min, hc1] : q1 = own_min q1 q2), N0, rfl⟩
theorem d7_0 : decode jdk_29_method_66_code 0 = .ok (.lload_n 0, 1) := by decide +kernel
theorem d7_1 : decode jdk_29_method_66_code 1 = .ok (.lload_n 2, 1) := by decide +kernel
theorem d7_2 : decode jdk_29_method_66_code 2 = .ok (.lcmp, 1) := by decide +kernel
theorem d7_3 : decode jdk_29_method_66_code 3 = .ok (.ifCond .lt 7, 3) := by decide +kernel
theorem d7_10 : decode jdk_29_method_66_code 10 = .ok (.lload_n 2, 1) := by decide +kernel
theorem d7_11 : decode jdk_29_method_66_code 11 = .ok (.lreturn, 1) := by decide +kernel
theorem d7_6 : decode jdk_29_method_66_code 6 = .ok (.lload_n 0, 1) := by decide +kernel
theorem d7_7 : decode jdk_29_method_66_code 7 = .ok (.goto 4, 3) := by decide +kernel
theorem own_ef7 (m : MethodId) (q1 : Int64) (q2 : Int64) : entryFrame m #[(.long q1), (.long q2)] 4 = mkF m 0 #[jv q1, .second, jv q2, .second] [] := by first | (simp [entryFrame, mkF, argsToLocals, Value.category]; done) | rfl
def own_Q7 (Z : State) (q1 : Int64) (q2 : Int64) (h0 : Heap) (n0 : Nat) (v : Option Value) (h : Heap) (L : List Loc) : Prop := v = some (.long (own_max q1 q2)) ∧ Fr n0 L ∧ h = h0
set_option maxRecDepth 65536 in
set_option maxHeartbeats 40000000 in
theorem own_rm7 (l : Launch) (Z : State) (a0 : Array Value) (hw : ∀ d ∈ tables_1, d.before a0 Z = true) (ws : List Jvm.Cond) (q1 : Int64) (q2 : Int64) (h0 : Heap) (n0 : Nat) (Z0 : n0 ≤ h0.size) :
    MetFree l (⟨"java/lang/Math", "max", "(JJ)J"⟩ : MethodName) (head1 (Jvm.Cond.code (⟨"java/lang/Math", "max", "(JJ)J"⟩ : MethodName) jdk_29_method_66_code 4 (some .long) :: ws) ({ frames := 0, cells := 0, slots := 0, locals := 0 } : Room)) (fun a U => a = #[(.long q1), (.long q2)] ∧ Z.Warmed39 U.vm ∧ U.heap = h0) (fun _ _ _ _ _ => True) (fun _ U o U' => ∃ v L, o = .returned v ∧ own_Q7 Z q1 q2 h0 n0 v U'.heap L ∧ FrameEnd U o U' L ({ frames := 0, cells := 0, slots := 0, locals := 0 } : Room).cells ({ frames := 0, cells := 0, slots := 0, locals := 0 } : Room).slots) := by
  refine own_body (Jvm.Free.JP.mathPlain rfl (by decide +kernel)) (fun m => own_ef7 m q1 q2) ?_
  intro p e s m below meth c T0 X0 hx hby hml hZ hown hnm hret hlk e0
  have hown : s.vm.findClass "java/lang/Math" = some m.cls := hown
  have hnm : meth.name = "max" := hnm
  have N0 := Fr.nil n0
  refine own_st (mkF m 1 #[jv q1, .second, jv q2, .second] [(.long q1)]) (fun t k => XS.lloadN X0.here hx rfl (hb hby d7_0) rfl k) ?_
  refine own_st (mkF m 2 #[jv q1, .second, jv q2, .second] [(.long q2), (.long q1)]) (fun t k => XS.lloadN X0.here hx rfl (hb hby d7_1) rfl k) ?_
  refine own_st (mkF m 3 #[jv q1, .second, jv q2, .second] [(.int (lcmpW q1 q2))]) (fun t k => XS.lcmp X0.here hx rfl (hb hby d7_2) rfl k) ?_
  by_cases hc2 : q1 < q2
  · refine own_st (mkF m 10 #[jv q1, .second, jv q2, .second] []) (fun t k => XS.ifYes X0.here hx rfl (pc0 := 3) (pc' := 10) rfl (hb hby d7_3) rfl (own_llt1 hc2) (by decide) (by decide) k) ?_
    refine own_st (mkF m 11 #[jv q1, .second, jv q2, .second] [(.long q2)]) (fun t k => XS.lloadN X0.here hx rfl (hb hby d7_10) rfl k) ?_
    refine own_ret X0 hlk (v := some (.long q2)) (fun h => by rw [hret] at h; cases h) (fun fs hr => X0.lreturnOut hx hret (hb hby d7_11) hr) ?_ (by decide) (by decide)
    show own_Q7 Z q1 q2 h0 n0 _ T0.heap _
    rw [e0]
    exact ⟨congrArg (fun z => some (Value.long z)) (by simp [own_max, hc2] : q2 = own_max q1 q2), N0, rfl⟩
  · refine own_st (mkF m 6 #[jv q1, .second, jv q2, .second] []) (fun t k => XS.ifNo X0.here hx rfl (hb hby d7_3) rfl (own_llt0 hc2) k) ?_
    refine own_st (mkF m 7 #[jv q1, .second, jv q2, .second] [(.long q1)]) (fun t k => XS.lloadN X0.here hx rfl (hb hby d7_6) rfl k) ?_
    refine own_st (mkF m 11 #[jv q1, .second, jv q2, .second] [(.long q1)]) (fun t k => XS.goto X0.here hx rfl (pc0 := 7) (pc' := 11) rfl (hb hby d7_7) (by decide) (by decide) k) ?_
    refine own_ret X0 hlk (v := some (.long q1)) (fun h => by rw [hret] at h; cases h) (fun fs hr => X0.lreturnOut hx hret (hb hby d7_11) hr) ?_ (by decide) (by decide)
    show own_Q7 Z q1 q2 h0 n0 _ T0.heap _
    rw [e0]
    exact ⟨congrArg (fun z => some (Value.long z)) (by simp [own_max, hc2] : q1 = own_max q1 q2), N0, rfl⟩
theorem d1_0 : decode method_2_code 0 = .ok (.iload_n 2, 1) := by decide +kernel
theorem d1_1 : decode method_2_code 1 = .ok (.ifCond .ne 7, 3) := by decide +kernel
theorem d1_4 : decode method_2_code 4 = .ok (.ldc2_w 9, 3) := by decide +kernel
theorem hw_4 {a0 : Array Value} {Z : State} (hw : ∀ d ∈ tables_1, d.before a0 Z = true) : (Jvm.Cond.constantLong "com/example/fencer/fencer/log/FlushPolicySyncsPinLaw" (9 : Nat) (9223372036854775807 : Int64)).before a0 Z = true := hw _ (List.mem_of_getElem? (i := 4) rfl)
theorem d1_7 : decode method_2_code 7 = .ok (.lreturn, 1) := by decide +kernel
theorem d1_8 : decode method_2_code 8 = .ok (.iload_n 2, 1) := by decide +kernel
theorem d1_9 : decode method_2_code 9 = .ok (.iconst 1, 1) := by decide +kernel
theorem d1_10 : decode method_2_code 10 = .ok (.if_icmp .ne 7, 3) := by decide +kernel
theorem d1_13 : decode method_2_code 13 = .ok (.ldc2_w 11, 3) := by decide +kernel
theorem hw_36 {a0 : Array Value} {Z : State} (hw : ∀ d ∈ tables_1, d.before a0 Z = true) : (Jvm.Cond.constantLong "com/example/fencer/fencer/log/FlushPolicySyncsPinLaw" (11 : Nat) (9223372036854775806 : Int64)).before a0 Z = true := hw _ (List.mem_of_getElem? (i := 36) rfl)
theorem d1_16 : decode method_2_code 16 = .ok (.lreturn, 1) := by decide +kernel
theorem d1_17 : decode method_2_code 17 = .ok (.iload_n 2, 1) := by decide +kernel
theorem d1_18 : decode method_2_code 18 = .ok (.iconst 2, 1) := by decide +kernel
theorem d1_19 : decode method_2_code 19 = .ok (.if_icmp .ne 5, 3) := by decide +kernel
theorem d1_22 : decode method_2_code 22 = .ok (.lconst 1, 1) := by decide +kernel
theorem d1_23 : decode method_2_code 23 = .ok (.lreturn, 1) := by decide +kernel
theorem d1_24 : decode method_2_code 24 = .ok (.lconst 1, 1) := by decide +kernel
theorem d1_25 : decode method_2_code 25 = .ok (.lload_n 0, 1) := by decide +kernel
theorem d1_26 : decode method_2_code 26 = .ok (.ldc2_w 9, 3) := by decide +kernel
theorem d1_29 : decode method_2_code 29 = .ok (.land, 1) := by decide +kernel
theorem d1_30 : decode method_2_code 30 = .ok (.invokestatic 13, 3) := by decide +kernel
theorem hw_33 {a0 : Array Value} {Z : State} (hw : ∀ d ∈ tables_1, d.before a0 Z = true) : (Jvm.Cond.methodLink "com/example/fencer/fencer/log/FlushPolicySyncsPinLaw" (13 : Nat) ({ cls := "java/lang/Math", name := "max", desc := "(JJ)J" } : Jvm.MethodName)).before a0 Z = true := hw _ (List.mem_of_getElem? (i := 33) rfl)
theorem hw_35 {a0 : Array Value} {Z : State} (hw : ∀ d ∈ tables_1, d.before a0 Z = true) : (Jvm.Cond.code ({ cls := "java/lang/Math", name := "max", desc := "(JJ)J" } : Jvm.MethodName) jdk_29_method_66_code (4 : Nat) (Option.some Jvm.ClassFile.FieldType.long)).before a0 Z = true := hw _ (List.mem_of_getElem? (i := 35) rfl)
theorem hw_25 {a0 : Array Value} {Z : State} (hw : ∀ d ∈ tables_1, d.before a0 Z = true) : (Jvm.Cond.initialized "java/lang/Math").before a0 Z = true := hw _ (List.mem_of_getElem? (i := 25) rfl)
theorem pd_0 : parseMethodDescriptor "(JJ)J" = some ⟨[.long, .long], some .long⟩ := by decide +kernel
theorem hw_34 {a0 : Array Value} {Z : State} (hw : ∀ d ∈ tables_1, d.before a0 Z = true) : (Jvm.Cond.static ({ cls := "java/lang/Math", name := "max", desc := "(JJ)J" } : Jvm.MethodName)).before a0 Z = true := hw _ (List.mem_of_getElem? (i := 34) rfl)
theorem d1_33 : decode method_2_code 33 = .ok (.lreturn, 1) := by decide +kernel
theorem pn_1 : plainName "com/example/fencer/fencer/log/FlushPolicySyncsPinLaw" = true := by first | (simp [plainName, overriddenIn]; done) | decide +kernel
theorem own_ef1 (m : MethodId) (q1 : Int64) (p2 : Int32) : entryFrame m #[(.long q1), (.int p2)] 3 = mkF m 0 #[jv q1, .second, iv p2] [] := by first | (simp [entryFrame, mkF, argsToLocals, Value.category]; done) | rfl
def own_Q1 (Z : State) (q1 : Int64) (p2 : Int32) (h0 : Heap) (n0 : Nat) (v : Option Value) (h : Heap) (L : List Loc) : Prop := v = some (.long (own_pick q1 p2)) ∧ Fr n0 L ∧ h = h0
set_option maxRecDepth 65536 in
set_option maxHeartbeats 40000000 in
theorem own_rm1 (l : Launch) (Z : State) (a0 : Array Value) (hw : ∀ d ∈ tables_1, d.before a0 Z = true) (ws : List Jvm.Cond) (q1 : Int64) (p2 : Int32) (h0 : Heap) (n0 : Nat) (Z0 : n0 ≤ h0.size) :
    MetFree l (⟨"com/example/fencer/fencer/log/FlushPolicySyncsPinLaw", "pick", "(JI)J"⟩ : MethodName) (head1 (Jvm.Cond.code (⟨"com/example/fencer/fencer/log/FlushPolicySyncsPinLaw", "pick", "(JI)J"⟩ : MethodName) method_2_code 3 (some .long) :: ws) ({ frames := 1, cells := 0, slots := 0, locals := 15 } : Room)) (fun a U => a = #[(.long q1), (.int p2)] ∧ Z.Warmed39 U.vm ∧ U.heap = h0) (fun _ _ _ _ _ => True) (fun _ U o U' => ∃ v L, o = .returned v ∧ own_Q1 Z q1 p2 h0 n0 v U'.heap L ∧ FrameEnd U o U' L ({ frames := 1, cells := 0, slots := 0, locals := 15 } : Room).cells ({ frames := 1, cells := 0, slots := 0, locals := 15 } : Room).slots) := by
  refine own_body (plainFor_of_name pn_1) (fun m => own_ef1 m q1 p2) ?_
  intro p e s m below meth c T0 X0 hx hby hml hZ hown hnm hret hlk e0
  have hown : s.vm.findClass "com/example/fencer/fencer/log/FlushPolicySyncsPinLaw" = some m.cls := hown
  have hnm : meth.name = "pick" := hnm
  have N0 := Fr.nil n0
  refine own_st (mkF m 1 #[jv q1, .second, iv p2] [(.int p2)]) (fun t k => XS.iloadN X0.here hx rfl (hb hby d1_0) rfl k) ?_
  by_cases hc3 : p2 = (0 : Int32)
  · refine own_st (mkF m 4 #[jv q1, .second, iv p2] []) (fun t k => XS.ifNo X0.here hx rfl (hb hby d1_1) rfl ((if0 _ _).trans (teq hc3).2) k) ?_
    refine own_st (mkF m 7 #[jv q1, .second, iv p2] [(.long (9223372036854775807 : Int64))]) (fun t k => X0.ldc2Long hx hown (mvT hZ (hw_4 hw)) (g := (mkF m 4 #[jv q1, .second, iv p2] [])) rfl (hb hby d1_4) _ k) ?_
    refine own_ret X0 hlk (v := some (.long (9223372036854775807 : Int64))) (fun h => by rw [hret] at h; cases h) (fun fs hr => X0.lreturnOut hx hret (hb hby d1_7) hr) ?_ (by decide) (by decide)
    show own_Q1 Z q1 p2 h0 n0 _ T0.heap _
    rw [e0]
    exact ⟨congrArg (fun z => some (Value.long z)) (by simp [own_pick, hc3] : (9223372036854775807 : Int64) = own_pick q1 p2), N0, rfl⟩
  · refine own_st (mkF m 8 #[jv q1, .second, iv p2] []) (fun t k => XS.ifYes X0.here hx rfl (pc0 := 1) (pc' := 8) rfl (hb hby d1_1) rfl ((if0 _ _).trans (feq hc3).2) (by decide) (by decide) k) ?_
    refine own_st (mkF m 9 #[jv q1, .second, iv p2] [(.int p2)]) (fun t k => XS.iloadN X0.here hx rfl (hb hby d1_8) rfl k) ?_
    refine own_st (mkF m 10 #[jv q1, .second, iv p2] [(.int (1 : Int32)), (.int p2)]) (fun t k => XS.iconst X0.here hx rfl (hb hby d1_9) k) ?_
    by_cases hc4 : p2 = (1 : Int32)
    · refine own_st (mkF m 13 #[jv q1, .second, iv p2] []) (fun t k => XS.icmpNo X0.here hx rfl (hb hby d1_10) rfl (teq hc4).2 k) ?_
      refine own_st (mkF m 16 #[jv q1, .second, iv p2] [(.long (9223372036854775806 : Int64))]) (fun t k => X0.ldc2Long hx hown (mvT hZ (hw_36 hw)) (g := (mkF m 13 #[jv q1, .second, iv p2] [])) rfl (hb hby d1_13) _ k) ?_
      refine own_ret X0 hlk (v := some (.long (9223372036854775806 : Int64))) (fun h => by rw [hret] at h; cases h) (fun fs hr => X0.lreturnOut hx hret (hb hby d1_16) hr) ?_ (by decide) (by decide)
      show own_Q1 Z q1 p2 h0 n0 _ T0.heap _
      rw [e0]
      exact ⟨congrArg (fun z => some (Value.long z)) (by simp [own_pick, hc3, hc4] : (9223372036854775806 : Int64) = own_pick q1 p2), N0, rfl⟩
    · refine own_st (mkF m 17 #[jv q1, .second, iv p2] []) (fun t k => XS.icmpYes X0.here hx rfl (pc0 := 10) (pc' := 17) rfl (hb hby d1_10) rfl (feq hc4).2 (by decide) (by decide) k) ?_
      refine own_st (mkF m 18 #[jv q1, .second, iv p2] [(.int p2)]) (fun t k => XS.iloadN X0.here hx rfl (hb hby d1_17) rfl k) ?_
      refine own_st (mkF m 19 #[jv q1, .second, iv p2] [(.int (2 : Int32)), (.int p2)]) (fun t k => XS.iconst X0.here hx rfl (hb hby d1_18) k) ?_
      by_cases hc5 : p2 = (2 : Int32)
      · refine own_st (mkF m 22 #[jv q1, .second, iv p2] []) (fun t k => XS.icmpNo X0.here hx rfl (hb hby d1_19) rfl (teq hc5).2 k) ?_
        refine own_st (mkF m 23 #[jv q1, .second, iv p2] [(.long (1 : Int64))]) (fun t k => XS.lconst X0.here hx rfl (hb hby d1_22) k) ?_
        refine own_ret X0 hlk (v := some (.long (1 : Int64))) (fun h => by rw [hret] at h; cases h) (fun fs hr => X0.lreturnOut hx hret (hb hby d1_23) hr) ?_ (by decide) (by decide)
        show own_Q1 Z q1 p2 h0 n0 _ T0.heap _
        rw [e0]
        exact ⟨congrArg (fun z => some (Value.long z)) (by simp [own_pick, hc3, hc4, hc5] : (1 : Int64) = own_pick q1 p2), N0, rfl⟩
      · refine own_st (mkF m 24 #[jv q1, .second, iv p2] []) (fun t k => XS.icmpYes X0.here hx rfl (pc0 := 19) (pc' := 24) rfl (hb hby d1_19) rfl (feq hc5).2 (by decide) (by decide) k) ?_
        refine own_st (mkF m 25 #[jv q1, .second, iv p2] [(.long (1 : Int64))]) (fun t k => XS.lconst X0.here hx rfl (hb hby d1_24) k) ?_
        refine own_st (mkF m 26 #[jv q1, .second, iv p2] [(.long q1), (.long (1 : Int64))]) (fun t k => XS.lloadN X0.here hx rfl (hb hby d1_25) rfl k) ?_
        refine own_st (mkF m 29 #[jv q1, .second, iv p2] [(.long (9223372036854775807 : Int64)), (.long q1), (.long (1 : Int64))]) (fun t k => X0.ldc2Long hx hown (mvT hZ (hw_4 hw)) (g := (mkF m 26 #[jv q1, .second, iv p2] [(.long q1), (.long (1 : Int64))])) rfl (hb hby d1_26) _ k) ?_
        refine own_st (mkF m 30 #[jv q1, .second, iv p2] [(.long (q1 &&& (9223372036854775807 : Int64))), (.long (1 : Int64))]) (fun t k => XS.land X0.here hx rfl (hb hby d1_29) rfl k) ?_
        obtain ⟨_, _, ⟨T6, L6, k6, n6⟩, -, X6, ⟨Lc6, hQ6, l6, y6, z6⟩, st6⟩ := Jvm.LawKit.callS X0 hx (y := (⟨"java/lang/Math", "max", "(JJ)J"⟩ : MethodName)) hown (mvT hZ (hw_33 hw)) (mvT hZ (hw_34 hw)) (mvT hZ (hw_25 hw)) (mvT hZ (hw_35 hw)) (by decide) (backOf (W := 0) (own_rm7 l Z a0 hw [] (1 : Int64) (q1 &&& (9223372036854775807 : Int64)) h0 n0 Z0) hZ (hw_35 hw) (hw_25 hw) (by decide) (by decide)) (g := (mkF m 30 #[jv q1, .second, iv p2] [(.long (q1 &&& (9223372036854775807 : Int64))), (.long (1 : Int64))])) rfl (by rw [hml]; rfl) (argsL := [(.long (1 : Int64)), (.long (q1 &&& (9223372036854775807 : Int64)))]) (rest := []) (lenOf pd_0 rfl) rfl (by show 2 * 0 + _ ≤ _; exact Nat.le_of_eq rfl) (hb hby d1_30) (fun _ _ => ⟨rfl, e0, (by decide : 0 + 0 ≤ _), (by decide : 0 + 0 ≤ _)⟩)
        dsimp only [Pt.U, Pt.locs, Pt.cells, Pt.slots] at X6 l6 y6 z6 st6 hQ6
        subst l6 y6 z6
        obtain ⟨rfl, Nq6, e6⟩ := hQ6
        have N6 := Fr.app N0 Nq6
        refine own_step (g' := (mkF m 33 #[jv q1, .second, iv p2] [(.long (own_max (1 : Int64) (q1 &&& (9223372036854775807 : Int64))))])) st6 ?_
        refine own_ret X6 hlk (v := some (.long (own_max (1 : Int64) (q1 &&& (9223372036854775807 : Int64))))) (fun h => by rw [hret] at h; cases h) (fun fs hr => X6.lreturnOut hx hret (hb hby d1_33) hr) ?_ (by decide) (by decide)
        show own_Q1 Z q1 p2 h0 n0 _ T6.heap _
        rw [e6]
        exact ⟨congrArg (fun z => some (Value.long z)) (by simp [own_pick, hc3, hc4, hc5] : (own_max (1 : Int64) (q1 &&& (9223372036854775807 : Int64))) = own_pick q1 p2), N6, rfl⟩
theorem d3_0 : decode jdk_30_method_1_code 0 = .ok (.aload_n 0, 1) := by decide +kernel
theorem d3_1 : decode jdk_30_method_1_code 1 = .ok (.invokespecial 1, 3) := by decide +kernel
theorem hw_16 {a0 : Array Value} {Z : State} (hw : ∀ d ∈ tables_1, d.before a0 Z = true) : (Jvm.Cond.methodLink "java/lang/Record" (1 : Nat) ({ cls := "java/lang/Object", name := "<init>", desc := "()V" } : Jvm.MethodName)).before a0 Z = true := hw _ (List.mem_of_getElem? (i := 16) rfl)
theorem hw_17 {a0 : Array Value} {Z : State} (hw : ∀ d ∈ tables_1, d.before a0 Z = true) : (Jvm.Cond.instanceMethod ({ cls := "java/lang/Object", name := "<init>", desc := "()V" } : Jvm.MethodName)).before a0 Z = true := hw _ (List.mem_of_getElem? (i := 17) rfl)
theorem hw_18 {a0 : Array Value} {Z : State} (hw : ∀ d ∈ tables_1, d.before a0 Z = true) : (Jvm.Cond.code ({ cls := "java/lang/Object", name := "<init>", desc := "()V" } : Jvm.MethodName) object_method_1_code (1 : Nat) (Option.none : Option Jvm.ClassFile.FieldType)).before a0 Z = true := hw _ (List.mem_of_getElem? (i := 18) rfl)
theorem d3_4 : decode jdk_30_method_1_code 4 = .ok (.return_, 1) := by decide +kernel
theorem pn_3 : plainName "java/lang/Record" = true := by first | (simp [plainName, overriddenIn]; done) | decide +kernel
theorem own_ef3 (m : MethodId) (a1 : Addr) : entryFrame m #[(.ref a1)] 1 = mkF m 0 #[rv a1] [] := by first | (simp [entryFrame, mkF, argsToLocals, Value.category]; done) | rfl
def own_Q3 (Z : State) (a1 : Addr) (h0 : Heap) (n0 : Nat) (v : Option Value) (h : Heap) (L : List Loc) : Prop := v = none ∧ Fr n0 L ∧ h = h0
set_option maxRecDepth 65536 in
set_option maxHeartbeats 40000000 in
theorem own_rm3 (l : Launch) (Z : State) (a0 : Array Value) (hw : ∀ d ∈ tables_1, d.before a0 Z = true) (ws : List Jvm.Cond) (a1 : Addr) (h0 : Heap) (n0 : Nat) (Z0 : n0 ≤ h0.size) :
    MetFree l (⟨"java/lang/Record", "<init>", "()V"⟩ : MethodName) (head1 (Jvm.Cond.code (⟨"java/lang/Record", "<init>", "()V"⟩ : MethodName) jdk_30_method_1_code 1 none :: ws) ({ frames := 1, cells := 0, slots := 0, locals := 12 } : Room)) (fun a U => a = #[(.ref a1)] ∧ Z.Warmed39 U.vm ∧ U.heap = h0) (fun _ _ _ _ _ => True) (fun _ U o U' => ∃ v L, o = .returned v ∧ own_Q3 Z a1 h0 n0 v U'.heap L ∧ FrameEnd U o U' L ({ frames := 1, cells := 0, slots := 0, locals := 12 } : Room).cells ({ frames := 1, cells := 0, slots := 0, locals := 12 } : Room).slots) := by
  refine own_body (plainFor_of_name pn_3) (fun m => own_ef3 m a1) ?_
  intro p e s m below meth c T0 X0 hx hby hml hZ hown hnm hret hlk e0
  have hown : s.vm.findClass "java/lang/Record" = some m.cls := hown
  have hnm : meth.name = "<init>" := hnm
  have N0 := Fr.nil n0
  refine own_st (mkF m 1 #[rv a1] [(.ref a1)]) (fun t k => XS.aloadN X0.here hx rfl (hb hby d3_0) rfl rfl k) ?_
  obtain ⟨T7, X7, e7, st7⟩ := initO X0 hx hZ hown (hw_16 hw) (hw_17 hw) (hw_18 hw) e0 (g := (mkF m 1 #[rv a1] [(.ref a1)])) rfl (by rw [hml]; rfl) rfl (hb hby d3_1) (by decide) (W := 0) (by show 2 * 0 + _ ≤ _; exact Nat.le_of_eq rfl) (by decide)
  refine own_step (g' := (mkF m 4 #[rv a1] [])) st7 ?_
  refine own_ret X7 hlk (v := none) (fun _ => rfl) (fun fs hr => X7.returnOut hx hret (hb hby d3_4) hr) ?_ (by decide) (by decide)
  show own_Q3 Z a1 h0 n0 _ T7.heap _
  rw [e7]
  exact ⟨rfl, N0, rfl⟩
theorem d2_0 : decode prog_34_method_1_code 0 = .ok (.aload_n 0, 1) := by decide +kernel
theorem d2_1 : decode prog_34_method_1_code 1 = .ok (.invokespecial 3, 3) := by decide +kernel
theorem hw_11 {a0 : Array Value} {Z : State} (hw : ∀ d ∈ tables_1, d.before a0 Z = true) : (Jvm.Cond.methodLink "com/example/fencer/fencer/log/FlushPolicy" (3 : Nat) ({ cls := "java/lang/Record", name := "<init>", desc := "()V" } : Jvm.MethodName)).before a0 Z = true := hw _ (List.mem_of_getElem? (i := 11) rfl)
theorem hw_15 {a0 : Array Value} {Z : State} (hw : ∀ d ∈ tables_1, d.before a0 Z = true) : (Jvm.Cond.code ({ cls := "java/lang/Record", name := "<init>", desc := "()V" } : Jvm.MethodName) jdk_30_method_1_code (1 : Nat) (Option.none : Option Jvm.ClassFile.FieldType)).before a0 Z = true := hw _ (List.mem_of_getElem? (i := 15) rfl)
theorem hw_14 {a0 : Array Value} {Z : State} (hw : ∀ d ∈ tables_1, d.before a0 Z = true) : (Jvm.Cond.initialized "java/lang/Record").before a0 Z = true := hw _ (List.mem_of_getElem? (i := 14) rfl)
theorem pd_1 : parseMethodDescriptor "()V" = some ⟨[], none⟩ := by decide +kernel
theorem hw_12 {a0 : Array Value} {Z : State} (hw : ∀ d ∈ tables_1, d.before a0 Z = true) : (Jvm.Cond.instanceMethod ({ cls := "java/lang/Record", name := "<init>", desc := "()V" } : Jvm.MethodName)).before a0 Z = true := hw _ (List.mem_of_getElem? (i := 12) rfl)
theorem d2_4 : decode prog_34_method_1_code 4 = .ok (.lload_n 1, 1) := by decide +kernel
theorem d2_5 : decode prog_34_method_1_code 5 = .ok (.lconst 1, 1) := by decide +kernel
theorem d2_6 : decode prog_34_method_1_code 6 = .ok (.lcmp, 1) := by decide +kernel
theorem d2_7 : decode prog_34_method_1_code 7 = .ok (.ifCond .lt 9, 3) := by decide +kernel
theorem d2_10 : decode prog_34_method_1_code 10 = .ok (.lload_n 3, 1) := by decide +kernel
theorem d2_11 : decode prog_34_method_1_code 11 = .ok (.lconst 1, 1) := by decide +kernel
theorem d2_12 : decode prog_34_method_1_code 12 = .ok (.lcmp, 1) := by decide +kernel
theorem d2_13 : decode prog_34_method_1_code 13 = .ok (.ifCond .ge 18, 3) := by decide +kernel
theorem d2_31 : decode prog_34_method_1_code 31 = .ok (.aload_n 0, 1) := by decide +kernel
theorem d2_32 : decode prog_34_method_1_code 32 = .ok (.lload_n 1, 1) := by decide +kernel
theorem d2_33 : decode prog_34_method_1_code 33 = .ok (.putfield 20, 3) := by decide +kernel
theorem hw_19 {a0 : Array Value} {Z : State} (hw : ∀ d ∈ tables_1, d.before a0 Z = true) : (Jvm.Cond.fieldLink "com/example/fencer/fencer/log/FlushPolicy" (20 : Nat) "com/example/fencer/fencer/log/FlushPolicy" "intervalMessages" "J").before a0 Z = true := hw _ (List.mem_of_getElem? (i := 19) rfl)
theorem hw_20 {a0 : Array Value} {Z : State} (hw : ∀ d ∈ tables_1, d.before a0 Z = true) : (Jvm.Cond.laysFinal "com/example/fencer/fencer/log/FlushPolicy" "com/example/fencer/fencer/log/FlushPolicy" "intervalMessages" "J").before a0 Z = true := hw _ (List.mem_of_getElem? (i := 20) rfl)
theorem hw_6 {a0 : Array Value} {Z : State} (hw : ∀ d ∈ tables_1, d.before a0 Z = true) : (Jvm.Cond.instantiable "com/example/fencer/fencer/log/FlushPolicy" (2 : Nat)).before a0 Z = true := hw _ (List.mem_of_getElem? (i := 6) rfl)
theorem hw_22 {a0 : Array Value} {Z : State} (hw : ∀ d ∈ tables_1, d.before a0 Z = true) : (Jvm.Cond.laysFinal "com/example/fencer/fencer/log/FlushPolicy" "com/example/fencer/fencer/log/FlushPolicy" "intervalMs" "J").before a0 Z = true := hw _ (List.mem_of_getElem? (i := 22) rfl)
theorem d2_36 : decode prog_34_method_1_code 36 = .ok (.aload_n 0, 1) := by decide +kernel
theorem d2_37 : decode prog_34_method_1_code 37 = .ok (.lload_n 3, 1) := by decide +kernel
theorem d2_38 : decode prog_34_method_1_code 38 = .ok (.putfield 24, 3) := by decide +kernel
theorem hw_21 {a0 : Array Value} {Z : State} (hw : ∀ d ∈ tables_1, d.before a0 Z = true) : (Jvm.Cond.fieldLink "com/example/fencer/fencer/log/FlushPolicy" (24 : Nat) "com/example/fencer/fencer/log/FlushPolicy" "intervalMs" "J").before a0 Z = true := hw _ (List.mem_of_getElem? (i := 21) rfl)
theorem d2_41 : decode prog_34_method_1_code 41 = .ok (.return_, 1) := by decide +kernel
theorem pn_2 : plainName "com/example/fencer/fencer/log/FlushPolicy" = true := by first | (simp [plainName, overriddenIn]; done) | decide +kernel
theorem own_ef2 (m : MethodId) (a1 : Addr) (q2 : Int64) (q3 : Int64) : entryFrame m #[(.ref a1), (.long q2), (.long q3)] 5 = mkF m 0 #[rv a1, jv q2, .second, jv q3, .second] [] := by first | (simp [entryFrame, mkF, argsToLocals, Value.category]; done) | rfl
def own_Q2 (Z : State) (a1 : Addr) (q2 : Int64) (q3 : Int64) (h0 : Heap) (n0 : Nat) (v : Option Value) (h : Heap) (L : List Loc) : Prop := v = none ∧ Fr n0 L ∧ Keep h0 h [a1] ∧ Exa Z h a1 "com/example/fencer/fencer/log/FlushPolicy" ∧ Fld Z h a1 "com/example/fencer/fencer/log/FlushPolicy" "intervalMessages" "J" (.long q2) ∧ Fld Z h a1 "com/example/fencer/fencer/log/FlushPolicy" "intervalMs" "J" (.long q3)
set_option maxRecDepth 65536 in
set_option maxHeartbeats 40000000 in
theorem own_rm2 (l : Launch) (Z : State) (a0 : Array Value) (hw : ∀ d ∈ tables_1, d.before a0 Z = true) (ws : List Jvm.Cond) (a1 : Addr) (q2 : Int64) (q3 : Int64) (h0 : Heap) (n0 : Nat) (Z0 : n0 ≤ h0.size) (E_a1 : Exa Z h0 a1 "com/example/fencer/fencer/log/FlushPolicy") (g_a1 : n0 ≤ a1) (F_intervalMessages : Fld Z h0 a1 "com/example/fencer/fencer/log/FlushPolicy" "intervalMessages" "J" (.long (0 : Int64))) (F_intervalMs : Fld Z h0 a1 "com/example/fencer/fencer/log/FlushPolicy" "intervalMs" "J" (.long (0 : Int64))) (hq2 : ¬ q2 < (1 : Int64)) (hq3 : ¬ q3 < (1 : Int64)) :
    MetFree l (⟨"com/example/fencer/fencer/log/FlushPolicy", "<init>", "(JJ)V"⟩ : MethodName) (head1 (Jvm.Cond.code (⟨"com/example/fencer/fencer/log/FlushPolicy", "<init>", "(JJ)V"⟩ : MethodName) prog_34_method_1_code 5 none :: ws) ({ frames := 2, cells := 0, slots := 0, locals := 24 } : Room)) (fun a U => a = #[(.ref a1), (.long q2), (.long q3)] ∧ Z.Warmed39 U.vm ∧ U.heap = h0) (fun _ _ _ _ _ => True) (fun _ U o U' => ∃ v L, o = .returned v ∧ own_Q2 Z a1 q2 q3 h0 n0 v U'.heap L ∧ FrameEnd U o U' L ({ frames := 2, cells := 0, slots := 0, locals := 24 } : Room).cells ({ frames := 2, cells := 0, slots := 0, locals := 24 } : Room).slots) := by
  refine own_body (plainFor_of_name pn_2) (fun m => own_ef2 m a1 q2 q3) ?_
  intro p e s m below meth c T0 X0 hx hby hml hZ hown hnm hret hlk e0
  have hown : s.vm.findClass "com/example/fencer/fencer/log/FlushPolicy" = some m.cls := hown
  have hnm : meth.name = "<init>" := hnm
  have N0 := Fr.nil n0
  have K0 : Keep h0 h0 [a1] := Keep.refl _ _
  refine own_st (mkF m 1 #[rv a1, jv q2, .second, jv q3, .second] [(.ref a1)]) (fun t k => XS.aloadN X0.here hx rfl (hb hby d2_0) rfl rfl k) ?_
  obtain ⟨_, _, ⟨T8, L8, k8, n8⟩, -, X8, ⟨Lc8, hQ8, l8, y8, z8⟩, st8⟩ := X0.specialBack hx (y := (⟨"java/lang/Record", "<init>", "()V"⟩ : MethodName)) rfl hown (mvT hZ (hw_11 hw)) (mvT hZ (hw_12 hw)) (mvT hZ (hw_15 hw)) (by decide) (backOf (W := 0) (own_rm3 l Z a0 hw [] a1 h0 n0 Z0) hZ (hw_15 hw) (hw_14 hw) (by decide) (by decide)) (g := (mkF m 1 #[rv a1, jv q2, .second, jv q3, .second] [(.ref a1)])) rfl (by rw [hml]; rfl) (Steps.refl _) (a := a1) (argsL := []) (rest := []) (lenOf pd_1 rfl) rfl (by show 2 * 0 + _ ≤ _; exact Nat.le_of_eq rfl) (hb hby d2_1) (fun _ _ => ⟨rfl, e0, (by decide : 0 + 0 ≤ _), (by decide : 0 + 0 ≤ _)⟩)
  dsimp only [Pt.U, Pt.locs, Pt.cells, Pt.slots] at X8 l8 y8 z8 st8 hQ8
  subst l8 y8 z8
  obtain ⟨rfl, Nq8, e8⟩ := hQ8
  have N8 := Fr.app N0 Nq8
  refine own_jump (g' := (mkF m 4 #[rv a1, jv q2, .second, jv q3, .second] [])) st8 ?_
  refine own_st (mkF m 5 #[rv a1, jv q2, .second, jv q3, .second] [(.long q2)]) (fun t k => XS.lloadN X8.here hx rfl (hb hby d2_4) rfl k) ?_
  refine own_st (mkF m 6 #[rv a1, jv q2, .second, jv q3, .second] [(.long (1 : Int64)), (.long q2)]) (fun t k => XS.lconst X8.here hx rfl (hb hby d2_5) k) ?_
  refine own_st (mkF m 7 #[rv a1, jv q2, .second, jv q3, .second] [(.int (lcmpW q2 (1 : Int64)))]) (fun t k => XS.lcmp X8.here hx rfl (hb hby d2_6) rfl k) ?_
  refine own_st (mkF m 10 #[rv a1, jv q2, .second, jv q3, .second] []) (fun t k => XS.ifNo X8.here hx rfl (hb hby d2_7) rfl (own_llt0 hq2) k) ?_
  refine own_st (mkF m 11 #[rv a1, jv q2, .second, jv q3, .second] [(.long q3)]) (fun t k => XS.lloadN X8.here hx rfl (hb hby d2_10) rfl k) ?_
  refine own_st (mkF m 12 #[rv a1, jv q2, .second, jv q3, .second] [(.long (1 : Int64)), (.long q3)]) (fun t k => XS.lconst X8.here hx rfl (hb hby d2_11) k) ?_
  refine own_st (mkF m 13 #[rv a1, jv q2, .second, jv q3, .second] [(.int (lcmpW q3 (1 : Int64)))]) (fun t k => XS.lcmp X8.here hx rfl (hb hby d2_12) rfl k) ?_
  refine own_st (mkF m 31 #[rv a1, jv q2, .second, jv q3, .second] []) (fun t k => XS.ifYes X8.here hx rfl (pc0 := 13) (pc' := 31) rfl (hb hby d2_13) rfl (own_lge1 hq3) (by decide) (by decide) k) ?_
  refine own_st (mkF m 32 #[rv a1, jv q2, .second, jv q3, .second] [(.ref a1)]) (fun t k => XS.aloadN X8.here hx rfl (hb hby d2_31) rfl rfl k) ?_
  refine own_st (mkF m 33 #[rv a1, jv q2, .second, jv q3, .second] [(.long q2), (.ref a1)]) (fun t k => XS.lloadN X8.here hx rfl (hb hby d2_32) rfl k) ?_
  obtain ⟨T9, h9, X9, e9, W9, st9⟩ := putF X8 hx hZ hown (host := "") (Or.inl (hw_19 hw)) Via.refl e8 F_intervalMessages E_a1 (Or.inr ⟨(hw_20 hw), rfl, hnm⟩) (hw_6 hw) (ty := .long) (by decide) rfl rfl (g := (mkF m 33 #[rv a1, jv q2, .second, jv q3, .second] [(.long q2), (.ref a1)])) rfl rfl (hb hby d2_33)
  have f1_Exa_a1 : Exa Z h9 a1 "com/example/fencer/fencer/log/FlushPolicy" := (E_a1.wr W9)
  have f2_Fld_a1 : Fld Z h9 a1 "com/example/fencer/fencer/log/FlushPolicy" "intervalMs" "J" (.long (0 : Int64)) := (F_intervalMs.other W9 (Or.inr (slot_ne (a0 := a0) (C := "com/example/fencer/fencer/log/FlushPolicy") (Or.inr (hw_22 hw)) (Or.inr (hw_20 hw)) (by decide) (t := .long) (t' := .long) (by decide) (by decide))))
  have fw9 : Fld Z h9 a1 "com/example/fencer/fencer/log/FlushPolicy" "intervalMessages" "J" (.long q2) := F_intervalMessages.same W9
  have Z9 : n0 ≤ h9.size := Nat.le_trans Z0 (Keep.of_wr W9).1
  have Kp9 : Keep h0 h9 [a1] := K0.wr W9 (Or.inl (List.mem_of_getElem? (i := 0) rfl))
  have N9 := Fr.snoc X9 N8 g_a1
  refine own_step (g' := (mkF m 36 #[rv a1, jv q2, .second, jv q3, .second] [])) st9 ?_
  refine own_st (mkF m 37 #[rv a1, jv q2, .second, jv q3, .second] [(.ref a1)]) (fun t k => XS.aloadN X9.here hx rfl (hb hby d2_36) rfl rfl k) ?_
  refine own_st (mkF m 38 #[rv a1, jv q2, .second, jv q3, .second] [(.long q3), (.ref a1)]) (fun t k => XS.lloadN X9.here hx rfl (hb hby d2_37) rfl k) ?_
  obtain ⟨T10, h10, X10, e10, W10, st10⟩ := putF X9 hx hZ hown (host := "") (Or.inl (hw_21 hw)) Via.refl e9 f2_Fld_a1 f1_Exa_a1 (Or.inr ⟨(hw_22 hw), rfl, hnm⟩) (hw_6 hw) (ty := .long) (by decide) rfl rfl (g := (mkF m 38 #[rv a1, jv q2, .second, jv q3, .second] [(.long q3), (.ref a1)])) rfl rfl (hb hby d2_38)
  have f3_Exa_a1 : Exa Z h10 a1 "com/example/fencer/fencer/log/FlushPolicy" := (f1_Exa_a1.wr W10)
  have f4_Fld_a1 : Fld Z h10 a1 "com/example/fencer/fencer/log/FlushPolicy" "intervalMessages" "J" (.long q2) := (fw9.other W10 (Or.inr (slot_ne (a0 := a0) (C := "com/example/fencer/fencer/log/FlushPolicy") (Or.inr (hw_20 hw)) (Or.inr (hw_22 hw)) (by decide) (t := .long) (t' := .long) (by decide) (by decide))))
  have fw10 : Fld Z h10 a1 "com/example/fencer/fencer/log/FlushPolicy" "intervalMs" "J" (.long q3) := f2_Fld_a1.same W10
  have Z10 : n0 ≤ h10.size := Nat.le_trans Z9 (Keep.of_wr W10).1
  have Kp10 : Keep h0 h10 [a1] := Kp9.wr W10 (Or.inl (List.mem_of_getElem? (i := 0) rfl))
  have N10 := Fr.snoc X10 N9 g_a1
  refine own_step (g' := (mkF m 41 #[rv a1, jv q2, .second, jv q3, .second] [])) st10 ?_
  refine own_ret X10 hlk (v := none) (fun _ => rfl) (fun fs hr => X10.returnOut hx hret (hb hby d2_41) hr) ?_ (by decide) (by decide)
  show own_Q2 Z a1 q2 q3 h0 n0 _ T10.heap _
  rw [e10]
  exact ⟨rfl, N10, Kp10, f3_Exa_a1, f4_Fld_a1, fw10⟩
theorem d6_0 : decode prog_34_method_2_code 0 = .ok (.aload_n 0, 1) := by decide +kernel
theorem d6_1 : decode prog_34_method_2_code 1 = .ok (.getfield 20, 3) := by decide +kernel
theorem d6_4 : decode prog_34_method_2_code 4 = .ok (.ldc2_w 27, 3) := by decide +kernel
theorem hw_32 {a0 : Array Value} {Z : State} (hw : ∀ d ∈ tables_1, d.before a0 Z = true) : (Jvm.Cond.constantLong "com/example/fencer/fencer/log/FlushPolicy" (27 : Nat) (9223372036854775807 : Int64)).before a0 Z = true := hw _ (List.mem_of_getElem? (i := 32) rfl)
theorem d6_7 : decode prog_34_method_2_code 7 = .ok (.lcmp, 1) := by decide +kernel
theorem d6_8 : decode prog_34_method_2_code 8 = .ok (.ifCond .ne 14, 3) := by decide +kernel
theorem d6_11 : decode prog_34_method_2_code 11 = .ok (.aload_n 0, 1) := by decide +kernel
theorem d6_12 : decode prog_34_method_2_code 12 = .ok (.getfield 24, 3) := by decide +kernel
theorem d6_15 : decode prog_34_method_2_code 15 = .ok (.ldc2_w 27, 3) := by decide +kernel
theorem d6_18 : decode prog_34_method_2_code 18 = .ok (.lcmp, 1) := by decide +kernel
theorem d6_19 : decode prog_34_method_2_code 19 = .ok (.ifCond .eq 7, 3) := by decide +kernel
theorem d6_26 : decode prog_34_method_2_code 26 = .ok (.iconst 0, 1) := by decide +kernel
theorem d6_27 : decode prog_34_method_2_code 27 = .ok (.ireturn, 1) := by decide +kernel
theorem d6_22 : decode prog_34_method_2_code 22 = .ok (.iconst 1, 1) := by decide +kernel
theorem d6_23 : decode prog_34_method_2_code 23 = .ok (.goto 4, 3) := by decide +kernel
theorem own_ef6 (m : MethodId) (a1 : Addr) : entryFrame m #[(.ref a1)] 1 = mkF m 0 #[rv a1] [] := by first | (simp [entryFrame, mkF, argsToLocals, Value.category]; done) | rfl
def own_Q6 (Z : State) (a1 : Addr) (f2 : Int64) (f3 : Int64) (h0 : Heap) (n0 : Nat) (v : Option Value) (h : Heap) (L : List Loc) : Prop := v = some (.int (own_syncs f2 f3)) ∧ Fr n0 L ∧ h = h0
set_option maxRecDepth 65536 in
set_option maxHeartbeats 40000000 in
theorem own_rm6 (l : Launch) (Z : State) (a0 : Array Value) (hw : ∀ d ∈ tables_1, d.before a0 Z = true) (ws : List Jvm.Cond) (a1 : Addr) (f2 : Int64) (f3 : Int64) (h0 : Heap) (n0 : Nat) (Z0 : n0 ≤ h0.size) (F2 : Fld Z h0 a1 "com/example/fencer/fencer/log/FlushPolicy" "intervalMessages" "J" (.long f2)) (F3 : Fld Z h0 a1 "com/example/fencer/fencer/log/FlushPolicy" "intervalMs" "J" (.long f3)) :
    MetFree l (⟨"com/example/fencer/fencer/log/FlushPolicy", "syncs", "()Z"⟩ : MethodName) (head1 (Jvm.Cond.code (⟨"com/example/fencer/fencer/log/FlushPolicy", "syncs", "()Z"⟩ : MethodName) prog_34_method_2_code 1 (some .boolean) :: ws) ({ frames := 0, cells := 0, slots := 0, locals := 0 } : Room)) (fun a U => a = #[(.ref a1)] ∧ Z.Warmed39 U.vm ∧ U.heap = h0) (fun _ _ _ _ _ => True) (fun _ U o U' => ∃ v L, o = .returned v ∧ own_Q6 Z a1 f2 f3 h0 n0 v U'.heap L ∧ FrameEnd U o U' L ({ frames := 0, cells := 0, slots := 0, locals := 0 } : Room).cells ({ frames := 0, cells := 0, slots := 0, locals := 0 } : Room).slots) := by
  refine own_body (plainFor_of_name pn_2) (fun m => own_ef6 m a1) ?_
  intro p e s m below meth c T0 X0 hx hby hml hZ hown hnm hret hlk e0
  have hown : s.vm.findClass "com/example/fencer/fencer/log/FlushPolicy" = some m.cls := hown
  have hnm : meth.name = "syncs" := hnm
  have N0 := Fr.nil n0
  refine own_st (mkF m 1 #[rv a1] [(.ref a1)]) (fun t k => XS.aloadN X0.here hx rfl (hb hby d6_0) rfl rfl k) ?_
  obtain ⟨T11, X11, e11, st11⟩ := getF X0 hx hZ hown (host := "") (Or.inl (hw_19 hw)) Via.refl e0 F2 (g := (mkF m 1 #[rv a1] [(.ref a1)])) rfl rfl (hb hby d6_1)
  refine own_step (g' := (mkF m 4 #[rv a1] [(.long f2)])) st11 ?_
  refine own_st (mkF m 7 #[rv a1] [(.long (9223372036854775807 : Int64)), (.long f2)]) (fun t k => X11.ldc2Long hx hown (mvT hZ (hw_32 hw)) (g := (mkF m 4 #[rv a1] [(.long f2)])) rfl (hb hby d6_4) _ k) ?_
  refine own_st (mkF m 8 #[rv a1] [(.int (lcmpW f2 (9223372036854775807 : Int64)))]) (fun t k => XS.lcmp X11.here hx rfl (hb hby d6_7) rfl k) ?_
  by_cases hc12 : f2 = (9223372036854775807 : Int64)
  · refine own_st (mkF m 11 #[rv a1] []) (fun t k => XS.ifNo X11.here hx rfl (hb hby d6_8) rfl (own_lne0 hc12) k) ?_
    refine own_st (mkF m 12 #[rv a1] [(.ref a1)]) (fun t k => XS.aloadN X11.here hx rfl (hb hby d6_11) rfl rfl k) ?_
    obtain ⟨T13, X13, e13, st13⟩ := getF X11 hx hZ hown (host := "") (Or.inl (hw_21 hw)) Via.refl e11 F3 (g := (mkF m 12 #[rv a1] [(.ref a1)])) rfl rfl (hb hby d6_12)
    refine own_step (g' := (mkF m 15 #[rv a1] [(.long f3)])) st13 ?_
    refine own_st (mkF m 18 #[rv a1] [(.long (9223372036854775807 : Int64)), (.long f3)]) (fun t k => X13.ldc2Long hx hown (mvT hZ (hw_32 hw)) (g := (mkF m 15 #[rv a1] [(.long f3)])) rfl (hb hby d6_15) _ k) ?_
    refine own_st (mkF m 19 #[rv a1] [(.int (lcmpW f3 (9223372036854775807 : Int64)))]) (fun t k => XS.lcmp X13.here hx rfl (hb hby d6_18) rfl k) ?_
    by_cases hc14 : f3 = (9223372036854775807 : Int64)
    · refine own_st (mkF m 26 #[rv a1] []) (fun t k => XS.ifYes X13.here hx rfl (pc0 := 19) (pc' := 26) rfl (hb hby d6_19) rfl (own_leq1 hc14) (by decide) (by decide) k) ?_
      refine own_st (mkF m 27 #[rv a1] [(.int (0 : Int32))]) (fun t k => XS.iconst X13.here hx rfl (hb hby d6_26) k) ?_
      refine own_ret X13 hlk (v := some (.int (0 : Int32))) (fun h => by rw [hret] at h; cases h) (fun fs hr => retN X13 hx (t := .boolean) hret (by simp) (hb hby d6_27) hr) ?_ (by decide) (by decide)
      show own_Q6 Z a1 f2 f3 h0 n0 _ T13.heap _
      rw [e13]
      exact ⟨congrArg (fun z => some (Value.int z)) (by simp [own_syncs, hc12, hc14] : (0 : Int32) = own_syncs f2 f3), N0, rfl⟩
    · refine own_st (mkF m 22 #[rv a1] []) (fun t k => XS.ifNo X13.here hx rfl (hb hby d6_19) rfl (own_leq0 hc14) k) ?_
      refine own_st (mkF m 23 #[rv a1] [(.int (1 : Int32))]) (fun t k => XS.iconst X13.here hx rfl (hb hby d6_22) k) ?_
      refine own_st (mkF m 27 #[rv a1] [(.int (1 : Int32))]) (fun t k => XS.goto X13.here hx rfl (pc0 := 23) (pc' := 27) rfl (hb hby d6_23) (by decide) (by decide) k) ?_
      refine own_ret X13 hlk (v := some (.int (1 : Int32))) (fun h => by rw [hret] at h; cases h) (fun fs hr => retN X13 hx (t := .boolean) hret (by simp) (hb hby d6_27) hr) ?_ (by decide) (by decide)
      show own_Q6 Z a1 f2 f3 h0 n0 _ T13.heap _
      rw [e13]
      exact ⟨congrArg (fun z => some (Value.int z)) (by simp [own_syncs, hc12, hc14] : (1 : Int32) = own_syncs f2 f3), N0, rfl⟩
  · refine own_st (mkF m 22 #[rv a1] []) (fun t k => XS.ifYes X11.here hx rfl (pc0 := 8) (pc' := 22) rfl (hb hby d6_8) rfl (own_lne1 hc12) (by decide) (by decide) k) ?_
    refine own_st (mkF m 23 #[rv a1] [(.int (1 : Int32))]) (fun t k => XS.iconst X11.here hx rfl (hb hby d6_22) k) ?_
    refine own_st (mkF m 27 #[rv a1] [(.int (1 : Int32))]) (fun t k => XS.goto X11.here hx rfl (pc0 := 23) (pc' := 27) rfl (hb hby d6_23) (by decide) (by decide) k) ?_
    refine own_ret X11 hlk (v := some (.int (1 : Int32))) (fun h => by rw [hret] at h; cases h) (fun fs hr => retN X11 hx (t := .boolean) hret (by simp) (hb hby d6_27) hr) ?_ (by decide) (by decide)
    show own_Q6 Z a1 f2 f3 h0 n0 _ T11.heap _
    rw [e11]
    exact ⟨congrArg (fun z => some (Value.int z)) (by simp [own_syncs, hc12] : (1 : Int32) = own_syncs f2 f3), N0, rfl⟩
theorem hw_0 {a0 : Array Value} {Z : State} (hw : ∀ d ∈ tables_1, d.before a0 Z = true) : (Jvm.Cond.methodLink "com/example/fencer/fencer/log/FlushPolicySyncsPinLaw" (19 : Nat) ({ cls := "com/example/fencer/fencer/log/FlushPolicySyncsPinLaw", name := "pick", desc := "(JI)J" } : Jvm.MethodName)).before a0 Z = true := hw _ (List.mem_of_getElem? (i := 0) rfl)
theorem hw_3 {a0 : Array Value} {Z : State} (hw : ∀ d ∈ tables_1, d.before a0 Z = true) : (Jvm.Cond.code ({ cls := "com/example/fencer/fencer/log/FlushPolicySyncsPinLaw", name := "pick", desc := "(JI)J" } : Jvm.MethodName) method_2_code (3 : Nat) (Option.some Jvm.ClassFile.FieldType.long)).before a0 Z = true := hw _ (List.mem_of_getElem? (i := 3) rfl)
theorem hw_2 {a0 : Array Value} {Z : State} (hw : ∀ d ∈ tables_1, d.before a0 Z = true) : (Jvm.Cond.initialized "com/example/fencer/fencer/log/FlushPolicySyncsPinLaw").before a0 Z = true := hw _ (List.mem_of_getElem? (i := 2) rfl)
theorem pd_2 : parseMethodDescriptor "(JI)J" = some ⟨[.long, .int], some .long⟩ := by decide +kernel
theorem hw_1 {a0 : Array Value} {Z : State} (hw : ∀ d ∈ tables_1, d.before a0 Z = true) : (Jvm.Cond.static ({ cls := "com/example/fencer/fencer/log/FlushPolicySyncsPinLaw", name := "pick", desc := "(JI)J" } : Jvm.MethodName)).before a0 Z = true := hw _ (List.mem_of_getElem? (i := 1) rfl)
theorem hw_5 {a0 : Array Value} {Z : State} (hw : ∀ d ∈ tables_1, d.before a0 Z = true) : (Jvm.Cond.classLink "com/example/fencer/fencer/log/FlushPolicySyncsPinLaw" (25 : Nat) "com/example/fencer/fencer/log/FlushPolicy").before a0 Z = true := hw _ (List.mem_of_getElem? (i := 5) rfl)
theorem hw_7 {a0 : Array Value} {Z : State} (hw : ∀ d ∈ tables_1, d.before a0 Z = true) : (Jvm.Cond.initialized "com/example/fencer/fencer/log/FlushPolicy").before a0 Z = true := hw _ (List.mem_of_getElem? (i := 7) rfl)
theorem hw_8 {a0 : Array Value} {Z : State} (hw : ∀ d ∈ tables_1, d.before a0 Z = true) : (Jvm.Cond.methodLink "com/example/fencer/fencer/log/FlushPolicySyncsPinLaw" (27 : Nat) ({ cls := "com/example/fencer/fencer/log/FlushPolicy", name := "<init>", desc := "(JJ)V" } : Jvm.MethodName)).before a0 Z = true := hw _ (List.mem_of_getElem? (i := 8) rfl)
theorem hw_10 {a0 : Array Value} {Z : State} (hw : ∀ d ∈ tables_1, d.before a0 Z = true) : (Jvm.Cond.code ({ cls := "com/example/fencer/fencer/log/FlushPolicy", name := "<init>", desc := "(JJ)V" } : Jvm.MethodName) prog_34_method_1_code (5 : Nat) (Option.none : Option Jvm.ClassFile.FieldType)).before a0 Z = true := hw _ (List.mem_of_getElem? (i := 10) rfl)
theorem pd_3 : parseMethodDescriptor "(JJ)V" = some ⟨[.long, .long], none⟩ := by decide +kernel
theorem hw_9 {a0 : Array Value} {Z : State} (hw : ∀ d ∈ tables_1, d.before a0 Z = true) : (Jvm.Cond.instanceMethod ({ cls := "com/example/fencer/fencer/log/FlushPolicy", name := "<init>", desc := "(JJ)V" } : Jvm.MethodName)).before a0 Z = true := hw _ (List.mem_of_getElem? (i := 9) rfl)
theorem hw_23 {a0 : Array Value} {Z : State} (hw : ∀ d ∈ tables_1, d.before a0 Z = true) : (Jvm.Cond.methodLink "com/example/fencer/fencer/log/FlushPolicySyncsPinLaw" (30 : Nat) ({ cls := "java/lang/Math", name := "min", desc := "(JJ)J" } : Jvm.MethodName)).before a0 Z = true := hw _ (List.mem_of_getElem? (i := 23) rfl)
theorem hw_26 {a0 : Array Value} {Z : State} (hw : ∀ d ∈ tables_1, d.before a0 Z = true) : (Jvm.Cond.code ({ cls := "java/lang/Math", name := "min", desc := "(JJ)J" } : Jvm.MethodName) jdk_29_method_70_code (4 : Nat) (Option.some Jvm.ClassFile.FieldType.long)).before a0 Z = true := hw _ (List.mem_of_getElem? (i := 26) rfl)
theorem hw_24 {a0 : Array Value} {Z : State} (hw : ∀ d ∈ tables_1, d.before a0 Z = true) : (Jvm.Cond.static ({ cls := "java/lang/Math", name := "min", desc := "(JJ)J" } : Jvm.MethodName)).before a0 Z = true := hw _ (List.mem_of_getElem? (i := 24) rfl)
theorem hw_27 {a0 : Array Value} {Z : State} (hw : ∀ d ∈ tables_1, d.before a0 Z = true) : (Jvm.Cond.methodLink "com/example/fencer/fencer/log/FlushPolicySyncsPinLaw" (33 : Nat) ({ cls := "com/example/fencer/fencer/log/FlushPolicy", name := "syncs", desc := "()Z" } : Jvm.MethodName)).before a0 Z = true := hw _ (List.mem_of_getElem? (i := 27) rfl)
theorem hw_31 {a0 : Array Value} {Z : State} (hw : ∀ d ∈ tables_1, d.before a0 Z = true) : (Jvm.Cond.code ({ cls := "com/example/fencer/fencer/log/FlushPolicy", name := "syncs", desc := "()Z" } : Jvm.MethodName) prog_34_method_2_code (1 : Nat) (Option.some Jvm.ClassFile.FieldType.boolean)).before a0 Z = true := hw _ (List.mem_of_getElem? (i := 31) rfl)
theorem pd_4 : parseMethodDescriptor "()Z" = some ⟨[], some .boolean⟩ := by decide +kernel
theorem hw_30 {a0 : Array Value} {Z : State} (hw : ∀ d ∈ tables_1, d.before a0 Z = true) : (Jvm.Cond.selects "com/example/fencer/fencer/log/FlushPolicy" ({ cls := "com/example/fencer/fencer/log/FlushPolicy", name := "syncs", desc := "()Z" } : Jvm.MethodName) ({ cls := "com/example/fencer/fencer/log/FlushPolicy", name := "syncs", desc := "()Z" } : Jvm.MethodName)).before a0 Z = true := hw _ (List.mem_of_getElem? (i := 30) rfl)
theorem hw_28 {a0 : Array Value} {Z : State} (hw : ∀ d ∈ tables_1, d.before a0 Z = true) : (Jvm.Cond.declares ({ cls := "com/example/fencer/fencer/log/FlushPolicy", name := "syncs", desc := "()Z" } : Jvm.MethodName)).before a0 Z = true := hw _ (List.mem_of_getElem? (i := 28) rfl)
theorem hw_29 {a0 : Array Value} {Z : State} (hw : ∀ d ∈ tables_1, d.before a0 Z = true) : (Jvm.Cond.instanceMethod ({ cls := "com/example/fencer/fencer/log/FlushPolicy", name := "syncs", desc := "()Z" } : Jvm.MethodName)).before a0 Z = true := hw _ (List.mem_of_getElem? (i := 29) rfl)
theorem own_ef0 (m : MethodId) (q1 : Int64) (q2 : Int64) (p3 : Int32) : entryFrame m #[(.long q1), (.long q2), (.int p3)] maxLocals = mkF m 0 #[jv q1, .second, jv q2, .second, iv p3, .unset, .unset, .unset, .unset, .unset, .unset] [] := by first | (simp [entryFrame, mkF, argsToLocals, Value.category, maxLocals]; done) | rfl
def own_Q0 (Z : State) (q1 : Int64) (q2 : Int64) (p3 : Int32) (h0 : Heap) (n0 : Nat) (v : Option Value) (h : Heap) (L : List Loc) : Prop := v = some (.int 1) ∧ Fr n0 L
set_option maxRecDepth 65536 in
set_option maxHeartbeats 40000000 in
theorem own_rm0 (l : Launch) (Z : State) (a0 : Array Value) (hw : ∀ d ∈ tables_1, d.before a0 Z = true) (ws : List Jvm.Cond) (q1 : Int64) (q2 : Int64) (p3 : Int32) (h0 : Heap) (n0 : Nat) (Z0 : n0 ≤ h0.size) :
    MetFree l x (head1 (Jvm.Cond.code x code maxLocals ret :: ws) room_1) (fun a U => a = #[(.long q1), (.long q2), (.int p3)] ∧ Z.Warmed39 U.vm ∧ U.heap = h0) (fun _ _ _ _ _ => True) (fun _ U o U' => ∃ v L, o = .returned v ∧ own_Q0 Z q1 q2 p3 h0 n0 v U'.heap L ∧ FrameEnd U o U' L 16 128) := by
  refine own_body (plainFor_of_name pn_1) (fun m => own_ef0 m q1 q2 p3) ?_
  intro p e s m below meth c T0 X0 hx hby hml hZ hown hnm hret hlk e0
  have hown : s.vm.findClass "com/example/fencer/fencer/log/FlushPolicySyncsPinLaw" = some m.cls := hown
  have hnm : meth.name = "law" := hnm
  have N0 := Fr.nil n0
  refine own_st (mkF m 1 #[jv q1, .second, jv q2, .second, iv p3, .unset, .unset, .unset, .unset, .unset, .unset] [(.long q1)]) (fun t k => XS.lloadN X0.here hx rfl (hb hby at_0) rfl k) ?_
  refine own_st (mkF m 3 #[jv q1, .second, jv q2, .second, iv p3, .unset, .unset, .unset, .unset, .unset, .unset] [(.int p3), (.long q1)]) (fun t k => XS.iload X0.here hx rfl (hb hby at_1) rfl k) ?_
  refine own_st (mkF m 4 #[jv q1, .second, jv q2, .second, iv p3, .unset, .unset, .unset, .unset, .unset, .unset] [(.int (3 : Int32)), (.int p3), (.long q1)]) (fun t k => XS.iconst X0.here hx rfl (hb hby at_3) k) ?_
  refine own_st (mkF m 5 #[jv q1, .second, jv q2, .second, iv p3, .unset, .unset, .unset, .unset, .unset, .unset] [(.int (p3 &&& (3 : Int32))), (.long q1)]) (fun t k => XS.iand X0.here hx rfl (hb hby at_4) rfl k) ?_
  obtain ⟨_, _, ⟨T15, L15, k15, n15⟩, -, X15, ⟨Lc15, hQ15, l15, y15, z15⟩, st15⟩ := Jvm.LawKit.callS X0 hx (y := (⟨"com/example/fencer/fencer/log/FlushPolicySyncsPinLaw", "pick", "(JI)J"⟩ : MethodName)) hown (mvT hZ (hw_0 hw)) (mvT hZ (hw_1 hw)) (mvT hZ (hw_2 hw)) (mvT hZ (hw_3 hw)) (by decide) (backOf (W := 0) (own_rm1 l Z a0 hw [] q1 (p3 &&& (3 : Int32)) h0 n0 Z0) hZ (hw_3 hw) (hw_2 hw) (by decide) (by decide)) (g := (mkF m 5 #[jv q1, .second, jv q2, .second, iv p3, .unset, .unset, .unset, .unset, .unset, .unset] [(.int (p3 &&& (3 : Int32))), (.long q1)])) rfl (by rw [hml]; rfl) (argsL := [(.long q1), (.int (p3 &&& (3 : Int32)))]) (rest := []) (lenOf pd_2 rfl) rfl (by show 2 * 0 + _ ≤ _; exact Nat.le_of_eq rfl) (hb hby at_5) (fun _ _ => ⟨rfl, e0, (by decide : 0 + 0 ≤ _), (by decide : 0 + 0 ≤ _)⟩)
  dsimp only [Pt.U, Pt.locs, Pt.cells, Pt.slots] at X15 l15 y15 z15 st15 hQ15
  subst l15 y15 z15
  obtain ⟨rfl, Nq15, e15⟩ := hQ15
  have N15 := Fr.app N0 Nq15
  refine own_step (g' := (mkF m 8 #[jv q1, .second, jv q2, .second, iv p3, .unset, .unset, .unset, .unset, .unset, .unset] [(.long (own_pick q1 (p3 &&& (3 : Int32))))])) st15 ?_
  obtain ⟨mm, h_mm⟩ : ∃ z, z = (own_pick q1 (p3 &&& (3 : Int32))) := ⟨_, rfl⟩
  rw [← h_mm]
  refine own_st (mkF m 10 #[jv q1, .second, jv q2, .second, iv p3, jv mm, .second, .unset, .unset, .unset, .unset] []) (fun t k => XS.lstore X15.here hx rfl (hb hby at_8) rfl (l' := #[jv q1, .second, jv q2, .second, iv p3, jv mm, .second, .unset, .unset, .unset, .unset]) rfl k) ?_
  refine own_st (mkF m 11 #[jv q1, .second, jv q2, .second, iv p3, jv mm, .second, .unset, .unset, .unset, .unset] [(.long q2)]) (fun t k => XS.lloadN X15.here hx rfl (hb hby at_10) rfl k) ?_
  refine own_st (mkF m 13 #[jv q1, .second, jv q2, .second, iv p3, jv mm, .second, .unset, .unset, .unset, .unset] [(.int p3), (.long q2)]) (fun t k => XS.iload X15.here hx rfl (hb hby at_11) rfl k) ?_
  refine own_st (mkF m 14 #[jv q1, .second, jv q2, .second, iv p3, jv mm, .second, .unset, .unset, .unset, .unset] [(.int (2 : Int32)), (.int p3), (.long q2)]) (fun t k => XS.iconst X15.here hx rfl (hb hby at_13) k) ?_
  refine own_st (mkF m 15 #[jv q1, .second, jv q2, .second, iv p3, jv mm, .second, .unset, .unset, .unset, .unset] [(.int ((p3.toUInt32 >>> ((2 : Int32) &&& 31).toUInt32).toInt32)), (.long q2)]) (fun t k => XS.iushr X15.here hx rfl (hb hby at_14) rfl k) ?_
  refine own_st (mkF m 16 #[jv q1, .second, jv q2, .second, iv p3, jv mm, .second, .unset, .unset, .unset, .unset] [(.int (3 : Int32)), (.int ((p3.toUInt32 >>> ((2 : Int32) &&& 31).toUInt32).toInt32)), (.long q2)]) (fun t k => XS.iconst X15.here hx rfl (hb hby at_15) k) ?_
  refine own_st (mkF m 17 #[jv q1, .second, jv q2, .second, iv p3, jv mm, .second, .unset, .unset, .unset, .unset] [(.int (((p3.toUInt32 >>> ((2 : Int32) &&& 31).toUInt32).toInt32) &&& (3 : Int32))), (.long q2)]) (fun t k => XS.iand X15.here hx rfl (hb hby at_16) rfl k) ?_
  obtain ⟨_, _, ⟨T16, L16, k16, n16⟩, -, X16, ⟨Lc16, hQ16, l16, y16, z16⟩, st16⟩ := Jvm.LawKit.callS X15 hx (y := (⟨"com/example/fencer/fencer/log/FlushPolicySyncsPinLaw", "pick", "(JI)J"⟩ : MethodName)) hown (mvT hZ (hw_0 hw)) (mvT hZ (hw_1 hw)) (mvT hZ (hw_2 hw)) (mvT hZ (hw_3 hw)) (by decide) (backOf (W := 0) (own_rm1 l Z a0 hw [] q2 (((p3.toUInt32 >>> ((2 : Int32) &&& 31).toUInt32).toInt32) &&& (3 : Int32)) h0 n0 Z0) hZ (hw_3 hw) (hw_2 hw) (by decide) (by decide)) (g := (mkF m 17 #[jv q1, .second, jv q2, .second, iv p3, jv mm, .second, .unset, .unset, .unset, .unset] [(.int (((p3.toUInt32 >>> ((2 : Int32) &&& 31).toUInt32).toInt32) &&& (3 : Int32))), (.long q2)])) rfl (by rw [hml]; rfl) (argsL := [(.long q2), (.int (((p3.toUInt32 >>> ((2 : Int32) &&& 31).toUInt32).toInt32) &&& (3 : Int32)))]) (rest := []) (lenOf pd_2 rfl) rfl (by show 2 * 0 + _ ≤ _; exact Nat.le_of_eq rfl) (hb hby at_17) (fun _ _ => ⟨rfl, e15, (by decide : 0 + 0 ≤ _), (by decide : 0 + 0 ≤ _)⟩)
  dsimp only [Pt.U, Pt.locs, Pt.cells, Pt.slots] at X16 l16 y16 z16 st16 hQ16
  subst l16 y16 z16
  obtain ⟨rfl, Nq16, e16⟩ := hQ16
  have N16 := Fr.app N15 Nq16
  refine own_step (g' := (mkF m 20 #[jv q1, .second, jv q2, .second, iv p3, jv mm, .second, .unset, .unset, .unset, .unset] [(.long (own_pick q2 (((p3.toUInt32 >>> ((2 : Int32) &&& 31).toUInt32).toInt32) &&& (3 : Int32))))])) st16 ?_
  obtain ⟨tt, h_tt⟩ : ∃ z, z = (own_pick q2 (((p3.toUInt32 >>> ((2 : Int32) &&& 31).toUInt32).toInt32) &&& (3 : Int32))) := ⟨_, rfl⟩
  rw [← h_tt]
  refine own_st (mkF m 22 #[jv q1, .second, jv q2, .second, iv p3, jv mm, .second, jv tt, .second, .unset, .unset] []) (fun t k => XS.lstore X16.here hx rfl (hb hby at_20) rfl (l' := #[jv q1, .second, jv q2, .second, iv p3, jv mm, .second, jv tt, .second, .unset, .unset]) rfl k) ?_
  obtain ⟨T17, h17, X17, e17, E17, A17, D17, -, st17⟩ := newO X16 hx hZ hown (hw_5 hw) (hw_6 hw) (hw_7 hw) e16 (g := (mkF m 22 #[jv q1, .second, jv q2, .second, iv p3, jv mm, .second, jv tt, .second, .unset, .unset] [])) rfl (hb hby at_22) (by decide) (by decide)
  obtain ⟨b17, g17⟩ : ∃ z, z = h0.size := ⟨_, rfl⟩
  rw [← g17] at A17 D17 st17
  have E_17 : Ext h0 h17 := E17
  have g_b17 : n0 ≤ b17 := Nat.le_trans Z0 (Nat.le_of_eq g17.symm)
  have Z17 : n0 ≤ h17.size := Nat.le_trans Z0 E17.1
  have F_intervalMessages_b17 : Fld Z h17 b17 "com/example/fencer/fencer/log/FlushPolicy" "intervalMessages" "J" (.long (0 : Int64)) := D17 (Or.inr (hw_20 hw)) (ty := .long) (by decide)
  have F_intervalMs_b17 : Fld Z h17 b17 "com/example/fencer/fencer/log/FlushPolicy" "intervalMs" "J" (.long (0 : Int64)) := D17 (Or.inr (hw_22 hw)) (ty := .long) (by decide)
  refine own_step (g' := (mkF m 25 #[jv q1, .second, jv q2, .second, iv p3, jv mm, .second, jv tt, .second, .unset, .unset] [(.ref b17)])) st17 ?_
  refine own_st (mkF m 26 #[jv q1, .second, jv q2, .second, iv p3, jv mm, .second, jv tt, .second, .unset, .unset] [(.ref b17), (.ref b17)]) (fun t k => XS.dup X17.here hx rfl (hb hby at_25) rfl rfl k) ?_
  refine own_st (mkF m 28 #[jv q1, .second, jv q2, .second, iv p3, jv mm, .second, jv tt, .second, .unset, .unset] [(.long mm), (.ref b17), (.ref b17)]) (fun t k => XS.lload X17.here hx rfl (hb hby at_26) rfl k) ?_
  refine own_st (mkF m 30 #[jv q1, .second, jv q2, .second, iv p3, jv mm, .second, jv tt, .second, .unset, .unset] [(.long tt), (.long mm), (.ref b17), (.ref b17)]) (fun t k => XS.lload X17.here hx rfl (hb hby at_28) rfl k) ?_
  obtain ⟨_, _, ⟨T18, L18, k18, n18⟩, -, X18, ⟨Lc18, hQ18, l18, y18, z18⟩, st18⟩ := X17.specialBack hx (y := (⟨"com/example/fencer/fencer/log/FlushPolicy", "<init>", "(JJ)V"⟩ : MethodName)) rfl hown (mvT hZ (hw_8 hw)) (mvT hZ (hw_9 hw)) (mvT hZ (hw_10 hw)) (by decide) (backOf (W := 1) (own_rm2 l Z a0 hw [] b17 mm tt h17 n0 Z17 A17 g_b17 F_intervalMessages_b17 F_intervalMs_b17 (h_mm ▸ own_pick_pos _ _) (h_tt ▸ own_pick_pos _ _)) hZ (hw_10 hw) (hw_7 hw) (by decide) (by decide)) (g := (mkF m 30 #[jv q1, .second, jv q2, .second, iv p3, jv mm, .second, jv tt, .second, .unset, .unset] [(.long tt), (.long mm), (.ref b17), (.ref b17)])) rfl (by rw [hml]; rfl) (Steps.refl _) (a := b17) (argsL := [(.long mm), (.long tt)]) (rest := [(.ref b17)]) (lenOf pd_3 rfl) rfl (by show 2 * 0 + _ ≤ _; exact Nat.le_of_eq rfl) (hb hby at_30) (fun _ _ => ⟨rfl, e17, (by decide : 1 + 0 ≤ _), (by decide : 2 + 0 ≤ _)⟩)
  dsimp only [Pt.U, Pt.locs, Pt.cells, Pt.slots] at X18 l18 y18 z18 st18 hQ18
  subst l18 y18 z18
  obtain ⟨rfl, Nq18, K18, Ex18, Fl18_intervalMessages, Fl18_intervalMs⟩ := hQ18
  have N18 := Fr.app N16 Nq18
  have Z18 : n0 ≤ T18.heap.size := Nat.le_trans Z17 K18.1
  have f1_Exa_b17 : Exa Z T18.heap b17 "com/example/fencer/fencer/log/FlushPolicy" := (A17.keep K18)
  refine own_jump (g' := (mkF m 33 #[jv q1, .second, jv q2, .second, iv p3, jv mm, .second, jv tt, .second, .unset, .unset] [(.ref b17)])) st18 ?_
  refine own_st (mkF m 35 #[jv q1, .second, jv q2, .second, iv p3, jv mm, .second, jv tt, .second, rv b17, .unset] []) (fun t k => XS.astore X18.here hx rfl (hb hby at_33) rfl rfl (l' := #[jv q1, .second, jv q2, .second, iv p3, jv mm, .second, jv tt, .second, rv b17, .unset]) rfl k) ?_
  refine own_st (mkF m 37 #[jv q1, .second, jv q2, .second, iv p3, jv mm, .second, jv tt, .second, rv b17, .unset] [(.long mm)]) (fun t k => XS.lload X18.here hx rfl (hb hby at_35) rfl k) ?_
  refine own_st (mkF m 39 #[jv q1, .second, jv q2, .second, iv p3, jv mm, .second, jv tt, .second, rv b17, .unset] [(.long tt), (.long mm)]) (fun t k => XS.lload X18.here hx rfl (hb hby at_37) rfl k) ?_
  obtain ⟨_, _, ⟨T19, L19, k19, n19⟩, -, X19, ⟨Lc19, hQ19, l19, y19, z19⟩, st19⟩ := Jvm.LawKit.callS X18 hx (y := (⟨"java/lang/Math", "min", "(JJ)J"⟩ : MethodName)) hown (mvT hZ (hw_23 hw)) (mvT hZ (hw_24 hw)) (mvT hZ (hw_25 hw)) (mvT hZ (hw_26 hw)) (by decide) (backOf (W := 0) (own_rm5 l Z a0 hw [] mm tt T18.heap n0 Z18) hZ (hw_26 hw) (hw_25 hw) (by decide) (by decide)) (g := (mkF m 39 #[jv q1, .second, jv q2, .second, iv p3, jv mm, .second, jv tt, .second, rv b17, .unset] [(.long tt), (.long mm)])) rfl (by rw [hml]; rfl) (argsL := [(.long mm), (.long tt)]) (rest := []) (lenOf pd_0 rfl) rfl (by show 2 * 0 + _ ≤ _; exact Nat.le_of_eq rfl) (hb hby at_39) (fun _ _ => ⟨rfl, rfl, (by decide : 1 + 0 ≤ _), (by decide : 2 + 0 ≤ _)⟩)
  dsimp only [Pt.U, Pt.locs, Pt.cells, Pt.slots] at X19 l19 y19 z19 st19 hQ19
  subst l19 y19 z19
  obtain ⟨rfl, Nq19, e19⟩ := hQ19
  have N19 := Fr.app N18 Nq19
  refine own_step (g' := (mkF m 42 #[jv q1, .second, jv q2, .second, iv p3, jv mm, .second, jv tt, .second, rv b17, .unset] [(.long (own_min mm tt))])) st19 ?_
  refine own_st (mkF m 45 #[jv q1, .second, jv q2, .second, iv p3, jv mm, .second, jv tt, .second, rv b17, .unset] [(.long (9223372036854775807 : Int64)), (.long (own_min mm tt))]) (fun t k => X19.ldc2Long hx hown (mvT hZ (hw_4 hw)) (g := (mkF m 42 #[jv q1, .second, jv q2, .second, iv p3, jv mm, .second, jv tt, .second, rv b17, .unset] [(.long (own_min mm tt))])) rfl (hb hby at_42) _ k) ?_
  refine own_st (mkF m 46 #[jv q1, .second, jv q2, .second, iv p3, jv mm, .second, jv tt, .second, rv b17, .unset] [(.int (lcmpW (own_min mm tt) (9223372036854775807 : Int64)))]) (fun t k => XS.lcmp X19.here hx rfl (hb hby at_45) rfl k) ?_
  by_cases hc20 : (own_min mm tt) < (9223372036854775807 : Int64)
  · refine own_st (mkF m 49 #[jv q1, .second, jv q2, .second, iv p3, jv mm, .second, jv tt, .second, rv b17, .unset] []) (fun t k => XS.ifNo X19.here hx rfl (hb hby at_46) rfl (own_lge0 hc20) k) ?_
    refine own_st (mkF m 50 #[jv q1, .second, jv q2, .second, iv p3, jv mm, .second, jv tt, .second, rv b17, .unset] [(.int (1 : Int32))]) (fun t k => XS.iconst X19.here hx rfl (hb hby at_49) k) ?_
    refine own_st (mkF m 54 #[jv q1, .second, jv q2, .second, iv p3, jv mm, .second, jv tt, .second, rv b17, .unset] [(.int (1 : Int32))]) (fun t k => XS.goto X19.here hx rfl (pc0 := 50) (pc' := 54) rfl (hb hby at_50) (by decide) (by decide) k) ?_
    refine own_st (mkF m 56 #[jv q1, .second, jv q2, .second, iv p3, jv mm, .second, jv tt, .second, rv b17, iv (1 : Int32)] []) (fun t k => XS.istore X19.here hx rfl (hb hby at_54) rfl (l' := #[jv q1, .second, jv q2, .second, iv p3, jv mm, .second, jv tt, .second, rv b17, iv (1 : Int32)]) rfl k) ?_
    refine own_st (mkF m 58 #[jv q1, .second, jv q2, .second, iv p3, jv mm, .second, jv tt, .second, rv b17, iv (1 : Int32)] [(.ref b17)]) (fun t k => XS.aload X19.here hx rfl (hb hby at_56) rfl rfl k) ?_
    obtain ⟨cq21, kq21, q21a, q21b, q21c⟩ := isOf hZ e19 Ex18
    obtain ⟨_, _, ⟨T21, L21, k21, n21⟩, -, X21, ⟨Lc21, hQ21, l21, y21, z21⟩, st21⟩ := X19.virtualBack hx (y := (⟨"com/example/fencer/fencer/log/FlushPolicy", "syncs", "()Z"⟩ : MethodName)) (z := (⟨"com/example/fencer/fencer/log/FlushPolicy", "syncs", "()Z"⟩ : MethodName)) hown (mvT hZ (hw_27 hw)) (mvT hZ (hw_28 hw)) (notFace_of_selects (args := #[]) (mvT hZ (hw_30 hw))) (mvT hZ (hw_30 hw)) (mvT hZ (hw_29 hw)) (by decide) (backOf (W := 0) (own_rm6 l Z a0 hw [] b17 mm tt T18.heap n0 Z18 Fl18_intervalMessages Fl18_intervalMs) hZ (hw_31 hw) (hw_7 hw) (by decide) (by decide)) q21a q21c (g := (mkF m 58 #[jv q1, .second, jv q2, .second, iv p3, jv mm, .second, jv tt, .second, rv b17, iv (1 : Int32)] [(.ref b17)])) rfl (by rw [hml]; rfl) (Steps.refl _) (argsL := []) (rest := []) (lenOf pd_4 rfl) rfl (by show 2 * 0 + _ ≤ _; exact Nat.le_of_eq rfl) (hb hby at_58) (fun _ _ => ⟨rfl, e19, (by decide : 1 + 0 ≤ _), (by decide : 2 + 0 ≤ _)⟩)
    dsimp only [Pt.U, Pt.locs, Pt.cells, Pt.slots] at X21 l21 y21 z21 st21 hQ21
    subst l21 y21 z21
    obtain ⟨rfl, Nq21, e21⟩ := hQ21
    have N21 := Fr.app N19 Nq21
    refine own_jump (g' := (mkF m 61 #[jv q1, .second, jv q2, .second, iv p3, jv mm, .second, jv tt, .second, rv b17, iv (1 : Int32)] [(.int (own_syncs mm tt))])) st21 ?_
    refine own_st (mkF m 63 #[jv q1, .second, jv q2, .second, iv p3, jv mm, .second, jv tt, .second, rv b17, iv (1 : Int32)] [(.int (1 : Int32)), (.int (own_syncs mm tt))]) (fun t k => XS.iload X21.here hx rfl (hb hby at_61) rfl k) ?_
    refine own_st (mkF m 66 #[jv q1, .second, jv q2, .second, iv p3, jv mm, .second, jv tt, .second, rv b17, iv (1 : Int32)] []) (fun t k => XS.icmpNo X21.here hx rfl (hb hby at_63) rfl (teq (own_yes _ _ hc20)).2 k) ?_
    refine own_st (mkF m 67 #[jv q1, .second, jv q2, .second, iv p3, jv mm, .second, jv tt, .second, rv b17, iv (1 : Int32)] [(.int (1 : Int32))]) (fun t k => XS.iconst X21.here hx rfl (hb hby at_66) k) ?_
    refine own_st (mkF m 71 #[jv q1, .second, jv q2, .second, iv p3, jv mm, .second, jv tt, .second, rv b17, iv (1 : Int32)] [(.int (1 : Int32))]) (fun t k => XS.goto X21.here hx rfl (pc0 := 67) (pc' := 71) rfl (hb hby at_67) (by decide) (by decide) k) ?_
    refine own_ret X21 hlk (v := some (.int (1 : Int32))) (fun h => by rw [hret] at h; cases h) (fun fs hr => retN X21 hx (t := .boolean) hret (by simp) (hb hby at_71) hr) ?_ (by decide) (by decide)
    show own_Q0 Z q1 q2 p3 h0 n0 _ T21.heap _
    rw [e21]
    exact ⟨rfl, N21⟩
  · refine own_st (mkF m 53 #[jv q1, .second, jv q2, .second, iv p3, jv mm, .second, jv tt, .second, rv b17, .unset] []) (fun t k => XS.ifYes X19.here hx rfl (pc0 := 46) (pc' := 53) rfl (hb hby at_46) rfl (own_lge1 hc20) (by decide) (by decide) k) ?_
    refine own_st (mkF m 54 #[jv q1, .second, jv q2, .second, iv p3, jv mm, .second, jv tt, .second, rv b17, .unset] [(.int (0 : Int32))]) (fun t k => XS.iconst X19.here hx rfl (hb hby at_53) k) ?_
    refine own_st (mkF m 56 #[jv q1, .second, jv q2, .second, iv p3, jv mm, .second, jv tt, .second, rv b17, iv (0 : Int32)] []) (fun t k => XS.istore X19.here hx rfl (hb hby at_54) rfl (l' := #[jv q1, .second, jv q2, .second, iv p3, jv mm, .second, jv tt, .second, rv b17, iv (0 : Int32)]) rfl k) ?_
    refine own_st (mkF m 58 #[jv q1, .second, jv q2, .second, iv p3, jv mm, .second, jv tt, .second, rv b17, iv (0 : Int32)] [(.ref b17)]) (fun t k => XS.aload X19.here hx rfl (hb hby at_56) rfl rfl k) ?_
    obtain ⟨cq22, kq22, q22a, q22b, q22c⟩ := isOf hZ e19 Ex18
    obtain ⟨_, _, ⟨T22, L22, k22, n22⟩, -, X22, ⟨Lc22, hQ22, l22, y22, z22⟩, st22⟩ := X19.virtualBack hx (y := (⟨"com/example/fencer/fencer/log/FlushPolicy", "syncs", "()Z"⟩ : MethodName)) (z := (⟨"com/example/fencer/fencer/log/FlushPolicy", "syncs", "()Z"⟩ : MethodName)) hown (mvT hZ (hw_27 hw)) (mvT hZ (hw_28 hw)) (notFace_of_selects (args := #[]) (mvT hZ (hw_30 hw))) (mvT hZ (hw_30 hw)) (mvT hZ (hw_29 hw)) (by decide) (backOf (W := 0) (own_rm6 l Z a0 hw [] b17 mm tt T18.heap n0 Z18 Fl18_intervalMessages Fl18_intervalMs) hZ (hw_31 hw) (hw_7 hw) (by decide) (by decide)) q22a q22c (g := (mkF m 58 #[jv q1, .second, jv q2, .second, iv p3, jv mm, .second, jv tt, .second, rv b17, iv (0 : Int32)] [(.ref b17)])) rfl (by rw [hml]; rfl) (Steps.refl _) (argsL := []) (rest := []) (lenOf pd_4 rfl) rfl (by show 2 * 0 + _ ≤ _; exact Nat.le_of_eq rfl) (hb hby at_58) (fun _ _ => ⟨rfl, e19, (by decide : 1 + 0 ≤ _), (by decide : 2 + 0 ≤ _)⟩)
    dsimp only [Pt.U, Pt.locs, Pt.cells, Pt.slots] at X22 l22 y22 z22 st22 hQ22
    subst l22 y22 z22
    obtain ⟨rfl, Nq22, e22⟩ := hQ22
    have N22 := Fr.app N19 Nq22
    refine own_jump (g' := (mkF m 61 #[jv q1, .second, jv q2, .second, iv p3, jv mm, .second, jv tt, .second, rv b17, iv (0 : Int32)] [(.int (own_syncs mm tt))])) st22 ?_
    refine own_st (mkF m 63 #[jv q1, .second, jv q2, .second, iv p3, jv mm, .second, jv tt, .second, rv b17, iv (0 : Int32)] [(.int (0 : Int32)), (.int (own_syncs mm tt))]) (fun t k => XS.iload X22.here hx rfl (hb hby at_61) rfl k) ?_
    refine own_st (mkF m 66 #[jv q1, .second, jv q2, .second, iv p3, jv mm, .second, jv tt, .second, rv b17, iv (0 : Int32)] []) (fun t k => XS.icmpNo X22.here hx rfl (hb hby at_63) rfl (teq (own_no _ _ hc20)).2 k) ?_
    refine own_st (mkF m 67 #[jv q1, .second, jv q2, .second, iv p3, jv mm, .second, jv tt, .second, rv b17, iv (0 : Int32)] [(.int (1 : Int32))]) (fun t k => XS.iconst X22.here hx rfl (hb hby at_66) k) ?_
    refine own_st (mkF m 71 #[jv q1, .second, jv q2, .second, iv p3, jv mm, .second, jv tt, .second, rv b17, iv (0 : Int32)] [(.int (1 : Int32))]) (fun t k => XS.goto X22.here hx rfl (pc0 := 67) (pc' := 71) rfl (hb hby at_67) (by decide) (by decide) k) ?_
    refine own_ret X22 hlk (v := some (.int (1 : Int32))) (fun h => by rw [hret] at h; cases h) (fun fs hr => retN X22 hx (t := .boolean) hret (by simp) (hb hby at_71) hr) ?_ (by decide) (by decide)
    show own_Q0 Z q1 q2 p3 h0 n0 _ T22.heap _
    rw [e22]
    exact ⟨rfl, N22⟩
set_option maxRecDepth 65536 in
set_option maxHeartbeats 40000000 in
theorem own_comes {Post : Tables → Env → Array Value → State → Outcome → State → Prop} (hpost : ∀ tb e args s v u, (limb_1_1.after args s (.returned v) u = true ∧ limb_1_2.after args s (.returned v) u = true ∧ True) → FrameEnd s (.returned v) u (Jvm.fieldLocs frame_1_writes args s ++ Jvm.arrayLocs frame_1_arrays args s ++ Jvm.staticLocs frame_1_statics s) 16 128 → Post tb e args s (.returned v) u) :
    ArmFor flags0 classFile x code maxLocals ret World_1 tables_1 room_1 Calls_1 rest_1 Pre_1 Post := by
  intro l hfl _ _ p e ha hc hk s m args below hf hA hF happ hP
  obtain ⟨hcalls, hrest, hpre⟩ := hP
  obtain ⟨-, -, -, hnamed, -, -, -, hat⟩ := (Spec.applies_iff hf).mp happ
  obtain ⟨hg, hn⟩ := and_e (Cond.before_iff.mp (show (Jvm.Cond.and given_1 narrow_1).before args s = true from hpre))
  obtain ⟨hcnt, hg0⟩ := and_e hg
  obtain ⟨ha0, hg1⟩ := and_e hg0
  obtain ⟨ha1, hg2⟩ := and_e hg1
  obtain ⟨w0, w1, w2, rfl⟩ : ∃ w0 w1 w2 : Value, args = #[w0, w1, w2] := by
    have hs : args.size = 3 := by simpa [Cond.value, given_1] using hcnt
    obtain ⟨L⟩ := args
    match L, hs with
    | [w0, w1, w2], _ => exact ⟨w0, w1, w2, rfl⟩
  have hw := fun d (hd : d ∈ tables_1) => atoms_spec (ws := Jvm.Cond.code x code maxLocals ret :: tables_1) hat d (List.mem_cons_of_mem _ hd)
  have hfit : Fit s := fun {y c} hc i hi => by
    obtain ⟨ha, rfl⟩ := Array.getElem?_eq_some_iff.mp hc
    have q := List.all_eq_true.mp ((Array.all_eq_true_iff_forall_mem.mp hF) _ (Array.getElem_mem ha)) i (List.mem_range.mpr hi)
    simpa [Array.getElem?_eq_getElem hi] using q
  obtain ⟨i0, ei0⟩ := isL_v ha0
  obtain rfl : w0 = (.long i0) := Option.some.inj ei0
  obtain ⟨i1, ei1⟩ := isL_v ha1
  obtain rfl : w1 = (.long i1) := Option.some.inj ei1
  obtain ⟨i2, ei2⟩ := is_v hg2
  obtain rfl : w2 = (.int i2) := Option.some.inj ei2
  obtain ⟨n, o, h1, h2, h3, _, L, rfl, ⟨rfl, N⟩, hq⟩ := own_rm0 l s _ hw tables_1 i0 i1 i2  s.heap s.heap.size (Nat.le_refl _)  p e ha hc hk s m _ below hf ((Spec.applies_iff_loose hf).mp happ).1 ⟨rfl, State.Warmed39.refl s, rfl⟩ trivial
  refine ⟨n, _, h1, h2, h3, hpost _ _ _ _ _ _ ⟨Cond.after_iff.mpr rfl, Cond.after_iff.mpr (eq_i res_at (Term.int_eval (1)) rfl), trivial⟩ ⟨hq.1, hq.2.1, (hq.2.2.sift fun y hy => Or.inr (N y hy)).mono (by decide) (by decide)⟩⟩
theorem main_1_1 : Claimed_1_1 := own_comes fun _ _ _ _ _ _ h hF => ⟨h.1, hF⟩
theorem main_1_2 : Claimed_1_2 := own_comes fun _ _ _ _ _ _ h hF => ⟨h.2.1, hF⟩
end Jvm.Pilot.@@N@@
namespace Jvm.Pilot.@@N@@
open Jvm Jvm.ClassFile Sem Op Lib Jvm.Free Jvm.Stand Jvm.Pilot.@@N@@.Jvm.D
/-! MADE BY PROGRAM (witnessworld.py) out of the Statement's table words and the real class files: 11 classes; the members and pool entries that the words name. The judged class is class 1, her method 2. -/
namespace start1
open Jvm.ClassFile
def u (s : String) : CpInfo := .utf8 (stringToUtf16 s)
/-- a pool by its gaps: so many unusable entries, then the entry; so many at the end -/
def gap : Nat → List CpInfo → List CpInfo
  | 0, r => r
  | n + 1, r => .unusable :: gap n r
def poolList (es : List (Nat × CpInfo)) (last : Nat) : List CpInfo := es.foldr (fun e r => gap e.1 (e.2 :: r)) (gap last [])
def pool (es : List (Nat × CpInfo)) (last : Nat) : Array CpInfo := ⟨poolList es last⟩
def fileOf (pool : Array CpInfo) (this : Nat) (attrs : Array Attribute := #[]) (ms : Array MethodInfo := #[]) (fl : Nat := 33) (sup : Nat := 0) (ifs : Array Nat := #[]) (fds : Array FieldInfo := #[]) : ClassFile where
  minorVersion := 0
  majorVersion := 65
  constantPool := pool
  accessFlags := fl
  thisClass := this
  superClass := sup
  interfaces := ifs
  fields := fds
  methods := ms
  attributes := attrs
def plain (name : String) (sup : Option ClassId) : Class where
  name := name
  kind := .ordinary
  loader := none
  accessFlags := 33
  super := sup
  interfaces := #[]
  cf := none
  fields := #[]
  methods := #[]
  instanceTypes := #[]
  staticTypes := #[]
  resolved := #[]
  callSites := []
  init := .initialized
  statics := none
  mirror := none

def pool0 : Array CpInfo := pool [(5, u "<init>"), (0, u "()V"), (1, .class_ 10), (1, u "java/lang/Object")] 113

def k0c0 : Code := { maxStack := 0, maxLocals := 1, code := object_method_1_code, exceptionTable := #[], attributes := #[] }
def k0m0 : Method := { name := "<init>", desc := "()V", sig := { parameters := [], returnType := none }, accessFlags := 1, code := some k0c0 }
/-- java/lang/Object -/
def k0 : Class := { plain "java/lang/Object" none with
  accessFlags := 33
  interfaces := #[]
  cf := some (fileOf pool0 8 #[] #[{ accessFlags := 1, nameIndex := 5, descriptorIndex := 6, attributes := #[] }] 33 0 #[] #[])
  fields := #[]
  methods := #[k0m0]
  instanceTypes := #[]
  staticTypes := #[]
  resolved := Array.replicate 124 none
  statics := none }

def pool1 : Array CpInfo := pool [(2, .class_ 4), (1, u "java/lang/Object"), (0, u "<init>"), (0, u "()V"), (2, .long 9223372036854775807), (1, .long 9223372036854775806), (1, .methodref 14 15), (0, .class_ 16), (0, .nameAndType 17 18), (0, u "java/lang/Math"), (0, u "max"), (0, u "(JJ)J"), (0, .methodref 20 21), (0, .class_ 22), (0, .nameAndType 23 24), (0, u "com/example/fencer/fencer/log/FlushPolicySyncsPinLaw"), (0, u "pick"), (0, u "(JI)J"), (0, .class_ 26), (0, u "com/example/fencer/fencer/log/FlushPolicy"), (0, .methodref 25 28), (0, .nameAndType 5 29), (0, u "(JJ)V"), (0, .methodref 14 31), (0, .nameAndType 32 18), (0, u "min"), (0, .methodref 25 34), (0, .nameAndType 35 36), (0, u "syncs"), (0, u "()Z"), (3, u "law"), (0, u "(JJI)Z")] 2

def k1m0 : Method := { name := "<init>", desc := "()V", sig := { parameters := [], returnType := none }, accessFlags := 2, code := none }
def k1c1 : Code := { maxStack := 6, maxLocals := 3, code := method_2_code, exceptionTable := #[], attributes := #[] }
def k1m1 : Method := { name := "pick", desc := "(JI)J", sig := { parameters := [.long, .int], returnType := some .long }, accessFlags := 10, code := some k1c1 }
def k1c2 : Code := { maxStack := 6, maxLocals := 11, code := code, exceptionTable := #[], attributes := #[] }
def k1m2 : Method := { name := "law", desc := "(JJI)Z", sig := { parameters := [.long, .long, .int], returnType := some .boolean }, accessFlags := 9, code := some k1c2 }
/-- com/example/fencer/fencer/log/FlushPolicySyncsPinLaw -/
def k1 : Class := { plain "com/example/fencer/fencer/log/FlushPolicySyncsPinLaw" (some 0) with
  accessFlags := 49
  interfaces := #[]
  cf := some (fileOf pool1 20 #[] #[{ accessFlags := 2, nameIndex := 5, descriptorIndex := 6, attributes := #[] }, { accessFlags := 10, nameIndex := 23, descriptorIndex := 24, attributes := #[] }, { accessFlags := 9, nameIndex := 40, descriptorIndex := 41, attributes := #[] }] 49 2 #[] #[])
  fields := #[]
  methods := #[k1m0, k1m1, k1m2]
  instanceTypes := #[]
  staticTypes := #[]
  resolved := Array.replicate 44 none
  statics := none }

def pool2 : Array CpInfo := pool [(1, .methodref 2 3), (0, .class_ 4), (0, .nameAndType 5 6), (0, u "java/lang/Object"), (0, u "<init>"), (0, u "()V"), (0, .class_ 8), (0, u "java/lang/Record")] 13

def k2c0 : Code := { maxStack := 1, maxLocals := 1, code := jdk_30_method_1_code, exceptionTable := #[], attributes := #[] }
def k2m0 : Method := { name := "<init>", desc := "()V", sig := { parameters := [], returnType := none }, accessFlags := 4, code := some k2c0 }
/-- java/lang/Record -/
def k2 : Class := { plain "java/lang/Record" (some 0) with
  accessFlags := 1057
  interfaces := #[]
  cf := some (fileOf pool2 7 #[] #[{ accessFlags := 4, nameIndex := 5, descriptorIndex := 6, attributes := #[] }] 1057 2 #[] #[])
  fields := #[]
  methods := #[k2m0]
  instanceTypes := #[]
  staticTypes := #[]
  resolved := Array.replicate 22 none
  statics := none }

def pool3 : Array CpInfo := pool [(3, .methodref 4 5), (0, .class_ 6), (0, .nameAndType 7 8), (0, u "java/lang/Record"), (0, u "<init>"), (0, u "()V"), (0, .class_ 10), (0, u "com/example/fencer/fencer/log/FlushPolicy"), (9, .fieldref 9 21), (0, .nameAndType 22 23), (0, u "intervalMessages"), (0, u "J"), (0, .fieldref 9 25), (0, .nameAndType 26 23), (0, u "intervalMs"), (0, .long 9223372036854775807), (15, u "(JJ)V"), (2, u "NONE"), (0, u "Lcom/example/fencer/fencer/log/FlushPolicy;"), (0, u "LEAST_INTERVAL"), (3, u "NEVER"), (4, u "syncs"), (0, u "()Z")] 34

def k3c0 : Code := { maxStack := 6, maxLocals := 5, code := prog_34_method_1_code, exceptionTable := #[], attributes := #[] }
def k3m0 : Method := { name := "<init>", desc := "(JJ)V", sig := { parameters := [.long, .long], returnType := none }, accessFlags := 1, code := some k3c0 }
def k3c1 : Code := { maxStack := 4, maxLocals := 1, code := prog_34_method_2_code, exceptionTable := #[], attributes := #[] }
def k3m1 : Method := { name := "syncs", desc := "()Z", sig := { parameters := [], returnType := some .boolean }, accessFlags := 0, code := some k3c1 }
/-- com/example/fencer/fencer/log/FlushPolicy -/
def k3 : Class := { plain "com/example/fencer/fencer/log/FlushPolicy" (some 2) with
  accessFlags := 49
  interfaces := #[]
  cf := some (fileOf pool3 9 #[] #[{ accessFlags := 1, nameIndex := 7, descriptorIndex := 43, attributes := #[] }, { accessFlags := 0, nameIndex := 57, descriptorIndex := 58, attributes := #[] }] 49 4 #[] #[{ accessFlags := 18, nameIndex := 22, descriptorIndex := 23, attributes := #[] }, { accessFlags := 18, nameIndex := 26, descriptorIndex := 23, attributes := #[] }, { accessFlags := 25, nameIndex := 48, descriptorIndex := 23, attributes := #[] }, { accessFlags := 25, nameIndex := 52, descriptorIndex := 23, attributes := #[] }, { accessFlags := 25, nameIndex := 46, descriptorIndex := 47, attributes := #[] }])
  fields := #[{ name := "intervalMessages", type := .long, accessFlags := 18, slot := 0, constantValue := 0 }, { name := "intervalMs", type := .long, accessFlags := 18, slot := 1, constantValue := 0 }, { name := "LEAST_INTERVAL", type := .long, accessFlags := 25, slot := 0, constantValue := 0 }, { name := "NEVER", type := .long, accessFlags := 25, slot := 1, constantValue := 0 }, { name := "NONE", type := (.object "com/example/fencer/fencer/log/FlushPolicy"), accessFlags := 25, slot := 2, constantValue := 0 }]
  methods := #[k3m0, k3m1]
  instanceTypes := #[.long, .long]
  staticTypes := #[.long, .long, (.object "com/example/fencer/fencer/log/FlushPolicy")]
  resolved := Array.replicate 93 none
  statics := none }

def pool4 : Array CpInfo := pool [(1, .class_ 2), (0, u "java/lang/Math"), (1, .class_ 6), (1, u "java/lang/Object"), (0, u "<init>"), (0, u "()V"), (89, .class_ 100), (1, u "java/lang/Math$RandomNumberGeneratorHolder"), (20, u "(JJ)J"), (50, u "negativeZeroFloatBits"), (0, u "J"), (2, u "negativeZeroDoubleBits"), (21, u "max"), (2, u "min"), (43, u "$assertionsDisabled"), (0, u "Z"), (91, u "twoToTheDoubleScaleDown"), (0, u "D"), (4, u "twoToTheDoubleScaleUp"), (9, u "E"), (3, u "PI"), (2, u "TAU"), (2, u "DEGREES_TO_RADIANS"), (0, u "RADIANS_TO_DEGREES")] 94

def k4m0 : Method := { name := "<init>", desc := "()V", sig := { parameters := [], returnType := none }, accessFlags := 2, code := none }
def k4c1 : Code := { maxStack := 4, maxLocals := 4, code := jdk_29_method_66_code, exceptionTable := #[], attributes := #[] }
def k4m1 : Method := { name := "max", desc := "(JJ)J", sig := { parameters := [.long, .long], returnType := some .long }, accessFlags := 9, code := some k4c1 }
def k4c2 : Code := { maxStack := 4, maxLocals := 4, code := jdk_29_method_70_code, exceptionTable := #[], attributes := #[] }
def k4m2 : Method := { name := "min", desc := "(JJ)J", sig := { parameters := [.long, .long], returnType := some .long }, accessFlags := 9, code := some k4c2 }
/-- java/lang/Math -/
def k4 : Class := { plain "java/lang/Math" (some 0) with
  accessFlags := 49
  interfaces := #[]
  cf := some (fileOf pool4 1 #[.nestMembers #[98]] #[{ accessFlags := 2, nameIndex := 7, descriptorIndex := 8, attributes := #[] }, { accessFlags := 9, nameIndex := 198, descriptorIndex := 121, attributes := #[] }, { accessFlags := 9, nameIndex := 201, descriptorIndex := 121, attributes := #[] }] 49 4 #[] #[{ accessFlags := 25, nameIndex := 354, descriptorIndex := 339, attributes := #[] }, { accessFlags := 25, nameIndex := 358, descriptorIndex := 339, attributes := #[] }, { accessFlags := 25, nameIndex := 361, descriptorIndex := 339, attributes := #[] }, { accessFlags := 26, nameIndex := 364, descriptorIndex := 339, attributes := #[] }, { accessFlags := 26, nameIndex := 365, descriptorIndex := 339, attributes := #[] }, { accessFlags := 26, nameIndex := 172, descriptorIndex := 173, attributes := #[] }, { accessFlags := 26, nameIndex := 176, descriptorIndex := 173, attributes := #[] }, { accessFlags := 8, nameIndex := 344, descriptorIndex := 339, attributes := #[] }, { accessFlags := 8, nameIndex := 338, descriptorIndex := 339, attributes := #[] }, { accessFlags := 4120, nameIndex := 245, descriptorIndex := 246, attributes := #[] }])
  fields := #[{ name := "E", type := .double, accessFlags := 25, slot := 0, constantValue := 0 }, { name := "PI", type := .double, accessFlags := 25, slot := 1, constantValue := 0 }, { name := "TAU", type := .double, accessFlags := 25, slot := 2, constantValue := 0 }, { name := "DEGREES_TO_RADIANS", type := .double, accessFlags := 26, slot := 3, constantValue := 0 }, { name := "RADIANS_TO_DEGREES", type := .double, accessFlags := 26, slot := 4, constantValue := 0 }, { name := "negativeZeroFloatBits", type := .long, accessFlags := 26, slot := 5, constantValue := 0 }, { name := "negativeZeroDoubleBits", type := .long, accessFlags := 26, slot := 6, constantValue := 0 }, { name := "twoToTheDoubleScaleUp", type := .double, accessFlags := 8, slot := 7, constantValue := 0 }, { name := "twoToTheDoubleScaleDown", type := .double, accessFlags := 8, slot := 8, constantValue := 0 }, { name := "$assertionsDisabled", type := .boolean, accessFlags := 4120, slot := 9, constantValue := 0 }]
  methods := #[k4m0, k4m1, k4m2]
  instanceTypes := #[]
  staticTypes := #[.double, .double, .double, .double, .double, .long, .long, .double, .double, .boolean]
  resolved := Array.replicate 460 none
  statics := none }

def pool5 : Array CpInfo := pool [(1, u "java/lang/Cloneable"), (0, .class_ 1), (0, u "java/lang/Object"), (0, .class_ 3)] 3

/-- java/lang/Cloneable -/
def k5 : Class := { plain "java/lang/Cloneable" (some 0) with
  accessFlags := 1537
  interfaces := #[]
  cf := some (fileOf pool5 2 #[] #[] 1537 4 #[] #[])
  fields := #[]
  methods := #[]
  instanceTypes := #[]
  staticTypes := #[]
  resolved := Array.replicate 8 none
  statics := none }

def pool6 : Array CpInfo := pool [(1, u "java/io/Serializable"), (0, .class_ 1), (0, u "java/lang/Object"), (0, .class_ 3)] 3

/-- java/io/Serializable -/
def k6 : Class := { plain "java/io/Serializable" (some 0) with
  accessFlags := 1537
  interfaces := #[]
  cf := some (fileOf pool6 2 #[] #[] 1537 4 #[] #[])
  fields := #[]
  methods := #[]
  instanceTypes := #[]
  staticTypes := #[]
  resolved := Array.replicate 8 none
  statics := none }

/-- the primitive byte -/
def k7 : Class := { plain "byte" none with kind := .primitive 'B', accessFlags := 0x411 }
/-- [B -/
def k8 : Class := { plain "[B" (some 0) with kind := .array 7 .byte, interfaces := #[5, 6], accessFlags := 1041 }

/-- the primitive int -/
def k9 : Class := { plain "int" none with kind := .primitive 'I', accessFlags := 0x411 }
/-- [I -/
def k10 : Class := { plain "[I" (some 0) with kind := .array 9 .int, interfaces := #[5, 6], accessFlags := 1041 }

def heap : Heap := #[]
def classes : Array Class := #[k0, k1, k2, k3, k4, k5, k6, k7, k8, k9, k10]
def interned : List (Array UInt16 × Addr) := []
def slotsUsed : Nat := 0
def theMethod : MethodId := ⟨1, 2⟩
def args0 : Array Value := #[.long 100, .long 5, .int 7]
def aboutOver (below : List Frame) : State where
  vm := { classes := classes, interned := interned.toArray }
  heap := heap
  slotsUsed := slotsUsed
  threads := #[{ frames := .invoking theMethod args0 :: below }]
def below0 : List Frame := [.native { method := ⟨0, 0⟩, args := #[] }]
def about1 : State := aboutOver below0
def p0 : Program := .bare "" "" ""
def e0 : Env := launch0.env 0 0 0
theorem w_frames : about1.frames = Frame.invoking theMethod args0 :: below0 := rfl
set_option maxRecDepth 65536 in
theorem w_args : argsFit about1.vm theMethod args0 = true := by decide +kernel
set_option maxRecDepth 65536 in
theorem w_heap : heapFits about1 = true := by decide +kernel
set_option maxRecDepth 65536 in
theorem w_runnable : about1.curStatus? = some .runnable := by decide +kernel
set_option maxRecDepth 65536 in
theorem w_alone : about1.alone = true := by decide +kernel
set_option maxRecDepth 65536 in
theorem w_named : about1.methodNamed? x = some theMethod := by decide +kernel
set_option maxRecDepth 65536 in
theorem w_hears : about1.hears theMethod below0 = true := by decide +kernel
set_option maxRecDepth 65536 in
theorem w_ripe : about1.ripe theMethod args0 below0 = true := by decide +kernel
theorem w_running : about1.status = .running := rfl
set_option maxRecDepth 65536 in
theorem w_room : about1.hasRoom e0.platform room_1 = true :=
  launch0.hasRoom_least _ room_1 (by decide +kernel) (by decide +kernel) (by decide +kernel) (by decide +kernel) (by decide +kernel) (by decide +kernel)
theorem allAtoms_all (ts : List Jvm.Cond) (a : Array Jvm.Value) (st : Jvm.State) : (allAtoms ts).before a st = ts.all (fun c => c.before a st) := by
  induction ts with
  | nil => rfl
  | cons c t ih =>
    show (Jvm.Cond.and c (allAtoms t)).before a st = _
    rw [Jvm.Cond.before_and, ih, List.all_cons]
def words1 : List Jvm.Cond := Jvm.Cond.code x code maxLocals ret :: tables_1
/-- a 'code' word, met by the world's own term for the bytes: nothing is compared byte by byte -/
theorem code_word {y : MethodName} {bytes : ByteArray} {mx : Nat} {rt : Option FieldType} {a : Array Value} {s : State} {m : MethodId} {meth : Method} {c : Code} (h1 : s.methodNamed? y = some m) (h2 : s.vm.method? m = some meth) (h3 : meth.code = some c) (h4 : c.code = bytes)
    (h5 : (c.maxLocals == mx && c.exceptionTable.isEmpty && decide (c.maxStack ≤ mostOperands) && decide (meth.sig.returnType = rt) && !meth.locks && decide (parseMethodDescriptor y.desc = some meth.sig)) = true) : (Jvm.Cond.code y bytes mx rt).before a s = true := by
  simp only [Bool.and_eq_true, beq_iff_eq, Bool.not_eq_true', decide_eq_true_eq] at h5
  obtain ⟨⟨⟨⟨⟨g1, g2⟩, g3⟩, g4⟩, g5⟩, g6⟩ := h5
  simp [Cond.before, Cond.holds, Cond.value, h1, h2, h3, h4, g1, g2, g3, g4, g5, g6]
def isCode : Jvm.Cond → Bool
  | .code _ _ _ _ => true
  | _ => false
theorem all_split {L : List Jvm.Cond} {P : Jvm.Cond → Bool} (h1 : L.all (fun c => isCode c || P c) = true) (h2 : ∀ c ∈ L.filter isCode, P c = true) : L.all P = true := by
  refine List.all_eq_true.mpr fun c hc => ?_
  have h := List.all_eq_true.mp h1 c hc
  rcases Bool.eq_false_or_eq_true (isCode c) with hi | hi
  · exact h2 c (List.mem_filter.mpr ⟨hc, hi⟩)
  · simpa [hi] using h
set_option maxRecDepth 65536 in
theorem w_c0 : (Jvm.Cond.code x code maxLocals ret).before args0 about1 = true := code_word (m := ⟨1, 2⟩) (meth := k1m2) (c := k1c2) (by decide +kernel) rfl rfl rfl (by decide +kernel)
set_option maxRecDepth 65536 in
theorem w_c1 : (Jvm.Cond.code ({ cls := "com/example/fencer/fencer/log/FlushPolicySyncsPinLaw", name := "pick", desc := "(JI)J" } : Jvm.MethodName) method_2_code (3 : Nat) (Option.some Jvm.ClassFile.FieldType.long)).before args0 about1 = true := code_word (m := ⟨1, 1⟩) (meth := k1m1) (c := k1c1) (by decide +kernel) rfl rfl rfl (by decide +kernel)
set_option maxRecDepth 65536 in
theorem w_c2 : (Jvm.Cond.code ({ cls := "com/example/fencer/fencer/log/FlushPolicy", name := "<init>", desc := "(JJ)V" } : Jvm.MethodName) prog_34_method_1_code (5 : Nat) (Option.none : Option Jvm.ClassFile.FieldType)).before args0 about1 = true := code_word (m := ⟨3, 0⟩) (meth := k3m0) (c := k3c0) (by decide +kernel) rfl rfl rfl (by decide +kernel)
set_option maxRecDepth 65536 in
theorem w_c3 : (Jvm.Cond.code ({ cls := "java/lang/Record", name := "<init>", desc := "()V" } : Jvm.MethodName) jdk_30_method_1_code (1 : Nat) (Option.none : Option Jvm.ClassFile.FieldType)).before args0 about1 = true := code_word (m := ⟨2, 0⟩) (meth := k2m0) (c := k2c0) (by decide +kernel) rfl rfl rfl (by decide +kernel)
set_option maxRecDepth 65536 in
theorem w_c4 : (Jvm.Cond.code ({ cls := "java/lang/Object", name := "<init>", desc := "()V" } : Jvm.MethodName) object_method_1_code (1 : Nat) (Option.none : Option Jvm.ClassFile.FieldType)).before args0 about1 = true := code_word (m := ⟨0, 0⟩) (meth := k0m0) (c := k0c0) (by decide +kernel) rfl rfl rfl (by decide +kernel)
set_option maxRecDepth 65536 in
theorem w_c5 : (Jvm.Cond.code ({ cls := "java/lang/Math", name := "min", desc := "(JJ)J" } : Jvm.MethodName) jdk_29_method_70_code (4 : Nat) (Option.some Jvm.ClassFile.FieldType.long)).before args0 about1 = true := code_word (m := ⟨4, 2⟩) (meth := k4m2) (c := k4c2) (by decide +kernel) rfl rfl rfl (by decide +kernel)
set_option maxRecDepth 65536 in
theorem w_c6 : (Jvm.Cond.code ({ cls := "com/example/fencer/fencer/log/FlushPolicy", name := "syncs", desc := "()Z" } : Jvm.MethodName) prog_34_method_2_code (1 : Nat) (Option.some Jvm.ClassFile.FieldType.boolean)).before args0 about1 = true := code_word (m := ⟨3, 1⟩) (meth := k3m1) (c := k3c1) (by decide +kernel) rfl rfl rfl (by decide +kernel)
set_option maxRecDepth 65536 in
theorem w_c7 : (Jvm.Cond.code ({ cls := "java/lang/Math", name := "max", desc := "(JJ)J" } : Jvm.MethodName) jdk_29_method_66_code (4 : Nat) (Option.some Jvm.ClassFile.FieldType.long)).before args0 about1 = true := code_word (m := ⟨4, 1⟩) (meth := k4m1) (c := k4c1) (by decide +kernel) rfl rfl rfl (by decide +kernel)
def codes1 : List Jvm.Cond := [Jvm.Cond.code x code maxLocals ret, Jvm.Cond.code ({ cls := "com/example/fencer/fencer/log/FlushPolicySyncsPinLaw", name := "pick", desc := "(JI)J" } : Jvm.MethodName) method_2_code (3 : Nat) (Option.some Jvm.ClassFile.FieldType.long), Jvm.Cond.code ({ cls := "com/example/fencer/fencer/log/FlushPolicy", name := "<init>", desc := "(JJ)V" } : Jvm.MethodName) prog_34_method_1_code (5 : Nat) (Option.none : Option Jvm.ClassFile.FieldType), Jvm.Cond.code ({ cls := "java/lang/Record", name := "<init>", desc := "()V" } : Jvm.MethodName) jdk_30_method_1_code (1 : Nat) (Option.none : Option Jvm.ClassFile.FieldType), Jvm.Cond.code ({ cls := "java/lang/Object", name := "<init>", desc := "()V" } : Jvm.MethodName) object_method_1_code (1 : Nat) (Option.none : Option Jvm.ClassFile.FieldType), Jvm.Cond.code ({ cls := "java/lang/Math", name := "min", desc := "(JJ)J" } : Jvm.MethodName) jdk_29_method_70_code (4 : Nat) (Option.some Jvm.ClassFile.FieldType.long), Jvm.Cond.code ({ cls := "com/example/fencer/fencer/log/FlushPolicy", name := "syncs", desc := "()Z" } : Jvm.MethodName) prog_34_method_2_code (1 : Nat) (Option.some Jvm.ClassFile.FieldType.boolean), Jvm.Cond.code ({ cls := "java/lang/Math", name := "max", desc := "(JJ)J" } : Jvm.MethodName) jdk_29_method_66_code (4 : Nat) (Option.some Jvm.ClassFile.FieldType.long)]
set_option maxRecDepth 65536 in
theorem codes_eq : words1.filter isCode = codes1 := rfl
theorem w_codes : ∀ c ∈ words1.filter isCode, c.before args0 about1 = true := by
  rw [codes_eq]
  intro c hc
  simp only [codes1, List.mem_cons, List.not_mem_nil, or_false] at hc
  rcases hc with rfl | rfl | rfl | rfl | rfl | rfl | rfl | rfl
  · exact w_c0
  · exact w_c1
  · exact w_c2
  · exact w_c3
  · exact w_c4
  · exact w_c5
  · exact w_c6
  · exact w_c7
set_option maxRecDepth 65536 in
theorem w_t1 : (words1.take 24).all (fun c => isCode c || c.before args0 about1) = true := by decide +kernel
set_option maxRecDepth 65536 in
theorem w_t2 : (words1.drop 24).all (fun c => isCode c || c.before args0 about1) = true := by decide +kernel
theorem w_tables : (allAtoms (Jvm.Cond.code x code maxLocals ret :: tables_1)).before args0 about1 = true := by
  rw [allAtoms_all]
  show words1.all (fun c => c.before args0 about1) = true
  refine all_split ?_ w_codes
  rw [← List.take_append_drop 24 words1, List.all_append, w_t1, w_t2]
  rfl
set_option maxRecDepth 65536 in
theorem w_case : (Jvm.Cond.and given_1 narrow_1).before args0 about1 = true := by decide +kernel
theorem w_applies : (headSpec (Jvm.Cond.code x code maxLocals ret :: tables_1) room_1).applies x e0.platform about1 = true :=
  (Spec.applies_iff w_frames).mpr ⟨w_running, w_runnable, w_alone, w_named, w_hears, w_ripe, w_room, w_tables⟩
theorem atStart : AtStart classFile x code maxLocals ret World_1 tables_1 room_1 Calls_1 rest_1 Pre_1 launch0 p0 e0 about1 theMethod args0 below0 :=
  ⟨lists_1, trivial, launch0.admits_env _ _ _, launch0.least_env, fairChoices_fair.cas, fairChoices_fair.clock, w_frames, w_args, w_heap, w_applies, trivial, trivial, w_case⟩
end start1
theorem witness_1 : WitnessClaimed_1 := ⟨start1.p0, start1.e0, start1.about1, start1.theMethod, start1.args0, start1.below0, start1.atStart⟩
end Jvm.Pilot.@@N@@
