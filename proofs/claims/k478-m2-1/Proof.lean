import JvmDerived
import JvmDerived.Pilot.@@N@@Statement
import JvmDerived.Pilot.@@N@@Code
set_option linter.unusedVariables false
set_option linter.unusedSimpArgs false
namespace Jvm.RoadKit
open Sem ClassFile Op Lib Jvm.Stand Jvm.Free Jvm.LawKit
section New
variable {p : Program} {l : Launch} {e : Env} {R : Room} {s : State} {m : MethodId} {args : Array Value} {below : List Frame} {meth : Method} {c : Code} {T : State} {locs : List Loc} {cells slots : Nat}
theorem retI (X : Stand p l e R s m args below meth c T locs cells slots) (hx : p.tables.exec = Jvm.exec) {pc : Nat} {Ls : Array Slot} {z : Int32} {rest : List Value} (hret : meth.sig.returnType = some .int) (hd : decode c.code pc = .ok (.ireturn, 1)) {fs : List Frame}
    (hl : ∀ (f : JFrame) (acts : List Action), f.method = m → f.locked = none → f.entered = [] → (doReturn e (T.setTop f) acts (some (.int z))).1 = T.setFrames fs) : Steps p.tables e below (T.setTop (mkF m pc Ls (.int z :: rest))) (T.setFrames fs) := by
  have hm' : T.vm.method? m = some meth := X.method'
  have hn : narrow .int (.int z) = .int z := rfl
  show Steps p.tables e below (T.setTop { method := m, pc := pc, locals := Ls, stack := _ :: rest, locked := none }) _
  jvm_step X.here [X.here.top, hx, hd, hm', hret, hn]
  first | (intro acts; rw [hl _ acts rfl rfl rfl]) | rw [hl _ _ rfl rfl rfl]
  exact Steps.refl _
end New
end Jvm.RoadKit
namespace Jvm.Pilot.@@N@@
open Jvm Jvm.ClassFile Sem Op Lib Jvm.Free Jvm.Stand Jvm.LawKit Jvm.RoadKit Bundle Jvm.Pilot.@@N@@.Jvm.D
theorem own_pd0 : parseMethodDescriptor "(JJ)J" = some ⟨[.long, .long], some .long⟩ := by decide +kernel
theorem own_mask (x : Int64) : 0 ≤ (x &&& (9223372036854775807 : Int64)).toInt := by
  rw [c_maskL x _ 63 (by decide) (by decide)]; omega
theorem own_max : (9223372036854775807 : Int64).toInt = 9223372036854775807 := by decide
theorem own_z : (0 : Int64).toInt = 0 := by decide
def own_r (a b : Int64) : Int64 := if a = (0 : Int64) then a * b else if (9223372036854775807 : Int64) / a < b then (9223372036854775807 : Int64) else a * b
theorem own_ne {a : Int64} (ha : 0 ≤ a.toInt) (h : ¬ a = (0 : Int64)) : 1 ≤ a.toInt := by
  have : a.toInt ≠ 0 := fun q => h (Int64.toInt_inj.mp (q.trans own_z.symm))
  omega
theorem own_ne1 {a : Int64} (ha : 0 ≤ a.toInt) : a ≠ -1 := fun q => by rw [q] at ha; exact absurd ha (by decide)
/-- MAX / a as an integer -/
theorem own_q {a : Int64} (ha : 0 ≤ a.toInt) : ((9223372036854775807 : Int64) / a).toInt = 9223372036854775807 / a.toInt := by
  have h := (c_ldiv (9223372036854775807 : Int64) a a.toInt rfl (own_ne1 ha)).1
  rw [own_max] at h
  exact h (by decide)
theorem own_d {w a : Int64} (hw : 0 ≤ w.toInt) (ha : 0 ≤ a.toInt) : (w / a).toInt = w.toInt / a.toInt := (c_ldiv w a a.toInt rfl (own_ne1 ha)).1 hw
/-- the product fits: the law's test says so, the program multiplies -/
theorem own_fit {a b : Int64} (ha : 1 ≤ a.toInt) (hb : 0 ≤ b.toInt) : (9223372036854775807 / a.toInt < b.toInt ↔ 9223372036854775807 < a.toInt * b.toInt) := by
  rw [Int.ediv_lt_iff_lt_mul (by omega), Int.mul_comm]
theorem own_prod {a b : Int64} (ha : 1 ≤ a.toInt) (hb : 0 ≤ b.toInt) (h : a.toInt * b.toInt ≤ 9223372036854775807) : (a * b).toInt = a.toInt * b.toInt := by
  have h1 := c_lmul a b
  have h2 := rng64 (a * b)
  have h3 : 0 ≤ a.toInt * b.toInt := Int.mul_nonneg (by omega) hb
  generalize a.toInt * b.toInt = z at *
  omega
/-- the test of the law -/
theorem own_test {a b : Int64} (ha : 1 ≤ a.toInt) (hb : 0 ≤ b.toInt) : (¬ a * b < (0 : Int64) ∧ (a * b) / a = b) ↔ ¬ 9223372036854775807 < a.toInt * b.toInt := by
  rw [Int64.lt_iff_toInt_lt, own_z, ← Int64.toInt_inj]
  constructor
  · rintro ⟨h1, h2⟩ h3
    rw [own_d (by omega) (by omega)] at h2
    have h4 := Int.ediv_mul_le (a * b).toInt (b := a.toInt) (by omega)
    rw [h2, Int.mul_comm] at h4
    have h5 := rng64 (a * b)
    omega
  · intro h
    have e := own_prod ha hb (by omega)
    have h3 : 0 ≤ a.toInt * b.toInt := Int.mul_nonneg (by omega) hb
    refine ⟨by rw [e]; omega, ?_⟩
    rw [own_d (by rw [e]; exact h3) (by omega), e, Int.mul_ediv_cancel_left _ (by omega)]
theorem own_zero {a b : Int64} (h : a = (0 : Int64)) : own_r a b = a * b := if_pos h
theorem own_lo {a b : Int64} (ha : 1 ≤ a.toInt) (hb : 0 ≤ b.toInt) (h1 : ¬ a * b < (0 : Int64)) (h2 : (a * b) / a = b) : own_r a b = a * b := by
  have h := (own_test ha hb).mp ⟨h1, h2⟩
  rw [own_r]
  split
  · rfl
  · rw [if_neg]
    rw [Int64.lt_iff_toInt_lt, own_q (by omega), own_fit ha hb]; exact h
theorem own_hi {a b : Int64} (ha : 1 ≤ a.toInt) (hb : 0 ≤ b.toInt) (h : ¬ (¬ a * b < (0 : Int64) ∧ (a * b) / a = b)) : own_r a b = (9223372036854775807 : Int64) := by
  have h : 9223372036854775807 < a.toInt * b.toInt := Classical.byContradiction fun q => h ((own_test ha hb).mpr q)
  rw [own_r, if_neg, if_pos]
  · rw [Int64.lt_iff_toInt_lt, own_q (by omega), own_fit ha hb]; exact h
  · intro q; rw [q, own_z] at ha; omega
/-- the law's b behind its first branch: not negative -/
theorem own_dd (x : Int32) : 0 ≤ ((x >>> ((1 : Int32) &&& 31)) &&& (3 : Int32)).toInt64.toInt ∧ ((x >>> ((1 : Int32) &&& 31)) &&& (3 : Int32)).toInt64.toInt ≤ 3 := by
  rw [c_i2l]
  have h := c_and (x >>> ((1 : Int32) &&& 31)) (3 : Int32) (by decide)
  rw [show (3 : Int32).toInt = 3 from by decide] at h
  exact h
theorem own_bb {a d : Int64} (ha : 1 ≤ a.toInt) (hd : -1 ≤ d.toInt ∧ d.toInt ≤ 2) (h : ¬ ((0 : Int64) < d ∧ (9223372036854775807 : Int64) - d < (9223372036854775807 : Int64) / a)) : 0 ≤ ((9223372036854775807 : Int64) / a + d).toInt := by
  have hq := own_q (a := a) (by omega)
  have hq1 : 1 ≤ 9223372036854775807 / a.toInt := by
    have := rng64 a
    exact (Int.le_ediv_iff_mul_le (by omega)).mpr (by omega)
  have h1 := c_ladd ((9223372036854775807 : Int64) / a) d
  have h2 := c_lsub (9223372036854775807 : Int64) d
  rw [own_max] at h2
  have := rng64 ((9223372036854775807 : Int64) / a); have := rng64 d; have := rng64 ((9223372036854775807 : Int64) / a + d); have := rng64 ((9223372036854775807 : Int64) - d)
  rw [Int64.lt_iff_toInt_lt, Int64.lt_iff_toInt_lt, own_z] at h
  rw [hq] at h h1
  generalize 9223372036854775807 / a.toInt = q at *
  omega
theorem d1_0 : decode prog_44_method_4_code 0 = .ok (.lload_n 0, 1) := by decide +kernel
theorem d1_1 : decode prog_44_method_4_code 1 = .ok (.lconst 0, 1) := by decide +kernel
theorem d1_2 : decode prog_44_method_4_code 2 = .ok (.lcmp, 1) := by decide +kernel
theorem d1_3 : decode prog_44_method_4_code 3 = .ok (.ifCond .eq 19, 3) := by decide +kernel
theorem d1_6 : decode prog_44_method_4_code 6 = .ok (.lload_n 2, 1) := by decide +kernel
theorem d1_7 : decode prog_44_method_4_code 7 = .ok (.ldc2_w 56, 3) := by decide +kernel
theorem d1_10 : decode prog_44_method_4_code 10 = .ok (.lload_n 0, 1) := by decide +kernel
theorem d1_11 : decode prog_44_method_4_code 11 = .ok (.ldiv, 1) := by decide +kernel
theorem d1_12 : decode prog_44_method_4_code 12 = .ok (.lcmp, 1) := by decide +kernel
theorem d1_13 : decode prog_44_method_4_code 13 = .ok (.ifCond .le 9, 3) := by decide +kernel
theorem d1_16 : decode prog_44_method_4_code 16 = .ok (.ldc2_w 56, 3) := by decide +kernel
theorem d1_19 : decode prog_44_method_4_code 19 = .ok (.goto 6, 3) := by decide +kernel
theorem d1_22 : decode prog_44_method_4_code 22 = .ok (.lload_n 0, 1) := by decide +kernel
theorem d1_23 : decode prog_44_method_4_code 23 = .ok (.lload_n 2, 1) := by decide +kernel
theorem d1_24 : decode prog_44_method_4_code 24 = .ok (.lmul, 1) := by decide +kernel
theorem d1_25 : decode prog_44_method_4_code 25 = .ok (.lreturn, 1) := by decide +kernel
theorem pn_1 : plainName "com/example/crewmatch/crewmatch/Money" = true := by first | (simp [plainName, overriddenIn]; done) | decide +kernel
theorem ef_1 (m : MethodId) (x0 : Int64) (x1 : Int64) : entryFrame m #[(.long x0), (.long x1)] 4 = mkF m 0 #[.val (.long x0), .second, .val (.long x1), .second] [] := by first | (simp [entryFrame, mkF, argsToLocals, Value.category]; done) | rfl
def Q1 (Z : State) (q1 q2 : Int64) (h0 : Heap) (n0 : Nat) (v : Option Value) (h : Heap) (L : List Loc) : Prop := v = some (.long (own_r q1 q2)) ∧ Fr n0 L ∧ h = h0
set_option maxRecDepth 65536 in
set_option maxHeartbeats 40000000 in
theorem rm1 (l : Launch) (Z : State) (a0 : Array Value) (hw : ∀ d ∈ tables_1, d.before a0 Z = true) (ws : List Jvm.Cond) (q1 : Int64) (q2 : Int64)  (h0 : Heap) (n0 : Nat) (Z0 : n0 ≤ h0.size)  :
    MetFree l (⟨"com/example/crewmatch/crewmatch/Money", "multiplyCapped", "(JJ)J"⟩ : MethodName) (head1 (Jvm.Cond.code (⟨"com/example/crewmatch/crewmatch/Money", "multiplyCapped", "(JJ)J"⟩ : MethodName) prog_44_method_4_code 4 (some .long) :: ws) ({ frames := 0, cells := 0, slots := 0, locals := 0 } : Room)) (fun a U => a = #[(.long q1), (.long q2)] ∧ Z.Warmed39 U.vm ∧ U.heap = h0) (fun _ _ _ _ _ => True) (fun _ U o U' => ∃ v L, o = .returned v ∧ Q1 Z q1 q2 h0 n0 v U'.heap L ∧ FrameEnd U o U' L ({ frames := 0, cells := 0, slots := 0, locals := 0 } : Room).cells ({ frames := 0, cells := 0, slots := 0, locals := 0 } : Room).slots) := by
  refine MetFree.of_bodySF (plainFor_of_name pn_1) hisR ?_
  intro p e s m args below meth c s₁ Bd hml0 hP hK
  obtain ⟨rfl, hZ, hh⟩ := hP
  have hx := Bd.exec
  have hby := Bd.bytes
  have hml : c.maxLocals = 4 := hml0
  have hown : s.vm.findClass "com/example/crewmatch/crewmatch/Money" = some m.cls := findClass_of_methodNamed Bd.named
  have hnm := (name_of_methodNamed Bd.named Bd.method).1
  have X0 : Stand p l e ({ frames := 0, cells := 0, slots := 0, locals := 0 } : Room) s m #[(.long q1), (.long q2)] below meth c s₁ [] 0 0 := Stand.of_body Bd
  have e0 : s₁.heap = h0 := by rw [← hh, Bd.state]; rfl
  have N0 := Fr.nil n0
  have pre0 : ∀ t, Steps p.tables e below (s₁.setTop (mkF m 0 #[.val (.long q1), .second, .val (.long q2), .second] [])) t → Steps p.tables e below (s₁.setTop (entryFrame m #[(.long q1), (.long q2)] 4)) t := fun t k => castTop (ef_1 m q1 q2) k
  have k1 : ∀ t, Steps p.tables e below (s₁.setTop (mkF m 3 #[.val (.long q1), .second, .val (.long q2), .second] [(.int (lcmpW q1 (0 : Int64)))])) t → Steps p.tables e below (s₁.setTop (entryFrame m #[(.long q1), (.long q2)] 4)) t := fun t k => pre0 t (by
      show Steps p.tables e below (s₁.setTop (mkF m 0 #[.val (.long q1), .second, .val (.long q2), .second] [])) _
      refine XS.lloadN X0.here hx rfl (hb hby d1_0) rfl ?_
      show Steps p.tables e below (s₁.setTop (mkF m 1 #[.val (.long q1), .second, .val (.long q2), .second] [(.long q1)])) _
      refine XS.lconst X0.here hx rfl (hb hby d1_1) ?_
      show Steps p.tables e below (s₁.setTop (mkF m 2 #[.val (.long q1), .second, .val (.long q2), .second] [(.long (0 : Int64)), (.long q1)])) _
      refine XS.lcmp X0.here hx rfl (hb hby d1_2) rfl ?_
      exact k)
  by_cases hc2 : q1 = (0 : Int64)
  · have k3 : ∀ t, Steps p.tables e below (s₁.setTop (mkF m 22 #[.val (.long q1), .second, .val (.long q2), .second] [])) t → Steps p.tables e below (s₁.setTop (entryFrame m #[(.long q1), (.long q2)] 4)) t := fun t k => k1 t (by
        show Steps p.tables e below (s₁.setTop (mkF m 3 #[.val (.long q1), .second, .val (.long q2), .second] [(.int (lcmpW q1 (0 : Int64)))])) _
        refine XS.ifYes X0.here hx rfl (pc0 := 3) (pc' := 22) rfl (hb hby d1_3) rfl ((if0 _ _).trans (teq ((lw_eq _ _).mpr hc2)).1) (by decide) (by decide) ?_
        exact k)
    have k4 : ∀ t, Steps p.tables e below (s₁.setTop (mkF m 25 #[.val (.long q1), .second, .val (.long q2), .second] [(.long (q1 * q2))])) t → Steps p.tables e below (s₁.setTop (entryFrame m #[(.long q1), (.long q2)] 4)) t := fun t k => k3 t (by
        show Steps p.tables e below (s₁.setTop (mkF m 22 #[.val (.long q1), .second, .val (.long q2), .second] [])) _
        refine XS.lloadN X0.here hx rfl (hb hby d1_22) rfl ?_
        show Steps p.tables e below (s₁.setTop (mkF m 23 #[.val (.long q1), .second, .val (.long q2), .second] [(.long q1)])) _
        refine XS.lloadN X0.here hx rfl (hb hby d1_23) rfl ?_
        show Steps p.tables e below (s₁.setTop (mkF m 24 #[.val (.long q1), .second, .val (.long q2), .second] [(.long q2), (.long q1)])) _
        refine XS.lmul X0.here hx rfl (hb hby d1_24) rfl ?_
        exact k)
    obtain ⟨fs, hr, hrun, hended, hW, hsame⟩ := X0.leave (v := some (.long (q1 * q2))) (fun h => by rw [Bd.returns] at h; cases h)
    refine ⟨_, _, k4 _ ?_, hrun, hended, _, _, rfl, ?_, ⟨_, rfl⟩, hW, hsame.mono (by decide) (by decide)⟩
    · show Steps p.tables e below (s₁.setTop (mkF m 25 #[.val (.long q1), .second, .val (.long q2), .second] [(.long (q1 * q2))])) _
      exact retOut X0 hx Bd.returns rfl (Or.inr (Or.inl ⟨rfl, rfl, _, rfl⟩)) (hb hby d1_25) hr
    · show Q1 Z q1 q2 h0 n0 _ s₁.heap _
      rw [e0]
      exact ⟨by rw [own_r, if_pos hc2], N0, rfl⟩
  · have k5 : ∀ t, Steps p.tables e below (s₁.setTop (mkF m 6 #[.val (.long q1), .second, .val (.long q2), .second] [])) t → Steps p.tables e below (s₁.setTop (entryFrame m #[(.long q1), (.long q2)] 4)) t := fun t k => k1 t (by
        show Steps p.tables e below (s₁.setTop (mkF m 3 #[.val (.long q1), .second, .val (.long q2), .second] [(.int (lcmpW q1 (0 : Int64)))])) _
        refine XS.ifNo X0.here hx rfl (hb hby d1_3) rfl ((if0 _ _).trans (feq (fun q => hc2 ((lw_eq _ _).mp q))).1) ?_
        exact k)
    have k6 : ∀ t, Steps p.tables e below (s₁.setTop (mkF m 13 #[.val (.long q1), .second, .val (.long q2), .second] [(.int (lcmpW q2 ((9223372036854775807 : Int64) / q1)))])) t → Steps p.tables e below (s₁.setTop (entryFrame m #[(.long q1), (.long q2)] 4)) t := fun t k => k5 t (by
        show Steps p.tables e below (s₁.setTop (mkF m 6 #[.val (.long q1), .second, .val (.long q2), .second] [])) _
        refine XS.lloadN X0.here hx rfl (hb hby d1_6) rfl ?_
        show Steps p.tables e below (s₁.setTop (mkF m 7 #[.val (.long q1), .second, .val (.long q2), .second] [(.long q2)])) _
        refine X0.ldc2Long hx hown (mvT hZ (hw _ (List.mem_of_getElem? (i := 5) rfl))) (g := (mkF m 7 #[.val (.long q1), .second, .val (.long q2), .second] [(.long q2)])) rfl (hb hby d1_7) _ ?_
        show Steps p.tables e below (s₁.setTop (mkF m 10 #[.val (.long q1), .second, .val (.long q2), .second] [(.long (9223372036854775807 : Int64)), (.long q2)])) _
        refine XS.lloadN X0.here hx rfl (hb hby d1_10) rfl ?_
        show Steps p.tables e below (s₁.setTop (mkF m 11 #[.val (.long q1), .second, .val (.long q2), .second] [(.long q1), (.long (9223372036854775807 : Int64)), (.long q2)])) _
        refine XS.ldiv X0.here hx rfl (hb hby d1_11) rfl hc2 ?_
        show Steps p.tables e below (s₁.setTop (mkF m 12 #[.val (.long q1), .second, .val (.long q2), .second] [(.long ((9223372036854775807 : Int64) / q1)), (.long q2)])) _
        refine XS.lcmp X0.here hx rfl (hb hby d1_12) rfl ?_
        exact k)
    by_cases hc7 : ((9223372036854775807 : Int64) / q1) < q2
    · have k8 : ∀ t, Steps p.tables e below (s₁.setTop (mkF m 16 #[.val (.long q1), .second, .val (.long q2), .second] [])) t → Steps p.tables e below (s₁.setTop (entryFrame m #[(.long q1), (.long q2)] 4)) t := fun t k => k6 t (by
          show Steps p.tables e below (s₁.setTop (mkF m 13 #[.val (.long q1), .second, .val (.long q2), .second] [(.int (lcmpW q2 ((9223372036854775807 : Int64) / q1)))])) _
          refine XS.ifNo X0.here hx rfl (hb hby d1_13) rfl ((if0 _ _).trans (tlt ((lw_gt _ _).mpr hc7)).2.2.2) ?_
          exact k)
      have k9 : ∀ t, Steps p.tables e below (s₁.setTop (mkF m 25 #[.val (.long q1), .second, .val (.long q2), .second] [(.long (9223372036854775807 : Int64))])) t → Steps p.tables e below (s₁.setTop (entryFrame m #[(.long q1), (.long q2)] 4)) t := fun t k => k8 t (by
          show Steps p.tables e below (s₁.setTop (mkF m 16 #[.val (.long q1), .second, .val (.long q2), .second] [])) _
          refine X0.ldc2Long hx hown (mvT hZ (hw _ (List.mem_of_getElem? (i := 5) rfl))) (g := (mkF m 16 #[.val (.long q1), .second, .val (.long q2), .second] [])) rfl (hb hby d1_16) _ ?_
          show Steps p.tables e below (s₁.setTop (mkF m 19 #[.val (.long q1), .second, .val (.long q2), .second] [(.long (9223372036854775807 : Int64))])) _
          refine XS.goto X0.here hx rfl (pc0 := 19) (pc' := 25) rfl (hb hby d1_19) (by decide) (by decide) ?_
          exact k)
      obtain ⟨fs, hr, hrun, hended, hW, hsame⟩ := X0.leave (v := some (.long (9223372036854775807 : Int64))) (fun h => by rw [Bd.returns] at h; cases h)
      refine ⟨_, _, k9 _ ?_, hrun, hended, _, _, rfl, ?_, ⟨_, rfl⟩, hW, hsame.mono (by decide) (by decide)⟩
      · show Steps p.tables e below (s₁.setTop (mkF m 25 #[.val (.long q1), .second, .val (.long q2), .second] [(.long (9223372036854775807 : Int64))])) _
        exact retOut X0 hx Bd.returns rfl (Or.inr (Or.inl ⟨rfl, rfl, _, rfl⟩)) (hb hby d1_25) hr
      · show Q1 Z q1 q2 h0 n0 _ s₁.heap _
        rw [e0]
        exact ⟨by rw [own_r, if_neg hc2, if_pos hc7], N0, rfl⟩
    · have k10 : ∀ t, Steps p.tables e below (s₁.setTop (mkF m 22 #[.val (.long q1), .second, .val (.long q2), .second] [])) t → Steps p.tables e below (s₁.setTop (entryFrame m #[(.long q1), (.long q2)] 4)) t := fun t k => k6 t (by
          show Steps p.tables e below (s₁.setTop (mkF m 13 #[.val (.long q1), .second, .val (.long q2), .second] [(.int (lcmpW q2 ((9223372036854775807 : Int64) / q1)))])) _
          refine XS.ifYes X0.here hx rfl (pc0 := 13) (pc' := 22) rfl (hb hby d1_13) rfl ((if0 _ _).trans (flt (fun q => hc7 ((lw_gt _ _).mp q))).2.2.2) (by decide) (by decide) ?_
          exact k)
      have k11 : ∀ t, Steps p.tables e below (s₁.setTop (mkF m 25 #[.val (.long q1), .second, .val (.long q2), .second] [(.long (q1 * q2))])) t → Steps p.tables e below (s₁.setTop (entryFrame m #[(.long q1), (.long q2)] 4)) t := fun t k => k10 t (by
          show Steps p.tables e below (s₁.setTop (mkF m 22 #[.val (.long q1), .second, .val (.long q2), .second] [])) _
          refine XS.lloadN X0.here hx rfl (hb hby d1_22) rfl ?_
          show Steps p.tables e below (s₁.setTop (mkF m 23 #[.val (.long q1), .second, .val (.long q2), .second] [(.long q1)])) _
          refine XS.lloadN X0.here hx rfl (hb hby d1_23) rfl ?_
          show Steps p.tables e below (s₁.setTop (mkF m 24 #[.val (.long q1), .second, .val (.long q2), .second] [(.long q2), (.long q1)])) _
          refine XS.lmul X0.here hx rfl (hb hby d1_24) rfl ?_
          exact k)
      obtain ⟨fs, hr, hrun, hended, hW, hsame⟩ := X0.leave (v := some (.long (q1 * q2))) (fun h => by rw [Bd.returns] at h; cases h)
      refine ⟨_, _, k11 _ ?_, hrun, hended, _, _, rfl, ?_, ⟨_, rfl⟩, hW, hsame.mono (by decide) (by decide)⟩
      · show Steps p.tables e below (s₁.setTop (mkF m 25 #[.val (.long q1), .second, .val (.long q2), .second] [(.long (q1 * q2))])) _
        exact retOut X0 hx Bd.returns rfl (Or.inr (Or.inl ⟨rfl, rfl, _, rfl⟩)) (hb hby d1_25) hr
      · show Q1 Z q1 q2 h0 n0 _ s₁.heap _
        rw [e0]
        exact ⟨by rw [own_r, if_neg hc2, if_neg hc7], N0, rfl⟩
theorem pn_0 : plainName "com/example/crewmatch/crewmatch/MoneyMultiplyCappedPinLaw" = true := by first | (simp [plainName, overriddenIn]; done) | decide +kernel
theorem ef_0 (m : MethodId) (x0 : Int64) (x1 : Int64) (x2 : Int32) : entryFrame m #[(.long x0), (.long x1), (.int x2)] maxLocals = mkF m 0 #[.val (.long x0), .second, .val (.long x1), .second, .val (.int x2), .unset, .unset, .unset, .unset, .unset, .unset, .unset, .unset, .unset] [] := by first | (simp [entryFrame, mkF, argsToLocals, Value.category, maxLocals]; done) | rfl
def Q0 (Z : State) (q1 q2 : Int64) (p3 : Int32) (h0 : Heap) (n0 : Nat) (v : Option Value) (h : Heap) (L : List Loc) : Prop := v = some (.int 1) ∧ Fr n0 L
set_option maxRecDepth 65536 in
set_option maxHeartbeats 40000000 in
theorem rm0 (l : Launch) (Z : State) (a0 : Array Value) (hw : ∀ d ∈ tables_1, d.before a0 Z = true) (ws : List Jvm.Cond) (q1 : Int64) (q2 : Int64) (p3 : Int32)  (h0 : Heap) (n0 : Nat) (Z0 : n0 ≤ h0.size)  :
    MetFree l x (head1 (Jvm.Cond.code x code maxLocals ret :: ws) room_1) (fun a U => a = #[(.long q1), (.long q2), (.int p3)] ∧ Z.Warmed39 U.vm ∧ U.heap = h0) (fun _ _ _ _ _ => True) (fun _ U o U' => ∃ v L, o = .returned v ∧ Q0 Z q1 q2 p3 h0 n0 v U'.heap L ∧ FrameEnd U o U' L room_1.cells room_1.slots) := by
  refine MetFree.of_bodySF (plainFor_of_name pn_0) hisR ?_
  intro p e s m args below meth c s₁ Bd hml0 hP hK
  obtain ⟨rfl, hZ, hh⟩ := hP
  have hx := Bd.exec
  have hby := Bd.bytes
  have hml : c.maxLocals = 14 := hml0
  have hown : s.vm.findClass "com/example/crewmatch/crewmatch/MoneyMultiplyCappedPinLaw" = some m.cls := findClass_of_methodNamed Bd.named
  have hnm := (name_of_methodNamed Bd.named Bd.method).1
  have X0 : Stand p l e room_1 s m #[(.long q1), (.long q2), (.int p3)] below meth c s₁ [] 0 0 := Stand.of_body Bd
  have e0 : s₁.heap = h0 := by rw [← hh, Bd.state]; rfl
  have N0 := Fr.nil n0
  have pre0 : ∀ t, Steps p.tables e below (s₁.setTop (mkF m 0 #[.val (.long q1), .second, .val (.long q2), .second, .val (.int p3), .unset, .unset, .unset, .unset, .unset, .unset, .unset, .unset, .unset] [])) t → Steps p.tables e below (s₁.setTop (entryFrame m #[(.long q1), (.long q2), (.int p3)] maxLocals)) t := fun t k => castTop (ef_0 m q1 q2 p3) k
  have k12 : ∀ t, Steps p.tables e below (s₁.setTop (mkF m 14 #[.val (.long q1), .second, .val (.long q2), .second, .val (.int p3), .val (.long (q1 &&& (9223372036854775807 : Int64))), .second, .val (.long (q2 &&& (9223372036854775807 : Int64))), .second, .unset, .unset, .unset, .unset, .unset] [])) t → Steps p.tables e below (s₁.setTop (entryFrame m #[(.long q1), (.long q2), (.int p3)] maxLocals)) t := fun t k => pre0 t (by
      show Steps p.tables e below (s₁.setTop (mkF m 0 #[.val (.long q1), .second, .val (.long q2), .second, .val (.int p3), .unset, .unset, .unset, .unset, .unset, .unset, .unset, .unset, .unset] [])) _
      refine XS.lloadN X0.here hx rfl (hb hby at_0) rfl ?_
      show Steps p.tables e below (s₁.setTop (mkF m 1 #[.val (.long q1), .second, .val (.long q2), .second, .val (.int p3), .unset, .unset, .unset, .unset, .unset, .unset, .unset, .unset, .unset] [(.long q1)])) _
      refine X0.ldc2Long hx hown (mvT hZ (hw _ (List.mem_of_getElem? (i := 0) rfl))) (g := (mkF m 1 #[.val (.long q1), .second, .val (.long q2), .second, .val (.int p3), .unset, .unset, .unset, .unset, .unset, .unset, .unset, .unset, .unset] [(.long q1)])) rfl (hb hby at_1) _ ?_
      show Steps p.tables e below (s₁.setTop (mkF m 4 #[.val (.long q1), .second, .val (.long q2), .second, .val (.int p3), .unset, .unset, .unset, .unset, .unset, .unset, .unset, .unset, .unset] [(.long (9223372036854775807 : Int64)), (.long q1)])) _
      refine XS.land X0.here hx rfl (hb hby at_4) rfl ?_
      show Steps p.tables e below (s₁.setTop (mkF m 5 #[.val (.long q1), .second, .val (.long q2), .second, .val (.int p3), .unset, .unset, .unset, .unset, .unset, .unset, .unset, .unset, .unset] [(.long (q1 &&& (9223372036854775807 : Int64)))])) _
      refine XS.lstore X0.here hx rfl (hb hby at_5) rfl (l' := #[.val (.long q1), .second, .val (.long q2), .second, .val (.int p3), .val (.long (q1 &&& (9223372036854775807 : Int64))), .second, .unset, .unset, .unset, .unset, .unset, .unset, .unset]) rfl ?_
      show Steps p.tables e below (s₁.setTop (mkF m 7 #[.val (.long q1), .second, .val (.long q2), .second, .val (.int p3), .val (.long (q1 &&& (9223372036854775807 : Int64))), .second, .unset, .unset, .unset, .unset, .unset, .unset, .unset] [])) _
      refine XS.lloadN X0.here hx rfl (hb hby at_7) rfl ?_
      show Steps p.tables e below (s₁.setTop (mkF m 8 #[.val (.long q1), .second, .val (.long q2), .second, .val (.int p3), .val (.long (q1 &&& (9223372036854775807 : Int64))), .second, .unset, .unset, .unset, .unset, .unset, .unset, .unset] [(.long q2)])) _
      refine X0.ldc2Long hx hown (mvT hZ (hw _ (List.mem_of_getElem? (i := 0) rfl))) (g := (mkF m 8 #[.val (.long q1), .second, .val (.long q2), .second, .val (.int p3), .val (.long (q1 &&& (9223372036854775807 : Int64))), .second, .unset, .unset, .unset, .unset, .unset, .unset, .unset] [(.long q2)])) rfl (hb hby at_8) _ ?_
      show Steps p.tables e below (s₁.setTop (mkF m 11 #[.val (.long q1), .second, .val (.long q2), .second, .val (.int p3), .val (.long (q1 &&& (9223372036854775807 : Int64))), .second, .unset, .unset, .unset, .unset, .unset, .unset, .unset] [(.long (9223372036854775807 : Int64)), (.long q2)])) _
      refine XS.land X0.here hx rfl (hb hby at_11) rfl ?_
      show Steps p.tables e below (s₁.setTop (mkF m 12 #[.val (.long q1), .second, .val (.long q2), .second, .val (.int p3), .val (.long (q1 &&& (9223372036854775807 : Int64))), .second, .unset, .unset, .unset, .unset, .unset, .unset, .unset] [(.long (q2 &&& (9223372036854775807 : Int64)))])) _
      refine XS.lstore X0.here hx rfl (hb hby at_12) rfl (l' := #[.val (.long q1), .second, .val (.long q2), .second, .val (.int p3), .val (.long (q1 &&& (9223372036854775807 : Int64))), .second, .val (.long (q2 &&& (9223372036854775807 : Int64))), .second, .unset, .unset, .unset, .unset, .unset]) rfl ?_
      exact k)
  have ha : 0 ≤ (q1 &&& (9223372036854775807 : Int64)).toInt := own_mask _
  have hb1 : 0 ≤ (q2 &&& (9223372036854775807 : Int64)).toInt := own_mask _
  obtain ⟨a, ea⟩ : ∃ z, z = (q1 &&& (9223372036854775807 : Int64)) := ⟨_, rfl⟩
  rw [← ea] at k12
  obtain ⟨b0, eb⟩ : ∃ z, z = (q2 &&& (9223372036854775807 : Int64)) := ⟨_, rfl⟩
  rw [← eb] at k12
  rw [← ea] at ha
  rw [← eb] at hb1
  obtain ⟨b, s9, s10, s11, s12, hb2, h9, k13⟩ : ∃ (b : Int64) (s9 s10 s11 s12 : Slot), 0 ≤ b.toInt ∧ ((s9 = .unset ∧ s10 = .unset ∧ s11 = .unset ∧ s12 = .unset) ∨ (∃ x y : Int64, s9 = .val (.long x) ∧ s10 = .second ∧ s11 = .val (.long y) ∧ s12 = .second)) ∧ ∀ t, Steps p.tables e below (s₁.setTop (mkF m 79 #[.val (.long q1), .second, .val (.long q2), .second, .val (.int p3), .val (.long a), .second, .val (.long b), .second, s9, s10, s11, s12, .unset] [])) t → Steps p.tables e below (s₁.setTop (mkF m 14 #[.val (.long q1), .second, .val (.long q2), .second, .val (.int p3), .val (.long a), .second, .val (.long b0), .second, .unset, .unset, .unset, .unset, .unset] [])) t := by
    have kid : ∀ t, Steps p.tables e below (s₁.setTop (mkF m 14 #[.val (.long q1), .second, .val (.long q2), .second, .val (.int p3), .val (.long a), .second, .val (.long b0), .second, .unset, .unset, .unset, .unset, .unset] [])) t → Steps p.tables e below (s₁.setTop (mkF m 14 #[.val (.long q1), .second, .val (.long q2), .second, .val (.int p3), .val (.long a), .second, .val (.long b0), .second, .unset, .unset, .unset, .unset, .unset] [])) t := fun _ k => k
    have k14 : ∀ t, Steps p.tables e below (s₁.setTop (mkF m 18 #[.val (.long q1), .second, .val (.long q2), .second, .val (.int p3), .val (.long a), .second, .val (.long b0), .second, .unset, .unset, .unset, .unset, .unset] [(.int (p3 &&& (1 : Int32)))])) t → Steps p.tables e below (s₁.setTop (mkF m 14 #[.val (.long q1), .second, .val (.long q2), .second, .val (.int p3), .val (.long a), .second, .val (.long b0), .second, .unset, .unset, .unset, .unset, .unset] [])) t := fun t k => kid t (by
        show Steps p.tables e below (s₁.setTop (mkF m 14 #[.val (.long q1), .second, .val (.long q2), .second, .val (.int p3), .val (.long a), .second, .val (.long b0), .second, .unset, .unset, .unset, .unset, .unset] [])) _
        refine XS.iload X0.here hx rfl (hb hby at_14) rfl ?_
        show Steps p.tables e below (s₁.setTop (mkF m 16 #[.val (.long q1), .second, .val (.long q2), .second, .val (.int p3), .val (.long a), .second, .val (.long b0), .second, .unset, .unset, .unset, .unset, .unset] [(.int p3)])) _
        refine XS.iconst X0.here hx rfl (hb hby at_16) ?_
        show Steps p.tables e below (s₁.setTop (mkF m 17 #[.val (.long q1), .second, .val (.long q2), .second, .val (.int p3), .val (.long a), .second, .val (.long b0), .second, .unset, .unset, .unset, .unset, .unset] [(.int (1 : Int32)), (.int p3)])) _
        refine XS.iand X0.here hx rfl (hb hby at_17) rfl ?_
        exact k)
    by_cases hc15 : (p3 &&& (1 : Int32)) = (0 : Int32)
    · have k16 : ∀ t, Steps p.tables e below (s₁.setTop (mkF m 79 #[.val (.long q1), .second, .val (.long q2), .second, .val (.int p3), .val (.long a), .second, .val (.long b0), .second, .unset, .unset, .unset, .unset, .unset] [])) t → Steps p.tables e below (s₁.setTop (mkF m 14 #[.val (.long q1), .second, .val (.long q2), .second, .val (.int p3), .val (.long a), .second, .val (.long b0), .second, .unset, .unset, .unset, .unset, .unset] [])) t := fun t k => k14 t (by
          show Steps p.tables e below (s₁.setTop (mkF m 18 #[.val (.long q1), .second, .val (.long q2), .second, .val (.int p3), .val (.long a), .second, .val (.long b0), .second, .unset, .unset, .unset, .unset, .unset] [(.int (p3 &&& (1 : Int32)))])) _
          refine XS.ifYes X0.here hx rfl (pc0 := 18) (pc' := 79) rfl (hb hby at_18) rfl ((if0 _ _).trans (teq hc15).1) (by decide) (by decide) ?_
          exact k)
      exact ⟨b0, .unset, .unset, .unset, .unset, hb1, Or.inl ⟨rfl, rfl, rfl, rfl⟩, k16⟩
    · have k17 : ∀ t, Steps p.tables e below (s₁.setTop (mkF m 21 #[.val (.long q1), .second, .val (.long q2), .second, .val (.int p3), .val (.long a), .second, .val (.long b0), .second, .unset, .unset, .unset, .unset, .unset] [])) t → Steps p.tables e below (s₁.setTop (mkF m 14 #[.val (.long q1), .second, .val (.long q2), .second, .val (.int p3), .val (.long a), .second, .val (.long b0), .second, .unset, .unset, .unset, .unset, .unset] [])) t := fun t k => k14 t (by
          show Steps p.tables e below (s₁.setTop (mkF m 18 #[.val (.long q1), .second, .val (.long q2), .second, .val (.int p3), .val (.long a), .second, .val (.long b0), .second, .unset, .unset, .unset, .unset, .unset] [(.int (p3 &&& (1 : Int32)))])) _
          refine XS.ifNo X0.here hx rfl (hb hby at_18) rfl ((if0 _ _).trans (feq hc15).1) ?_
          exact k)
      have k18 : ∀ t, Steps p.tables e below (s₁.setTop (mkF m 25 #[.val (.long q1), .second, .val (.long q2), .second, .val (.int p3), .val (.long a), .second, .val (.long b0), .second, .unset, .unset, .unset, .unset, .unset] [(.int (lcmpW a (0 : Int64)))])) t → Steps p.tables e below (s₁.setTop (mkF m 14 #[.val (.long q1), .second, .val (.long q2), .second, .val (.int p3), .val (.long a), .second, .val (.long b0), .second, .unset, .unset, .unset, .unset, .unset] [])) t := fun t k => k17 t (by
          show Steps p.tables e below (s₁.setTop (mkF m 21 #[.val (.long q1), .second, .val (.long q2), .second, .val (.int p3), .val (.long a), .second, .val (.long b0), .second, .unset, .unset, .unset, .unset, .unset] [])) _
          refine XS.lload X0.here hx rfl (hb hby at_21) rfl ?_
          show Steps p.tables e below (s₁.setTop (mkF m 23 #[.val (.long q1), .second, .val (.long q2), .second, .val (.int p3), .val (.long a), .second, .val (.long b0), .second, .unset, .unset, .unset, .unset, .unset] [(.long a)])) _
          refine XS.lconst X0.here hx rfl (hb hby at_23) ?_
          show Steps p.tables e below (s₁.setTop (mkF m 24 #[.val (.long q1), .second, .val (.long q2), .second, .val (.int p3), .val (.long a), .second, .val (.long b0), .second, .unset, .unset, .unset, .unset, .unset] [(.long (0 : Int64)), (.long a)])) _
          refine XS.lcmp X0.here hx rfl (hb hby at_24) rfl ?_
          exact k)
      by_cases hc19 : a = (0 : Int64)
      · have k20 : ∀ t, Steps p.tables e below (s₁.setTop (mkF m 79 #[.val (.long q1), .second, .val (.long q2), .second, .val (.int p3), .val (.long a), .second, .val (.long b0), .second, .unset, .unset, .unset, .unset, .unset] [])) t → Steps p.tables e below (s₁.setTop (mkF m 14 #[.val (.long q1), .second, .val (.long q2), .second, .val (.int p3), .val (.long a), .second, .val (.long b0), .second, .unset, .unset, .unset, .unset, .unset] [])) t := fun t k => k18 t (by
            show Steps p.tables e below (s₁.setTop (mkF m 25 #[.val (.long q1), .second, .val (.long q2), .second, .val (.int p3), .val (.long a), .second, .val (.long b0), .second, .unset, .unset, .unset, .unset, .unset] [(.int (lcmpW a (0 : Int64)))])) _
            refine XS.ifYes X0.here hx rfl (pc0 := 25) (pc' := 79) rfl (hb hby at_25) rfl ((if0 _ _).trans (teq ((lw_eq _ _).mpr hc19)).1) (by decide) (by decide) ?_
            exact k)
        exact ⟨b0, .unset, .unset, .unset, .unset, hb1, Or.inl ⟨rfl, rfl, rfl, rfl⟩, k20⟩
      · have k21 : ∀ t, Steps p.tables e below (s₁.setTop (mkF m 28 #[.val (.long q1), .second, .val (.long q2), .second, .val (.int p3), .val (.long a), .second, .val (.long b0), .second, .unset, .unset, .unset, .unset, .unset] [])) t → Steps p.tables e below (s₁.setTop (mkF m 14 #[.val (.long q1), .second, .val (.long q2), .second, .val (.int p3), .val (.long a), .second, .val (.long b0), .second, .unset, .unset, .unset, .unset, .unset] [])) t := fun t k => k18 t (by
            show Steps p.tables e below (s₁.setTop (mkF m 25 #[.val (.long q1), .second, .val (.long q2), .second, .val (.int p3), .val (.long a), .second, .val (.long b0), .second, .unset, .unset, .unset, .unset, .unset] [(.int (lcmpW a (0 : Int64)))])) _
            refine XS.ifNo X0.here hx rfl (hb hby at_25) rfl ((if0 _ _).trans (feq (fun q => hc19 ((lw_eq _ _).mp q))).1) ?_
            exact k)
        have k22 : ∀ t, Steps p.tables e below (s₁.setTop (mkF m 51 #[.val (.long q1), .second, .val (.long q2), .second, .val (.int p3), .val (.long a), .second, .val (.long b0), .second, .val (.long ((9223372036854775807 : Int64) / a)), .second, .val (.long (((p3 >>> ((1 : Int32) &&& 31)) &&& (3 : Int32)).toInt64 - (1 : Int64))), .second, .unset] [(.int (lcmpW (((p3 >>> ((1 : Int32) &&& 31)) &&& (3 : Int32)).toInt64 - (1 : Int64)) (0 : Int64)))])) t → Steps p.tables e below (s₁.setTop (mkF m 14 #[.val (.long q1), .second, .val (.long q2), .second, .val (.int p3), .val (.long a), .second, .val (.long b0), .second, .unset, .unset, .unset, .unset, .unset] [])) t := fun t k => k21 t (by
            show Steps p.tables e below (s₁.setTop (mkF m 28 #[.val (.long q1), .second, .val (.long q2), .second, .val (.int p3), .val (.long a), .second, .val (.long b0), .second, .unset, .unset, .unset, .unset, .unset] [])) _
            refine X0.ldc2Long hx hown (mvT hZ (hw _ (List.mem_of_getElem? (i := 0) rfl))) (g := (mkF m 28 #[.val (.long q1), .second, .val (.long q2), .second, .val (.int p3), .val (.long a), .second, .val (.long b0), .second, .unset, .unset, .unset, .unset, .unset] [])) rfl (hb hby at_28) _ ?_
            show Steps p.tables e below (s₁.setTop (mkF m 31 #[.val (.long q1), .second, .val (.long q2), .second, .val (.int p3), .val (.long a), .second, .val (.long b0), .second, .unset, .unset, .unset, .unset, .unset] [(.long (9223372036854775807 : Int64))])) _
            refine XS.lload X0.here hx rfl (hb hby at_31) rfl ?_
            show Steps p.tables e below (s₁.setTop (mkF m 33 #[.val (.long q1), .second, .val (.long q2), .second, .val (.int p3), .val (.long a), .second, .val (.long b0), .second, .unset, .unset, .unset, .unset, .unset] [(.long a), (.long (9223372036854775807 : Int64))])) _
            refine XS.ldiv X0.here hx rfl (hb hby at_33) rfl hc19 ?_
            show Steps p.tables e below (s₁.setTop (mkF m 34 #[.val (.long q1), .second, .val (.long q2), .second, .val (.int p3), .val (.long a), .second, .val (.long b0), .second, .unset, .unset, .unset, .unset, .unset] [(.long ((9223372036854775807 : Int64) / a))])) _
            refine XS.lstore X0.here hx rfl (hb hby at_34) rfl (l' := #[.val (.long q1), .second, .val (.long q2), .second, .val (.int p3), .val (.long a), .second, .val (.long b0), .second, .val (.long ((9223372036854775807 : Int64) / a)), .second, .unset, .unset, .unset]) rfl ?_
            show Steps p.tables e below (s₁.setTop (mkF m 36 #[.val (.long q1), .second, .val (.long q2), .second, .val (.int p3), .val (.long a), .second, .val (.long b0), .second, .val (.long ((9223372036854775807 : Int64) / a)), .second, .unset, .unset, .unset] [])) _
            refine XS.iload X0.here hx rfl (hb hby at_36) rfl ?_
            show Steps p.tables e below (s₁.setTop (mkF m 38 #[.val (.long q1), .second, .val (.long q2), .second, .val (.int p3), .val (.long a), .second, .val (.long b0), .second, .val (.long ((9223372036854775807 : Int64) / a)), .second, .unset, .unset, .unset] [(.int p3)])) _
            refine XS.iconst X0.here hx rfl (hb hby at_38) ?_
            show Steps p.tables e below (s₁.setTop (mkF m 39 #[.val (.long q1), .second, .val (.long q2), .second, .val (.int p3), .val (.long a), .second, .val (.long b0), .second, .val (.long ((9223372036854775807 : Int64) / a)), .second, .unset, .unset, .unset] [(.int (1 : Int32)), (.int p3)])) _
            refine XS.ishr X0.here hx rfl (hb hby at_39) rfl ?_
            show Steps p.tables e below (s₁.setTop (mkF m 40 #[.val (.long q1), .second, .val (.long q2), .second, .val (.int p3), .val (.long a), .second, .val (.long b0), .second, .val (.long ((9223372036854775807 : Int64) / a)), .second, .unset, .unset, .unset] [(.int (p3 >>> ((1 : Int32) &&& 31)))])) _
            refine XS.iconst X0.here hx rfl (hb hby at_40) ?_
            show Steps p.tables e below (s₁.setTop (mkF m 41 #[.val (.long q1), .second, .val (.long q2), .second, .val (.int p3), .val (.long a), .second, .val (.long b0), .second, .val (.long ((9223372036854775807 : Int64) / a)), .second, .unset, .unset, .unset] [(.int (3 : Int32)), (.int (p3 >>> ((1 : Int32) &&& 31)))])) _
            refine XS.iand X0.here hx rfl (hb hby at_41) rfl ?_
            show Steps p.tables e below (s₁.setTop (mkF m 42 #[.val (.long q1), .second, .val (.long q2), .second, .val (.int p3), .val (.long a), .second, .val (.long b0), .second, .val (.long ((9223372036854775807 : Int64) / a)), .second, .unset, .unset, .unset] [(.int ((p3 >>> ((1 : Int32) &&& 31)) &&& (3 : Int32)))])) _
            refine XS.i2l X0.here hx rfl (hb hby at_42) rfl ?_
            show Steps p.tables e below (s₁.setTop (mkF m 43 #[.val (.long q1), .second, .val (.long q2), .second, .val (.int p3), .val (.long a), .second, .val (.long b0), .second, .val (.long ((9223372036854775807 : Int64) / a)), .second, .unset, .unset, .unset] [(.long ((p3 >>> ((1 : Int32) &&& 31)) &&& (3 : Int32)).toInt64)])) _
            refine XS.lconst X0.here hx rfl (hb hby at_43) ?_
            show Steps p.tables e below (s₁.setTop (mkF m 44 #[.val (.long q1), .second, .val (.long q2), .second, .val (.int p3), .val (.long a), .second, .val (.long b0), .second, .val (.long ((9223372036854775807 : Int64) / a)), .second, .unset, .unset, .unset] [(.long (1 : Int64)), (.long ((p3 >>> ((1 : Int32) &&& 31)) &&& (3 : Int32)).toInt64)])) _
            refine XS.lsub X0.here hx rfl (hb hby at_44) rfl ?_
            show Steps p.tables e below (s₁.setTop (mkF m 45 #[.val (.long q1), .second, .val (.long q2), .second, .val (.int p3), .val (.long a), .second, .val (.long b0), .second, .val (.long ((9223372036854775807 : Int64) / a)), .second, .unset, .unset, .unset] [(.long (((p3 >>> ((1 : Int32) &&& 31)) &&& (3 : Int32)).toInt64 - (1 : Int64)))])) _
            refine XS.lstore X0.here hx rfl (hb hby at_45) rfl (l' := #[.val (.long q1), .second, .val (.long q2), .second, .val (.int p3), .val (.long a), .second, .val (.long b0), .second, .val (.long ((9223372036854775807 : Int64) / a)), .second, .val (.long (((p3 >>> ((1 : Int32) &&& 31)) &&& (3 : Int32)).toInt64 - (1 : Int64))), .second, .unset]) rfl ?_
            show Steps p.tables e below (s₁.setTop (mkF m 47 #[.val (.long q1), .second, .val (.long q2), .second, .val (.int p3), .val (.long a), .second, .val (.long b0), .second, .val (.long ((9223372036854775807 : Int64) / a)), .second, .val (.long (((p3 >>> ((1 : Int32) &&& 31)) &&& (3 : Int32)).toInt64 - (1 : Int64))), .second, .unset] [])) _
            refine XS.lload X0.here hx rfl (hb hby at_47) rfl ?_
            show Steps p.tables e below (s₁.setTop (mkF m 49 #[.val (.long q1), .second, .val (.long q2), .second, .val (.int p3), .val (.long a), .second, .val (.long b0), .second, .val (.long ((9223372036854775807 : Int64) / a)), .second, .val (.long (((p3 >>> ((1 : Int32) &&& 31)) &&& (3 : Int32)).toInt64 - (1 : Int64))), .second, .unset] [(.long (((p3 >>> ((1 : Int32) &&& 31)) &&& (3 : Int32)).toInt64 - (1 : Int64)))])) _
            refine XS.lconst X0.here hx rfl (hb hby at_49) ?_
            show Steps p.tables e below (s₁.setTop (mkF m 50 #[.val (.long q1), .second, .val (.long q2), .second, .val (.int p3), .val (.long a), .second, .val (.long b0), .second, .val (.long ((9223372036854775807 : Int64) / a)), .second, .val (.long (((p3 >>> ((1 : Int32) &&& 31)) &&& (3 : Int32)).toInt64 - (1 : Int64))), .second, .unset] [(.long (0 : Int64)), (.long (((p3 >>> ((1 : Int32) &&& 31)) &&& (3 : Int32)).toInt64 - (1 : Int64)))])) _
            refine XS.lcmp X0.here hx rfl (hb hby at_50) rfl ?_
            exact k)
        by_cases hc23 : (0 : Int64) < (((p3 >>> ((1 : Int32) &&& 31)) &&& (3 : Int32)).toInt64 - (1 : Int64))
        · have k24 : ∀ t, Steps p.tables e below (s₁.setTop (mkF m 54 #[.val (.long q1), .second, .val (.long q2), .second, .val (.int p3), .val (.long a), .second, .val (.long b0), .second, .val (.long ((9223372036854775807 : Int64) / a)), .second, .val (.long (((p3 >>> ((1 : Int32) &&& 31)) &&& (3 : Int32)).toInt64 - (1 : Int64))), .second, .unset] [])) t → Steps p.tables e below (s₁.setTop (mkF m 14 #[.val (.long q1), .second, .val (.long q2), .second, .val (.int p3), .val (.long a), .second, .val (.long b0), .second, .unset, .unset, .unset, .unset, .unset] [])) t := fun t k => k22 t (by
              show Steps p.tables e below (s₁.setTop (mkF m 51 #[.val (.long q1), .second, .val (.long q2), .second, .val (.int p3), .val (.long a), .second, .val (.long b0), .second, .val (.long ((9223372036854775807 : Int64) / a)), .second, .val (.long (((p3 >>> ((1 : Int32) &&& 31)) &&& (3 : Int32)).toInt64 - (1 : Int64))), .second, .unset] [(.int (lcmpW (((p3 >>> ((1 : Int32) &&& 31)) &&& (3 : Int32)).toInt64 - (1 : Int64)) (0 : Int64)))])) _
              refine XS.ifNo X0.here hx rfl (hb hby at_51) rfl ((if0 _ _).trans (tlt ((lw_gt _ _).mpr hc23)).2.2.2) ?_
              exact k)
          have k25 : ∀ t, Steps p.tables e below (s₁.setTop (mkF m 63 #[.val (.long q1), .second, .val (.long q2), .second, .val (.int p3), .val (.long a), .second, .val (.long b0), .second, .val (.long ((9223372036854775807 : Int64) / a)), .second, .val (.long (((p3 >>> ((1 : Int32) &&& 31)) &&& (3 : Int32)).toInt64 - (1 : Int64))), .second, .unset] [(.int (lcmpW ((9223372036854775807 : Int64) / a) ((9223372036854775807 : Int64) - (((p3 >>> ((1 : Int32) &&& 31)) &&& (3 : Int32)).toInt64 - (1 : Int64)))))])) t → Steps p.tables e below (s₁.setTop (mkF m 14 #[.val (.long q1), .second, .val (.long q2), .second, .val (.int p3), .val (.long a), .second, .val (.long b0), .second, .unset, .unset, .unset, .unset, .unset] [])) t := fun t k => k24 t (by
              show Steps p.tables e below (s₁.setTop (mkF m 54 #[.val (.long q1), .second, .val (.long q2), .second, .val (.int p3), .val (.long a), .second, .val (.long b0), .second, .val (.long ((9223372036854775807 : Int64) / a)), .second, .val (.long (((p3 >>> ((1 : Int32) &&& 31)) &&& (3 : Int32)).toInt64 - (1 : Int64))), .second, .unset] [])) _
              refine XS.lload X0.here hx rfl (hb hby at_54) rfl ?_
              show Steps p.tables e below (s₁.setTop (mkF m 56 #[.val (.long q1), .second, .val (.long q2), .second, .val (.int p3), .val (.long a), .second, .val (.long b0), .second, .val (.long ((9223372036854775807 : Int64) / a)), .second, .val (.long (((p3 >>> ((1 : Int32) &&& 31)) &&& (3 : Int32)).toInt64 - (1 : Int64))), .second, .unset] [(.long ((9223372036854775807 : Int64) / a))])) _
              refine X0.ldc2Long hx hown (mvT hZ (hw _ (List.mem_of_getElem? (i := 0) rfl))) (g := (mkF m 56 #[.val (.long q1), .second, .val (.long q2), .second, .val (.int p3), .val (.long a), .second, .val (.long b0), .second, .val (.long ((9223372036854775807 : Int64) / a)), .second, .val (.long (((p3 >>> ((1 : Int32) &&& 31)) &&& (3 : Int32)).toInt64 - (1 : Int64))), .second, .unset] [(.long ((9223372036854775807 : Int64) / a))])) rfl (hb hby at_56) _ ?_
              show Steps p.tables e below (s₁.setTop (mkF m 59 #[.val (.long q1), .second, .val (.long q2), .second, .val (.int p3), .val (.long a), .second, .val (.long b0), .second, .val (.long ((9223372036854775807 : Int64) / a)), .second, .val (.long (((p3 >>> ((1 : Int32) &&& 31)) &&& (3 : Int32)).toInt64 - (1 : Int64))), .second, .unset] [(.long (9223372036854775807 : Int64)), (.long ((9223372036854775807 : Int64) / a))])) _
              refine XS.lload X0.here hx rfl (hb hby at_59) rfl ?_
              show Steps p.tables e below (s₁.setTop (mkF m 61 #[.val (.long q1), .second, .val (.long q2), .second, .val (.int p3), .val (.long a), .second, .val (.long b0), .second, .val (.long ((9223372036854775807 : Int64) / a)), .second, .val (.long (((p3 >>> ((1 : Int32) &&& 31)) &&& (3 : Int32)).toInt64 - (1 : Int64))), .second, .unset] [(.long (((p3 >>> ((1 : Int32) &&& 31)) &&& (3 : Int32)).toInt64 - (1 : Int64))), (.long (9223372036854775807 : Int64)), (.long ((9223372036854775807 : Int64) / a))])) _
              refine XS.lsub X0.here hx rfl (hb hby at_61) rfl ?_
              show Steps p.tables e below (s₁.setTop (mkF m 62 #[.val (.long q1), .second, .val (.long q2), .second, .val (.int p3), .val (.long a), .second, .val (.long b0), .second, .val (.long ((9223372036854775807 : Int64) / a)), .second, .val (.long (((p3 >>> ((1 : Int32) &&& 31)) &&& (3 : Int32)).toInt64 - (1 : Int64))), .second, .unset] [(.long ((9223372036854775807 : Int64) - (((p3 >>> ((1 : Int32) &&& 31)) &&& (3 : Int32)).toInt64 - (1 : Int64)))), (.long ((9223372036854775807 : Int64) / a))])) _
              refine XS.lcmp X0.here hx rfl (hb hby at_62) rfl ?_
              exact k)
          by_cases hc26 : ((9223372036854775807 : Int64) - (((p3 >>> ((1 : Int32) &&& 31)) &&& (3 : Int32)).toInt64 - (1 : Int64))) < ((9223372036854775807 : Int64) / a)
          · have k27 : ∀ t, Steps p.tables e below (s₁.setTop (mkF m 66 #[.val (.long q1), .second, .val (.long q2), .second, .val (.int p3), .val (.long a), .second, .val (.long b0), .second, .val (.long ((9223372036854775807 : Int64) / a)), .second, .val (.long (((p3 >>> ((1 : Int32) &&& 31)) &&& (3 : Int32)).toInt64 - (1 : Int64))), .second, .unset] [])) t → Steps p.tables e below (s₁.setTop (mkF m 14 #[.val (.long q1), .second, .val (.long q2), .second, .val (.int p3), .val (.long a), .second, .val (.long b0), .second, .unset, .unset, .unset, .unset, .unset] [])) t := fun t k => k25 t (by
                show Steps p.tables e below (s₁.setTop (mkF m 63 #[.val (.long q1), .second, .val (.long q2), .second, .val (.int p3), .val (.long a), .second, .val (.long b0), .second, .val (.long ((9223372036854775807 : Int64) / a)), .second, .val (.long (((p3 >>> ((1 : Int32) &&& 31)) &&& (3 : Int32)).toInt64 - (1 : Int64))), .second, .unset] [(.int (lcmpW ((9223372036854775807 : Int64) / a) ((9223372036854775807 : Int64) - (((p3 >>> ((1 : Int32) &&& 31)) &&& (3 : Int32)).toInt64 - (1 : Int64)))))])) _
                refine XS.ifNo X0.here hx rfl (hb hby at_63) rfl ((if0 _ _).trans (tlt ((lw_gt _ _).mpr hc26)).2.2.2) ?_
                exact k)
            have k28 : ∀ t, Steps p.tables e below (s₁.setTop (mkF m 79 #[.val (.long q1), .second, .val (.long q2), .second, .val (.int p3), .val (.long a), .second, .val (.long (9223372036854775807 : Int64)), .second, .val (.long ((9223372036854775807 : Int64) / a)), .second, .val (.long (((p3 >>> ((1 : Int32) &&& 31)) &&& (3 : Int32)).toInt64 - (1 : Int64))), .second, .unset] [])) t → Steps p.tables e below (s₁.setTop (mkF m 14 #[.val (.long q1), .second, .val (.long q2), .second, .val (.int p3), .val (.long a), .second, .val (.long b0), .second, .unset, .unset, .unset, .unset, .unset] [])) t := fun t k => k27 t (by
                show Steps p.tables e below (s₁.setTop (mkF m 66 #[.val (.long q1), .second, .val (.long q2), .second, .val (.int p3), .val (.long a), .second, .val (.long b0), .second, .val (.long ((9223372036854775807 : Int64) / a)), .second, .val (.long (((p3 >>> ((1 : Int32) &&& 31)) &&& (3 : Int32)).toInt64 - (1 : Int64))), .second, .unset] [])) _
                refine X0.ldc2Long hx hown (mvT hZ (hw _ (List.mem_of_getElem? (i := 0) rfl))) (g := (mkF m 66 #[.val (.long q1), .second, .val (.long q2), .second, .val (.int p3), .val (.long a), .second, .val (.long b0), .second, .val (.long ((9223372036854775807 : Int64) / a)), .second, .val (.long (((p3 >>> ((1 : Int32) &&& 31)) &&& (3 : Int32)).toInt64 - (1 : Int64))), .second, .unset] [])) rfl (hb hby at_66) _ ?_
                show Steps p.tables e below (s₁.setTop (mkF m 69 #[.val (.long q1), .second, .val (.long q2), .second, .val (.int p3), .val (.long a), .second, .val (.long b0), .second, .val (.long ((9223372036854775807 : Int64) / a)), .second, .val (.long (((p3 >>> ((1 : Int32) &&& 31)) &&& (3 : Int32)).toInt64 - (1 : Int64))), .second, .unset] [(.long (9223372036854775807 : Int64))])) _
                refine XS.goto X0.here hx rfl (pc0 := 69) (pc' := 77) rfl (hb hby at_69) (by decide) (by decide) ?_
                show Steps p.tables e below (s₁.setTop (mkF m 77 #[.val (.long q1), .second, .val (.long q2), .second, .val (.int p3), .val (.long a), .second, .val (.long b0), .second, .val (.long ((9223372036854775807 : Int64) / a)), .second, .val (.long (((p3 >>> ((1 : Int32) &&& 31)) &&& (3 : Int32)).toInt64 - (1 : Int64))), .second, .unset] [(.long (9223372036854775807 : Int64))])) _
                refine XS.lstore X0.here hx rfl (hb hby at_77) rfl (l' := #[.val (.long q1), .second, .val (.long q2), .second, .val (.int p3), .val (.long a), .second, .val (.long (9223372036854775807 : Int64)), .second, .val (.long ((9223372036854775807 : Int64) / a)), .second, .val (.long (((p3 >>> ((1 : Int32) &&& 31)) &&& (3 : Int32)).toInt64 - (1 : Int64))), .second, .unset]) rfl ?_
                exact k)
            have a1 := own_ne ha hc19
            have hd := own_dd p3
            have hd2 := c_lsub ((p3 >>> ((1 : Int32) &&& 31)) &&& (3 : Int32)).toInt64 (1 : Int64)
            have hd3 := rng64 (((p3 >>> ((1 : Int32) &&& 31)) &&& (3 : Int32)).toInt64 - (1 : Int64))
            rw [show (1 : Int64).toInt = 1 from by decide] at hd2
            exact ⟨_, _, _, _, _, (by decide), Or.inr ⟨_, _, rfl, rfl, rfl, rfl⟩, k28⟩
          · have k29 : ∀ t, Steps p.tables e below (s₁.setTop (mkF m 72 #[.val (.long q1), .second, .val (.long q2), .second, .val (.int p3), .val (.long a), .second, .val (.long b0), .second, .val (.long ((9223372036854775807 : Int64) / a)), .second, .val (.long (((p3 >>> ((1 : Int32) &&& 31)) &&& (3 : Int32)).toInt64 - (1 : Int64))), .second, .unset] [])) t → Steps p.tables e below (s₁.setTop (mkF m 14 #[.val (.long q1), .second, .val (.long q2), .second, .val (.int p3), .val (.long a), .second, .val (.long b0), .second, .unset, .unset, .unset, .unset, .unset] [])) t := fun t k => k25 t (by
                show Steps p.tables e below (s₁.setTop (mkF m 63 #[.val (.long q1), .second, .val (.long q2), .second, .val (.int p3), .val (.long a), .second, .val (.long b0), .second, .val (.long ((9223372036854775807 : Int64) / a)), .second, .val (.long (((p3 >>> ((1 : Int32) &&& 31)) &&& (3 : Int32)).toInt64 - (1 : Int64))), .second, .unset] [(.int (lcmpW ((9223372036854775807 : Int64) / a) ((9223372036854775807 : Int64) - (((p3 >>> ((1 : Int32) &&& 31)) &&& (3 : Int32)).toInt64 - (1 : Int64)))))])) _
                refine XS.ifYes X0.here hx rfl (pc0 := 63) (pc' := 72) rfl (hb hby at_63) rfl ((if0 _ _).trans (flt (fun q => hc26 ((lw_gt _ _).mp q))).2.2.2) (by decide) (by decide) ?_
                exact k)
            have k30 : ∀ t, Steps p.tables e below (s₁.setTop (mkF m 79 #[.val (.long q1), .second, .val (.long q2), .second, .val (.int p3), .val (.long a), .second, .val (.long (((9223372036854775807 : Int64) / a) + (((p3 >>> ((1 : Int32) &&& 31)) &&& (3 : Int32)).toInt64 - (1 : Int64)))), .second, .val (.long ((9223372036854775807 : Int64) / a)), .second, .val (.long (((p3 >>> ((1 : Int32) &&& 31)) &&& (3 : Int32)).toInt64 - (1 : Int64))), .second, .unset] [])) t → Steps p.tables e below (s₁.setTop (mkF m 14 #[.val (.long q1), .second, .val (.long q2), .second, .val (.int p3), .val (.long a), .second, .val (.long b0), .second, .unset, .unset, .unset, .unset, .unset] [])) t := fun t k => k29 t (by
                show Steps p.tables e below (s₁.setTop (mkF m 72 #[.val (.long q1), .second, .val (.long q2), .second, .val (.int p3), .val (.long a), .second, .val (.long b0), .second, .val (.long ((9223372036854775807 : Int64) / a)), .second, .val (.long (((p3 >>> ((1 : Int32) &&& 31)) &&& (3 : Int32)).toInt64 - (1 : Int64))), .second, .unset] [])) _
                refine XS.lload X0.here hx rfl (hb hby at_72) rfl ?_
                show Steps p.tables e below (s₁.setTop (mkF m 74 #[.val (.long q1), .second, .val (.long q2), .second, .val (.int p3), .val (.long a), .second, .val (.long b0), .second, .val (.long ((9223372036854775807 : Int64) / a)), .second, .val (.long (((p3 >>> ((1 : Int32) &&& 31)) &&& (3 : Int32)).toInt64 - (1 : Int64))), .second, .unset] [(.long ((9223372036854775807 : Int64) / a))])) _
                refine XS.lload X0.here hx rfl (hb hby at_74) rfl ?_
                show Steps p.tables e below (s₁.setTop (mkF m 76 #[.val (.long q1), .second, .val (.long q2), .second, .val (.int p3), .val (.long a), .second, .val (.long b0), .second, .val (.long ((9223372036854775807 : Int64) / a)), .second, .val (.long (((p3 >>> ((1 : Int32) &&& 31)) &&& (3 : Int32)).toInt64 - (1 : Int64))), .second, .unset] [(.long (((p3 >>> ((1 : Int32) &&& 31)) &&& (3 : Int32)).toInt64 - (1 : Int64))), (.long ((9223372036854775807 : Int64) / a))])) _
                refine XS.ladd X0.here hx rfl (hb hby at_76) rfl ?_
                show Steps p.tables e below (s₁.setTop (mkF m 77 #[.val (.long q1), .second, .val (.long q2), .second, .val (.int p3), .val (.long a), .second, .val (.long b0), .second, .val (.long ((9223372036854775807 : Int64) / a)), .second, .val (.long (((p3 >>> ((1 : Int32) &&& 31)) &&& (3 : Int32)).toInt64 - (1 : Int64))), .second, .unset] [(.long (((9223372036854775807 : Int64) / a) + (((p3 >>> ((1 : Int32) &&& 31)) &&& (3 : Int32)).toInt64 - (1 : Int64))))])) _
                refine XS.lstore X0.here hx rfl (hb hby at_77) rfl (l' := #[.val (.long q1), .second, .val (.long q2), .second, .val (.int p3), .val (.long a), .second, .val (.long (((9223372036854775807 : Int64) / a) + (((p3 >>> ((1 : Int32) &&& 31)) &&& (3 : Int32)).toInt64 - (1 : Int64)))), .second, .val (.long ((9223372036854775807 : Int64) / a)), .second, .val (.long (((p3 >>> ((1 : Int32) &&& 31)) &&& (3 : Int32)).toInt64 - (1 : Int64))), .second, .unset]) rfl ?_
                exact k)
            have a1 := own_ne ha hc19
            have hd := own_dd p3
            have hd2 := c_lsub ((p3 >>> ((1 : Int32) &&& 31)) &&& (3 : Int32)).toInt64 (1 : Int64)
            have hd3 := rng64 (((p3 >>> ((1 : Int32) &&& 31)) &&& (3 : Int32)).toInt64 - (1 : Int64))
            rw [show (1 : Int64).toInt = 1 from by decide] at hd2
            exact ⟨_, _, _, _, _, (own_bb a1 ⟨by omega, by omega⟩ (fun q => hc26 q.2)), Or.inr ⟨_, _, rfl, rfl, rfl, rfl⟩, k30⟩
        · have k31 : ∀ t, Steps p.tables e below (s₁.setTop (mkF m 72 #[.val (.long q1), .second, .val (.long q2), .second, .val (.int p3), .val (.long a), .second, .val (.long b0), .second, .val (.long ((9223372036854775807 : Int64) / a)), .second, .val (.long (((p3 >>> ((1 : Int32) &&& 31)) &&& (3 : Int32)).toInt64 - (1 : Int64))), .second, .unset] [])) t → Steps p.tables e below (s₁.setTop (mkF m 14 #[.val (.long q1), .second, .val (.long q2), .second, .val (.int p3), .val (.long a), .second, .val (.long b0), .second, .unset, .unset, .unset, .unset, .unset] [])) t := fun t k => k22 t (by
              show Steps p.tables e below (s₁.setTop (mkF m 51 #[.val (.long q1), .second, .val (.long q2), .second, .val (.int p3), .val (.long a), .second, .val (.long b0), .second, .val (.long ((9223372036854775807 : Int64) / a)), .second, .val (.long (((p3 >>> ((1 : Int32) &&& 31)) &&& (3 : Int32)).toInt64 - (1 : Int64))), .second, .unset] [(.int (lcmpW (((p3 >>> ((1 : Int32) &&& 31)) &&& (3 : Int32)).toInt64 - (1 : Int64)) (0 : Int64)))])) _
              refine XS.ifYes X0.here hx rfl (pc0 := 51) (pc' := 72) rfl (hb hby at_51) rfl ((if0 _ _).trans (flt (fun q => hc23 ((lw_gt _ _).mp q))).2.2.2) (by decide) (by decide) ?_
              exact k)
          have k32 : ∀ t, Steps p.tables e below (s₁.setTop (mkF m 79 #[.val (.long q1), .second, .val (.long q2), .second, .val (.int p3), .val (.long a), .second, .val (.long (((9223372036854775807 : Int64) / a) + (((p3 >>> ((1 : Int32) &&& 31)) &&& (3 : Int32)).toInt64 - (1 : Int64)))), .second, .val (.long ((9223372036854775807 : Int64) / a)), .second, .val (.long (((p3 >>> ((1 : Int32) &&& 31)) &&& (3 : Int32)).toInt64 - (1 : Int64))), .second, .unset] [])) t → Steps p.tables e below (s₁.setTop (mkF m 14 #[.val (.long q1), .second, .val (.long q2), .second, .val (.int p3), .val (.long a), .second, .val (.long b0), .second, .unset, .unset, .unset, .unset, .unset] [])) t := fun t k => k31 t (by
              show Steps p.tables e below (s₁.setTop (mkF m 72 #[.val (.long q1), .second, .val (.long q2), .second, .val (.int p3), .val (.long a), .second, .val (.long b0), .second, .val (.long ((9223372036854775807 : Int64) / a)), .second, .val (.long (((p3 >>> ((1 : Int32) &&& 31)) &&& (3 : Int32)).toInt64 - (1 : Int64))), .second, .unset] [])) _
              refine XS.lload X0.here hx rfl (hb hby at_72) rfl ?_
              show Steps p.tables e below (s₁.setTop (mkF m 74 #[.val (.long q1), .second, .val (.long q2), .second, .val (.int p3), .val (.long a), .second, .val (.long b0), .second, .val (.long ((9223372036854775807 : Int64) / a)), .second, .val (.long (((p3 >>> ((1 : Int32) &&& 31)) &&& (3 : Int32)).toInt64 - (1 : Int64))), .second, .unset] [(.long ((9223372036854775807 : Int64) / a))])) _
              refine XS.lload X0.here hx rfl (hb hby at_74) rfl ?_
              show Steps p.tables e below (s₁.setTop (mkF m 76 #[.val (.long q1), .second, .val (.long q2), .second, .val (.int p3), .val (.long a), .second, .val (.long b0), .second, .val (.long ((9223372036854775807 : Int64) / a)), .second, .val (.long (((p3 >>> ((1 : Int32) &&& 31)) &&& (3 : Int32)).toInt64 - (1 : Int64))), .second, .unset] [(.long (((p3 >>> ((1 : Int32) &&& 31)) &&& (3 : Int32)).toInt64 - (1 : Int64))), (.long ((9223372036854775807 : Int64) / a))])) _
              refine XS.ladd X0.here hx rfl (hb hby at_76) rfl ?_
              show Steps p.tables e below (s₁.setTop (mkF m 77 #[.val (.long q1), .second, .val (.long q2), .second, .val (.int p3), .val (.long a), .second, .val (.long b0), .second, .val (.long ((9223372036854775807 : Int64) / a)), .second, .val (.long (((p3 >>> ((1 : Int32) &&& 31)) &&& (3 : Int32)).toInt64 - (1 : Int64))), .second, .unset] [(.long (((9223372036854775807 : Int64) / a) + (((p3 >>> ((1 : Int32) &&& 31)) &&& (3 : Int32)).toInt64 - (1 : Int64))))])) _
              refine XS.lstore X0.here hx rfl (hb hby at_77) rfl (l' := #[.val (.long q1), .second, .val (.long q2), .second, .val (.int p3), .val (.long a), .second, .val (.long (((9223372036854775807 : Int64) / a) + (((p3 >>> ((1 : Int32) &&& 31)) &&& (3 : Int32)).toInt64 - (1 : Int64)))), .second, .val (.long ((9223372036854775807 : Int64) / a)), .second, .val (.long (((p3 >>> ((1 : Int32) &&& 31)) &&& (3 : Int32)).toInt64 - (1 : Int64))), .second, .unset]) rfl ?_
              exact k)
          have a1 := own_ne ha hc19
          have hd := own_dd p3
          have hd2 := c_lsub ((p3 >>> ((1 : Int32) &&& 31)) &&& (3 : Int32)).toInt64 (1 : Int64)
          have hd3 := rng64 (((p3 >>> ((1 : Int32) &&& 31)) &&& (3 : Int32)).toInt64 - (1 : Int64))
          rw [show (1 : Int64).toInt = 1 from by decide] at hd2
          exact ⟨_, _, _, _, _, (own_bb a1 ⟨by omega, by omega⟩ (fun q => hc23 q.1)), Or.inr ⟨_, _, rfl, rfl, rfl, rfl⟩, k32⟩
  have k33 : ∀ t, Steps p.tables e below (s₁.setTop (mkF m 79 #[.val (.long q1), .second, .val (.long q2), .second, .val (.int p3), .val (.long a), .second, .val (.long b), .second, s9, s10, s11, s12, .unset] [])) t → Steps p.tables e below (s₁.setTop (entryFrame m #[(.long q1), (.long q2), (.int p3)] maxLocals)) t := fun t q => k12 t (k13 t q)
  rcases h9 with ⟨rfl, rfl, rfl, rfl⟩ | ⟨x9, x11, rfl, rfl, rfl, rfl⟩
  · have k34 : ∀ t, Steps p.tables e below (s₁.setTop (mkF m 90 #[.val (.long q1), .second, .val (.long q2), .second, .val (.int p3), .val (.long a), .second, .val (.long b), .second, .val (.long (a * b)), .second, .unset, .unset, .unset] [(.int (lcmpW a (0 : Int64)))])) t → Steps p.tables e below (s₁.setTop (entryFrame m #[(.long q1), (.long q2), (.int p3)] maxLocals)) t := fun t k => k33 t (by
        show Steps p.tables e below (s₁.setTop (mkF m 79 #[.val (.long q1), .second, .val (.long q2), .second, .val (.int p3), .val (.long a), .second, .val (.long b), .second, .unset, .unset, .unset, .unset, .unset] [])) _
        refine XS.lload X0.here hx rfl (hb hby at_79) rfl ?_
        show Steps p.tables e below (s₁.setTop (mkF m 81 #[.val (.long q1), .second, .val (.long q2), .second, .val (.int p3), .val (.long a), .second, .val (.long b), .second, .unset, .unset, .unset, .unset, .unset] [(.long a)])) _
        refine XS.lload X0.here hx rfl (hb hby at_81) rfl ?_
        show Steps p.tables e below (s₁.setTop (mkF m 83 #[.val (.long q1), .second, .val (.long q2), .second, .val (.int p3), .val (.long a), .second, .val (.long b), .second, .unset, .unset, .unset, .unset, .unset] [(.long b), (.long a)])) _
        refine XS.lmul X0.here hx rfl (hb hby at_83) rfl ?_
        show Steps p.tables e below (s₁.setTop (mkF m 84 #[.val (.long q1), .second, .val (.long q2), .second, .val (.int p3), .val (.long a), .second, .val (.long b), .second, .unset, .unset, .unset, .unset, .unset] [(.long (a * b))])) _
        refine XS.lstore X0.here hx rfl (hb hby at_84) rfl (l' := #[.val (.long q1), .second, .val (.long q2), .second, .val (.int p3), .val (.long a), .second, .val (.long b), .second, .val (.long (a * b)), .second, .unset, .unset, .unset]) rfl ?_
        show Steps p.tables e below (s₁.setTop (mkF m 86 #[.val (.long q1), .second, .val (.long q2), .second, .val (.int p3), .val (.long a), .second, .val (.long b), .second, .val (.long (a * b)), .second, .unset, .unset, .unset] [])) _
        refine XS.lload X0.here hx rfl (hb hby at_86) rfl ?_
        show Steps p.tables e below (s₁.setTop (mkF m 88 #[.val (.long q1), .second, .val (.long q2), .second, .val (.int p3), .val (.long a), .second, .val (.long b), .second, .val (.long (a * b)), .second, .unset, .unset, .unset] [(.long a)])) _
        refine XS.lconst X0.here hx rfl (hb hby at_88) ?_
        show Steps p.tables e below (s₁.setTop (mkF m 89 #[.val (.long q1), .second, .val (.long q2), .second, .val (.int p3), .val (.long a), .second, .val (.long b), .second, .val (.long (a * b)), .second, .unset, .unset, .unset] [(.long (0 : Int64)), (.long a)])) _
        refine XS.lcmp X0.here hx rfl (hb hby at_89) rfl ?_
        exact k)
    by_cases hc35 : a = (0 : Int64)
    · have k36 : ∀ t, Steps p.tables e below (s₁.setTop (mkF m 111 #[.val (.long q1), .second, .val (.long q2), .second, .val (.int p3), .val (.long a), .second, .val (.long b), .second, .val (.long (a * b)), .second, .unset, .unset, .unset] [])) t → Steps p.tables e below (s₁.setTop (entryFrame m #[(.long q1), (.long q2), (.int p3)] maxLocals)) t := fun t k => k34 t (by
          show Steps p.tables e below (s₁.setTop (mkF m 90 #[.val (.long q1), .second, .val (.long q2), .second, .val (.int p3), .val (.long a), .second, .val (.long b), .second, .val (.long (a * b)), .second, .unset, .unset, .unset] [(.int (lcmpW a (0 : Int64)))])) _
          refine XS.ifYes X0.here hx rfl (pc0 := 90) (pc' := 111) rfl (hb hby at_90) rfl ((if0 _ _).trans (teq ((lw_eq _ _).mpr hc35)).1) (by decide) (by decide) ?_
          exact k)
      have k37 : ∀ t, Steps p.tables e below (s₁.setTop (mkF m 118 #[.val (.long q1), .second, .val (.long q2), .second, .val (.int p3), .val (.long a), .second, .val (.long b), .second, .val (.long (a * b)), .second, .val (.int (1 : Int32)), .unset, .unset] [])) t → Steps p.tables e below (s₁.setTop (entryFrame m #[(.long q1), (.long q2), (.int p3)] maxLocals)) t := fun t k => k36 t (by
          show Steps p.tables e below (s₁.setTop (mkF m 111 #[.val (.long q1), .second, .val (.long q2), .second, .val (.int p3), .val (.long a), .second, .val (.long b), .second, .val (.long (a * b)), .second, .unset, .unset, .unset] [])) _
          refine XS.iconst X0.here hx rfl (hb hby at_111) ?_
          show Steps p.tables e below (s₁.setTop (mkF m 112 #[.val (.long q1), .second, .val (.long q2), .second, .val (.int p3), .val (.long a), .second, .val (.long b), .second, .val (.long (a * b)), .second, .unset, .unset, .unset] [(.int (1 : Int32))])) _
          refine XS.goto X0.here hx rfl (pc0 := 112) (pc' := 116) rfl (hb hby at_112) (by decide) (by decide) ?_
          show Steps p.tables e below (s₁.setTop (mkF m 116 #[.val (.long q1), .second, .val (.long q2), .second, .val (.int p3), .val (.long a), .second, .val (.long b), .second, .val (.long (a * b)), .second, .unset, .unset, .unset] [(.int (1 : Int32))])) _
          refine XS.istore X0.here hx rfl (hb hby at_116) rfl (l' := #[.val (.long q1), .second, .val (.long q2), .second, .val (.int p3), .val (.long a), .second, .val (.long b), .second, .val (.long (a * b)), .second, .val (.int (1 : Int32)), .unset, .unset]) rfl ?_
          exact k)
      have k38 : ∀ t, Steps p.tables e below (s₁.setTop (mkF m 120 #[.val (.long q1), .second, .val (.long q2), .second, .val (.int p3), .val (.long a), .second, .val (.long b), .second, .val (.long (a * b)), .second, .val (.int (1 : Int32)), .unset, .unset] [(.int (1 : Int32))])) t → Steps p.tables e below (s₁.setTop (entryFrame m #[(.long q1), (.long q2), (.int p3)] maxLocals)) t := fun t k => k37 t (by
          show Steps p.tables e below (s₁.setTop (mkF m 118 #[.val (.long q1), .second, .val (.long q2), .second, .val (.int p3), .val (.long a), .second, .val (.long b), .second, .val (.long (a * b)), .second, .val (.int (1 : Int32)), .unset, .unset] [])) _
          refine XS.iload X0.here hx rfl (hb hby at_118) rfl ?_
          exact k)
      have k39 : ∀ t, Steps p.tables e below (s₁.setTop (mkF m 123 #[.val (.long q1), .second, .val (.long q2), .second, .val (.int p3), .val (.long a), .second, .val (.long b), .second, .val (.long (a * b)), .second, .val (.int (1 : Int32)), .unset, .unset] [])) t → Steps p.tables e below (s₁.setTop (entryFrame m #[(.long q1), (.long q2), (.int p3)] maxLocals)) t := fun t k => k38 t (by
          show Steps p.tables e below (s₁.setTop (mkF m 120 #[.val (.long q1), .second, .val (.long q2), .second, .val (.int p3), .val (.long a), .second, .val (.long b), .second, .val (.long (a * b)), .second, .val (.int (1 : Int32)), .unset, .unset] [(.int (1 : Int32))])) _
          refine XS.ifNo X0.here hx rfl (hb hby at_120) rfl ((if0 _ _).trans (feq (by decide)).1) ?_
          exact k)
      have k40 : ∀ t, Steps p.tables e below (s₁.setTop (mkF m 137 #[.val (.long q1), .second, .val (.long q2), .second, .val (.int p3), .val (.long a), .second, .val (.long b), .second, .val (.long (a * b)), .second, .val (.int (1 : Int32)), .val (.long (a * b)), .second] [(.long b), (.long a)])) t → Steps p.tables e below (s₁.setTop (entryFrame m #[(.long q1), (.long q2), (.int p3)] maxLocals)) t := fun t k => k39 t (by
          show Steps p.tables e below (s₁.setTop (mkF m 123 #[.val (.long q1), .second, .val (.long q2), .second, .val (.int p3), .val (.long a), .second, .val (.long b), .second, .val (.long (a * b)), .second, .val (.int (1 : Int32)), .unset, .unset] [])) _
          refine XS.lload X0.here hx rfl (hb hby at_123) rfl ?_
          show Steps p.tables e below (s₁.setTop (mkF m 125 #[.val (.long q1), .second, .val (.long q2), .second, .val (.int p3), .val (.long a), .second, .val (.long b), .second, .val (.long (a * b)), .second, .val (.int (1 : Int32)), .unset, .unset] [(.long (a * b))])) _
          refine XS.goto X0.here hx rfl (pc0 := 125) (pc' := 131) rfl (hb hby at_125) (by decide) (by decide) ?_
          show Steps p.tables e below (s₁.setTop (mkF m 131 #[.val (.long q1), .second, .val (.long q2), .second, .val (.int p3), .val (.long a), .second, .val (.long b), .second, .val (.long (a * b)), .second, .val (.int (1 : Int32)), .unset, .unset] [(.long (a * b))])) _
          refine XS.lstore X0.here hx rfl (hb hby at_131) rfl (l' := #[.val (.long q1), .second, .val (.long q2), .second, .val (.int p3), .val (.long a), .second, .val (.long b), .second, .val (.long (a * b)), .second, .val (.int (1 : Int32)), .val (.long (a * b)), .second]) rfl ?_
          show Steps p.tables e below (s₁.setTop (mkF m 133 #[.val (.long q1), .second, .val (.long q2), .second, .val (.int p3), .val (.long a), .second, .val (.long b), .second, .val (.long (a * b)), .second, .val (.int (1 : Int32)), .val (.long (a * b)), .second] [])) _
          refine XS.lload X0.here hx rfl (hb hby at_133) rfl ?_
          show Steps p.tables e below (s₁.setTop (mkF m 135 #[.val (.long q1), .second, .val (.long q2), .second, .val (.int p3), .val (.long a), .second, .val (.long b), .second, .val (.long (a * b)), .second, .val (.int (1 : Int32)), .val (.long (a * b)), .second] [(.long a)])) _
          refine XS.lload X0.here hx rfl (hb hby at_135) rfl ?_
          exact k)
      obtain ⟨_, _, ⟨T41, L41, c41, n41⟩, -, X41, ⟨Lc41, hQ41, l41, y41, z41⟩, st41⟩ := Jvm.LawKit.callS X0 hx (y := (⟨"com/example/crewmatch/crewmatch/Money", "multiplyCapped", "(JJ)J"⟩ : MethodName)) hown (mvT hZ (hw _ (List.mem_of_getElem? (i := 1) rfl))) (mvT hZ (hw _ (List.mem_of_getElem? (i := 2) rfl))) (mvT hZ (hw _ (List.mem_of_getElem? (i := 3) rfl))) (mvT hZ (hw _ (List.mem_of_getElem? (i := 4) rfl))) (by decide) (backOf (W := 0) (rm1 l Z a0 hw [] a b h0 n0 Z0) hZ (hw _ (List.mem_of_getElem? (i := 4) rfl)) (hw _ (List.mem_of_getElem? (i := 3) rfl)) (by decide) (by decide)) (g := (mkF m 137 #[.val (.long q1), .second, .val (.long q2), .second, .val (.int p3), .val (.long a), .second, .val (.long b), .second, .val (.long (a * b)), .second, .val (.int (1 : Int32)), .val (.long (a * b)), .second] [(.long b), (.long a)])) rfl (by rw [hml]; rfl) (argsL := [(.long a), (.long b)]) (rest := []) (lenOf own_pd0 rfl) rfl (by show 2 * 0 + _ ≤ _; exact Nat.le_of_eq rfl) (hb hby at_137) (fun _ _ => ⟨rfl, e0, (by decide : 0 + 0 ≤ _), (by decide : 0 + 0 ≤ _)⟩)
      dsimp only [Pt.U, Pt.locs, Pt.cells, Pt.slots] at X41 l41 y41 z41 st41 hQ41
      subst l41 y41 z41
      obtain ⟨rfl, N41q, eh⟩ := hQ41
      have N41 := Fr.app N0 N41q
      have k42 : ∀ t, Steps p.tables e below (T41.setTop (mkF m 140 #[.val (.long q1), .second, .val (.long q2), .second, .val (.int p3), .val (.long a), .second, .val (.long b), .second, .val (.long (a * b)), .second, .val (.int (1 : Int32)), .val (.long (a * b)), .second] [(.long (own_r a b))])) t → Steps p.tables e below (s₁.setTop (entryFrame m #[(.long q1), (.long q2), (.int p3)] maxLocals)) t := fun t k => k40 t (st41 t k)
      have hv : own_r a b = (a * b) := own_zero hc35
      have k43 : ∀ t, Steps p.tables e below (T41.setTop (mkF m 151 #[.val (.long q1), .second, .val (.long q2), .second, .val (.int p3), .val (.long a), .second, .val (.long b), .second, .val (.long (a * b)), .second, .val (.int (1 : Int32)), .val (.long (a * b)), .second] [(.int (1 : Int32))])) t → Steps p.tables e below (s₁.setTop (entryFrame m #[(.long q1), (.long q2), (.int p3)] maxLocals)) t := fun t k => k42 t (by
          show Steps p.tables e below (T41.setTop (mkF m 140 #[.val (.long q1), .second, .val (.long q2), .second, .val (.int p3), .val (.long a), .second, .val (.long b), .second, .val (.long (a * b)), .second, .val (.int (1 : Int32)), .val (.long (a * b)), .second] [(.long (own_r a b))])) _
          refine XS.lload X41.here hx rfl (hb hby at_140) rfl ?_
          show Steps p.tables e below (T41.setTop (mkF m 142 #[.val (.long q1), .second, .val (.long q2), .second, .val (.int p3), .val (.long a), .second, .val (.long b), .second, .val (.long (a * b)), .second, .val (.int (1 : Int32)), .val (.long (a * b)), .second] [(.long (a * b)), (.long (own_r a b))])) _
          refine XS.lcmp X41.here hx rfl (hb hby at_142) rfl ?_
          show Steps p.tables e below (T41.setTop (mkF m 143 #[.val (.long q1), .second, .val (.long q2), .second, .val (.int p3), .val (.long a), .second, .val (.long b), .second, .val (.long (a * b)), .second, .val (.int (1 : Int32)), .val (.long (a * b)), .second] [(.int (lcmpW (own_r a b) (a * b)))])) _
          refine XS.ifNo X41.here hx rfl (hb hby at_143) rfl ((if0 _ _).trans (teq ((lw_eq _ _).mpr hv)).2) ?_
          show Steps p.tables e below (T41.setTop (mkF m 146 #[.val (.long q1), .second, .val (.long q2), .second, .val (.int p3), .val (.long a), .second, .val (.long b), .second, .val (.long (a * b)), .second, .val (.int (1 : Int32)), .val (.long (a * b)), .second] [])) _
          refine XS.iconst X41.here hx rfl (hb hby at_146) ?_
          show Steps p.tables e below (T41.setTop (mkF m 147 #[.val (.long q1), .second, .val (.long q2), .second, .val (.int p3), .val (.long a), .second, .val (.long b), .second, .val (.long (a * b)), .second, .val (.int (1 : Int32)), .val (.long (a * b)), .second] [(.int (1 : Int32))])) _
          refine XS.goto X41.here hx rfl (pc0 := 147) (pc' := 151) rfl (hb hby at_147) (by decide) (by decide) ?_
          exact k)
      obtain ⟨fs, hr, hrun, hended, hW, hsame⟩ := X41.leave (v := some (.int (1 : Int32))) (fun h => by rw [Bd.returns] at h; cases h)
      refine ⟨_, _, k43 _ ?_, hrun, hended, _, _, rfl, ?_, ⟨_, rfl⟩, hW, hsame.mono (by decide) (by decide)⟩
      · show Steps p.tables e below (T41.setTop (mkF m 151 #[.val (.long q1), .second, .val (.long q2), .second, .val (.int p3), .val (.long a), .second, .val (.long b), .second, .val (.long (a * b)), .second, .val (.int (1 : Int32)), .val (.long (a * b)), .second] [(.int (1 : Int32))])) _
        exact retN X41 hx (t := .boolean) Bd.returns (by simp) (hb hby at_151) hr
      · show Q0 Z q1 q2 p3 h0 n0 _ T41.heap _
        exact ⟨rfl, N41⟩
    · have k44 : ∀ t, Steps p.tables e below (s₁.setTop (mkF m 93 #[.val (.long q1), .second, .val (.long q2), .second, .val (.int p3), .val (.long a), .second, .val (.long b), .second, .val (.long (a * b)), .second, .unset, .unset, .unset] [])) t → Steps p.tables e below (s₁.setTop (entryFrame m #[(.long q1), (.long q2), (.int p3)] maxLocals)) t := fun t k => k34 t (by
          show Steps p.tables e below (s₁.setTop (mkF m 90 #[.val (.long q1), .second, .val (.long q2), .second, .val (.int p3), .val (.long a), .second, .val (.long b), .second, .val (.long (a * b)), .second, .unset, .unset, .unset] [(.int (lcmpW a (0 : Int64)))])) _
          refine XS.ifNo X0.here hx rfl (hb hby at_90) rfl ((if0 _ _).trans (feq (fun q => hc35 ((lw_eq _ _).mp q))).1) ?_
          exact k)
      have k45 : ∀ t, Steps p.tables e below (s₁.setTop (mkF m 97 #[.val (.long q1), .second, .val (.long q2), .second, .val (.int p3), .val (.long a), .second, .val (.long b), .second, .val (.long (a * b)), .second, .unset, .unset, .unset] [(.int (lcmpW (a * b) (0 : Int64)))])) t → Steps p.tables e below (s₁.setTop (entryFrame m #[(.long q1), (.long q2), (.int p3)] maxLocals)) t := fun t k => k44 t (by
          show Steps p.tables e below (s₁.setTop (mkF m 93 #[.val (.long q1), .second, .val (.long q2), .second, .val (.int p3), .val (.long a), .second, .val (.long b), .second, .val (.long (a * b)), .second, .unset, .unset, .unset] [])) _
          refine XS.lload X0.here hx rfl (hb hby at_93) rfl ?_
          show Steps p.tables e below (s₁.setTop (mkF m 95 #[.val (.long q1), .second, .val (.long q2), .second, .val (.int p3), .val (.long a), .second, .val (.long b), .second, .val (.long (a * b)), .second, .unset, .unset, .unset] [(.long (a * b))])) _
          refine XS.lconst X0.here hx rfl (hb hby at_95) ?_
          show Steps p.tables e below (s₁.setTop (mkF m 96 #[.val (.long q1), .second, .val (.long q2), .second, .val (.int p3), .val (.long a), .second, .val (.long b), .second, .val (.long (a * b)), .second, .unset, .unset, .unset] [(.long (0 : Int64)), (.long (a * b))])) _
          refine XS.lcmp X0.here hx rfl (hb hby at_96) rfl ?_
          exact k)
      by_cases hc46 : (a * b) < (0 : Int64)
      · have k47 : ∀ t, Steps p.tables e below (s₁.setTop (mkF m 115 #[.val (.long q1), .second, .val (.long q2), .second, .val (.int p3), .val (.long a), .second, .val (.long b), .second, .val (.long (a * b)), .second, .unset, .unset, .unset] [])) t → Steps p.tables e below (s₁.setTop (entryFrame m #[(.long q1), (.long q2), (.int p3)] maxLocals)) t := fun t k => k45 t (by
            show Steps p.tables e below (s₁.setTop (mkF m 97 #[.val (.long q1), .second, .val (.long q2), .second, .val (.int p3), .val (.long a), .second, .val (.long b), .second, .val (.long (a * b)), .second, .unset, .unset, .unset] [(.int (lcmpW (a * b) (0 : Int64)))])) _
            refine XS.ifYes X0.here hx rfl (pc0 := 97) (pc' := 115) rfl (hb hby at_97) rfl ((if0 _ _).trans (tlt ((lw_lt _ _).mpr hc46)).1) (by decide) (by decide) ?_
            exact k)
        have k48 : ∀ t, Steps p.tables e below (s₁.setTop (mkF m 118 #[.val (.long q1), .second, .val (.long q2), .second, .val (.int p3), .val (.long a), .second, .val (.long b), .second, .val (.long (a * b)), .second, .val (.int (0 : Int32)), .unset, .unset] [])) t → Steps p.tables e below (s₁.setTop (entryFrame m #[(.long q1), (.long q2), (.int p3)] maxLocals)) t := fun t k => k47 t (by
            show Steps p.tables e below (s₁.setTop (mkF m 115 #[.val (.long q1), .second, .val (.long q2), .second, .val (.int p3), .val (.long a), .second, .val (.long b), .second, .val (.long (a * b)), .second, .unset, .unset, .unset] [])) _
            refine XS.iconst X0.here hx rfl (hb hby at_115) ?_
            show Steps p.tables e below (s₁.setTop (mkF m 116 #[.val (.long q1), .second, .val (.long q2), .second, .val (.int p3), .val (.long a), .second, .val (.long b), .second, .val (.long (a * b)), .second, .unset, .unset, .unset] [(.int (0 : Int32))])) _
            refine XS.istore X0.here hx rfl (hb hby at_116) rfl (l' := #[.val (.long q1), .second, .val (.long q2), .second, .val (.int p3), .val (.long a), .second, .val (.long b), .second, .val (.long (a * b)), .second, .val (.int (0 : Int32)), .unset, .unset]) rfl ?_
            exact k)
        have k49 : ∀ t, Steps p.tables e below (s₁.setTop (mkF m 120 #[.val (.long q1), .second, .val (.long q2), .second, .val (.int p3), .val (.long a), .second, .val (.long b), .second, .val (.long (a * b)), .second, .val (.int (0 : Int32)), .unset, .unset] [(.int (0 : Int32))])) t → Steps p.tables e below (s₁.setTop (entryFrame m #[(.long q1), (.long q2), (.int p3)] maxLocals)) t := fun t k => k48 t (by
            show Steps p.tables e below (s₁.setTop (mkF m 118 #[.val (.long q1), .second, .val (.long q2), .second, .val (.int p3), .val (.long a), .second, .val (.long b), .second, .val (.long (a * b)), .second, .val (.int (0 : Int32)), .unset, .unset] [])) _
            refine XS.iload X0.here hx rfl (hb hby at_118) rfl ?_
            exact k)
        have k50 : ∀ t, Steps p.tables e below (s₁.setTop (mkF m 128 #[.val (.long q1), .second, .val (.long q2), .second, .val (.int p3), .val (.long a), .second, .val (.long b), .second, .val (.long (a * b)), .second, .val (.int (0 : Int32)), .unset, .unset] [])) t → Steps p.tables e below (s₁.setTop (entryFrame m #[(.long q1), (.long q2), (.int p3)] maxLocals)) t := fun t k => k49 t (by
            show Steps p.tables e below (s₁.setTop (mkF m 120 #[.val (.long q1), .second, .val (.long q2), .second, .val (.int p3), .val (.long a), .second, .val (.long b), .second, .val (.long (a * b)), .second, .val (.int (0 : Int32)), .unset, .unset] [(.int (0 : Int32))])) _
            refine XS.ifYes X0.here hx rfl (pc0 := 120) (pc' := 128) rfl (hb hby at_120) rfl ((if0 _ _).trans (teq (by decide)).1) (by decide) (by decide) ?_
            exact k)
        have k51 : ∀ t, Steps p.tables e below (s₁.setTop (mkF m 137 #[.val (.long q1), .second, .val (.long q2), .second, .val (.int p3), .val (.long a), .second, .val (.long b), .second, .val (.long (a * b)), .second, .val (.int (0 : Int32)), .val (.long (9223372036854775807 : Int64)), .second] [(.long b), (.long a)])) t → Steps p.tables e below (s₁.setTop (entryFrame m #[(.long q1), (.long q2), (.int p3)] maxLocals)) t := fun t k => k50 t (by
            show Steps p.tables e below (s₁.setTop (mkF m 128 #[.val (.long q1), .second, .val (.long q2), .second, .val (.int p3), .val (.long a), .second, .val (.long b), .second, .val (.long (a * b)), .second, .val (.int (0 : Int32)), .unset, .unset] [])) _
            refine X0.ldc2Long hx hown (mvT hZ (hw _ (List.mem_of_getElem? (i := 0) rfl))) (g := (mkF m 128 #[.val (.long q1), .second, .val (.long q2), .second, .val (.int p3), .val (.long a), .second, .val (.long b), .second, .val (.long (a * b)), .second, .val (.int (0 : Int32)), .unset, .unset] [])) rfl (hb hby at_128) _ ?_
            show Steps p.tables e below (s₁.setTop (mkF m 131 #[.val (.long q1), .second, .val (.long q2), .second, .val (.int p3), .val (.long a), .second, .val (.long b), .second, .val (.long (a * b)), .second, .val (.int (0 : Int32)), .unset, .unset] [(.long (9223372036854775807 : Int64))])) _
            refine XS.lstore X0.here hx rfl (hb hby at_131) rfl (l' := #[.val (.long q1), .second, .val (.long q2), .second, .val (.int p3), .val (.long a), .second, .val (.long b), .second, .val (.long (a * b)), .second, .val (.int (0 : Int32)), .val (.long (9223372036854775807 : Int64)), .second]) rfl ?_
            show Steps p.tables e below (s₁.setTop (mkF m 133 #[.val (.long q1), .second, .val (.long q2), .second, .val (.int p3), .val (.long a), .second, .val (.long b), .second, .val (.long (a * b)), .second, .val (.int (0 : Int32)), .val (.long (9223372036854775807 : Int64)), .second] [])) _
            refine XS.lload X0.here hx rfl (hb hby at_133) rfl ?_
            show Steps p.tables e below (s₁.setTop (mkF m 135 #[.val (.long q1), .second, .val (.long q2), .second, .val (.int p3), .val (.long a), .second, .val (.long b), .second, .val (.long (a * b)), .second, .val (.int (0 : Int32)), .val (.long (9223372036854775807 : Int64)), .second] [(.long a)])) _
            refine XS.lload X0.here hx rfl (hb hby at_135) rfl ?_
            exact k)
        obtain ⟨_, _, ⟨T52, L52, c52, n52⟩, -, X52, ⟨Lc52, hQ52, l52, y52, z52⟩, st52⟩ := Jvm.LawKit.callS X0 hx (y := (⟨"com/example/crewmatch/crewmatch/Money", "multiplyCapped", "(JJ)J"⟩ : MethodName)) hown (mvT hZ (hw _ (List.mem_of_getElem? (i := 1) rfl))) (mvT hZ (hw _ (List.mem_of_getElem? (i := 2) rfl))) (mvT hZ (hw _ (List.mem_of_getElem? (i := 3) rfl))) (mvT hZ (hw _ (List.mem_of_getElem? (i := 4) rfl))) (by decide) (backOf (W := 0) (rm1 l Z a0 hw [] a b h0 n0 Z0) hZ (hw _ (List.mem_of_getElem? (i := 4) rfl)) (hw _ (List.mem_of_getElem? (i := 3) rfl)) (by decide) (by decide)) (g := (mkF m 137 #[.val (.long q1), .second, .val (.long q2), .second, .val (.int p3), .val (.long a), .second, .val (.long b), .second, .val (.long (a * b)), .second, .val (.int (0 : Int32)), .val (.long (9223372036854775807 : Int64)), .second] [(.long b), (.long a)])) rfl (by rw [hml]; rfl) (argsL := [(.long a), (.long b)]) (rest := []) (lenOf own_pd0 rfl) rfl (by show 2 * 0 + _ ≤ _; exact Nat.le_of_eq rfl) (hb hby at_137) (fun _ _ => ⟨rfl, e0, (by decide : 0 + 0 ≤ _), (by decide : 0 + 0 ≤ _)⟩)
        dsimp only [Pt.U, Pt.locs, Pt.cells, Pt.slots] at X52 l52 y52 z52 st52 hQ52
        subst l52 y52 z52
        obtain ⟨rfl, N52q, eh⟩ := hQ52
        have N52 := Fr.app N0 N52q
        have k53 : ∀ t, Steps p.tables e below (T52.setTop (mkF m 140 #[.val (.long q1), .second, .val (.long q2), .second, .val (.int p3), .val (.long a), .second, .val (.long b), .second, .val (.long (a * b)), .second, .val (.int (0 : Int32)), .val (.long (9223372036854775807 : Int64)), .second] [(.long (own_r a b))])) t → Steps p.tables e below (s₁.setTop (entryFrame m #[(.long q1), (.long q2), (.int p3)] maxLocals)) t := fun t k => k51 t (st52 t k)
        have hv : own_r a b = (9223372036854775807 : Int64) := own_hi (own_ne ha hc35) hb2 (fun q => q.1 hc46)
        have k54 : ∀ t, Steps p.tables e below (T52.setTop (mkF m 151 #[.val (.long q1), .second, .val (.long q2), .second, .val (.int p3), .val (.long a), .second, .val (.long b), .second, .val (.long (a * b)), .second, .val (.int (0 : Int32)), .val (.long (9223372036854775807 : Int64)), .second] [(.int (1 : Int32))])) t → Steps p.tables e below (s₁.setTop (entryFrame m #[(.long q1), (.long q2), (.int p3)] maxLocals)) t := fun t k => k53 t (by
            show Steps p.tables e below (T52.setTop (mkF m 140 #[.val (.long q1), .second, .val (.long q2), .second, .val (.int p3), .val (.long a), .second, .val (.long b), .second, .val (.long (a * b)), .second, .val (.int (0 : Int32)), .val (.long (9223372036854775807 : Int64)), .second] [(.long (own_r a b))])) _
            refine XS.lload X52.here hx rfl (hb hby at_140) rfl ?_
            show Steps p.tables e below (T52.setTop (mkF m 142 #[.val (.long q1), .second, .val (.long q2), .second, .val (.int p3), .val (.long a), .second, .val (.long b), .second, .val (.long (a * b)), .second, .val (.int (0 : Int32)), .val (.long (9223372036854775807 : Int64)), .second] [(.long (9223372036854775807 : Int64)), (.long (own_r a b))])) _
            refine XS.lcmp X52.here hx rfl (hb hby at_142) rfl ?_
            show Steps p.tables e below (T52.setTop (mkF m 143 #[.val (.long q1), .second, .val (.long q2), .second, .val (.int p3), .val (.long a), .second, .val (.long b), .second, .val (.long (a * b)), .second, .val (.int (0 : Int32)), .val (.long (9223372036854775807 : Int64)), .second] [(.int (lcmpW (own_r a b) (9223372036854775807 : Int64)))])) _
            refine XS.ifNo X52.here hx rfl (hb hby at_143) rfl ((if0 _ _).trans (teq ((lw_eq _ _).mpr hv)).2) ?_
            show Steps p.tables e below (T52.setTop (mkF m 146 #[.val (.long q1), .second, .val (.long q2), .second, .val (.int p3), .val (.long a), .second, .val (.long b), .second, .val (.long (a * b)), .second, .val (.int (0 : Int32)), .val (.long (9223372036854775807 : Int64)), .second] [])) _
            refine XS.iconst X52.here hx rfl (hb hby at_146) ?_
            show Steps p.tables e below (T52.setTop (mkF m 147 #[.val (.long q1), .second, .val (.long q2), .second, .val (.int p3), .val (.long a), .second, .val (.long b), .second, .val (.long (a * b)), .second, .val (.int (0 : Int32)), .val (.long (9223372036854775807 : Int64)), .second] [(.int (1 : Int32))])) _
            refine XS.goto X52.here hx rfl (pc0 := 147) (pc' := 151) rfl (hb hby at_147) (by decide) (by decide) ?_
            exact k)
        obtain ⟨fs, hr, hrun, hended, hW, hsame⟩ := X52.leave (v := some (.int (1 : Int32))) (fun h => by rw [Bd.returns] at h; cases h)
        refine ⟨_, _, k54 _ ?_, hrun, hended, _, _, rfl, ?_, ⟨_, rfl⟩, hW, hsame.mono (by decide) (by decide)⟩
        · show Steps p.tables e below (T52.setTop (mkF m 151 #[.val (.long q1), .second, .val (.long q2), .second, .val (.int p3), .val (.long a), .second, .val (.long b), .second, .val (.long (a * b)), .second, .val (.int (0 : Int32)), .val (.long (9223372036854775807 : Int64)), .second] [(.int (1 : Int32))])) _
          exact retN X52 hx (t := .boolean) Bd.returns (by simp) (hb hby at_151) hr
        · show Q0 Z q1 q2 p3 h0 n0 _ T52.heap _
          exact ⟨rfl, N52⟩
      · have k55 : ∀ t, Steps p.tables e below (s₁.setTop (mkF m 100 #[.val (.long q1), .second, .val (.long q2), .second, .val (.int p3), .val (.long a), .second, .val (.long b), .second, .val (.long (a * b)), .second, .unset, .unset, .unset] [])) t → Steps p.tables e below (s₁.setTop (entryFrame m #[(.long q1), (.long q2), (.int p3)] maxLocals)) t := fun t k => k45 t (by
            show Steps p.tables e below (s₁.setTop (mkF m 97 #[.val (.long q1), .second, .val (.long q2), .second, .val (.int p3), .val (.long a), .second, .val (.long b), .second, .val (.long (a * b)), .second, .unset, .unset, .unset] [(.int (lcmpW (a * b) (0 : Int64)))])) _
            refine XS.ifNo X0.here hx rfl (hb hby at_97) rfl ((if0 _ _).trans (flt (fun q => hc46 ((lw_lt _ _).mp q))).1) ?_
            exact k)
        have k56 : ∀ t, Steps p.tables e below (s₁.setTop (mkF m 108 #[.val (.long q1), .second, .val (.long q2), .second, .val (.int p3), .val (.long a), .second, .val (.long b), .second, .val (.long (a * b)), .second, .unset, .unset, .unset] [(.int (lcmpW ((a * b) / a) b))])) t → Steps p.tables e below (s₁.setTop (entryFrame m #[(.long q1), (.long q2), (.int p3)] maxLocals)) t := fun t k => k55 t (by
            show Steps p.tables e below (s₁.setTop (mkF m 100 #[.val (.long q1), .second, .val (.long q2), .second, .val (.int p3), .val (.long a), .second, .val (.long b), .second, .val (.long (a * b)), .second, .unset, .unset, .unset] [])) _
            refine XS.lload X0.here hx rfl (hb hby at_100) rfl ?_
            show Steps p.tables e below (s₁.setTop (mkF m 102 #[.val (.long q1), .second, .val (.long q2), .second, .val (.int p3), .val (.long a), .second, .val (.long b), .second, .val (.long (a * b)), .second, .unset, .unset, .unset] [(.long (a * b))])) _
            refine XS.lload X0.here hx rfl (hb hby at_102) rfl ?_
            show Steps p.tables e below (s₁.setTop (mkF m 104 #[.val (.long q1), .second, .val (.long q2), .second, .val (.int p3), .val (.long a), .second, .val (.long b), .second, .val (.long (a * b)), .second, .unset, .unset, .unset] [(.long a), (.long (a * b))])) _
            refine XS.ldiv X0.here hx rfl (hb hby at_104) rfl hc35 ?_
            show Steps p.tables e below (s₁.setTop (mkF m 105 #[.val (.long q1), .second, .val (.long q2), .second, .val (.int p3), .val (.long a), .second, .val (.long b), .second, .val (.long (a * b)), .second, .unset, .unset, .unset] [(.long ((a * b) / a))])) _
            refine XS.lload X0.here hx rfl (hb hby at_105) rfl ?_
            show Steps p.tables e below (s₁.setTop (mkF m 107 #[.val (.long q1), .second, .val (.long q2), .second, .val (.int p3), .val (.long a), .second, .val (.long b), .second, .val (.long (a * b)), .second, .unset, .unset, .unset] [(.long b), (.long ((a * b) / a))])) _
            refine XS.lcmp X0.here hx rfl (hb hby at_107) rfl ?_
            exact k)
        by_cases hc57 : ((a * b) / a) = b
        · have k58 : ∀ t, Steps p.tables e below (s₁.setTop (mkF m 111 #[.val (.long q1), .second, .val (.long q2), .second, .val (.int p3), .val (.long a), .second, .val (.long b), .second, .val (.long (a * b)), .second, .unset, .unset, .unset] [])) t → Steps p.tables e below (s₁.setTop (entryFrame m #[(.long q1), (.long q2), (.int p3)] maxLocals)) t := fun t k => k56 t (by
              show Steps p.tables e below (s₁.setTop (mkF m 108 #[.val (.long q1), .second, .val (.long q2), .second, .val (.int p3), .val (.long a), .second, .val (.long b), .second, .val (.long (a * b)), .second, .unset, .unset, .unset] [(.int (lcmpW ((a * b) / a) b))])) _
              refine XS.ifNo X0.here hx rfl (hb hby at_108) rfl ((if0 _ _).trans (teq ((lw_eq _ _).mpr hc57)).2) ?_
              exact k)
          have k59 : ∀ t, Steps p.tables e below (s₁.setTop (mkF m 118 #[.val (.long q1), .second, .val (.long q2), .second, .val (.int p3), .val (.long a), .second, .val (.long b), .second, .val (.long (a * b)), .second, .val (.int (1 : Int32)), .unset, .unset] [])) t → Steps p.tables e below (s₁.setTop (entryFrame m #[(.long q1), (.long q2), (.int p3)] maxLocals)) t := fun t k => k58 t (by
              show Steps p.tables e below (s₁.setTop (mkF m 111 #[.val (.long q1), .second, .val (.long q2), .second, .val (.int p3), .val (.long a), .second, .val (.long b), .second, .val (.long (a * b)), .second, .unset, .unset, .unset] [])) _
              refine XS.iconst X0.here hx rfl (hb hby at_111) ?_
              show Steps p.tables e below (s₁.setTop (mkF m 112 #[.val (.long q1), .second, .val (.long q2), .second, .val (.int p3), .val (.long a), .second, .val (.long b), .second, .val (.long (a * b)), .second, .unset, .unset, .unset] [(.int (1 : Int32))])) _
              refine XS.goto X0.here hx rfl (pc0 := 112) (pc' := 116) rfl (hb hby at_112) (by decide) (by decide) ?_
              show Steps p.tables e below (s₁.setTop (mkF m 116 #[.val (.long q1), .second, .val (.long q2), .second, .val (.int p3), .val (.long a), .second, .val (.long b), .second, .val (.long (a * b)), .second, .unset, .unset, .unset] [(.int (1 : Int32))])) _
              refine XS.istore X0.here hx rfl (hb hby at_116) rfl (l' := #[.val (.long q1), .second, .val (.long q2), .second, .val (.int p3), .val (.long a), .second, .val (.long b), .second, .val (.long (a * b)), .second, .val (.int (1 : Int32)), .unset, .unset]) rfl ?_
              exact k)
          have k60 : ∀ t, Steps p.tables e below (s₁.setTop (mkF m 120 #[.val (.long q1), .second, .val (.long q2), .second, .val (.int p3), .val (.long a), .second, .val (.long b), .second, .val (.long (a * b)), .second, .val (.int (1 : Int32)), .unset, .unset] [(.int (1 : Int32))])) t → Steps p.tables e below (s₁.setTop (entryFrame m #[(.long q1), (.long q2), (.int p3)] maxLocals)) t := fun t k => k59 t (by
              show Steps p.tables e below (s₁.setTop (mkF m 118 #[.val (.long q1), .second, .val (.long q2), .second, .val (.int p3), .val (.long a), .second, .val (.long b), .second, .val (.long (a * b)), .second, .val (.int (1 : Int32)), .unset, .unset] [])) _
              refine XS.iload X0.here hx rfl (hb hby at_118) rfl ?_
              exact k)
          have k61 : ∀ t, Steps p.tables e below (s₁.setTop (mkF m 123 #[.val (.long q1), .second, .val (.long q2), .second, .val (.int p3), .val (.long a), .second, .val (.long b), .second, .val (.long (a * b)), .second, .val (.int (1 : Int32)), .unset, .unset] [])) t → Steps p.tables e below (s₁.setTop (entryFrame m #[(.long q1), (.long q2), (.int p3)] maxLocals)) t := fun t k => k60 t (by
              show Steps p.tables e below (s₁.setTop (mkF m 120 #[.val (.long q1), .second, .val (.long q2), .second, .val (.int p3), .val (.long a), .second, .val (.long b), .second, .val (.long (a * b)), .second, .val (.int (1 : Int32)), .unset, .unset] [(.int (1 : Int32))])) _
              refine XS.ifNo X0.here hx rfl (hb hby at_120) rfl ((if0 _ _).trans (feq (by decide)).1) ?_
              exact k)
          have k62 : ∀ t, Steps p.tables e below (s₁.setTop (mkF m 137 #[.val (.long q1), .second, .val (.long q2), .second, .val (.int p3), .val (.long a), .second, .val (.long b), .second, .val (.long (a * b)), .second, .val (.int (1 : Int32)), .val (.long (a * b)), .second] [(.long b), (.long a)])) t → Steps p.tables e below (s₁.setTop (entryFrame m #[(.long q1), (.long q2), (.int p3)] maxLocals)) t := fun t k => k61 t (by
              show Steps p.tables e below (s₁.setTop (mkF m 123 #[.val (.long q1), .second, .val (.long q2), .second, .val (.int p3), .val (.long a), .second, .val (.long b), .second, .val (.long (a * b)), .second, .val (.int (1 : Int32)), .unset, .unset] [])) _
              refine XS.lload X0.here hx rfl (hb hby at_123) rfl ?_
              show Steps p.tables e below (s₁.setTop (mkF m 125 #[.val (.long q1), .second, .val (.long q2), .second, .val (.int p3), .val (.long a), .second, .val (.long b), .second, .val (.long (a * b)), .second, .val (.int (1 : Int32)), .unset, .unset] [(.long (a * b))])) _
              refine XS.goto X0.here hx rfl (pc0 := 125) (pc' := 131) rfl (hb hby at_125) (by decide) (by decide) ?_
              show Steps p.tables e below (s₁.setTop (mkF m 131 #[.val (.long q1), .second, .val (.long q2), .second, .val (.int p3), .val (.long a), .second, .val (.long b), .second, .val (.long (a * b)), .second, .val (.int (1 : Int32)), .unset, .unset] [(.long (a * b))])) _
              refine XS.lstore X0.here hx rfl (hb hby at_131) rfl (l' := #[.val (.long q1), .second, .val (.long q2), .second, .val (.int p3), .val (.long a), .second, .val (.long b), .second, .val (.long (a * b)), .second, .val (.int (1 : Int32)), .val (.long (a * b)), .second]) rfl ?_
              show Steps p.tables e below (s₁.setTop (mkF m 133 #[.val (.long q1), .second, .val (.long q2), .second, .val (.int p3), .val (.long a), .second, .val (.long b), .second, .val (.long (a * b)), .second, .val (.int (1 : Int32)), .val (.long (a * b)), .second] [])) _
              refine XS.lload X0.here hx rfl (hb hby at_133) rfl ?_
              show Steps p.tables e below (s₁.setTop (mkF m 135 #[.val (.long q1), .second, .val (.long q2), .second, .val (.int p3), .val (.long a), .second, .val (.long b), .second, .val (.long (a * b)), .second, .val (.int (1 : Int32)), .val (.long (a * b)), .second] [(.long a)])) _
              refine XS.lload X0.here hx rfl (hb hby at_135) rfl ?_
              exact k)
          obtain ⟨_, _, ⟨T63, L63, c63, n63⟩, -, X63, ⟨Lc63, hQ63, l63, y63, z63⟩, st63⟩ := Jvm.LawKit.callS X0 hx (y := (⟨"com/example/crewmatch/crewmatch/Money", "multiplyCapped", "(JJ)J"⟩ : MethodName)) hown (mvT hZ (hw _ (List.mem_of_getElem? (i := 1) rfl))) (mvT hZ (hw _ (List.mem_of_getElem? (i := 2) rfl))) (mvT hZ (hw _ (List.mem_of_getElem? (i := 3) rfl))) (mvT hZ (hw _ (List.mem_of_getElem? (i := 4) rfl))) (by decide) (backOf (W := 0) (rm1 l Z a0 hw [] a b h0 n0 Z0) hZ (hw _ (List.mem_of_getElem? (i := 4) rfl)) (hw _ (List.mem_of_getElem? (i := 3) rfl)) (by decide) (by decide)) (g := (mkF m 137 #[.val (.long q1), .second, .val (.long q2), .second, .val (.int p3), .val (.long a), .second, .val (.long b), .second, .val (.long (a * b)), .second, .val (.int (1 : Int32)), .val (.long (a * b)), .second] [(.long b), (.long a)])) rfl (by rw [hml]; rfl) (argsL := [(.long a), (.long b)]) (rest := []) (lenOf own_pd0 rfl) rfl (by show 2 * 0 + _ ≤ _; exact Nat.le_of_eq rfl) (hb hby at_137) (fun _ _ => ⟨rfl, e0, (by decide : 0 + 0 ≤ _), (by decide : 0 + 0 ≤ _)⟩)
          dsimp only [Pt.U, Pt.locs, Pt.cells, Pt.slots] at X63 l63 y63 z63 st63 hQ63
          subst l63 y63 z63
          obtain ⟨rfl, N63q, eh⟩ := hQ63
          have N63 := Fr.app N0 N63q
          have k64 : ∀ t, Steps p.tables e below (T63.setTop (mkF m 140 #[.val (.long q1), .second, .val (.long q2), .second, .val (.int p3), .val (.long a), .second, .val (.long b), .second, .val (.long (a * b)), .second, .val (.int (1 : Int32)), .val (.long (a * b)), .second] [(.long (own_r a b))])) t → Steps p.tables e below (s₁.setTop (entryFrame m #[(.long q1), (.long q2), (.int p3)] maxLocals)) t := fun t k => k62 t (st63 t k)
          have hv : own_r a b = (a * b) := own_lo (own_ne ha hc35) hb2 hc46 hc57
          have k65 : ∀ t, Steps p.tables e below (T63.setTop (mkF m 151 #[.val (.long q1), .second, .val (.long q2), .second, .val (.int p3), .val (.long a), .second, .val (.long b), .second, .val (.long (a * b)), .second, .val (.int (1 : Int32)), .val (.long (a * b)), .second] [(.int (1 : Int32))])) t → Steps p.tables e below (s₁.setTop (entryFrame m #[(.long q1), (.long q2), (.int p3)] maxLocals)) t := fun t k => k64 t (by
              show Steps p.tables e below (T63.setTop (mkF m 140 #[.val (.long q1), .second, .val (.long q2), .second, .val (.int p3), .val (.long a), .second, .val (.long b), .second, .val (.long (a * b)), .second, .val (.int (1 : Int32)), .val (.long (a * b)), .second] [(.long (own_r a b))])) _
              refine XS.lload X63.here hx rfl (hb hby at_140) rfl ?_
              show Steps p.tables e below (T63.setTop (mkF m 142 #[.val (.long q1), .second, .val (.long q2), .second, .val (.int p3), .val (.long a), .second, .val (.long b), .second, .val (.long (a * b)), .second, .val (.int (1 : Int32)), .val (.long (a * b)), .second] [(.long (a * b)), (.long (own_r a b))])) _
              refine XS.lcmp X63.here hx rfl (hb hby at_142) rfl ?_
              show Steps p.tables e below (T63.setTop (mkF m 143 #[.val (.long q1), .second, .val (.long q2), .second, .val (.int p3), .val (.long a), .second, .val (.long b), .second, .val (.long (a * b)), .second, .val (.int (1 : Int32)), .val (.long (a * b)), .second] [(.int (lcmpW (own_r a b) (a * b)))])) _
              refine XS.ifNo X63.here hx rfl (hb hby at_143) rfl ((if0 _ _).trans (teq ((lw_eq _ _).mpr hv)).2) ?_
              show Steps p.tables e below (T63.setTop (mkF m 146 #[.val (.long q1), .second, .val (.long q2), .second, .val (.int p3), .val (.long a), .second, .val (.long b), .second, .val (.long (a * b)), .second, .val (.int (1 : Int32)), .val (.long (a * b)), .second] [])) _
              refine XS.iconst X63.here hx rfl (hb hby at_146) ?_
              show Steps p.tables e below (T63.setTop (mkF m 147 #[.val (.long q1), .second, .val (.long q2), .second, .val (.int p3), .val (.long a), .second, .val (.long b), .second, .val (.long (a * b)), .second, .val (.int (1 : Int32)), .val (.long (a * b)), .second] [(.int (1 : Int32))])) _
              refine XS.goto X63.here hx rfl (pc0 := 147) (pc' := 151) rfl (hb hby at_147) (by decide) (by decide) ?_
              exact k)
          obtain ⟨fs, hr, hrun, hended, hW, hsame⟩ := X63.leave (v := some (.int (1 : Int32))) (fun h => by rw [Bd.returns] at h; cases h)
          refine ⟨_, _, k65 _ ?_, hrun, hended, _, _, rfl, ?_, ⟨_, rfl⟩, hW, hsame.mono (by decide) (by decide)⟩
          · show Steps p.tables e below (T63.setTop (mkF m 151 #[.val (.long q1), .second, .val (.long q2), .second, .val (.int p3), .val (.long a), .second, .val (.long b), .second, .val (.long (a * b)), .second, .val (.int (1 : Int32)), .val (.long (a * b)), .second] [(.int (1 : Int32))])) _
            exact retN X63 hx (t := .boolean) Bd.returns (by simp) (hb hby at_151) hr
          · show Q0 Z q1 q2 p3 h0 n0 _ T63.heap _
            exact ⟨rfl, N63⟩
        · have k66 : ∀ t, Steps p.tables e below (s₁.setTop (mkF m 115 #[.val (.long q1), .second, .val (.long q2), .second, .val (.int p3), .val (.long a), .second, .val (.long b), .second, .val (.long (a * b)), .second, .unset, .unset, .unset] [])) t → Steps p.tables e below (s₁.setTop (entryFrame m #[(.long q1), (.long q2), (.int p3)] maxLocals)) t := fun t k => k56 t (by
              show Steps p.tables e below (s₁.setTop (mkF m 108 #[.val (.long q1), .second, .val (.long q2), .second, .val (.int p3), .val (.long a), .second, .val (.long b), .second, .val (.long (a * b)), .second, .unset, .unset, .unset] [(.int (lcmpW ((a * b) / a) b))])) _
              refine XS.ifYes X0.here hx rfl (pc0 := 108) (pc' := 115) rfl (hb hby at_108) rfl ((if0 _ _).trans (feq (fun q => hc57 ((lw_eq _ _).mp q))).2) (by decide) (by decide) ?_
              exact k)
          have k67 : ∀ t, Steps p.tables e below (s₁.setTop (mkF m 118 #[.val (.long q1), .second, .val (.long q2), .second, .val (.int p3), .val (.long a), .second, .val (.long b), .second, .val (.long (a * b)), .second, .val (.int (0 : Int32)), .unset, .unset] [])) t → Steps p.tables e below (s₁.setTop (entryFrame m #[(.long q1), (.long q2), (.int p3)] maxLocals)) t := fun t k => k66 t (by
              show Steps p.tables e below (s₁.setTop (mkF m 115 #[.val (.long q1), .second, .val (.long q2), .second, .val (.int p3), .val (.long a), .second, .val (.long b), .second, .val (.long (a * b)), .second, .unset, .unset, .unset] [])) _
              refine XS.iconst X0.here hx rfl (hb hby at_115) ?_
              show Steps p.tables e below (s₁.setTop (mkF m 116 #[.val (.long q1), .second, .val (.long q2), .second, .val (.int p3), .val (.long a), .second, .val (.long b), .second, .val (.long (a * b)), .second, .unset, .unset, .unset] [(.int (0 : Int32))])) _
              refine XS.istore X0.here hx rfl (hb hby at_116) rfl (l' := #[.val (.long q1), .second, .val (.long q2), .second, .val (.int p3), .val (.long a), .second, .val (.long b), .second, .val (.long (a * b)), .second, .val (.int (0 : Int32)), .unset, .unset]) rfl ?_
              exact k)
          have k68 : ∀ t, Steps p.tables e below (s₁.setTop (mkF m 120 #[.val (.long q1), .second, .val (.long q2), .second, .val (.int p3), .val (.long a), .second, .val (.long b), .second, .val (.long (a * b)), .second, .val (.int (0 : Int32)), .unset, .unset] [(.int (0 : Int32))])) t → Steps p.tables e below (s₁.setTop (entryFrame m #[(.long q1), (.long q2), (.int p3)] maxLocals)) t := fun t k => k67 t (by
              show Steps p.tables e below (s₁.setTop (mkF m 118 #[.val (.long q1), .second, .val (.long q2), .second, .val (.int p3), .val (.long a), .second, .val (.long b), .second, .val (.long (a * b)), .second, .val (.int (0 : Int32)), .unset, .unset] [])) _
              refine XS.iload X0.here hx rfl (hb hby at_118) rfl ?_
              exact k)
          have k69 : ∀ t, Steps p.tables e below (s₁.setTop (mkF m 128 #[.val (.long q1), .second, .val (.long q2), .second, .val (.int p3), .val (.long a), .second, .val (.long b), .second, .val (.long (a * b)), .second, .val (.int (0 : Int32)), .unset, .unset] [])) t → Steps p.tables e below (s₁.setTop (entryFrame m #[(.long q1), (.long q2), (.int p3)] maxLocals)) t := fun t k => k68 t (by
              show Steps p.tables e below (s₁.setTop (mkF m 120 #[.val (.long q1), .second, .val (.long q2), .second, .val (.int p3), .val (.long a), .second, .val (.long b), .second, .val (.long (a * b)), .second, .val (.int (0 : Int32)), .unset, .unset] [(.int (0 : Int32))])) _
              refine XS.ifYes X0.here hx rfl (pc0 := 120) (pc' := 128) rfl (hb hby at_120) rfl ((if0 _ _).trans (teq (by decide)).1) (by decide) (by decide) ?_
              exact k)
          have k70 : ∀ t, Steps p.tables e below (s₁.setTop (mkF m 137 #[.val (.long q1), .second, .val (.long q2), .second, .val (.int p3), .val (.long a), .second, .val (.long b), .second, .val (.long (a * b)), .second, .val (.int (0 : Int32)), .val (.long (9223372036854775807 : Int64)), .second] [(.long b), (.long a)])) t → Steps p.tables e below (s₁.setTop (entryFrame m #[(.long q1), (.long q2), (.int p3)] maxLocals)) t := fun t k => k69 t (by
              show Steps p.tables e below (s₁.setTop (mkF m 128 #[.val (.long q1), .second, .val (.long q2), .second, .val (.int p3), .val (.long a), .second, .val (.long b), .second, .val (.long (a * b)), .second, .val (.int (0 : Int32)), .unset, .unset] [])) _
              refine X0.ldc2Long hx hown (mvT hZ (hw _ (List.mem_of_getElem? (i := 0) rfl))) (g := (mkF m 128 #[.val (.long q1), .second, .val (.long q2), .second, .val (.int p3), .val (.long a), .second, .val (.long b), .second, .val (.long (a * b)), .second, .val (.int (0 : Int32)), .unset, .unset] [])) rfl (hb hby at_128) _ ?_
              show Steps p.tables e below (s₁.setTop (mkF m 131 #[.val (.long q1), .second, .val (.long q2), .second, .val (.int p3), .val (.long a), .second, .val (.long b), .second, .val (.long (a * b)), .second, .val (.int (0 : Int32)), .unset, .unset] [(.long (9223372036854775807 : Int64))])) _
              refine XS.lstore X0.here hx rfl (hb hby at_131) rfl (l' := #[.val (.long q1), .second, .val (.long q2), .second, .val (.int p3), .val (.long a), .second, .val (.long b), .second, .val (.long (a * b)), .second, .val (.int (0 : Int32)), .val (.long (9223372036854775807 : Int64)), .second]) rfl ?_
              show Steps p.tables e below (s₁.setTop (mkF m 133 #[.val (.long q1), .second, .val (.long q2), .second, .val (.int p3), .val (.long a), .second, .val (.long b), .second, .val (.long (a * b)), .second, .val (.int (0 : Int32)), .val (.long (9223372036854775807 : Int64)), .second] [])) _
              refine XS.lload X0.here hx rfl (hb hby at_133) rfl ?_
              show Steps p.tables e below (s₁.setTop (mkF m 135 #[.val (.long q1), .second, .val (.long q2), .second, .val (.int p3), .val (.long a), .second, .val (.long b), .second, .val (.long (a * b)), .second, .val (.int (0 : Int32)), .val (.long (9223372036854775807 : Int64)), .second] [(.long a)])) _
              refine XS.lload X0.here hx rfl (hb hby at_135) rfl ?_
              exact k)
          obtain ⟨_, _, ⟨T71, L71, c71, n71⟩, -, X71, ⟨Lc71, hQ71, l71, y71, z71⟩, st71⟩ := Jvm.LawKit.callS X0 hx (y := (⟨"com/example/crewmatch/crewmatch/Money", "multiplyCapped", "(JJ)J"⟩ : MethodName)) hown (mvT hZ (hw _ (List.mem_of_getElem? (i := 1) rfl))) (mvT hZ (hw _ (List.mem_of_getElem? (i := 2) rfl))) (mvT hZ (hw _ (List.mem_of_getElem? (i := 3) rfl))) (mvT hZ (hw _ (List.mem_of_getElem? (i := 4) rfl))) (by decide) (backOf (W := 0) (rm1 l Z a0 hw [] a b h0 n0 Z0) hZ (hw _ (List.mem_of_getElem? (i := 4) rfl)) (hw _ (List.mem_of_getElem? (i := 3) rfl)) (by decide) (by decide)) (g := (mkF m 137 #[.val (.long q1), .second, .val (.long q2), .second, .val (.int p3), .val (.long a), .second, .val (.long b), .second, .val (.long (a * b)), .second, .val (.int (0 : Int32)), .val (.long (9223372036854775807 : Int64)), .second] [(.long b), (.long a)])) rfl (by rw [hml]; rfl) (argsL := [(.long a), (.long b)]) (rest := []) (lenOf own_pd0 rfl) rfl (by show 2 * 0 + _ ≤ _; exact Nat.le_of_eq rfl) (hb hby at_137) (fun _ _ => ⟨rfl, e0, (by decide : 0 + 0 ≤ _), (by decide : 0 + 0 ≤ _)⟩)
          dsimp only [Pt.U, Pt.locs, Pt.cells, Pt.slots] at X71 l71 y71 z71 st71 hQ71
          subst l71 y71 z71
          obtain ⟨rfl, N71q, eh⟩ := hQ71
          have N71 := Fr.app N0 N71q
          have k72 : ∀ t, Steps p.tables e below (T71.setTop (mkF m 140 #[.val (.long q1), .second, .val (.long q2), .second, .val (.int p3), .val (.long a), .second, .val (.long b), .second, .val (.long (a * b)), .second, .val (.int (0 : Int32)), .val (.long (9223372036854775807 : Int64)), .second] [(.long (own_r a b))])) t → Steps p.tables e below (s₁.setTop (entryFrame m #[(.long q1), (.long q2), (.int p3)] maxLocals)) t := fun t k => k70 t (st71 t k)
          have hv : own_r a b = (9223372036854775807 : Int64) := own_hi (own_ne ha hc35) hb2 (fun q => hc57 q.2)
          have k73 : ∀ t, Steps p.tables e below (T71.setTop (mkF m 151 #[.val (.long q1), .second, .val (.long q2), .second, .val (.int p3), .val (.long a), .second, .val (.long b), .second, .val (.long (a * b)), .second, .val (.int (0 : Int32)), .val (.long (9223372036854775807 : Int64)), .second] [(.int (1 : Int32))])) t → Steps p.tables e below (s₁.setTop (entryFrame m #[(.long q1), (.long q2), (.int p3)] maxLocals)) t := fun t k => k72 t (by
              show Steps p.tables e below (T71.setTop (mkF m 140 #[.val (.long q1), .second, .val (.long q2), .second, .val (.int p3), .val (.long a), .second, .val (.long b), .second, .val (.long (a * b)), .second, .val (.int (0 : Int32)), .val (.long (9223372036854775807 : Int64)), .second] [(.long (own_r a b))])) _
              refine XS.lload X71.here hx rfl (hb hby at_140) rfl ?_
              show Steps p.tables e below (T71.setTop (mkF m 142 #[.val (.long q1), .second, .val (.long q2), .second, .val (.int p3), .val (.long a), .second, .val (.long b), .second, .val (.long (a * b)), .second, .val (.int (0 : Int32)), .val (.long (9223372036854775807 : Int64)), .second] [(.long (9223372036854775807 : Int64)), (.long (own_r a b))])) _
              refine XS.lcmp X71.here hx rfl (hb hby at_142) rfl ?_
              show Steps p.tables e below (T71.setTop (mkF m 143 #[.val (.long q1), .second, .val (.long q2), .second, .val (.int p3), .val (.long a), .second, .val (.long b), .second, .val (.long (a * b)), .second, .val (.int (0 : Int32)), .val (.long (9223372036854775807 : Int64)), .second] [(.int (lcmpW (own_r a b) (9223372036854775807 : Int64)))])) _
              refine XS.ifNo X71.here hx rfl (hb hby at_143) rfl ((if0 _ _).trans (teq ((lw_eq _ _).mpr hv)).2) ?_
              show Steps p.tables e below (T71.setTop (mkF m 146 #[.val (.long q1), .second, .val (.long q2), .second, .val (.int p3), .val (.long a), .second, .val (.long b), .second, .val (.long (a * b)), .second, .val (.int (0 : Int32)), .val (.long (9223372036854775807 : Int64)), .second] [])) _
              refine XS.iconst X71.here hx rfl (hb hby at_146) ?_
              show Steps p.tables e below (T71.setTop (mkF m 147 #[.val (.long q1), .second, .val (.long q2), .second, .val (.int p3), .val (.long a), .second, .val (.long b), .second, .val (.long (a * b)), .second, .val (.int (0 : Int32)), .val (.long (9223372036854775807 : Int64)), .second] [(.int (1 : Int32))])) _
              refine XS.goto X71.here hx rfl (pc0 := 147) (pc' := 151) rfl (hb hby at_147) (by decide) (by decide) ?_
              exact k)
          obtain ⟨fs, hr, hrun, hended, hW, hsame⟩ := X71.leave (v := some (.int (1 : Int32))) (fun h => by rw [Bd.returns] at h; cases h)
          refine ⟨_, _, k73 _ ?_, hrun, hended, _, _, rfl, ?_, ⟨_, rfl⟩, hW, hsame.mono (by decide) (by decide)⟩
          · show Steps p.tables e below (T71.setTop (mkF m 151 #[.val (.long q1), .second, .val (.long q2), .second, .val (.int p3), .val (.long a), .second, .val (.long b), .second, .val (.long (a * b)), .second, .val (.int (0 : Int32)), .val (.long (9223372036854775807 : Int64)), .second] [(.int (1 : Int32))])) _
            exact retN X71 hx (t := .boolean) Bd.returns (by simp) (hb hby at_151) hr
          · show Q0 Z q1 q2 p3 h0 n0 _ T71.heap _
            exact ⟨rfl, N71⟩
  · have k74 : ∀ t, Steps p.tables e below (s₁.setTop (mkF m 90 #[.val (.long q1), .second, .val (.long q2), .second, .val (.int p3), .val (.long a), .second, .val (.long b), .second, .val (.long (a * b)), .second, .val (.long x11), .second, .unset] [(.int (lcmpW a (0 : Int64)))])) t → Steps p.tables e below (s₁.setTop (entryFrame m #[(.long q1), (.long q2), (.int p3)] maxLocals)) t := fun t k => k33 t (by
        show Steps p.tables e below (s₁.setTop (mkF m 79 #[.val (.long q1), .second, .val (.long q2), .second, .val (.int p3), .val (.long a), .second, .val (.long b), .second, .val (.long x9), .second, .val (.long x11), .second, .unset] [])) _
        refine XS.lload X0.here hx rfl (hb hby at_79) rfl ?_
        show Steps p.tables e below (s₁.setTop (mkF m 81 #[.val (.long q1), .second, .val (.long q2), .second, .val (.int p3), .val (.long a), .second, .val (.long b), .second, .val (.long x9), .second, .val (.long x11), .second, .unset] [(.long a)])) _
        refine XS.lload X0.here hx rfl (hb hby at_81) rfl ?_
        show Steps p.tables e below (s₁.setTop (mkF m 83 #[.val (.long q1), .second, .val (.long q2), .second, .val (.int p3), .val (.long a), .second, .val (.long b), .second, .val (.long x9), .second, .val (.long x11), .second, .unset] [(.long b), (.long a)])) _
        refine XS.lmul X0.here hx rfl (hb hby at_83) rfl ?_
        show Steps p.tables e below (s₁.setTop (mkF m 84 #[.val (.long q1), .second, .val (.long q2), .second, .val (.int p3), .val (.long a), .second, .val (.long b), .second, .val (.long x9), .second, .val (.long x11), .second, .unset] [(.long (a * b))])) _
        refine XS.lstore X0.here hx rfl (hb hby at_84) rfl (l' := #[.val (.long q1), .second, .val (.long q2), .second, .val (.int p3), .val (.long a), .second, .val (.long b), .second, .val (.long (a * b)), .second, .val (.long x11), .second, .unset]) rfl ?_
        show Steps p.tables e below (s₁.setTop (mkF m 86 #[.val (.long q1), .second, .val (.long q2), .second, .val (.int p3), .val (.long a), .second, .val (.long b), .second, .val (.long (a * b)), .second, .val (.long x11), .second, .unset] [])) _
        refine XS.lload X0.here hx rfl (hb hby at_86) rfl ?_
        show Steps p.tables e below (s₁.setTop (mkF m 88 #[.val (.long q1), .second, .val (.long q2), .second, .val (.int p3), .val (.long a), .second, .val (.long b), .second, .val (.long (a * b)), .second, .val (.long x11), .second, .unset] [(.long a)])) _
        refine XS.lconst X0.here hx rfl (hb hby at_88) ?_
        show Steps p.tables e below (s₁.setTop (mkF m 89 #[.val (.long q1), .second, .val (.long q2), .second, .val (.int p3), .val (.long a), .second, .val (.long b), .second, .val (.long (a * b)), .second, .val (.long x11), .second, .unset] [(.long (0 : Int64)), (.long a)])) _
        refine XS.lcmp X0.here hx rfl (hb hby at_89) rfl ?_
        exact k)
    by_cases hc75 : a = (0 : Int64)
    · have k76 : ∀ t, Steps p.tables e below (s₁.setTop (mkF m 111 #[.val (.long q1), .second, .val (.long q2), .second, .val (.int p3), .val (.long a), .second, .val (.long b), .second, .val (.long (a * b)), .second, .val (.long x11), .second, .unset] [])) t → Steps p.tables e below (s₁.setTop (entryFrame m #[(.long q1), (.long q2), (.int p3)] maxLocals)) t := fun t k => k74 t (by
          show Steps p.tables e below (s₁.setTop (mkF m 90 #[.val (.long q1), .second, .val (.long q2), .second, .val (.int p3), .val (.long a), .second, .val (.long b), .second, .val (.long (a * b)), .second, .val (.long x11), .second, .unset] [(.int (lcmpW a (0 : Int64)))])) _
          refine XS.ifYes X0.here hx rfl (pc0 := 90) (pc' := 111) rfl (hb hby at_90) rfl ((if0 _ _).trans (teq ((lw_eq _ _).mpr hc75)).1) (by decide) (by decide) ?_
          exact k)
      have k77 : ∀ t, Steps p.tables e below (s₁.setTop (mkF m 118 #[.val (.long q1), .second, .val (.long q2), .second, .val (.int p3), .val (.long a), .second, .val (.long b), .second, .val (.long (a * b)), .second, .val (.int (1 : Int32)), .unset, .unset] [])) t → Steps p.tables e below (s₁.setTop (entryFrame m #[(.long q1), (.long q2), (.int p3)] maxLocals)) t := fun t k => k76 t (by
          show Steps p.tables e below (s₁.setTop (mkF m 111 #[.val (.long q1), .second, .val (.long q2), .second, .val (.int p3), .val (.long a), .second, .val (.long b), .second, .val (.long (a * b)), .second, .val (.long x11), .second, .unset] [])) _
          refine XS.iconst X0.here hx rfl (hb hby at_111) ?_
          show Steps p.tables e below (s₁.setTop (mkF m 112 #[.val (.long q1), .second, .val (.long q2), .second, .val (.int p3), .val (.long a), .second, .val (.long b), .second, .val (.long (a * b)), .second, .val (.long x11), .second, .unset] [(.int (1 : Int32))])) _
          refine XS.goto X0.here hx rfl (pc0 := 112) (pc' := 116) rfl (hb hby at_112) (by decide) (by decide) ?_
          show Steps p.tables e below (s₁.setTop (mkF m 116 #[.val (.long q1), .second, .val (.long q2), .second, .val (.int p3), .val (.long a), .second, .val (.long b), .second, .val (.long (a * b)), .second, .val (.long x11), .second, .unset] [(.int (1 : Int32))])) _
          refine XS.istore X0.here hx rfl (hb hby at_116) rfl (l' := #[.val (.long q1), .second, .val (.long q2), .second, .val (.int p3), .val (.long a), .second, .val (.long b), .second, .val (.long (a * b)), .second, .val (.int (1 : Int32)), .unset, .unset]) rfl ?_
          exact k)
      have k78 : ∀ t, Steps p.tables e below (s₁.setTop (mkF m 120 #[.val (.long q1), .second, .val (.long q2), .second, .val (.int p3), .val (.long a), .second, .val (.long b), .second, .val (.long (a * b)), .second, .val (.int (1 : Int32)), .unset, .unset] [(.int (1 : Int32))])) t → Steps p.tables e below (s₁.setTop (entryFrame m #[(.long q1), (.long q2), (.int p3)] maxLocals)) t := fun t k => k77 t (by
          show Steps p.tables e below (s₁.setTop (mkF m 118 #[.val (.long q1), .second, .val (.long q2), .second, .val (.int p3), .val (.long a), .second, .val (.long b), .second, .val (.long (a * b)), .second, .val (.int (1 : Int32)), .unset, .unset] [])) _
          refine XS.iload X0.here hx rfl (hb hby at_118) rfl ?_
          exact k)
      have k79 : ∀ t, Steps p.tables e below (s₁.setTop (mkF m 123 #[.val (.long q1), .second, .val (.long q2), .second, .val (.int p3), .val (.long a), .second, .val (.long b), .second, .val (.long (a * b)), .second, .val (.int (1 : Int32)), .unset, .unset] [])) t → Steps p.tables e below (s₁.setTop (entryFrame m #[(.long q1), (.long q2), (.int p3)] maxLocals)) t := fun t k => k78 t (by
          show Steps p.tables e below (s₁.setTop (mkF m 120 #[.val (.long q1), .second, .val (.long q2), .second, .val (.int p3), .val (.long a), .second, .val (.long b), .second, .val (.long (a * b)), .second, .val (.int (1 : Int32)), .unset, .unset] [(.int (1 : Int32))])) _
          refine XS.ifNo X0.here hx rfl (hb hby at_120) rfl ((if0 _ _).trans (feq (by decide)).1) ?_
          exact k)
      have k80 : ∀ t, Steps p.tables e below (s₁.setTop (mkF m 137 #[.val (.long q1), .second, .val (.long q2), .second, .val (.int p3), .val (.long a), .second, .val (.long b), .second, .val (.long (a * b)), .second, .val (.int (1 : Int32)), .val (.long (a * b)), .second] [(.long b), (.long a)])) t → Steps p.tables e below (s₁.setTop (entryFrame m #[(.long q1), (.long q2), (.int p3)] maxLocals)) t := fun t k => k79 t (by
          show Steps p.tables e below (s₁.setTop (mkF m 123 #[.val (.long q1), .second, .val (.long q2), .second, .val (.int p3), .val (.long a), .second, .val (.long b), .second, .val (.long (a * b)), .second, .val (.int (1 : Int32)), .unset, .unset] [])) _
          refine XS.lload X0.here hx rfl (hb hby at_123) rfl ?_
          show Steps p.tables e below (s₁.setTop (mkF m 125 #[.val (.long q1), .second, .val (.long q2), .second, .val (.int p3), .val (.long a), .second, .val (.long b), .second, .val (.long (a * b)), .second, .val (.int (1 : Int32)), .unset, .unset] [(.long (a * b))])) _
          refine XS.goto X0.here hx rfl (pc0 := 125) (pc' := 131) rfl (hb hby at_125) (by decide) (by decide) ?_
          show Steps p.tables e below (s₁.setTop (mkF m 131 #[.val (.long q1), .second, .val (.long q2), .second, .val (.int p3), .val (.long a), .second, .val (.long b), .second, .val (.long (a * b)), .second, .val (.int (1 : Int32)), .unset, .unset] [(.long (a * b))])) _
          refine XS.lstore X0.here hx rfl (hb hby at_131) rfl (l' := #[.val (.long q1), .second, .val (.long q2), .second, .val (.int p3), .val (.long a), .second, .val (.long b), .second, .val (.long (a * b)), .second, .val (.int (1 : Int32)), .val (.long (a * b)), .second]) rfl ?_
          show Steps p.tables e below (s₁.setTop (mkF m 133 #[.val (.long q1), .second, .val (.long q2), .second, .val (.int p3), .val (.long a), .second, .val (.long b), .second, .val (.long (a * b)), .second, .val (.int (1 : Int32)), .val (.long (a * b)), .second] [])) _
          refine XS.lload X0.here hx rfl (hb hby at_133) rfl ?_
          show Steps p.tables e below (s₁.setTop (mkF m 135 #[.val (.long q1), .second, .val (.long q2), .second, .val (.int p3), .val (.long a), .second, .val (.long b), .second, .val (.long (a * b)), .second, .val (.int (1 : Int32)), .val (.long (a * b)), .second] [(.long a)])) _
          refine XS.lload X0.here hx rfl (hb hby at_135) rfl ?_
          exact k)
      obtain ⟨_, _, ⟨T81, L81, c81, n81⟩, -, X81, ⟨Lc81, hQ81, l81, y81, z81⟩, st81⟩ := Jvm.LawKit.callS X0 hx (y := (⟨"com/example/crewmatch/crewmatch/Money", "multiplyCapped", "(JJ)J"⟩ : MethodName)) hown (mvT hZ (hw _ (List.mem_of_getElem? (i := 1) rfl))) (mvT hZ (hw _ (List.mem_of_getElem? (i := 2) rfl))) (mvT hZ (hw _ (List.mem_of_getElem? (i := 3) rfl))) (mvT hZ (hw _ (List.mem_of_getElem? (i := 4) rfl))) (by decide) (backOf (W := 0) (rm1 l Z a0 hw [] a b h0 n0 Z0) hZ (hw _ (List.mem_of_getElem? (i := 4) rfl)) (hw _ (List.mem_of_getElem? (i := 3) rfl)) (by decide) (by decide)) (g := (mkF m 137 #[.val (.long q1), .second, .val (.long q2), .second, .val (.int p3), .val (.long a), .second, .val (.long b), .second, .val (.long (a * b)), .second, .val (.int (1 : Int32)), .val (.long (a * b)), .second] [(.long b), (.long a)])) rfl (by rw [hml]; rfl) (argsL := [(.long a), (.long b)]) (rest := []) (lenOf own_pd0 rfl) rfl (by show 2 * 0 + _ ≤ _; exact Nat.le_of_eq rfl) (hb hby at_137) (fun _ _ => ⟨rfl, e0, (by decide : 0 + 0 ≤ _), (by decide : 0 + 0 ≤ _)⟩)
      dsimp only [Pt.U, Pt.locs, Pt.cells, Pt.slots] at X81 l81 y81 z81 st81 hQ81
      subst l81 y81 z81
      obtain ⟨rfl, N81q, eh⟩ := hQ81
      have N81 := Fr.app N0 N81q
      have k82 : ∀ t, Steps p.tables e below (T81.setTop (mkF m 140 #[.val (.long q1), .second, .val (.long q2), .second, .val (.int p3), .val (.long a), .second, .val (.long b), .second, .val (.long (a * b)), .second, .val (.int (1 : Int32)), .val (.long (a * b)), .second] [(.long (own_r a b))])) t → Steps p.tables e below (s₁.setTop (entryFrame m #[(.long q1), (.long q2), (.int p3)] maxLocals)) t := fun t k => k80 t (st81 t k)
      have hv : own_r a b = (a * b) := own_zero hc75
      have k83 : ∀ t, Steps p.tables e below (T81.setTop (mkF m 151 #[.val (.long q1), .second, .val (.long q2), .second, .val (.int p3), .val (.long a), .second, .val (.long b), .second, .val (.long (a * b)), .second, .val (.int (1 : Int32)), .val (.long (a * b)), .second] [(.int (1 : Int32))])) t → Steps p.tables e below (s₁.setTop (entryFrame m #[(.long q1), (.long q2), (.int p3)] maxLocals)) t := fun t k => k82 t (by
          show Steps p.tables e below (T81.setTop (mkF m 140 #[.val (.long q1), .second, .val (.long q2), .second, .val (.int p3), .val (.long a), .second, .val (.long b), .second, .val (.long (a * b)), .second, .val (.int (1 : Int32)), .val (.long (a * b)), .second] [(.long (own_r a b))])) _
          refine XS.lload X81.here hx rfl (hb hby at_140) rfl ?_
          show Steps p.tables e below (T81.setTop (mkF m 142 #[.val (.long q1), .second, .val (.long q2), .second, .val (.int p3), .val (.long a), .second, .val (.long b), .second, .val (.long (a * b)), .second, .val (.int (1 : Int32)), .val (.long (a * b)), .second] [(.long (a * b)), (.long (own_r a b))])) _
          refine XS.lcmp X81.here hx rfl (hb hby at_142) rfl ?_
          show Steps p.tables e below (T81.setTop (mkF m 143 #[.val (.long q1), .second, .val (.long q2), .second, .val (.int p3), .val (.long a), .second, .val (.long b), .second, .val (.long (a * b)), .second, .val (.int (1 : Int32)), .val (.long (a * b)), .second] [(.int (lcmpW (own_r a b) (a * b)))])) _
          refine XS.ifNo X81.here hx rfl (hb hby at_143) rfl ((if0 _ _).trans (teq ((lw_eq _ _).mpr hv)).2) ?_
          show Steps p.tables e below (T81.setTop (mkF m 146 #[.val (.long q1), .second, .val (.long q2), .second, .val (.int p3), .val (.long a), .second, .val (.long b), .second, .val (.long (a * b)), .second, .val (.int (1 : Int32)), .val (.long (a * b)), .second] [])) _
          refine XS.iconst X81.here hx rfl (hb hby at_146) ?_
          show Steps p.tables e below (T81.setTop (mkF m 147 #[.val (.long q1), .second, .val (.long q2), .second, .val (.int p3), .val (.long a), .second, .val (.long b), .second, .val (.long (a * b)), .second, .val (.int (1 : Int32)), .val (.long (a * b)), .second] [(.int (1 : Int32))])) _
          refine XS.goto X81.here hx rfl (pc0 := 147) (pc' := 151) rfl (hb hby at_147) (by decide) (by decide) ?_
          exact k)
      obtain ⟨fs, hr, hrun, hended, hW, hsame⟩ := X81.leave (v := some (.int (1 : Int32))) (fun h => by rw [Bd.returns] at h; cases h)
      refine ⟨_, _, k83 _ ?_, hrun, hended, _, _, rfl, ?_, ⟨_, rfl⟩, hW, hsame.mono (by decide) (by decide)⟩
      · show Steps p.tables e below (T81.setTop (mkF m 151 #[.val (.long q1), .second, .val (.long q2), .second, .val (.int p3), .val (.long a), .second, .val (.long b), .second, .val (.long (a * b)), .second, .val (.int (1 : Int32)), .val (.long (a * b)), .second] [(.int (1 : Int32))])) _
        exact retN X81 hx (t := .boolean) Bd.returns (by simp) (hb hby at_151) hr
      · show Q0 Z q1 q2 p3 h0 n0 _ T81.heap _
        exact ⟨rfl, N81⟩
    · have k84 : ∀ t, Steps p.tables e below (s₁.setTop (mkF m 93 #[.val (.long q1), .second, .val (.long q2), .second, .val (.int p3), .val (.long a), .second, .val (.long b), .second, .val (.long (a * b)), .second, .val (.long x11), .second, .unset] [])) t → Steps p.tables e below (s₁.setTop (entryFrame m #[(.long q1), (.long q2), (.int p3)] maxLocals)) t := fun t k => k74 t (by
          show Steps p.tables e below (s₁.setTop (mkF m 90 #[.val (.long q1), .second, .val (.long q2), .second, .val (.int p3), .val (.long a), .second, .val (.long b), .second, .val (.long (a * b)), .second, .val (.long x11), .second, .unset] [(.int (lcmpW a (0 : Int64)))])) _
          refine XS.ifNo X0.here hx rfl (hb hby at_90) rfl ((if0 _ _).trans (feq (fun q => hc75 ((lw_eq _ _).mp q))).1) ?_
          exact k)
      have k85 : ∀ t, Steps p.tables e below (s₁.setTop (mkF m 97 #[.val (.long q1), .second, .val (.long q2), .second, .val (.int p3), .val (.long a), .second, .val (.long b), .second, .val (.long (a * b)), .second, .val (.long x11), .second, .unset] [(.int (lcmpW (a * b) (0 : Int64)))])) t → Steps p.tables e below (s₁.setTop (entryFrame m #[(.long q1), (.long q2), (.int p3)] maxLocals)) t := fun t k => k84 t (by
          show Steps p.tables e below (s₁.setTop (mkF m 93 #[.val (.long q1), .second, .val (.long q2), .second, .val (.int p3), .val (.long a), .second, .val (.long b), .second, .val (.long (a * b)), .second, .val (.long x11), .second, .unset] [])) _
          refine XS.lload X0.here hx rfl (hb hby at_93) rfl ?_
          show Steps p.tables e below (s₁.setTop (mkF m 95 #[.val (.long q1), .second, .val (.long q2), .second, .val (.int p3), .val (.long a), .second, .val (.long b), .second, .val (.long (a * b)), .second, .val (.long x11), .second, .unset] [(.long (a * b))])) _
          refine XS.lconst X0.here hx rfl (hb hby at_95) ?_
          show Steps p.tables e below (s₁.setTop (mkF m 96 #[.val (.long q1), .second, .val (.long q2), .second, .val (.int p3), .val (.long a), .second, .val (.long b), .second, .val (.long (a * b)), .second, .val (.long x11), .second, .unset] [(.long (0 : Int64)), (.long (a * b))])) _
          refine XS.lcmp X0.here hx rfl (hb hby at_96) rfl ?_
          exact k)
      by_cases hc86 : (a * b) < (0 : Int64)
      · have k87 : ∀ t, Steps p.tables e below (s₁.setTop (mkF m 115 #[.val (.long q1), .second, .val (.long q2), .second, .val (.int p3), .val (.long a), .second, .val (.long b), .second, .val (.long (a * b)), .second, .val (.long x11), .second, .unset] [])) t → Steps p.tables e below (s₁.setTop (entryFrame m #[(.long q1), (.long q2), (.int p3)] maxLocals)) t := fun t k => k85 t (by
            show Steps p.tables e below (s₁.setTop (mkF m 97 #[.val (.long q1), .second, .val (.long q2), .second, .val (.int p3), .val (.long a), .second, .val (.long b), .second, .val (.long (a * b)), .second, .val (.long x11), .second, .unset] [(.int (lcmpW (a * b) (0 : Int64)))])) _
            refine XS.ifYes X0.here hx rfl (pc0 := 97) (pc' := 115) rfl (hb hby at_97) rfl ((if0 _ _).trans (tlt ((lw_lt _ _).mpr hc86)).1) (by decide) (by decide) ?_
            exact k)
        have k88 : ∀ t, Steps p.tables e below (s₁.setTop (mkF m 118 #[.val (.long q1), .second, .val (.long q2), .second, .val (.int p3), .val (.long a), .second, .val (.long b), .second, .val (.long (a * b)), .second, .val (.int (0 : Int32)), .unset, .unset] [])) t → Steps p.tables e below (s₁.setTop (entryFrame m #[(.long q1), (.long q2), (.int p3)] maxLocals)) t := fun t k => k87 t (by
            show Steps p.tables e below (s₁.setTop (mkF m 115 #[.val (.long q1), .second, .val (.long q2), .second, .val (.int p3), .val (.long a), .second, .val (.long b), .second, .val (.long (a * b)), .second, .val (.long x11), .second, .unset] [])) _
            refine XS.iconst X0.here hx rfl (hb hby at_115) ?_
            show Steps p.tables e below (s₁.setTop (mkF m 116 #[.val (.long q1), .second, .val (.long q2), .second, .val (.int p3), .val (.long a), .second, .val (.long b), .second, .val (.long (a * b)), .second, .val (.long x11), .second, .unset] [(.int (0 : Int32))])) _
            refine XS.istore X0.here hx rfl (hb hby at_116) rfl (l' := #[.val (.long q1), .second, .val (.long q2), .second, .val (.int p3), .val (.long a), .second, .val (.long b), .second, .val (.long (a * b)), .second, .val (.int (0 : Int32)), .unset, .unset]) rfl ?_
            exact k)
        have k89 : ∀ t, Steps p.tables e below (s₁.setTop (mkF m 120 #[.val (.long q1), .second, .val (.long q2), .second, .val (.int p3), .val (.long a), .second, .val (.long b), .second, .val (.long (a * b)), .second, .val (.int (0 : Int32)), .unset, .unset] [(.int (0 : Int32))])) t → Steps p.tables e below (s₁.setTop (entryFrame m #[(.long q1), (.long q2), (.int p3)] maxLocals)) t := fun t k => k88 t (by
            show Steps p.tables e below (s₁.setTop (mkF m 118 #[.val (.long q1), .second, .val (.long q2), .second, .val (.int p3), .val (.long a), .second, .val (.long b), .second, .val (.long (a * b)), .second, .val (.int (0 : Int32)), .unset, .unset] [])) _
            refine XS.iload X0.here hx rfl (hb hby at_118) rfl ?_
            exact k)
        have k90 : ∀ t, Steps p.tables e below (s₁.setTop (mkF m 128 #[.val (.long q1), .second, .val (.long q2), .second, .val (.int p3), .val (.long a), .second, .val (.long b), .second, .val (.long (a * b)), .second, .val (.int (0 : Int32)), .unset, .unset] [])) t → Steps p.tables e below (s₁.setTop (entryFrame m #[(.long q1), (.long q2), (.int p3)] maxLocals)) t := fun t k => k89 t (by
            show Steps p.tables e below (s₁.setTop (mkF m 120 #[.val (.long q1), .second, .val (.long q2), .second, .val (.int p3), .val (.long a), .second, .val (.long b), .second, .val (.long (a * b)), .second, .val (.int (0 : Int32)), .unset, .unset] [(.int (0 : Int32))])) _
            refine XS.ifYes X0.here hx rfl (pc0 := 120) (pc' := 128) rfl (hb hby at_120) rfl ((if0 _ _).trans (teq (by decide)).1) (by decide) (by decide) ?_
            exact k)
        have k91 : ∀ t, Steps p.tables e below (s₁.setTop (mkF m 137 #[.val (.long q1), .second, .val (.long q2), .second, .val (.int p3), .val (.long a), .second, .val (.long b), .second, .val (.long (a * b)), .second, .val (.int (0 : Int32)), .val (.long (9223372036854775807 : Int64)), .second] [(.long b), (.long a)])) t → Steps p.tables e below (s₁.setTop (entryFrame m #[(.long q1), (.long q2), (.int p3)] maxLocals)) t := fun t k => k90 t (by
            show Steps p.tables e below (s₁.setTop (mkF m 128 #[.val (.long q1), .second, .val (.long q2), .second, .val (.int p3), .val (.long a), .second, .val (.long b), .second, .val (.long (a * b)), .second, .val (.int (0 : Int32)), .unset, .unset] [])) _
            refine X0.ldc2Long hx hown (mvT hZ (hw _ (List.mem_of_getElem? (i := 0) rfl))) (g := (mkF m 128 #[.val (.long q1), .second, .val (.long q2), .second, .val (.int p3), .val (.long a), .second, .val (.long b), .second, .val (.long (a * b)), .second, .val (.int (0 : Int32)), .unset, .unset] [])) rfl (hb hby at_128) _ ?_
            show Steps p.tables e below (s₁.setTop (mkF m 131 #[.val (.long q1), .second, .val (.long q2), .second, .val (.int p3), .val (.long a), .second, .val (.long b), .second, .val (.long (a * b)), .second, .val (.int (0 : Int32)), .unset, .unset] [(.long (9223372036854775807 : Int64))])) _
            refine XS.lstore X0.here hx rfl (hb hby at_131) rfl (l' := #[.val (.long q1), .second, .val (.long q2), .second, .val (.int p3), .val (.long a), .second, .val (.long b), .second, .val (.long (a * b)), .second, .val (.int (0 : Int32)), .val (.long (9223372036854775807 : Int64)), .second]) rfl ?_
            show Steps p.tables e below (s₁.setTop (mkF m 133 #[.val (.long q1), .second, .val (.long q2), .second, .val (.int p3), .val (.long a), .second, .val (.long b), .second, .val (.long (a * b)), .second, .val (.int (0 : Int32)), .val (.long (9223372036854775807 : Int64)), .second] [])) _
            refine XS.lload X0.here hx rfl (hb hby at_133) rfl ?_
            show Steps p.tables e below (s₁.setTop (mkF m 135 #[.val (.long q1), .second, .val (.long q2), .second, .val (.int p3), .val (.long a), .second, .val (.long b), .second, .val (.long (a * b)), .second, .val (.int (0 : Int32)), .val (.long (9223372036854775807 : Int64)), .second] [(.long a)])) _
            refine XS.lload X0.here hx rfl (hb hby at_135) rfl ?_
            exact k)
        obtain ⟨_, _, ⟨T92, L92, c92, n92⟩, -, X92, ⟨Lc92, hQ92, l92, y92, z92⟩, st92⟩ := Jvm.LawKit.callS X0 hx (y := (⟨"com/example/crewmatch/crewmatch/Money", "multiplyCapped", "(JJ)J"⟩ : MethodName)) hown (mvT hZ (hw _ (List.mem_of_getElem? (i := 1) rfl))) (mvT hZ (hw _ (List.mem_of_getElem? (i := 2) rfl))) (mvT hZ (hw _ (List.mem_of_getElem? (i := 3) rfl))) (mvT hZ (hw _ (List.mem_of_getElem? (i := 4) rfl))) (by decide) (backOf (W := 0) (rm1 l Z a0 hw [] a b h0 n0 Z0) hZ (hw _ (List.mem_of_getElem? (i := 4) rfl)) (hw _ (List.mem_of_getElem? (i := 3) rfl)) (by decide) (by decide)) (g := (mkF m 137 #[.val (.long q1), .second, .val (.long q2), .second, .val (.int p3), .val (.long a), .second, .val (.long b), .second, .val (.long (a * b)), .second, .val (.int (0 : Int32)), .val (.long (9223372036854775807 : Int64)), .second] [(.long b), (.long a)])) rfl (by rw [hml]; rfl) (argsL := [(.long a), (.long b)]) (rest := []) (lenOf own_pd0 rfl) rfl (by show 2 * 0 + _ ≤ _; exact Nat.le_of_eq rfl) (hb hby at_137) (fun _ _ => ⟨rfl, e0, (by decide : 0 + 0 ≤ _), (by decide : 0 + 0 ≤ _)⟩)
        dsimp only [Pt.U, Pt.locs, Pt.cells, Pt.slots] at X92 l92 y92 z92 st92 hQ92
        subst l92 y92 z92
        obtain ⟨rfl, N92q, eh⟩ := hQ92
        have N92 := Fr.app N0 N92q
        have k93 : ∀ t, Steps p.tables e below (T92.setTop (mkF m 140 #[.val (.long q1), .second, .val (.long q2), .second, .val (.int p3), .val (.long a), .second, .val (.long b), .second, .val (.long (a * b)), .second, .val (.int (0 : Int32)), .val (.long (9223372036854775807 : Int64)), .second] [(.long (own_r a b))])) t → Steps p.tables e below (s₁.setTop (entryFrame m #[(.long q1), (.long q2), (.int p3)] maxLocals)) t := fun t k => k91 t (st92 t k)
        have hv : own_r a b = (9223372036854775807 : Int64) := own_hi (own_ne ha hc75) hb2 (fun q => q.1 hc86)
        have k94 : ∀ t, Steps p.tables e below (T92.setTop (mkF m 151 #[.val (.long q1), .second, .val (.long q2), .second, .val (.int p3), .val (.long a), .second, .val (.long b), .second, .val (.long (a * b)), .second, .val (.int (0 : Int32)), .val (.long (9223372036854775807 : Int64)), .second] [(.int (1 : Int32))])) t → Steps p.tables e below (s₁.setTop (entryFrame m #[(.long q1), (.long q2), (.int p3)] maxLocals)) t := fun t k => k93 t (by
            show Steps p.tables e below (T92.setTop (mkF m 140 #[.val (.long q1), .second, .val (.long q2), .second, .val (.int p3), .val (.long a), .second, .val (.long b), .second, .val (.long (a * b)), .second, .val (.int (0 : Int32)), .val (.long (9223372036854775807 : Int64)), .second] [(.long (own_r a b))])) _
            refine XS.lload X92.here hx rfl (hb hby at_140) rfl ?_
            show Steps p.tables e below (T92.setTop (mkF m 142 #[.val (.long q1), .second, .val (.long q2), .second, .val (.int p3), .val (.long a), .second, .val (.long b), .second, .val (.long (a * b)), .second, .val (.int (0 : Int32)), .val (.long (9223372036854775807 : Int64)), .second] [(.long (9223372036854775807 : Int64)), (.long (own_r a b))])) _
            refine XS.lcmp X92.here hx rfl (hb hby at_142) rfl ?_
            show Steps p.tables e below (T92.setTop (mkF m 143 #[.val (.long q1), .second, .val (.long q2), .second, .val (.int p3), .val (.long a), .second, .val (.long b), .second, .val (.long (a * b)), .second, .val (.int (0 : Int32)), .val (.long (9223372036854775807 : Int64)), .second] [(.int (lcmpW (own_r a b) (9223372036854775807 : Int64)))])) _
            refine XS.ifNo X92.here hx rfl (hb hby at_143) rfl ((if0 _ _).trans (teq ((lw_eq _ _).mpr hv)).2) ?_
            show Steps p.tables e below (T92.setTop (mkF m 146 #[.val (.long q1), .second, .val (.long q2), .second, .val (.int p3), .val (.long a), .second, .val (.long b), .second, .val (.long (a * b)), .second, .val (.int (0 : Int32)), .val (.long (9223372036854775807 : Int64)), .second] [])) _
            refine XS.iconst X92.here hx rfl (hb hby at_146) ?_
            show Steps p.tables e below (T92.setTop (mkF m 147 #[.val (.long q1), .second, .val (.long q2), .second, .val (.int p3), .val (.long a), .second, .val (.long b), .second, .val (.long (a * b)), .second, .val (.int (0 : Int32)), .val (.long (9223372036854775807 : Int64)), .second] [(.int (1 : Int32))])) _
            refine XS.goto X92.here hx rfl (pc0 := 147) (pc' := 151) rfl (hb hby at_147) (by decide) (by decide) ?_
            exact k)
        obtain ⟨fs, hr, hrun, hended, hW, hsame⟩ := X92.leave (v := some (.int (1 : Int32))) (fun h => by rw [Bd.returns] at h; cases h)
        refine ⟨_, _, k94 _ ?_, hrun, hended, _, _, rfl, ?_, ⟨_, rfl⟩, hW, hsame.mono (by decide) (by decide)⟩
        · show Steps p.tables e below (T92.setTop (mkF m 151 #[.val (.long q1), .second, .val (.long q2), .second, .val (.int p3), .val (.long a), .second, .val (.long b), .second, .val (.long (a * b)), .second, .val (.int (0 : Int32)), .val (.long (9223372036854775807 : Int64)), .second] [(.int (1 : Int32))])) _
          exact retN X92 hx (t := .boolean) Bd.returns (by simp) (hb hby at_151) hr
        · show Q0 Z q1 q2 p3 h0 n0 _ T92.heap _
          exact ⟨rfl, N92⟩
      · have k95 : ∀ t, Steps p.tables e below (s₁.setTop (mkF m 100 #[.val (.long q1), .second, .val (.long q2), .second, .val (.int p3), .val (.long a), .second, .val (.long b), .second, .val (.long (a * b)), .second, .val (.long x11), .second, .unset] [])) t → Steps p.tables e below (s₁.setTop (entryFrame m #[(.long q1), (.long q2), (.int p3)] maxLocals)) t := fun t k => k85 t (by
            show Steps p.tables e below (s₁.setTop (mkF m 97 #[.val (.long q1), .second, .val (.long q2), .second, .val (.int p3), .val (.long a), .second, .val (.long b), .second, .val (.long (a * b)), .second, .val (.long x11), .second, .unset] [(.int (lcmpW (a * b) (0 : Int64)))])) _
            refine XS.ifNo X0.here hx rfl (hb hby at_97) rfl ((if0 _ _).trans (flt (fun q => hc86 ((lw_lt _ _).mp q))).1) ?_
            exact k)
        have k96 : ∀ t, Steps p.tables e below (s₁.setTop (mkF m 108 #[.val (.long q1), .second, .val (.long q2), .second, .val (.int p3), .val (.long a), .second, .val (.long b), .second, .val (.long (a * b)), .second, .val (.long x11), .second, .unset] [(.int (lcmpW ((a * b) / a) b))])) t → Steps p.tables e below (s₁.setTop (entryFrame m #[(.long q1), (.long q2), (.int p3)] maxLocals)) t := fun t k => k95 t (by
            show Steps p.tables e below (s₁.setTop (mkF m 100 #[.val (.long q1), .second, .val (.long q2), .second, .val (.int p3), .val (.long a), .second, .val (.long b), .second, .val (.long (a * b)), .second, .val (.long x11), .second, .unset] [])) _
            refine XS.lload X0.here hx rfl (hb hby at_100) rfl ?_
            show Steps p.tables e below (s₁.setTop (mkF m 102 #[.val (.long q1), .second, .val (.long q2), .second, .val (.int p3), .val (.long a), .second, .val (.long b), .second, .val (.long (a * b)), .second, .val (.long x11), .second, .unset] [(.long (a * b))])) _
            refine XS.lload X0.here hx rfl (hb hby at_102) rfl ?_
            show Steps p.tables e below (s₁.setTop (mkF m 104 #[.val (.long q1), .second, .val (.long q2), .second, .val (.int p3), .val (.long a), .second, .val (.long b), .second, .val (.long (a * b)), .second, .val (.long x11), .second, .unset] [(.long a), (.long (a * b))])) _
            refine XS.ldiv X0.here hx rfl (hb hby at_104) rfl hc75 ?_
            show Steps p.tables e below (s₁.setTop (mkF m 105 #[.val (.long q1), .second, .val (.long q2), .second, .val (.int p3), .val (.long a), .second, .val (.long b), .second, .val (.long (a * b)), .second, .val (.long x11), .second, .unset] [(.long ((a * b) / a))])) _
            refine XS.lload X0.here hx rfl (hb hby at_105) rfl ?_
            show Steps p.tables e below (s₁.setTop (mkF m 107 #[.val (.long q1), .second, .val (.long q2), .second, .val (.int p3), .val (.long a), .second, .val (.long b), .second, .val (.long (a * b)), .second, .val (.long x11), .second, .unset] [(.long b), (.long ((a * b) / a))])) _
            refine XS.lcmp X0.here hx rfl (hb hby at_107) rfl ?_
            exact k)
        by_cases hc97 : ((a * b) / a) = b
        · have k98 : ∀ t, Steps p.tables e below (s₁.setTop (mkF m 111 #[.val (.long q1), .second, .val (.long q2), .second, .val (.int p3), .val (.long a), .second, .val (.long b), .second, .val (.long (a * b)), .second, .val (.long x11), .second, .unset] [])) t → Steps p.tables e below (s₁.setTop (entryFrame m #[(.long q1), (.long q2), (.int p3)] maxLocals)) t := fun t k => k96 t (by
              show Steps p.tables e below (s₁.setTop (mkF m 108 #[.val (.long q1), .second, .val (.long q2), .second, .val (.int p3), .val (.long a), .second, .val (.long b), .second, .val (.long (a * b)), .second, .val (.long x11), .second, .unset] [(.int (lcmpW ((a * b) / a) b))])) _
              refine XS.ifNo X0.here hx rfl (hb hby at_108) rfl ((if0 _ _).trans (teq ((lw_eq _ _).mpr hc97)).2) ?_
              exact k)
          have k99 : ∀ t, Steps p.tables e below (s₁.setTop (mkF m 118 #[.val (.long q1), .second, .val (.long q2), .second, .val (.int p3), .val (.long a), .second, .val (.long b), .second, .val (.long (a * b)), .second, .val (.int (1 : Int32)), .unset, .unset] [])) t → Steps p.tables e below (s₁.setTop (entryFrame m #[(.long q1), (.long q2), (.int p3)] maxLocals)) t := fun t k => k98 t (by
              show Steps p.tables e below (s₁.setTop (mkF m 111 #[.val (.long q1), .second, .val (.long q2), .second, .val (.int p3), .val (.long a), .second, .val (.long b), .second, .val (.long (a * b)), .second, .val (.long x11), .second, .unset] [])) _
              refine XS.iconst X0.here hx rfl (hb hby at_111) ?_
              show Steps p.tables e below (s₁.setTop (mkF m 112 #[.val (.long q1), .second, .val (.long q2), .second, .val (.int p3), .val (.long a), .second, .val (.long b), .second, .val (.long (a * b)), .second, .val (.long x11), .second, .unset] [(.int (1 : Int32))])) _
              refine XS.goto X0.here hx rfl (pc0 := 112) (pc' := 116) rfl (hb hby at_112) (by decide) (by decide) ?_
              show Steps p.tables e below (s₁.setTop (mkF m 116 #[.val (.long q1), .second, .val (.long q2), .second, .val (.int p3), .val (.long a), .second, .val (.long b), .second, .val (.long (a * b)), .second, .val (.long x11), .second, .unset] [(.int (1 : Int32))])) _
              refine XS.istore X0.here hx rfl (hb hby at_116) rfl (l' := #[.val (.long q1), .second, .val (.long q2), .second, .val (.int p3), .val (.long a), .second, .val (.long b), .second, .val (.long (a * b)), .second, .val (.int (1 : Int32)), .unset, .unset]) rfl ?_
              exact k)
          have k100 : ∀ t, Steps p.tables e below (s₁.setTop (mkF m 120 #[.val (.long q1), .second, .val (.long q2), .second, .val (.int p3), .val (.long a), .second, .val (.long b), .second, .val (.long (a * b)), .second, .val (.int (1 : Int32)), .unset, .unset] [(.int (1 : Int32))])) t → Steps p.tables e below (s₁.setTop (entryFrame m #[(.long q1), (.long q2), (.int p3)] maxLocals)) t := fun t k => k99 t (by
              show Steps p.tables e below (s₁.setTop (mkF m 118 #[.val (.long q1), .second, .val (.long q2), .second, .val (.int p3), .val (.long a), .second, .val (.long b), .second, .val (.long (a * b)), .second, .val (.int (1 : Int32)), .unset, .unset] [])) _
              refine XS.iload X0.here hx rfl (hb hby at_118) rfl ?_
              exact k)
          have k101 : ∀ t, Steps p.tables e below (s₁.setTop (mkF m 123 #[.val (.long q1), .second, .val (.long q2), .second, .val (.int p3), .val (.long a), .second, .val (.long b), .second, .val (.long (a * b)), .second, .val (.int (1 : Int32)), .unset, .unset] [])) t → Steps p.tables e below (s₁.setTop (entryFrame m #[(.long q1), (.long q2), (.int p3)] maxLocals)) t := fun t k => k100 t (by
              show Steps p.tables e below (s₁.setTop (mkF m 120 #[.val (.long q1), .second, .val (.long q2), .second, .val (.int p3), .val (.long a), .second, .val (.long b), .second, .val (.long (a * b)), .second, .val (.int (1 : Int32)), .unset, .unset] [(.int (1 : Int32))])) _
              refine XS.ifNo X0.here hx rfl (hb hby at_120) rfl ((if0 _ _).trans (feq (by decide)).1) ?_
              exact k)
          have k102 : ∀ t, Steps p.tables e below (s₁.setTop (mkF m 137 #[.val (.long q1), .second, .val (.long q2), .second, .val (.int p3), .val (.long a), .second, .val (.long b), .second, .val (.long (a * b)), .second, .val (.int (1 : Int32)), .val (.long (a * b)), .second] [(.long b), (.long a)])) t → Steps p.tables e below (s₁.setTop (entryFrame m #[(.long q1), (.long q2), (.int p3)] maxLocals)) t := fun t k => k101 t (by
              show Steps p.tables e below (s₁.setTop (mkF m 123 #[.val (.long q1), .second, .val (.long q2), .second, .val (.int p3), .val (.long a), .second, .val (.long b), .second, .val (.long (a * b)), .second, .val (.int (1 : Int32)), .unset, .unset] [])) _
              refine XS.lload X0.here hx rfl (hb hby at_123) rfl ?_
              show Steps p.tables e below (s₁.setTop (mkF m 125 #[.val (.long q1), .second, .val (.long q2), .second, .val (.int p3), .val (.long a), .second, .val (.long b), .second, .val (.long (a * b)), .second, .val (.int (1 : Int32)), .unset, .unset] [(.long (a * b))])) _
              refine XS.goto X0.here hx rfl (pc0 := 125) (pc' := 131) rfl (hb hby at_125) (by decide) (by decide) ?_
              show Steps p.tables e below (s₁.setTop (mkF m 131 #[.val (.long q1), .second, .val (.long q2), .second, .val (.int p3), .val (.long a), .second, .val (.long b), .second, .val (.long (a * b)), .second, .val (.int (1 : Int32)), .unset, .unset] [(.long (a * b))])) _
              refine XS.lstore X0.here hx rfl (hb hby at_131) rfl (l' := #[.val (.long q1), .second, .val (.long q2), .second, .val (.int p3), .val (.long a), .second, .val (.long b), .second, .val (.long (a * b)), .second, .val (.int (1 : Int32)), .val (.long (a * b)), .second]) rfl ?_
              show Steps p.tables e below (s₁.setTop (mkF m 133 #[.val (.long q1), .second, .val (.long q2), .second, .val (.int p3), .val (.long a), .second, .val (.long b), .second, .val (.long (a * b)), .second, .val (.int (1 : Int32)), .val (.long (a * b)), .second] [])) _
              refine XS.lload X0.here hx rfl (hb hby at_133) rfl ?_
              show Steps p.tables e below (s₁.setTop (mkF m 135 #[.val (.long q1), .second, .val (.long q2), .second, .val (.int p3), .val (.long a), .second, .val (.long b), .second, .val (.long (a * b)), .second, .val (.int (1 : Int32)), .val (.long (a * b)), .second] [(.long a)])) _
              refine XS.lload X0.here hx rfl (hb hby at_135) rfl ?_
              exact k)
          obtain ⟨_, _, ⟨T103, L103, c103, n103⟩, -, X103, ⟨Lc103, hQ103, l103, y103, z103⟩, st103⟩ := Jvm.LawKit.callS X0 hx (y := (⟨"com/example/crewmatch/crewmatch/Money", "multiplyCapped", "(JJ)J"⟩ : MethodName)) hown (mvT hZ (hw _ (List.mem_of_getElem? (i := 1) rfl))) (mvT hZ (hw _ (List.mem_of_getElem? (i := 2) rfl))) (mvT hZ (hw _ (List.mem_of_getElem? (i := 3) rfl))) (mvT hZ (hw _ (List.mem_of_getElem? (i := 4) rfl))) (by decide) (backOf (W := 0) (rm1 l Z a0 hw [] a b h0 n0 Z0) hZ (hw _ (List.mem_of_getElem? (i := 4) rfl)) (hw _ (List.mem_of_getElem? (i := 3) rfl)) (by decide) (by decide)) (g := (mkF m 137 #[.val (.long q1), .second, .val (.long q2), .second, .val (.int p3), .val (.long a), .second, .val (.long b), .second, .val (.long (a * b)), .second, .val (.int (1 : Int32)), .val (.long (a * b)), .second] [(.long b), (.long a)])) rfl (by rw [hml]; rfl) (argsL := [(.long a), (.long b)]) (rest := []) (lenOf own_pd0 rfl) rfl (by show 2 * 0 + _ ≤ _; exact Nat.le_of_eq rfl) (hb hby at_137) (fun _ _ => ⟨rfl, e0, (by decide : 0 + 0 ≤ _), (by decide : 0 + 0 ≤ _)⟩)
          dsimp only [Pt.U, Pt.locs, Pt.cells, Pt.slots] at X103 l103 y103 z103 st103 hQ103
          subst l103 y103 z103
          obtain ⟨rfl, N103q, eh⟩ := hQ103
          have N103 := Fr.app N0 N103q
          have k104 : ∀ t, Steps p.tables e below (T103.setTop (mkF m 140 #[.val (.long q1), .second, .val (.long q2), .second, .val (.int p3), .val (.long a), .second, .val (.long b), .second, .val (.long (a * b)), .second, .val (.int (1 : Int32)), .val (.long (a * b)), .second] [(.long (own_r a b))])) t → Steps p.tables e below (s₁.setTop (entryFrame m #[(.long q1), (.long q2), (.int p3)] maxLocals)) t := fun t k => k102 t (st103 t k)
          have hv : own_r a b = (a * b) := own_lo (own_ne ha hc75) hb2 hc86 hc97
          have k105 : ∀ t, Steps p.tables e below (T103.setTop (mkF m 151 #[.val (.long q1), .second, .val (.long q2), .second, .val (.int p3), .val (.long a), .second, .val (.long b), .second, .val (.long (a * b)), .second, .val (.int (1 : Int32)), .val (.long (a * b)), .second] [(.int (1 : Int32))])) t → Steps p.tables e below (s₁.setTop (entryFrame m #[(.long q1), (.long q2), (.int p3)] maxLocals)) t := fun t k => k104 t (by
              show Steps p.tables e below (T103.setTop (mkF m 140 #[.val (.long q1), .second, .val (.long q2), .second, .val (.int p3), .val (.long a), .second, .val (.long b), .second, .val (.long (a * b)), .second, .val (.int (1 : Int32)), .val (.long (a * b)), .second] [(.long (own_r a b))])) _
              refine XS.lload X103.here hx rfl (hb hby at_140) rfl ?_
              show Steps p.tables e below (T103.setTop (mkF m 142 #[.val (.long q1), .second, .val (.long q2), .second, .val (.int p3), .val (.long a), .second, .val (.long b), .second, .val (.long (a * b)), .second, .val (.int (1 : Int32)), .val (.long (a * b)), .second] [(.long (a * b)), (.long (own_r a b))])) _
              refine XS.lcmp X103.here hx rfl (hb hby at_142) rfl ?_
              show Steps p.tables e below (T103.setTop (mkF m 143 #[.val (.long q1), .second, .val (.long q2), .second, .val (.int p3), .val (.long a), .second, .val (.long b), .second, .val (.long (a * b)), .second, .val (.int (1 : Int32)), .val (.long (a * b)), .second] [(.int (lcmpW (own_r a b) (a * b)))])) _
              refine XS.ifNo X103.here hx rfl (hb hby at_143) rfl ((if0 _ _).trans (teq ((lw_eq _ _).mpr hv)).2) ?_
              show Steps p.tables e below (T103.setTop (mkF m 146 #[.val (.long q1), .second, .val (.long q2), .second, .val (.int p3), .val (.long a), .second, .val (.long b), .second, .val (.long (a * b)), .second, .val (.int (1 : Int32)), .val (.long (a * b)), .second] [])) _
              refine XS.iconst X103.here hx rfl (hb hby at_146) ?_
              show Steps p.tables e below (T103.setTop (mkF m 147 #[.val (.long q1), .second, .val (.long q2), .second, .val (.int p3), .val (.long a), .second, .val (.long b), .second, .val (.long (a * b)), .second, .val (.int (1 : Int32)), .val (.long (a * b)), .second] [(.int (1 : Int32))])) _
              refine XS.goto X103.here hx rfl (pc0 := 147) (pc' := 151) rfl (hb hby at_147) (by decide) (by decide) ?_
              exact k)
          obtain ⟨fs, hr, hrun, hended, hW, hsame⟩ := X103.leave (v := some (.int (1 : Int32))) (fun h => by rw [Bd.returns] at h; cases h)
          refine ⟨_, _, k105 _ ?_, hrun, hended, _, _, rfl, ?_, ⟨_, rfl⟩, hW, hsame.mono (by decide) (by decide)⟩
          · show Steps p.tables e below (T103.setTop (mkF m 151 #[.val (.long q1), .second, .val (.long q2), .second, .val (.int p3), .val (.long a), .second, .val (.long b), .second, .val (.long (a * b)), .second, .val (.int (1 : Int32)), .val (.long (a * b)), .second] [(.int (1 : Int32))])) _
            exact retN X103 hx (t := .boolean) Bd.returns (by simp) (hb hby at_151) hr
          · show Q0 Z q1 q2 p3 h0 n0 _ T103.heap _
            exact ⟨rfl, N103⟩
        · have k106 : ∀ t, Steps p.tables e below (s₁.setTop (mkF m 115 #[.val (.long q1), .second, .val (.long q2), .second, .val (.int p3), .val (.long a), .second, .val (.long b), .second, .val (.long (a * b)), .second, .val (.long x11), .second, .unset] [])) t → Steps p.tables e below (s₁.setTop (entryFrame m #[(.long q1), (.long q2), (.int p3)] maxLocals)) t := fun t k => k96 t (by
              show Steps p.tables e below (s₁.setTop (mkF m 108 #[.val (.long q1), .second, .val (.long q2), .second, .val (.int p3), .val (.long a), .second, .val (.long b), .second, .val (.long (a * b)), .second, .val (.long x11), .second, .unset] [(.int (lcmpW ((a * b) / a) b))])) _
              refine XS.ifYes X0.here hx rfl (pc0 := 108) (pc' := 115) rfl (hb hby at_108) rfl ((if0 _ _).trans (feq (fun q => hc97 ((lw_eq _ _).mp q))).2) (by decide) (by decide) ?_
              exact k)
          have k107 : ∀ t, Steps p.tables e below (s₁.setTop (mkF m 118 #[.val (.long q1), .second, .val (.long q2), .second, .val (.int p3), .val (.long a), .second, .val (.long b), .second, .val (.long (a * b)), .second, .val (.int (0 : Int32)), .unset, .unset] [])) t → Steps p.tables e below (s₁.setTop (entryFrame m #[(.long q1), (.long q2), (.int p3)] maxLocals)) t := fun t k => k106 t (by
              show Steps p.tables e below (s₁.setTop (mkF m 115 #[.val (.long q1), .second, .val (.long q2), .second, .val (.int p3), .val (.long a), .second, .val (.long b), .second, .val (.long (a * b)), .second, .val (.long x11), .second, .unset] [])) _
              refine XS.iconst X0.here hx rfl (hb hby at_115) ?_
              show Steps p.tables e below (s₁.setTop (mkF m 116 #[.val (.long q1), .second, .val (.long q2), .second, .val (.int p3), .val (.long a), .second, .val (.long b), .second, .val (.long (a * b)), .second, .val (.long x11), .second, .unset] [(.int (0 : Int32))])) _
              refine XS.istore X0.here hx rfl (hb hby at_116) rfl (l' := #[.val (.long q1), .second, .val (.long q2), .second, .val (.int p3), .val (.long a), .second, .val (.long b), .second, .val (.long (a * b)), .second, .val (.int (0 : Int32)), .unset, .unset]) rfl ?_
              exact k)
          have k108 : ∀ t, Steps p.tables e below (s₁.setTop (mkF m 120 #[.val (.long q1), .second, .val (.long q2), .second, .val (.int p3), .val (.long a), .second, .val (.long b), .second, .val (.long (a * b)), .second, .val (.int (0 : Int32)), .unset, .unset] [(.int (0 : Int32))])) t → Steps p.tables e below (s₁.setTop (entryFrame m #[(.long q1), (.long q2), (.int p3)] maxLocals)) t := fun t k => k107 t (by
              show Steps p.tables e below (s₁.setTop (mkF m 118 #[.val (.long q1), .second, .val (.long q2), .second, .val (.int p3), .val (.long a), .second, .val (.long b), .second, .val (.long (a * b)), .second, .val (.int (0 : Int32)), .unset, .unset] [])) _
              refine XS.iload X0.here hx rfl (hb hby at_118) rfl ?_
              exact k)
          have k109 : ∀ t, Steps p.tables e below (s₁.setTop (mkF m 128 #[.val (.long q1), .second, .val (.long q2), .second, .val (.int p3), .val (.long a), .second, .val (.long b), .second, .val (.long (a * b)), .second, .val (.int (0 : Int32)), .unset, .unset] [])) t → Steps p.tables e below (s₁.setTop (entryFrame m #[(.long q1), (.long q2), (.int p3)] maxLocals)) t := fun t k => k108 t (by
              show Steps p.tables e below (s₁.setTop (mkF m 120 #[.val (.long q1), .second, .val (.long q2), .second, .val (.int p3), .val (.long a), .second, .val (.long b), .second, .val (.long (a * b)), .second, .val (.int (0 : Int32)), .unset, .unset] [(.int (0 : Int32))])) _
              refine XS.ifYes X0.here hx rfl (pc0 := 120) (pc' := 128) rfl (hb hby at_120) rfl ((if0 _ _).trans (teq (by decide)).1) (by decide) (by decide) ?_
              exact k)
          have k110 : ∀ t, Steps p.tables e below (s₁.setTop (mkF m 137 #[.val (.long q1), .second, .val (.long q2), .second, .val (.int p3), .val (.long a), .second, .val (.long b), .second, .val (.long (a * b)), .second, .val (.int (0 : Int32)), .val (.long (9223372036854775807 : Int64)), .second] [(.long b), (.long a)])) t → Steps p.tables e below (s₁.setTop (entryFrame m #[(.long q1), (.long q2), (.int p3)] maxLocals)) t := fun t k => k109 t (by
              show Steps p.tables e below (s₁.setTop (mkF m 128 #[.val (.long q1), .second, .val (.long q2), .second, .val (.int p3), .val (.long a), .second, .val (.long b), .second, .val (.long (a * b)), .second, .val (.int (0 : Int32)), .unset, .unset] [])) _
              refine X0.ldc2Long hx hown (mvT hZ (hw _ (List.mem_of_getElem? (i := 0) rfl))) (g := (mkF m 128 #[.val (.long q1), .second, .val (.long q2), .second, .val (.int p3), .val (.long a), .second, .val (.long b), .second, .val (.long (a * b)), .second, .val (.int (0 : Int32)), .unset, .unset] [])) rfl (hb hby at_128) _ ?_
              show Steps p.tables e below (s₁.setTop (mkF m 131 #[.val (.long q1), .second, .val (.long q2), .second, .val (.int p3), .val (.long a), .second, .val (.long b), .second, .val (.long (a * b)), .second, .val (.int (0 : Int32)), .unset, .unset] [(.long (9223372036854775807 : Int64))])) _
              refine XS.lstore X0.here hx rfl (hb hby at_131) rfl (l' := #[.val (.long q1), .second, .val (.long q2), .second, .val (.int p3), .val (.long a), .second, .val (.long b), .second, .val (.long (a * b)), .second, .val (.int (0 : Int32)), .val (.long (9223372036854775807 : Int64)), .second]) rfl ?_
              show Steps p.tables e below (s₁.setTop (mkF m 133 #[.val (.long q1), .second, .val (.long q2), .second, .val (.int p3), .val (.long a), .second, .val (.long b), .second, .val (.long (a * b)), .second, .val (.int (0 : Int32)), .val (.long (9223372036854775807 : Int64)), .second] [])) _
              refine XS.lload X0.here hx rfl (hb hby at_133) rfl ?_
              show Steps p.tables e below (s₁.setTop (mkF m 135 #[.val (.long q1), .second, .val (.long q2), .second, .val (.int p3), .val (.long a), .second, .val (.long b), .second, .val (.long (a * b)), .second, .val (.int (0 : Int32)), .val (.long (9223372036854775807 : Int64)), .second] [(.long a)])) _
              refine XS.lload X0.here hx rfl (hb hby at_135) rfl ?_
              exact k)
          obtain ⟨_, _, ⟨T111, L111, c111, n111⟩, -, X111, ⟨Lc111, hQ111, l111, y111, z111⟩, st111⟩ := Jvm.LawKit.callS X0 hx (y := (⟨"com/example/crewmatch/crewmatch/Money", "multiplyCapped", "(JJ)J"⟩ : MethodName)) hown (mvT hZ (hw _ (List.mem_of_getElem? (i := 1) rfl))) (mvT hZ (hw _ (List.mem_of_getElem? (i := 2) rfl))) (mvT hZ (hw _ (List.mem_of_getElem? (i := 3) rfl))) (mvT hZ (hw _ (List.mem_of_getElem? (i := 4) rfl))) (by decide) (backOf (W := 0) (rm1 l Z a0 hw [] a b h0 n0 Z0) hZ (hw _ (List.mem_of_getElem? (i := 4) rfl)) (hw _ (List.mem_of_getElem? (i := 3) rfl)) (by decide) (by decide)) (g := (mkF m 137 #[.val (.long q1), .second, .val (.long q2), .second, .val (.int p3), .val (.long a), .second, .val (.long b), .second, .val (.long (a * b)), .second, .val (.int (0 : Int32)), .val (.long (9223372036854775807 : Int64)), .second] [(.long b), (.long a)])) rfl (by rw [hml]; rfl) (argsL := [(.long a), (.long b)]) (rest := []) (lenOf own_pd0 rfl) rfl (by show 2 * 0 + _ ≤ _; exact Nat.le_of_eq rfl) (hb hby at_137) (fun _ _ => ⟨rfl, e0, (by decide : 0 + 0 ≤ _), (by decide : 0 + 0 ≤ _)⟩)
          dsimp only [Pt.U, Pt.locs, Pt.cells, Pt.slots] at X111 l111 y111 z111 st111 hQ111
          subst l111 y111 z111
          obtain ⟨rfl, N111q, eh⟩ := hQ111
          have N111 := Fr.app N0 N111q
          have k112 : ∀ t, Steps p.tables e below (T111.setTop (mkF m 140 #[.val (.long q1), .second, .val (.long q2), .second, .val (.int p3), .val (.long a), .second, .val (.long b), .second, .val (.long (a * b)), .second, .val (.int (0 : Int32)), .val (.long (9223372036854775807 : Int64)), .second] [(.long (own_r a b))])) t → Steps p.tables e below (s₁.setTop (entryFrame m #[(.long q1), (.long q2), (.int p3)] maxLocals)) t := fun t k => k110 t (st111 t k)
          have hv : own_r a b = (9223372036854775807 : Int64) := own_hi (own_ne ha hc75) hb2 (fun q => hc97 q.2)
          have k113 : ∀ t, Steps p.tables e below (T111.setTop (mkF m 151 #[.val (.long q1), .second, .val (.long q2), .second, .val (.int p3), .val (.long a), .second, .val (.long b), .second, .val (.long (a * b)), .second, .val (.int (0 : Int32)), .val (.long (9223372036854775807 : Int64)), .second] [(.int (1 : Int32))])) t → Steps p.tables e below (s₁.setTop (entryFrame m #[(.long q1), (.long q2), (.int p3)] maxLocals)) t := fun t k => k112 t (by
              show Steps p.tables e below (T111.setTop (mkF m 140 #[.val (.long q1), .second, .val (.long q2), .second, .val (.int p3), .val (.long a), .second, .val (.long b), .second, .val (.long (a * b)), .second, .val (.int (0 : Int32)), .val (.long (9223372036854775807 : Int64)), .second] [(.long (own_r a b))])) _
              refine XS.lload X111.here hx rfl (hb hby at_140) rfl ?_
              show Steps p.tables e below (T111.setTop (mkF m 142 #[.val (.long q1), .second, .val (.long q2), .second, .val (.int p3), .val (.long a), .second, .val (.long b), .second, .val (.long (a * b)), .second, .val (.int (0 : Int32)), .val (.long (9223372036854775807 : Int64)), .second] [(.long (9223372036854775807 : Int64)), (.long (own_r a b))])) _
              refine XS.lcmp X111.here hx rfl (hb hby at_142) rfl ?_
              show Steps p.tables e below (T111.setTop (mkF m 143 #[.val (.long q1), .second, .val (.long q2), .second, .val (.int p3), .val (.long a), .second, .val (.long b), .second, .val (.long (a * b)), .second, .val (.int (0 : Int32)), .val (.long (9223372036854775807 : Int64)), .second] [(.int (lcmpW (own_r a b) (9223372036854775807 : Int64)))])) _
              refine XS.ifNo X111.here hx rfl (hb hby at_143) rfl ((if0 _ _).trans (teq ((lw_eq _ _).mpr hv)).2) ?_
              show Steps p.tables e below (T111.setTop (mkF m 146 #[.val (.long q1), .second, .val (.long q2), .second, .val (.int p3), .val (.long a), .second, .val (.long b), .second, .val (.long (a * b)), .second, .val (.int (0 : Int32)), .val (.long (9223372036854775807 : Int64)), .second] [])) _
              refine XS.iconst X111.here hx rfl (hb hby at_146) ?_
              show Steps p.tables e below (T111.setTop (mkF m 147 #[.val (.long q1), .second, .val (.long q2), .second, .val (.int p3), .val (.long a), .second, .val (.long b), .second, .val (.long (a * b)), .second, .val (.int (0 : Int32)), .val (.long (9223372036854775807 : Int64)), .second] [(.int (1 : Int32))])) _
              refine XS.goto X111.here hx rfl (pc0 := 147) (pc' := 151) rfl (hb hby at_147) (by decide) (by decide) ?_
              exact k)
          obtain ⟨fs, hr, hrun, hended, hW, hsame⟩ := X111.leave (v := some (.int (1 : Int32))) (fun h => by rw [Bd.returns] at h; cases h)
          refine ⟨_, _, k113 _ ?_, hrun, hended, _, _, rfl, ?_, ⟨_, rfl⟩, hW, hsame.mono (by decide) (by decide)⟩
          · show Steps p.tables e below (T111.setTop (mkF m 151 #[.val (.long q1), .second, .val (.long q2), .second, .val (.int p3), .val (.long a), .second, .val (.long b), .second, .val (.long (a * b)), .second, .val (.int (0 : Int32)), .val (.long (9223372036854775807 : Int64)), .second] [(.int (1 : Int32))])) _
            exact retN X111 hx (t := .boolean) Bd.returns (by simp) (hb hby at_151) hr
          · show Q0 Z q1 q2 p3 h0 n0 _ T111.heap _
            exact ⟨rfl, N111⟩
set_option maxRecDepth 65536 in
set_option maxHeartbeats 40000000 in
theorem comes_1 {Post : Tables → Env → Array Value → State → Outcome → State → Prop} (hpost : ∀ tb e args s v u, (limb_1_1.after args s (.returned v) u = true ∧ limb_1_2.after args s (.returned v) u = true ∧ True) → FrameEnd s (.returned v) u (Jvm.fieldLocs frame_1_writes args s ++ Jvm.arrayLocs frame_1_arrays args s ++ Jvm.staticLocs frame_1_statics s) 0 0 → Post tb e args s (.returned v) u) :
    ArmFor flags0 classFile x code maxLocals ret World_1 tables_1 room_1 Calls_1 rest_1 Pre_1 Post := by
  intro l hfl _ _ p e ha hc hk s m args below hf hA hF happ hP
  obtain ⟨hcalls, hrest, hpre⟩ := hP
  obtain ⟨-, -, -, hnamed, -, -, -, hat⟩ := (Spec.applies_iff hf).mp happ
  obtain ⟨hg, hn⟩ := and_e (Cond.before_iff.mp (show (Jvm.Cond.and given_1 narrow_1).before args s = true from hpre))
  obtain ⟨g1a, g1b⟩ := and_e hg
  obtain ⟨g2a, g2b⟩ := and_e g1b
  obtain ⟨g3a, g3b⟩ := and_e g2b
  obtain ⟨w0, w1, w2, rfl⟩ : ∃ w0 w1 w2 : Value, args = #[w0, w1, w2] := by
    have hs : args.size = 3 := by simpa [Cond.value, given_1] using g1a
    obtain ⟨L⟩ := args
    match L, hs with
    | [w0, w1, w2], _ => exact ⟨w0, w1, w2, rfl⟩
  have hw := fun d (hd : d ∈ tables_1) => atoms_spec (ws := Jvm.Cond.code x code maxLocals ret :: tables_1) hat d (List.mem_cons_of_mem _ hd)
  obtain ⟨i0, ei0⟩ := isL_v g2a
  obtain rfl : w0 = (.long i0) := Option.some.inj ei0
  obtain ⟨i1, ei1⟩ := isL_v g3a
  obtain rfl : w1 = (.long i1) := Option.some.inj ei1
  obtain ⟨i2, ei2⟩ := is_v g3b
  obtain rfl : w2 = (.int i2) := Option.some.inj ei2
  obtain ⟨n, o, h1, h2, h3, _, L, rfl, ⟨rfl, N⟩, hq⟩ := rm0 l s _ hw tables_1 i0 i1 i2  s.heap s.heap.size (Nat.le_refl _)  p e ha hc hk s m _ below hf ((Spec.applies_iff_loose hf).mp happ).1 ⟨rfl, State.Warmed39.refl s, rfl⟩ trivial
  refine ⟨n, _, h1, h2, h3, hpost _ _ _ _ _ _ ⟨Cond.after_iff.mpr rfl, Cond.after_iff.mpr (eq_i res_at (Term.int_eval (1)) rfl), trivial⟩ ⟨hq.1, hq.2.1, (hq.2.2.sift fun y hy => Or.inr (N y hy)).mono (by decide) (by decide)⟩⟩
theorem main_1_1 : Claimed_1_1 := comes_1 fun _ _ _ _ _ _ h hF => ⟨h.1, hF⟩
theorem main_1_2 : Claimed_1_2 := comes_1 fun _ _ _ _ _ _ h hF => ⟨h.2.1, hF⟩
end Jvm.Pilot.@@N@@
namespace Jvm.Pilot.@@N@@
open Jvm Jvm.ClassFile Sem Op Lib Jvm.Free Jvm.Stand Jvm.Pilot.@@N@@.Jvm.D
/-! MADE BY PROGRAM (witnessworld.py) out of the Statement's table words and the real class files: 9 classes; the members and pool entries that the words name. The judged class is class 1, her method 1. -/
namespace start1
open Jvm.ClassFile
def u (s : String) : CpInfo := .utf8 (stringToUtf16 s)
/-- a pool by its gaps: so many unusable entries, then the entry; so many at the end -/
def gap : Nat → List CpInfo → List CpInfo
  | 0, r => r
  | n + 1, r => .unusable :: gap n r
def poolList (es : List (Nat × CpInfo)) (last : Nat) : List CpInfo := es.foldr (fun e r => gap e.1 (e.2 :: r)) (gap last [])
def pool (es : List (Nat × CpInfo)) (last : Nat) : Array CpInfo := ⟨poolList es last⟩
def fileOf (pool : Array CpInfo) (this : Nat) (attrs : Array Attribute := #[]) (ms : Array MethodInfo := #[]) (fl : Nat := 33) (sup : Nat := 0) (ifs : Array Nat := #[]) (fds : Array FieldInfo := #[]) : ClassFile where
  minorVersion := 0
  majorVersion := 65
  constantPool := pool
  accessFlags := fl
  thisClass := this
  superClass := sup
  interfaces := ifs
  fields := fds
  methods := ms
  attributes := attrs
def plain (name : String) (sup : Option ClassId) : Class where
  name := name
  kind := .ordinary
  loader := none
  accessFlags := 33
  super := sup
  interfaces := #[]
  cf := none
  fields := #[]
  methods := #[]
  instanceTypes := #[]
  staticTypes := #[]
  resolved := #[]
  callSites := []
  init := .initialized
  statics := none
  mirror := none

def pool0 : Array CpInfo := pool [(5, u "<init>"), (0, u "()V"), (1, .class_ 10), (1, u "java/lang/Object")] 113

def k0m0 : Method := { name := "<init>", desc := "()V", sig := { parameters := [], returnType := none }, accessFlags := 1, code := none }
/-- java/lang/Object -/
def k0 : Class := { plain "java/lang/Object" none with
  accessFlags := 33
  interfaces := #[]
  cf := some (fileOf pool0 8 #[] #[{ accessFlags := 1, nameIndex := 5, descriptorIndex := 6, attributes := #[] }] 33 0 #[] #[])
  fields := #[]
  methods := #[k0m0]
  instanceTypes := #[]
  staticTypes := #[]
  resolved := Array.replicate 124 none
  statics := none }

def pool1 : Array CpInfo := pool [(2, .class_ 4), (1, u "java/lang/Object"), (0, u "<init>"), (0, u "()V"), (2, .long 9223372036854775807), (1, .methodref 12 13), (0, .class_ 14), (0, .nameAndType 15 16), (0, u "com/example/crewmatch/crewmatch/Money"), (0, u "multiplyCapped"), (0, u "(JJ)J"), (0, .class_ 18), (0, u "com/example/crewmatch/crewmatch/MoneyMultiplyCappedPinLaw"), (2, u "law"), (0, u "(JJI)Z")] 3

def k1m0 : Method := { name := "<init>", desc := "()V", sig := { parameters := [], returnType := none }, accessFlags := 2, code := none }
def k1c1 : Code := { maxStack := 6, maxLocals := 14, code := code, exceptionTable := #[], attributes := #[] }
def k1m1 : Method := { name := "law", desc := "(JJI)Z", sig := { parameters := [.long, .long, .int], returnType := some .boolean }, accessFlags := 9, code := some k1c1 }
/-- com/example/crewmatch/crewmatch/MoneyMultiplyCappedPinLaw -/
def k1 : Class := { plain "com/example/crewmatch/crewmatch/MoneyMultiplyCappedPinLaw" (some 0) with
  accessFlags := 49
  interfaces := #[]
  cf := some (fileOf pool1 17 #[] #[{ accessFlags := 2, nameIndex := 5, descriptorIndex := 6, attributes := #[] }, { accessFlags := 9, nameIndex := 21, descriptorIndex := 22, attributes := #[] }] 49 2 #[] #[])
  fields := #[]
  methods := #[k1m0, k1m1]
  instanceTypes := #[]
  staticTypes := #[]
  resolved := Array.replicate 26 none
  statics := none }

def pool2 : Array CpInfo := pool [(2, .class_ 4), (1, u "java/lang/Object"), (0, u "<init>"), (0, u "()V"), (7, .class_ 16), (1, u "com/example/crewmatch/crewmatch/Money"), (0, u "MAX"), (0, u "Ljava/math/BigDecimal;"), (37, .long 9223372036854775807), (6, u "(JJ)J"), (48, u "multiplyCapped")] 26

def k2m0 : Method := { name := "<init>", desc := "()V", sig := { parameters := [], returnType := none }, accessFlags := 2, code := none }
def k2c1 : Code := { maxStack := 6, maxLocals := 4, code := prog_44_method_4_code, exceptionTable := #[], attributes := #[] }
def k2m1 : Method := { name := "multiplyCapped", desc := "(JJ)J", sig := { parameters := [.long, .long], returnType := some .long }, accessFlags := 8, code := some k2c1 }
/-- com/example/crewmatch/crewmatch/Money -/
def k2 : Class := { plain "com/example/crewmatch/crewmatch/Money" (some 0) with
  accessFlags := 48
  interfaces := #[]
  cf := some (fileOf pool2 14 #[] #[{ accessFlags := 2, nameIndex := 5, descriptorIndex := 6, attributes := #[] }, { accessFlags := 8, nameIndex := 112, descriptorIndex := 63, attributes := #[] }] 48 2 #[] #[{ accessFlags := 24, nameIndex := 17, descriptorIndex := 18, attributes := #[] }])
  fields := #[{ name := "MAX", type := (.object "java/math/BigDecimal"), accessFlags := 24, slot := 0, constantValue := 0 }]
  methods := #[k2m0, k2m1]
  instanceTypes := #[]
  staticTypes := #[(.object "java/math/BigDecimal")]
  resolved := Array.replicate 139 none
  statics := none }

def pool3 : Array CpInfo := pool [(1, u "java/lang/Cloneable"), (0, .class_ 1), (0, u "java/lang/Object"), (0, .class_ 3)] 3

/-- java/lang/Cloneable -/
def k3 : Class := { plain "java/lang/Cloneable" (some 0) with
  accessFlags := 1537
  interfaces := #[]
  cf := some (fileOf pool3 2 #[] #[] 1537 4 #[] #[])
  fields := #[]
  methods := #[]
  instanceTypes := #[]
  staticTypes := #[]
  resolved := Array.replicate 8 none
  statics := none }

def pool4 : Array CpInfo := pool [(1, u "java/io/Serializable"), (0, .class_ 1), (0, u "java/lang/Object"), (0, .class_ 3)] 3

/-- java/io/Serializable -/
def k4 : Class := { plain "java/io/Serializable" (some 0) with
  accessFlags := 1537
  interfaces := #[]
  cf := some (fileOf pool4 2 #[] #[] 1537 4 #[] #[])
  fields := #[]
  methods := #[]
  instanceTypes := #[]
  staticTypes := #[]
  resolved := Array.replicate 8 none
  statics := none }

/-- the primitive byte -/
def k5 : Class := { plain "byte" none with kind := .primitive 'B', accessFlags := 0x411 }
/-- [B -/
def k6 : Class := { plain "[B" (some 0) with kind := .array 5 .byte, interfaces := #[3, 4], accessFlags := 1041 }

/-- the primitive int -/
def k7 : Class := { plain "int" none with kind := .primitive 'I', accessFlags := 0x411 }
/-- [I -/
def k8 : Class := { plain "[I" (some 0) with kind := .array 7 .int, interfaces := #[3, 4], accessFlags := 1041 }

def heap : Heap := #[]
def classes : Array Class := #[k0, k1, k2, k3, k4, k5, k6, k7, k8]
def interned : List (Array UInt16 × Addr) := []
def slotsUsed : Nat := 0
def theMethod : MethodId := ⟨1, 1⟩
def args0 : Array Value := #[.long 5, .long 7, .int 3]
def aboutOver (below : List Frame) : State where
  vm := { classes := classes, interned := interned.toArray }
  heap := heap
  slotsUsed := slotsUsed
  threads := #[{ frames := .invoking theMethod args0 :: below }]
def below0 : List Frame := [.native { method := ⟨0, 0⟩, args := #[] }]
def about1 : State := aboutOver below0
def p0 : Program := .bare "" "" ""
def e0 : Env := launch0.env 0 0 0
theorem w_frames : about1.frames = Frame.invoking theMethod args0 :: below0 := rfl
set_option maxRecDepth 65536 in
theorem w_args : argsFit about1.vm theMethod args0 = true := by decide +kernel
set_option maxRecDepth 65536 in
theorem w_heap : heapFits about1 = true := by decide +kernel
set_option maxRecDepth 65536 in
theorem w_runnable : about1.curStatus? = some .runnable := by decide +kernel
set_option maxRecDepth 65536 in
theorem w_alone : about1.alone = true := by decide +kernel
set_option maxRecDepth 65536 in
theorem w_named : about1.methodNamed? x = some theMethod := by decide +kernel
set_option maxRecDepth 65536 in
theorem w_hears : about1.hears theMethod below0 = true := by decide +kernel
set_option maxRecDepth 65536 in
theorem w_ripe : about1.ripe theMethod args0 below0 = true := by decide +kernel
theorem w_running : about1.status = .running := rfl
set_option maxRecDepth 65536 in
theorem w_room : about1.hasRoom e0.platform room_1 = true :=
  launch0.hasRoom_least _ room_1 (by decide +kernel) (by decide +kernel) (by decide +kernel) (by decide +kernel) (by decide +kernel) (by decide +kernel)
theorem allAtoms_all (ts : List Jvm.Cond) (a : Array Jvm.Value) (st : Jvm.State) : (allAtoms ts).before a st = ts.all (fun c => c.before a st) := by
  induction ts with
  | nil => rfl
  | cons c t ih =>
    show (Jvm.Cond.and c (allAtoms t)).before a st = _
    rw [Jvm.Cond.before_and, ih, List.all_cons]
def words1 : List Jvm.Cond := Jvm.Cond.code x code maxLocals ret :: tables_1
/-- a 'code' word, met by the world's own term for the bytes: nothing is compared byte by byte -/
theorem code_word {y : MethodName} {bytes : ByteArray} {mx : Nat} {rt : Option FieldType} {a : Array Value} {s : State} {m : MethodId} {meth : Method} {c : Code} (h1 : s.methodNamed? y = some m) (h2 : s.vm.method? m = some meth) (h3 : meth.code = some c) (h4 : c.code = bytes)
    (h5 : (c.maxLocals == mx && c.exceptionTable.isEmpty && decide (c.maxStack ≤ mostOperands) && decide (meth.sig.returnType = rt) && !meth.locks && decide (parseMethodDescriptor y.desc = some meth.sig)) = true) : (Jvm.Cond.code y bytes mx rt).before a s = true := by
  simp only [Bool.and_eq_true, beq_iff_eq, Bool.not_eq_true', decide_eq_true_eq] at h5
  obtain ⟨⟨⟨⟨⟨g1, g2⟩, g3⟩, g4⟩, g5⟩, g6⟩ := h5
  simp [Cond.before, Cond.holds, Cond.value, h1, h2, h3, h4, g1, g2, g3, g4, g5, g6]
def isCode : Jvm.Cond → Bool
  | .code _ _ _ _ => true
  | _ => false
theorem all_split {L : List Jvm.Cond} {P : Jvm.Cond → Bool} (h1 : L.all (fun c => isCode c || P c) = true) (h2 : ∀ c ∈ L.filter isCode, P c = true) : L.all P = true := by
  refine List.all_eq_true.mpr fun c hc => ?_
  have h := List.all_eq_true.mp h1 c hc
  rcases Bool.eq_false_or_eq_true (isCode c) with hi | hi
  · exact h2 c (List.mem_filter.mpr ⟨hc, hi⟩)
  · simpa [hi] using h
set_option maxRecDepth 65536 in
theorem w_c0 : (Jvm.Cond.code x code maxLocals ret).before args0 about1 = true := code_word (m := ⟨1, 1⟩) (meth := k1m1) (c := k1c1) (by decide +kernel) rfl rfl rfl (by decide +kernel)
set_option maxRecDepth 65536 in
theorem w_c1 : (Jvm.Cond.code ({ cls := "com/example/crewmatch/crewmatch/Money", name := "multiplyCapped", desc := "(JJ)J" } : Jvm.MethodName) prog_44_method_4_code (4 : Nat) (Option.some Jvm.ClassFile.FieldType.long)).before args0 about1 = true := code_word (m := ⟨2, 1⟩) (meth := k2m1) (c := k2c1) (by decide +kernel) rfl rfl rfl (by decide +kernel)
def codes1 : List Jvm.Cond := [Jvm.Cond.code x code maxLocals ret, Jvm.Cond.code ({ cls := "com/example/crewmatch/crewmatch/Money", name := "multiplyCapped", desc := "(JJ)J" } : Jvm.MethodName) prog_44_method_4_code (4 : Nat) (Option.some Jvm.ClassFile.FieldType.long)]
set_option maxRecDepth 65536 in
theorem codes_eq : words1.filter isCode = codes1 := rfl
theorem w_codes : ∀ c ∈ words1.filter isCode, c.before args0 about1 = true := by
  rw [codes_eq]
  intro c hc
  simp only [codes1, List.mem_cons, List.not_mem_nil, or_false] at hc
  rcases hc with rfl | rfl
  · exact w_c0
  · exact w_c1
set_option maxRecDepth 65536 in
theorem w_t1 : words1.all (fun c => isCode c || c.before args0 about1) = true := by decide +kernel
theorem w_tables : (allAtoms (Jvm.Cond.code x code maxLocals ret :: tables_1)).before args0 about1 = true := by
  rw [allAtoms_all]
  show words1.all (fun c => c.before args0 about1) = true
  refine all_split ?_ w_codes
  rw [w_t1]
set_option maxRecDepth 65536 in
theorem w_case : (Jvm.Cond.and given_1 narrow_1).before args0 about1 = true := by decide +kernel
theorem w_applies : (headSpec (Jvm.Cond.code x code maxLocals ret :: tables_1) room_1).applies x e0.platform about1 = true :=
  (Spec.applies_iff w_frames).mpr ⟨w_running, w_runnable, w_alone, w_named, w_hears, w_ripe, w_room, w_tables⟩
theorem atStart : AtStart classFile x code maxLocals ret World_1 tables_1 room_1 Calls_1 rest_1 Pre_1 launch0 p0 e0 about1 theMethod args0 below0 :=
  ⟨lists_1, trivial, launch0.admits_env _ _ _, launch0.least_env, fairChoices_fair.cas, fairChoices_fair.clock, w_frames, w_args, w_heap, w_applies, trivial, trivial, w_case⟩
end start1
theorem witness_1 : WitnessClaimed_1 := ⟨start1.p0, start1.e0, start1.about1, start1.theMethod, start1.args0, start1.below0, start1.atStart⟩
end Jvm.Pilot.@@N@@
