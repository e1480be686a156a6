import JvmDerived
import JvmDerived.Pilot.@@N@@Statement
import JvmDerived.Pilot.@@N@@Code
set_option linter.unusedVariables false
set_option linter.unusedSimpArgs false
namespace Jvm.RoadKit
open Sem ClassFile Op Lib Jvm.Stand Jvm.Free Jvm.LawKit
section New
variable {p : Program} {l : Launch} {e : Env} {R : Room} {s : State} {m : MethodId} {args : Array Value} {below : List Frame} {meth : Method} {c : Code} {T : State} {locs : List Loc} {cells slots : Nat}
theorem retI (X : Stand p l e R s m args below meth c T locs cells slots) (hx : p.tables.exec = Jvm.exec) {pc : Nat} {Ls : Array Slot} {z : Int32} {rest : List Value} (hret : meth.sig.returnType = some .int) (hd : decode c.code pc = .ok (.ireturn, 1)) {fs : List Frame}
    (hl : ∀ (f : JFrame) (acts : List Action), f.method = m → f.locked = none → f.entered = [] → (doReturn e (T.setTop f) acts (some (.int z))).1 = T.setFrames fs) : Steps p.tables e below (T.setTop (mkF m pc Ls (.int z :: rest))) (T.setFrames fs) := by
  have hm' : T.vm.method? m = some meth := X.method'
  have hn : narrow .int (.int z) = .int z := rfl
  show Steps p.tables e below (T.setTop { method := m, pc := pc, locals := Ls, stack := _ :: rest, locked := none }) _
  jvm_step X.here [X.here.top, hx, hd, hm', hret, hn]
  first | (intro acts; rw [hl _ acts rfl rfl rfl]) | rw [hl _ _ rfl rfl rfl]
  exact Steps.refl _
end New
end Jvm.RoadKit
namespace Jvm.Pilot.@@N@@
open Jvm Jvm.ClassFile Sem Op Lib Jvm.Free Jvm.Stand Jvm.LawKit Jvm.RoadKit Bundle Jvm.Pilot.@@N@@.Jvm.D
theorem own_pd0 : parseMethodDescriptor "(I)Z" = some ⟨[.int], some .boolean⟩ := by decide +kernel
/-- between 0 and 65535 -/
def own_in (s : Int32) : Prop := 0 ≤ s.toInt ∧ s.toInt < 65536
theorem own_and (x m : Int32) (hm : own_in m) : own_in (x &&& m) := by
  have h := c_and x m hm.1
  exact ⟨h.1, Int.lt_of_le_of_lt h.2 hm.2⟩
theorem own_add (x : Int32) : own_in ((256 : Int32) + (x &&& (511 : Int32))) := by
  have h := c_and x (511 : Int32) (by decide)
  have e := c_iadd (256 : Int32) (x &&& (511 : Int32))
  have r := rng32 ((256 : Int32) + (x &&& (511 : Int32)))
  rw [show (511 : Int32).toInt = 511 from by decide] at h
  rw [show (256 : Int32).toInt = 256 from by decide] at e
  constructor <;> omega
theorem own_toNat {s : Int32} (h : own_in s) : s.toBitVec.toNat < 65536 ∧ s.toInt = s.toBitVec.toNat := by
  have e : s.toInt = s.toBitVec.toInt := rfl
  have h1 := h.1; have h2 := h.2
  rw [e, BitVec.toInt_eq_toNat_cond] at h1 h2
  have l := s.toBitVec.isLt
  rw [e, BitVec.toInt_eq_toNat_cond]
  split at h1 <;> split at h2 <;> split <;> omega
theorem own_ofNat {s : Int32} (h : s.toBitVec.toNat < 65536) : own_in s := by
  have e : s.toInt = s.toBitVec.toInt := rfl
  rw [own_in, e, BitVec.toInt_eq_toNat_cond]
  split <;> omega
theorem own_or {a b : Int32} (ha : own_in a) (hb : own_in b) : own_in (a ||| b) := by
  apply own_ofNat
  rw [Int32.toBitVec_or, BitVec.toNat_or]
  exact Nat.or_lt_two_pow (n := 16) (own_toNat ha).1 (own_toNat hb).1
theorem own_hiN {n : Nat} (h : n < 65536) : n &&& 61440 = n / 4096 * 4096 := by
  apply Nat.eq_of_testBit_eq
  intro i
  have e1 : (61440 : Nat) = (2 ^ 4 - 1) <<< 12 := by decide
  have e2 : n / 4096 * 4096 = (n >>> 12) <<< 12 := by rw [Nat.shiftRight_eq_div_pow, Nat.shiftLeft_eq]
  rw [e1, e2, Nat.testBit_and, Nat.testBit_shiftLeft, Nat.testBit_two_pow_sub_one, Nat.testBit_shiftLeft, Nat.testBit_shiftRight]
  by_cases h12 : 12 ≤ i
  · have e3 : 12 + (i - 12) = i := by omega
    rw [e3]
    by_cases h16 : i < 16
    · have e4 : i - 12 < 4 := by omega
      simp [h12, e4]
    · have e5 : n.testBit i = false := Nat.testBit_lt_two_pow (Nat.lt_of_lt_of_le h (Nat.pow_le_pow_right (n := 2) (by decide) (show 16 ≤ i by omega)))
      simp [e5]
  · simp [h12]
theorem own_hi {s : Int32} (h : own_in s) : (s &&& (61440 : Int32)).toInt = s.toInt / 4096 * 4096 := by
  have hs := own_toNat h
  have hm : own_in (61440 : Int32) := by constructor <;> decide
  have e := own_toNat (own_and s (61440 : Int32) hm)
  rw [e.2, Int32.toBitVec_and, BitVec.toNat_and, show (61440 : Int32).toBitVec.toNat = 61440 from by decide, own_hiN hs.1, hs.2]
  omega
/-- what CommandSet.isFailure says of s -/
def own_fail (s : Int32) : Prop := s.toInt / 4096 = 10 ∨ s.toInt / 4096 = 12 ∨ ((s.toInt / 256 = 1 ∨ s.toInt / 256 = 2) ∧ s.toInt ≠ 263 ∧ s.toInt ≠ 278)
instance (s : Int32) : Decidable (own_fail s) := by unfold own_fail; infer_instance
def own_b (s : Int32) : Int32 := if own_fail s then 1 else 0
theorem own_b1 {s : Int32} (h : own_fail s) : own_b s = 1 := if_pos h
theorem own_b0 {s : Int32} (h : ¬ own_fail s) : own_b s = 0 := if_neg h
theorem own_st {x0 x1 x2 x3 v : Int32} {s4 : Slot} (h : One s4) : storeLocals #[.val (.int x0), .val (.int x1), .val (.int x2), .val (.int x3), s4, .unset, .unset] 4 (.int v) = some #[.val (.int x0), .val (.int x1), .val (.int x2), .val (.int x3), .val (.int v), .unset, .unset] := by
  rcases h with rfl | ⟨w, rfl, hw⟩
  · rfl
  · cases w <;> first | rfl | (simp [Value.category] at hw)
theorem d1_0 : decode prog_24_method_4_code 0 = .ok (.iload_n 0, 1) := by decide +kernel
theorem d1_1 : decode prog_24_method_4_code 1 = .ok (.ldc 102, 2) := by decide +kernel
theorem d1_3 : decode prog_24_method_4_code 3 = .ok (.iand, 1) := by decide +kernel
theorem d1_4 : decode prog_24_method_4_code 4 = .ok (.istore_n 1, 1) := by decide +kernel
theorem d1_5 : decode prog_24_method_4_code 5 = .ok (.iload_n 1, 1) := by decide +kernel
theorem d1_6 : decode prog_24_method_4_code 6 = .ok (.ldc 103, 2) := by decide +kernel
theorem d1_8 : decode prog_24_method_4_code 8 = .ok (.if_icmp .eq 9, 3) := by decide +kernel
theorem d1_11 : decode prog_24_method_4_code 11 = .ok (.iload_n 1, 1) := by decide +kernel
theorem d1_12 : decode prog_24_method_4_code 12 = .ok (.ldc 104, 2) := by decide +kernel
theorem d1_14 : decode prog_24_method_4_code 14 = .ok (.if_icmp .ne 8, 3) := by decide +kernel
theorem d1_17 : decode prog_24_method_4_code 17 = .ok (.iconst 1, 1) := by decide +kernel
theorem d1_18 : decode prog_24_method_4_code 18 = .ok (.istore_n 2, 1) := by decide +kernel
theorem d1_19 : decode prog_24_method_4_code 19 = .ok (.goto 42, 3) := by decide +kernel
theorem d1_22 : decode prog_24_method_4_code 22 = .ok (.iload_n 0, 1) := by decide +kernel
theorem d1_23 : decode prog_24_method_4_code 23 = .ok (.sipush 256, 3) := by decide +kernel
theorem d1_26 : decode prog_24_method_4_code 26 = .ok (.if_icmp .lt 33, 3) := by decide +kernel
theorem d1_29 : decode prog_24_method_4_code 29 = .ok (.iload_n 0, 1) := by decide +kernel
theorem d1_30 : decode prog_24_method_4_code 30 = .ok (.sipush 767, 3) := by decide +kernel
theorem d1_33 : decode prog_24_method_4_code 33 = .ok (.if_icmp .gt 26, 3) := by decide +kernel
theorem d1_36 : decode prog_24_method_4_code 36 = .ok (.iload_n 0, 1) := by decide +kernel
theorem d1_37 : decode prog_24_method_4_code 37 = .ok (.sipush 263, 3) := by decide +kernel
theorem d1_40 : decode prog_24_method_4_code 40 = .ok (.if_icmp .eq 14, 3) := by decide +kernel
theorem d1_43 : decode prog_24_method_4_code 43 = .ok (.iload_n 0, 1) := by decide +kernel
theorem d1_44 : decode prog_24_method_4_code 44 = .ok (.sipush 278, 3) := by decide +kernel
theorem d1_47 : decode prog_24_method_4_code 47 = .ok (.if_icmp .eq 7, 3) := by decide +kernel
theorem d1_50 : decode prog_24_method_4_code 50 = .ok (.iconst 1, 1) := by decide +kernel
theorem d1_51 : decode prog_24_method_4_code 51 = .ok (.goto 4, 3) := by decide +kernel
theorem d1_54 : decode prog_24_method_4_code 54 = .ok (.iconst 0, 1) := by decide +kernel
theorem d1_55 : decode prog_24_method_4_code 55 = .ok (.istore_n 2, 1) := by decide +kernel
theorem d1_56 : decode prog_24_method_4_code 56 = .ok (.goto 5, 3) := by decide +kernel
theorem d1_59 : decode prog_24_method_4_code 59 = .ok (.iconst 0, 1) := by decide +kernel
theorem d1_60 : decode prog_24_method_4_code 60 = .ok (.istore_n 2, 1) := by decide +kernel
theorem d1_61 : decode prog_24_method_4_code 61 = .ok (.iload_n 2, 1) := by decide +kernel
theorem d1_62 : decode prog_24_method_4_code 62 = .ok (.ireturn, 1) := by decide +kernel
theorem pn_1 : plainName "com/example/modalis/modalis/dicom/net/CommandSet" = true := by first | (simp [plainName, overriddenIn]; done) | decide +kernel
theorem ef_1 (m : MethodId) (x0 : Int32) : entryFrame m #[(.int x0)] 3 = mkF m 0 #[.val (.int x0), .unset, .unset] [] := by first | (simp [entryFrame, mkF, argsToLocals, Value.category]; done) | rfl
def Q1 (Z : State) (p1 : Int32) (h0 : Heap) (n0 : Nat) (v : Option Value) (h : Heap) (L : List Loc) : Prop := v = some (.int (own_b p1)) ∧ Fr n0 L ∧ h = h0
set_option maxRecDepth 65536 in
set_option maxHeartbeats 40000000 in
theorem rm1 (l : Launch) (Z : State) (a0 : Array Value) (hw : ∀ d ∈ tables_1, d.before a0 Z = true) (ws : List Jvm.Cond) (p1 : Int32)  (h0 : Heap) (n0 : Nat) (Z0 : n0 ≤ h0.size) (hin : own_in p1) :
    MetFree l (⟨"com/example/modalis/modalis/dicom/net/CommandSet", "isFailure", "(I)Z"⟩ : MethodName) (head1 (Jvm.Cond.code (⟨"com/example/modalis/modalis/dicom/net/CommandSet", "isFailure", "(I)Z"⟩ : MethodName) prog_24_method_4_code 3 (some .boolean) :: ws) ({ frames := 0, cells := 0, slots := 0, locals := 0 } : Room)) (fun a U => a = #[(.int p1)] ∧ Z.Warmed39 U.vm ∧ U.heap = h0) (fun _ _ _ _ _ => True) (fun _ U o U' => ∃ v L, o = .returned v ∧ Q1 Z p1 h0 n0 v U'.heap L ∧ FrameEnd U o U' L ({ frames := 0, cells := 0, slots := 0, locals := 0 } : Room).cells ({ frames := 0, cells := 0, slots := 0, locals := 0 } : Room).slots) := by
  refine MetFree.of_bodySF (plainFor_of_name pn_1) hisR ?_
  intro p e s m args below meth c s₁ Bd hml0 hP hK
  obtain ⟨rfl, hZ, hh⟩ := hP
  have hx := Bd.exec
  have hby := Bd.bytes
  have hml : c.maxLocals = 3 := hml0
  have hown : s.vm.findClass "com/example/modalis/modalis/dicom/net/CommandSet" = some m.cls := findClass_of_methodNamed Bd.named
  have hnm := (name_of_methodNamed Bd.named Bd.method).1
  have X0 : Stand p l e ({ frames := 0, cells := 0, slots := 0, locals := 0 } : Room) s m #[(.int p1)] below meth c s₁ [] 0 0 := Stand.of_body Bd
  have e0 : s₁.heap = h0 := by rw [← hh, Bd.state]; rfl
  have N0 := Fr.nil n0
  have pre0 : ∀ t, Steps p.tables e below (s₁.setTop (mkF m 0 #[.val (.int p1), .unset, .unset] [])) t → Steps p.tables e below (s₁.setTop (entryFrame m #[(.int p1)] 3)) t := fun t k => castTop (ef_1 m p1) k
  have k1 : ∀ t, Steps p.tables e below (s₁.setTop (mkF m 8 #[.val (.int p1), .val (.int (p1 &&& (61440 : Int32))), .unset] [(.int (40960 : Int32)), (.int (p1 &&& (61440 : Int32)))])) t → Steps p.tables e below (s₁.setTop (entryFrame m #[(.int p1)] 3)) t := fun t k => pre0 t (by
      show Steps p.tables e below (s₁.setTop (mkF m 0 #[.val (.int p1), .unset, .unset] [])) _
      refine XS.iloadN X0.here hx rfl (hb hby d1_0) rfl ?_
      show Steps p.tables e below (s₁.setTop (mkF m 1 #[.val (.int p1), .unset, .unset] [(.int p1)])) _
      refine X0.ldcInt hx hown (mvT hZ (hw _ (List.mem_of_getElem? (i := 5) rfl))) (g := (mkF m 1 #[.val (.int p1), .unset, .unset] [(.int p1)])) rfl (hb hby d1_1) _ ?_
      show Steps p.tables e below (s₁.setTop (mkF m 3 #[.val (.int p1), .unset, .unset] [(.int (61440 : Int32)), (.int p1)])) _
      refine XS.iand X0.here hx rfl (hb hby d1_3) rfl ?_
      show Steps p.tables e below (s₁.setTop (mkF m 4 #[.val (.int p1), .unset, .unset] [(.int (p1 &&& (61440 : Int32)))])) _
      refine XS.istoreN X0.here hx rfl (hb hby d1_4) rfl (l' := #[.val (.int p1), .val (.int (p1 &&& (61440 : Int32))), .unset]) rfl ?_
      show Steps p.tables e below (s₁.setTop (mkF m 5 #[.val (.int p1), .val (.int (p1 &&& (61440 : Int32))), .unset] [])) _
      refine XS.iloadN X0.here hx rfl (hb hby d1_5) rfl ?_
      show Steps p.tables e below (s₁.setTop (mkF m 6 #[.val (.int p1), .val (.int (p1 &&& (61440 : Int32))), .unset] [(.int (p1 &&& (61440 : Int32)))])) _
      refine X0.ldcInt hx hown (mvT hZ (hw _ (List.mem_of_getElem? (i := 6) rfl))) (g := (mkF m 6 #[.val (.int p1), .val (.int (p1 &&& (61440 : Int32))), .unset] [(.int (p1 &&& (61440 : Int32)))])) rfl (hb hby d1_6) _ ?_
      exact k)
  by_cases hc2 : (p1 &&& (61440 : Int32)) = (40960 : Int32)
  · have k3 : ∀ t, Steps p.tables e below (s₁.setTop (mkF m 17 #[.val (.int p1), .val (.int (p1 &&& (61440 : Int32))), .unset] [])) t → Steps p.tables e below (s₁.setTop (entryFrame m #[(.int p1)] 3)) t := fun t k => k1 t (by
        show Steps p.tables e below (s₁.setTop (mkF m 8 #[.val (.int p1), .val (.int (p1 &&& (61440 : Int32))), .unset] [(.int (40960 : Int32)), (.int (p1 &&& (61440 : Int32)))])) _
        refine XS.icmpYes X0.here hx rfl (pc0 := 8) (pc' := 17) rfl (hb hby d1_8) rfl (teq hc2).1 (by decide) (by decide) ?_
        exact k)
    have k4 : ∀ t, Steps p.tables e below (s₁.setTop (mkF m 62 #[.val (.int p1), .val (.int (p1 &&& (61440 : Int32))), .val (.int (1 : Int32))] [(.int (1 : Int32))])) t → Steps p.tables e below (s₁.setTop (entryFrame m #[(.int p1)] 3)) t := fun t k => k3 t (by
        show Steps p.tables e below (s₁.setTop (mkF m 17 #[.val (.int p1), .val (.int (p1 &&& (61440 : Int32))), .unset] [])) _
        refine XS.iconst X0.here hx rfl (hb hby d1_17) ?_
        show Steps p.tables e below (s₁.setTop (mkF m 18 #[.val (.int p1), .val (.int (p1 &&& (61440 : Int32))), .unset] [(.int (1 : Int32))])) _
        refine XS.istoreN X0.here hx rfl (hb hby d1_18) rfl (l' := #[.val (.int p1), .val (.int (p1 &&& (61440 : Int32))), .val (.int (1 : Int32))]) rfl ?_
        show Steps p.tables e below (s₁.setTop (mkF m 19 #[.val (.int p1), .val (.int (p1 &&& (61440 : Int32))), .val (.int (1 : Int32))] [])) _
        refine XS.goto X0.here hx rfl (pc0 := 19) (pc' := 61) rfl (hb hby d1_19) (by decide) (by decide) ?_
        show Steps p.tables e below (s₁.setTop (mkF m 61 #[.val (.int p1), .val (.int (p1 &&& (61440 : Int32))), .val (.int (1 : Int32))] [])) _
        refine XS.iloadN X0.here hx rfl (hb hby d1_61) rfl ?_
        exact k)
    have hh := own_hi hin
    have i1 := hin.1
    have i2 := hin.2
    have ef : own_fail p1 := by
      simp only [← Int32.toInt_inj, Int32.lt_iff_toInt_lt] at hc2
      simp only [show (40960 : Int32).toInt = 40960 from by decide, show (49152 : Int32).toInt = 49152 from by decide, show (256 : Int32).toInt = 256 from by decide, show (767 : Int32).toInt = 767 from by decide, show (263 : Int32).toInt = 263 from by decide, show (278 : Int32).toInt = 278 from by decide, hh] at hc2
      unfold own_fail
      omega
    obtain ⟨fs, hr, hrun, hended, hW, hsame⟩ := X0.leave (v := some (.int (1 : Int32))) (fun h => by rw [Bd.returns] at h; cases h)
    refine ⟨_, _, k4 _ ?_, hrun, hended, _, _, rfl, ?_, ⟨_, rfl⟩, hW, hsame.mono (by decide) (by decide)⟩
    · show Steps p.tables e below (s₁.setTop (mkF m 62 #[.val (.int p1), .val (.int (p1 &&& (61440 : Int32))), .val (.int (1 : Int32))] [(.int (1 : Int32))])) _
      exact retN X0 hx (t := .boolean) Bd.returns (by simp) (hb hby d1_62) hr
    · show Q1 Z p1 h0 n0 _ s₁.heap _
      rw [e0]
      exact ⟨by rw [own_b1 ef], N0, rfl⟩
  · have k5 : ∀ t, Steps p.tables e below (s₁.setTop (mkF m 11 #[.val (.int p1), .val (.int (p1 &&& (61440 : Int32))), .unset] [])) t → Steps p.tables e below (s₁.setTop (entryFrame m #[(.int p1)] 3)) t := fun t k => k1 t (by
        show Steps p.tables e below (s₁.setTop (mkF m 8 #[.val (.int p1), .val (.int (p1 &&& (61440 : Int32))), .unset] [(.int (40960 : Int32)), (.int (p1 &&& (61440 : Int32)))])) _
        refine XS.icmpNo X0.here hx rfl (hb hby d1_8) rfl (feq hc2).1 ?_
        exact k)
    have k6 : ∀ t, Steps p.tables e below (s₁.setTop (mkF m 14 #[.val (.int p1), .val (.int (p1 &&& (61440 : Int32))), .unset] [(.int (49152 : Int32)), (.int (p1 &&& (61440 : Int32)))])) t → Steps p.tables e below (s₁.setTop (entryFrame m #[(.int p1)] 3)) t := fun t k => k5 t (by
        show Steps p.tables e below (s₁.setTop (mkF m 11 #[.val (.int p1), .val (.int (p1 &&& (61440 : Int32))), .unset] [])) _
        refine XS.iloadN X0.here hx rfl (hb hby d1_11) rfl ?_
        show Steps p.tables e below (s₁.setTop (mkF m 12 #[.val (.int p1), .val (.int (p1 &&& (61440 : Int32))), .unset] [(.int (p1 &&& (61440 : Int32)))])) _
        refine X0.ldcInt hx hown (mvT hZ (hw _ (List.mem_of_getElem? (i := 7) rfl))) (g := (mkF m 12 #[.val (.int p1), .val (.int (p1 &&& (61440 : Int32))), .unset] [(.int (p1 &&& (61440 : Int32)))])) rfl (hb hby d1_12) _ ?_
        exact k)
    by_cases hc7 : (p1 &&& (61440 : Int32)) = (49152 : Int32)
    · have k8 : ∀ t, Steps p.tables e below (s₁.setTop (mkF m 17 #[.val (.int p1), .val (.int (p1 &&& (61440 : Int32))), .unset] [])) t → Steps p.tables e below (s₁.setTop (entryFrame m #[(.int p1)] 3)) t := fun t k => k6 t (by
          show Steps p.tables e below (s₁.setTop (mkF m 14 #[.val (.int p1), .val (.int (p1 &&& (61440 : Int32))), .unset] [(.int (49152 : Int32)), (.int (p1 &&& (61440 : Int32)))])) _
          refine XS.icmpNo X0.here hx rfl (hb hby d1_14) rfl (teq hc7).2 ?_
          exact k)
      have k9 : ∀ t, Steps p.tables e below (s₁.setTop (mkF m 62 #[.val (.int p1), .val (.int (p1 &&& (61440 : Int32))), .val (.int (1 : Int32))] [(.int (1 : Int32))])) t → Steps p.tables e below (s₁.setTop (entryFrame m #[(.int p1)] 3)) t := fun t k => k8 t (by
          show Steps p.tables e below (s₁.setTop (mkF m 17 #[.val (.int p1), .val (.int (p1 &&& (61440 : Int32))), .unset] [])) _
          refine XS.iconst X0.here hx rfl (hb hby d1_17) ?_
          show Steps p.tables e below (s₁.setTop (mkF m 18 #[.val (.int p1), .val (.int (p1 &&& (61440 : Int32))), .unset] [(.int (1 : Int32))])) _
          refine XS.istoreN X0.here hx rfl (hb hby d1_18) rfl (l' := #[.val (.int p1), .val (.int (p1 &&& (61440 : Int32))), .val (.int (1 : Int32))]) rfl ?_
          show Steps p.tables e below (s₁.setTop (mkF m 19 #[.val (.int p1), .val (.int (p1 &&& (61440 : Int32))), .val (.int (1 : Int32))] [])) _
          refine XS.goto X0.here hx rfl (pc0 := 19) (pc' := 61) rfl (hb hby d1_19) (by decide) (by decide) ?_
          show Steps p.tables e below (s₁.setTop (mkF m 61 #[.val (.int p1), .val (.int (p1 &&& (61440 : Int32))), .val (.int (1 : Int32))] [])) _
          refine XS.iloadN X0.here hx rfl (hb hby d1_61) rfl ?_
          exact k)
      have hh := own_hi hin
      have i1 := hin.1
      have i2 := hin.2
      have ef : own_fail p1 := by
        simp only [← Int32.toInt_inj, Int32.lt_iff_toInt_lt] at hc2
        simp only [← Int32.toInt_inj, Int32.lt_iff_toInt_lt] at hc7
        simp only [show (40960 : Int32).toInt = 40960 from by decide, show (49152 : Int32).toInt = 49152 from by decide, show (256 : Int32).toInt = 256 from by decide, show (767 : Int32).toInt = 767 from by decide, show (263 : Int32).toInt = 263 from by decide, show (278 : Int32).toInt = 278 from by decide, hh] at hc2 hc7
        unfold own_fail
        omega
      obtain ⟨fs, hr, hrun, hended, hW, hsame⟩ := X0.leave (v := some (.int (1 : Int32))) (fun h => by rw [Bd.returns] at h; cases h)
      refine ⟨_, _, k9 _ ?_, hrun, hended, _, _, rfl, ?_, ⟨_, rfl⟩, hW, hsame.mono (by decide) (by decide)⟩
      · show Steps p.tables e below (s₁.setTop (mkF m 62 #[.val (.int p1), .val (.int (p1 &&& (61440 : Int32))), .val (.int (1 : Int32))] [(.int (1 : Int32))])) _
        exact retN X0 hx (t := .boolean) Bd.returns (by simp) (hb hby d1_62) hr
      · show Q1 Z p1 h0 n0 _ s₁.heap _
        rw [e0]
        exact ⟨by rw [own_b1 ef], N0, rfl⟩
    · have k10 : ∀ t, Steps p.tables e below (s₁.setTop (mkF m 22 #[.val (.int p1), .val (.int (p1 &&& (61440 : Int32))), .unset] [])) t → Steps p.tables e below (s₁.setTop (entryFrame m #[(.int p1)] 3)) t := fun t k => k6 t (by
          show Steps p.tables e below (s₁.setTop (mkF m 14 #[.val (.int p1), .val (.int (p1 &&& (61440 : Int32))), .unset] [(.int (49152 : Int32)), (.int (p1 &&& (61440 : Int32)))])) _
          refine XS.icmpYes X0.here hx rfl (pc0 := 14) (pc' := 22) rfl (hb hby d1_14) rfl (feq hc7).2 (by decide) (by decide) ?_
          exact k)
      have k11 : ∀ t, Steps p.tables e below (s₁.setTop (mkF m 26 #[.val (.int p1), .val (.int (p1 &&& (61440 : Int32))), .unset] [(.int (256 : Int32)), (.int p1)])) t → Steps p.tables e below (s₁.setTop (entryFrame m #[(.int p1)] 3)) t := fun t k => k10 t (by
          show Steps p.tables e below (s₁.setTop (mkF m 22 #[.val (.int p1), .val (.int (p1 &&& (61440 : Int32))), .unset] [])) _
          refine XS.iloadN X0.here hx rfl (hb hby d1_22) rfl ?_
          show Steps p.tables e below (s₁.setTop (mkF m 23 #[.val (.int p1), .val (.int (p1 &&& (61440 : Int32))), .unset] [(.int p1)])) _
          refine XS.sipush X0.here hx rfl (hb hby d1_23) ?_
          exact k)
      by_cases hc12 : p1 < (256 : Int32)
      · have k13 : ∀ t, Steps p.tables e below (s₁.setTop (mkF m 59 #[.val (.int p1), .val (.int (p1 &&& (61440 : Int32))), .unset] [])) t → Steps p.tables e below (s₁.setTop (entryFrame m #[(.int p1)] 3)) t := fun t k => k11 t (by
            show Steps p.tables e below (s₁.setTop (mkF m 26 #[.val (.int p1), .val (.int (p1 &&& (61440 : Int32))), .unset] [(.int (256 : Int32)), (.int p1)])) _
            refine XS.icmpYes X0.here hx rfl (pc0 := 26) (pc' := 59) rfl (hb hby d1_26) rfl (tlt hc12).1 (by decide) (by decide) ?_
            exact k)
        have k14 : ∀ t, Steps p.tables e below (s₁.setTop (mkF m 62 #[.val (.int p1), .val (.int (p1 &&& (61440 : Int32))), .val (.int (0 : Int32))] [(.int (0 : Int32))])) t → Steps p.tables e below (s₁.setTop (entryFrame m #[(.int p1)] 3)) t := fun t k => k13 t (by
            show Steps p.tables e below (s₁.setTop (mkF m 59 #[.val (.int p1), .val (.int (p1 &&& (61440 : Int32))), .unset] [])) _
            refine XS.iconst X0.here hx rfl (hb hby d1_59) ?_
            show Steps p.tables e below (s₁.setTop (mkF m 60 #[.val (.int p1), .val (.int (p1 &&& (61440 : Int32))), .unset] [(.int (0 : Int32))])) _
            refine XS.istoreN X0.here hx rfl (hb hby d1_60) rfl (l' := #[.val (.int p1), .val (.int (p1 &&& (61440 : Int32))), .val (.int (0 : Int32))]) rfl ?_
            show Steps p.tables e below (s₁.setTop (mkF m 61 #[.val (.int p1), .val (.int (p1 &&& (61440 : Int32))), .val (.int (0 : Int32))] [])) _
            refine XS.iloadN X0.here hx rfl (hb hby d1_61) rfl ?_
            exact k)
        have hh := own_hi hin
        have i1 := hin.1
        have i2 := hin.2
        have ef : ¬ own_fail p1 := by
          simp only [← Int32.toInt_inj, Int32.lt_iff_toInt_lt] at hc2
          simp only [← Int32.toInt_inj, Int32.lt_iff_toInt_lt] at hc7
          simp only [← Int32.toInt_inj, Int32.lt_iff_toInt_lt] at hc12
          simp only [show (40960 : Int32).toInt = 40960 from by decide, show (49152 : Int32).toInt = 49152 from by decide, show (256 : Int32).toInt = 256 from by decide, show (767 : Int32).toInt = 767 from by decide, show (263 : Int32).toInt = 263 from by decide, show (278 : Int32).toInt = 278 from by decide, hh] at hc2 hc7 hc12
          unfold own_fail
          omega
        obtain ⟨fs, hr, hrun, hended, hW, hsame⟩ := X0.leave (v := some (.int (0 : Int32))) (fun h => by rw [Bd.returns] at h; cases h)
        refine ⟨_, _, k14 _ ?_, hrun, hended, _, _, rfl, ?_, ⟨_, rfl⟩, hW, hsame.mono (by decide) (by decide)⟩
        · show Steps p.tables e below (s₁.setTop (mkF m 62 #[.val (.int p1), .val (.int (p1 &&& (61440 : Int32))), .val (.int (0 : Int32))] [(.int (0 : Int32))])) _
          exact retN X0 hx (t := .boolean) Bd.returns (by simp) (hb hby d1_62) hr
        · show Q1 Z p1 h0 n0 _ s₁.heap _
          rw [e0]
          exact ⟨by rw [own_b0 ef], N0, rfl⟩
      · have k15 : ∀ t, Steps p.tables e below (s₁.setTop (mkF m 29 #[.val (.int p1), .val (.int (p1 &&& (61440 : Int32))), .unset] [])) t → Steps p.tables e below (s₁.setTop (entryFrame m #[(.int p1)] 3)) t := fun t k => k11 t (by
            show Steps p.tables e below (s₁.setTop (mkF m 26 #[.val (.int p1), .val (.int (p1 &&& (61440 : Int32))), .unset] [(.int (256 : Int32)), (.int p1)])) _
            refine XS.icmpNo X0.here hx rfl (hb hby d1_26) rfl (flt hc12).1 ?_
            exact k)
        have k16 : ∀ t, Steps p.tables e below (s₁.setTop (mkF m 33 #[.val (.int p1), .val (.int (p1 &&& (61440 : Int32))), .unset] [(.int (767 : Int32)), (.int p1)])) t → Steps p.tables e below (s₁.setTop (entryFrame m #[(.int p1)] 3)) t := fun t k => k15 t (by
            show Steps p.tables e below (s₁.setTop (mkF m 29 #[.val (.int p1), .val (.int (p1 &&& (61440 : Int32))), .unset] [])) _
            refine XS.iloadN X0.here hx rfl (hb hby d1_29) rfl ?_
            show Steps p.tables e below (s₁.setTop (mkF m 30 #[.val (.int p1), .val (.int (p1 &&& (61440 : Int32))), .unset] [(.int p1)])) _
            refine XS.sipush X0.here hx rfl (hb hby d1_30) ?_
            exact k)
        by_cases hc17 : (767 : Int32) < p1
        · have k18 : ∀ t, Steps p.tables e below (s₁.setTop (mkF m 59 #[.val (.int p1), .val (.int (p1 &&& (61440 : Int32))), .unset] [])) t → Steps p.tables e below (s₁.setTop (entryFrame m #[(.int p1)] 3)) t := fun t k => k16 t (by
              show Steps p.tables e below (s₁.setTop (mkF m 33 #[.val (.int p1), .val (.int (p1 &&& (61440 : Int32))), .unset] [(.int (767 : Int32)), (.int p1)])) _
              refine XS.icmpYes X0.here hx rfl (pc0 := 33) (pc' := 59) rfl (hb hby d1_33) rfl (tlt hc17).2.2.1 (by decide) (by decide) ?_
              exact k)
          have k19 : ∀ t, Steps p.tables e below (s₁.setTop (mkF m 62 #[.val (.int p1), .val (.int (p1 &&& (61440 : Int32))), .val (.int (0 : Int32))] [(.int (0 : Int32))])) t → Steps p.tables e below (s₁.setTop (entryFrame m #[(.int p1)] 3)) t := fun t k => k18 t (by
              show Steps p.tables e below (s₁.setTop (mkF m 59 #[.val (.int p1), .val (.int (p1 &&& (61440 : Int32))), .unset] [])) _
              refine XS.iconst X0.here hx rfl (hb hby d1_59) ?_
              show Steps p.tables e below (s₁.setTop (mkF m 60 #[.val (.int p1), .val (.int (p1 &&& (61440 : Int32))), .unset] [(.int (0 : Int32))])) _
              refine XS.istoreN X0.here hx rfl (hb hby d1_60) rfl (l' := #[.val (.int p1), .val (.int (p1 &&& (61440 : Int32))), .val (.int (0 : Int32))]) rfl ?_
              show Steps p.tables e below (s₁.setTop (mkF m 61 #[.val (.int p1), .val (.int (p1 &&& (61440 : Int32))), .val (.int (0 : Int32))] [])) _
              refine XS.iloadN X0.here hx rfl (hb hby d1_61) rfl ?_
              exact k)
          have hh := own_hi hin
          have i1 := hin.1
          have i2 := hin.2
          have ef : ¬ own_fail p1 := by
            simp only [← Int32.toInt_inj, Int32.lt_iff_toInt_lt] at hc2
            simp only [← Int32.toInt_inj, Int32.lt_iff_toInt_lt] at hc7
            simp only [← Int32.toInt_inj, Int32.lt_iff_toInt_lt] at hc12
            simp only [← Int32.toInt_inj, Int32.lt_iff_toInt_lt] at hc17
            simp only [show (40960 : Int32).toInt = 40960 from by decide, show (49152 : Int32).toInt = 49152 from by decide, show (256 : Int32).toInt = 256 from by decide, show (767 : Int32).toInt = 767 from by decide, show (263 : Int32).toInt = 263 from by decide, show (278 : Int32).toInt = 278 from by decide, hh] at hc2 hc7 hc12 hc17
            unfold own_fail
            omega
          obtain ⟨fs, hr, hrun, hended, hW, hsame⟩ := X0.leave (v := some (.int (0 : Int32))) (fun h => by rw [Bd.returns] at h; cases h)
          refine ⟨_, _, k19 _ ?_, hrun, hended, _, _, rfl, ?_, ⟨_, rfl⟩, hW, hsame.mono (by decide) (by decide)⟩
          · show Steps p.tables e below (s₁.setTop (mkF m 62 #[.val (.int p1), .val (.int (p1 &&& (61440 : Int32))), .val (.int (0 : Int32))] [(.int (0 : Int32))])) _
            exact retN X0 hx (t := .boolean) Bd.returns (by simp) (hb hby d1_62) hr
          · show Q1 Z p1 h0 n0 _ s₁.heap _
            rw [e0]
            exact ⟨by rw [own_b0 ef], N0, rfl⟩
        · have k20 : ∀ t, Steps p.tables e below (s₁.setTop (mkF m 36 #[.val (.int p1), .val (.int (p1 &&& (61440 : Int32))), .unset] [])) t → Steps p.tables e below (s₁.setTop (entryFrame m #[(.int p1)] 3)) t := fun t k => k16 t (by
              show Steps p.tables e below (s₁.setTop (mkF m 33 #[.val (.int p1), .val (.int (p1 &&& (61440 : Int32))), .unset] [(.int (767 : Int32)), (.int p1)])) _
              refine XS.icmpNo X0.here hx rfl (hb hby d1_33) rfl (flt hc17).2.2.1 ?_
              exact k)
          have k21 : ∀ t, Steps p.tables e below (s₁.setTop (mkF m 40 #[.val (.int p1), .val (.int (p1 &&& (61440 : Int32))), .unset] [(.int (263 : Int32)), (.int p1)])) t → Steps p.tables e below (s₁.setTop (entryFrame m #[(.int p1)] 3)) t := fun t k => k20 t (by
              show Steps p.tables e below (s₁.setTop (mkF m 36 #[.val (.int p1), .val (.int (p1 &&& (61440 : Int32))), .unset] [])) _
              refine XS.iloadN X0.here hx rfl (hb hby d1_36) rfl ?_
              show Steps p.tables e below (s₁.setTop (mkF m 37 #[.val (.int p1), .val (.int (p1 &&& (61440 : Int32))), .unset] [(.int p1)])) _
              refine XS.sipush X0.here hx rfl (hb hby d1_37) ?_
              exact k)
          by_cases hc22 : p1 = (263 : Int32)
          · have k23 : ∀ t, Steps p.tables e below (s₁.setTop (mkF m 54 #[.val (.int p1), .val (.int (p1 &&& (61440 : Int32))), .unset] [])) t → Steps p.tables e below (s₁.setTop (entryFrame m #[(.int p1)] 3)) t := fun t k => k21 t (by
                show Steps p.tables e below (s₁.setTop (mkF m 40 #[.val (.int p1), .val (.int (p1 &&& (61440 : Int32))), .unset] [(.int (263 : Int32)), (.int p1)])) _
                refine XS.icmpYes X0.here hx rfl (pc0 := 40) (pc' := 54) rfl (hb hby d1_40) rfl (teq hc22).1 (by decide) (by decide) ?_
                exact k)
            have k24 : ∀ t, Steps p.tables e below (s₁.setTop (mkF m 62 #[.val (.int p1), .val (.int (p1 &&& (61440 : Int32))), .val (.int (0 : Int32))] [(.int (0 : Int32))])) t → Steps p.tables e below (s₁.setTop (entryFrame m #[(.int p1)] 3)) t := fun t k => k23 t (by
                show Steps p.tables e below (s₁.setTop (mkF m 54 #[.val (.int p1), .val (.int (p1 &&& (61440 : Int32))), .unset] [])) _
                refine XS.iconst X0.here hx rfl (hb hby d1_54) ?_
                show Steps p.tables e below (s₁.setTop (mkF m 55 #[.val (.int p1), .val (.int (p1 &&& (61440 : Int32))), .unset] [(.int (0 : Int32))])) _
                refine XS.istoreN X0.here hx rfl (hb hby d1_55) rfl (l' := #[.val (.int p1), .val (.int (p1 &&& (61440 : Int32))), .val (.int (0 : Int32))]) rfl ?_
                show Steps p.tables e below (s₁.setTop (mkF m 56 #[.val (.int p1), .val (.int (p1 &&& (61440 : Int32))), .val (.int (0 : Int32))] [])) _
                refine XS.goto X0.here hx rfl (pc0 := 56) (pc' := 61) rfl (hb hby d1_56) (by decide) (by decide) ?_
                show Steps p.tables e below (s₁.setTop (mkF m 61 #[.val (.int p1), .val (.int (p1 &&& (61440 : Int32))), .val (.int (0 : Int32))] [])) _
                refine XS.iloadN X0.here hx rfl (hb hby d1_61) rfl ?_
                exact k)
            have hh := own_hi hin
            have i1 := hin.1
            have i2 := hin.2
            have ef : ¬ own_fail p1 := by
              simp only [← Int32.toInt_inj, Int32.lt_iff_toInt_lt] at hc2
              simp only [← Int32.toInt_inj, Int32.lt_iff_toInt_lt] at hc7
              simp only [← Int32.toInt_inj, Int32.lt_iff_toInt_lt] at hc12
              simp only [← Int32.toInt_inj, Int32.lt_iff_toInt_lt] at hc17
              simp only [← Int32.toInt_inj, Int32.lt_iff_toInt_lt] at hc22
              simp only [show (40960 : Int32).toInt = 40960 from by decide, show (49152 : Int32).toInt = 49152 from by decide, show (256 : Int32).toInt = 256 from by decide, show (767 : Int32).toInt = 767 from by decide, show (263 : Int32).toInt = 263 from by decide, show (278 : Int32).toInt = 278 from by decide, hh] at hc2 hc7 hc12 hc17 hc22
              unfold own_fail
              omega
            obtain ⟨fs, hr, hrun, hended, hW, hsame⟩ := X0.leave (v := some (.int (0 : Int32))) (fun h => by rw [Bd.returns] at h; cases h)
            refine ⟨_, _, k24 _ ?_, hrun, hended, _, _, rfl, ?_, ⟨_, rfl⟩, hW, hsame.mono (by decide) (by decide)⟩
            · show Steps p.tables e below (s₁.setTop (mkF m 62 #[.val (.int p1), .val (.int (p1 &&& (61440 : Int32))), .val (.int (0 : Int32))] [(.int (0 : Int32))])) _
              exact retN X0 hx (t := .boolean) Bd.returns (by simp) (hb hby d1_62) hr
            · show Q1 Z p1 h0 n0 _ s₁.heap _
              rw [e0]
              exact ⟨by rw [own_b0 ef], N0, rfl⟩
          · have k25 : ∀ t, Steps p.tables e below (s₁.setTop (mkF m 43 #[.val (.int p1), .val (.int (p1 &&& (61440 : Int32))), .unset] [])) t → Steps p.tables e below (s₁.setTop (entryFrame m #[(.int p1)] 3)) t := fun t k => k21 t (by
                show Steps p.tables e below (s₁.setTop (mkF m 40 #[.val (.int p1), .val (.int (p1 &&& (61440 : Int32))), .unset] [(.int (263 : Int32)), (.int p1)])) _
                refine XS.icmpNo X0.here hx rfl (hb hby d1_40) rfl (feq hc22).1 ?_
                exact k)
            have k26 : ∀ t, Steps p.tables e below (s₁.setTop (mkF m 47 #[.val (.int p1), .val (.int (p1 &&& (61440 : Int32))), .unset] [(.int (278 : Int32)), (.int p1)])) t → Steps p.tables e below (s₁.setTop (entryFrame m #[(.int p1)] 3)) t := fun t k => k25 t (by
                show Steps p.tables e below (s₁.setTop (mkF m 43 #[.val (.int p1), .val (.int (p1 &&& (61440 : Int32))), .unset] [])) _
                refine XS.iloadN X0.here hx rfl (hb hby d1_43) rfl ?_
                show Steps p.tables e below (s₁.setTop (mkF m 44 #[.val (.int p1), .val (.int (p1 &&& (61440 : Int32))), .unset] [(.int p1)])) _
                refine XS.sipush X0.here hx rfl (hb hby d1_44) ?_
                exact k)
            by_cases hc27 : p1 = (278 : Int32)
            · have k28 : ∀ t, Steps p.tables e below (s₁.setTop (mkF m 54 #[.val (.int p1), .val (.int (p1 &&& (61440 : Int32))), .unset] [])) t → Steps p.tables e below (s₁.setTop (entryFrame m #[(.int p1)] 3)) t := fun t k => k26 t (by
                  show Steps p.tables e below (s₁.setTop (mkF m 47 #[.val (.int p1), .val (.int (p1 &&& (61440 : Int32))), .unset] [(.int (278 : Int32)), (.int p1)])) _
                  refine XS.icmpYes X0.here hx rfl (pc0 := 47) (pc' := 54) rfl (hb hby d1_47) rfl (teq hc27).1 (by decide) (by decide) ?_
                  exact k)
              have k29 : ∀ t, Steps p.tables e below (s₁.setTop (mkF m 62 #[.val (.int p1), .val (.int (p1 &&& (61440 : Int32))), .val (.int (0 : Int32))] [(.int (0 : Int32))])) t → Steps p.tables e below (s₁.setTop (entryFrame m #[(.int p1)] 3)) t := fun t k => k28 t (by
                  show Steps p.tables e below (s₁.setTop (mkF m 54 #[.val (.int p1), .val (.int (p1 &&& (61440 : Int32))), .unset] [])) _
                  refine XS.iconst X0.here hx rfl (hb hby d1_54) ?_
                  show Steps p.tables e below (s₁.setTop (mkF m 55 #[.val (.int p1), .val (.int (p1 &&& (61440 : Int32))), .unset] [(.int (0 : Int32))])) _
                  refine XS.istoreN X0.here hx rfl (hb hby d1_55) rfl (l' := #[.val (.int p1), .val (.int (p1 &&& (61440 : Int32))), .val (.int (0 : Int32))]) rfl ?_
                  show Steps p.tables e below (s₁.setTop (mkF m 56 #[.val (.int p1), .val (.int (p1 &&& (61440 : Int32))), .val (.int (0 : Int32))] [])) _
                  refine XS.goto X0.here hx rfl (pc0 := 56) (pc' := 61) rfl (hb hby d1_56) (by decide) (by decide) ?_
                  show Steps p.tables e below (s₁.setTop (mkF m 61 #[.val (.int p1), .val (.int (p1 &&& (61440 : Int32))), .val (.int (0 : Int32))] [])) _
                  refine XS.iloadN X0.here hx rfl (hb hby d1_61) rfl ?_
                  exact k)
              have hh := own_hi hin
              have i1 := hin.1
              have i2 := hin.2
              have ef : ¬ own_fail p1 := by
                simp only [← Int32.toInt_inj, Int32.lt_iff_toInt_lt] at hc2
                simp only [← Int32.toInt_inj, Int32.lt_iff_toInt_lt] at hc7
                simp only [← Int32.toInt_inj, Int32.lt_iff_toInt_lt] at hc12
                simp only [← Int32.toInt_inj, Int32.lt_iff_toInt_lt] at hc17
                simp only [← Int32.toInt_inj, Int32.lt_iff_toInt_lt] at hc22
                simp only [← Int32.toInt_inj, Int32.lt_iff_toInt_lt] at hc27
                simp only [show (40960 : Int32).toInt = 40960 from by decide, show (49152 : Int32).toInt = 49152 from by decide, show (256 : Int32).toInt = 256 from by decide, show (767 : Int32).toInt = 767 from by decide, show (263 : Int32).toInt = 263 from by decide, show (278 : Int32).toInt = 278 from by decide, hh] at hc2 hc7 hc12 hc17 hc22 hc27
                unfold own_fail
                omega
              obtain ⟨fs, hr, hrun, hended, hW, hsame⟩ := X0.leave (v := some (.int (0 : Int32))) (fun h => by rw [Bd.returns] at h; cases h)
              refine ⟨_, _, k29 _ ?_, hrun, hended, _, _, rfl, ?_, ⟨_, rfl⟩, hW, hsame.mono (by decide) (by decide)⟩
              · show Steps p.tables e below (s₁.setTop (mkF m 62 #[.val (.int p1), .val (.int (p1 &&& (61440 : Int32))), .val (.int (0 : Int32))] [(.int (0 : Int32))])) _
                exact retN X0 hx (t := .boolean) Bd.returns (by simp) (hb hby d1_62) hr
              · show Q1 Z p1 h0 n0 _ s₁.heap _
                rw [e0]
                exact ⟨by rw [own_b0 ef], N0, rfl⟩
            · have k30 : ∀ t, Steps p.tables e below (s₁.setTop (mkF m 50 #[.val (.int p1), .val (.int (p1 &&& (61440 : Int32))), .unset] [])) t → Steps p.tables e below (s₁.setTop (entryFrame m #[(.int p1)] 3)) t := fun t k => k26 t (by
                  show Steps p.tables e below (s₁.setTop (mkF m 47 #[.val (.int p1), .val (.int (p1 &&& (61440 : Int32))), .unset] [(.int (278 : Int32)), (.int p1)])) _
                  refine XS.icmpNo X0.here hx rfl (hb hby d1_47) rfl (feq hc27).1 ?_
                  exact k)
              have k31 : ∀ t, Steps p.tables e below (s₁.setTop (mkF m 62 #[.val (.int p1), .val (.int (p1 &&& (61440 : Int32))), .val (.int (1 : Int32))] [(.int (1 : Int32))])) t → Steps p.tables e below (s₁.setTop (entryFrame m #[(.int p1)] 3)) t := fun t k => k30 t (by
                  show Steps p.tables e below (s₁.setTop (mkF m 50 #[.val (.int p1), .val (.int (p1 &&& (61440 : Int32))), .unset] [])) _
                  refine XS.iconst X0.here hx rfl (hb hby d1_50) ?_
                  show Steps p.tables e below (s₁.setTop (mkF m 51 #[.val (.int p1), .val (.int (p1 &&& (61440 : Int32))), .unset] [(.int (1 : Int32))])) _
                  refine XS.goto X0.here hx rfl (pc0 := 51) (pc' := 55) rfl (hb hby d1_51) (by decide) (by decide) ?_
                  show Steps p.tables e below (s₁.setTop (mkF m 55 #[.val (.int p1), .val (.int (p1 &&& (61440 : Int32))), .unset] [(.int (1 : Int32))])) _
                  refine XS.istoreN X0.here hx rfl (hb hby d1_55) rfl (l' := #[.val (.int p1), .val (.int (p1 &&& (61440 : Int32))), .val (.int (1 : Int32))]) rfl ?_
                  show Steps p.tables e below (s₁.setTop (mkF m 56 #[.val (.int p1), .val (.int (p1 &&& (61440 : Int32))), .val (.int (1 : Int32))] [])) _
                  refine XS.goto X0.here hx rfl (pc0 := 56) (pc' := 61) rfl (hb hby d1_56) (by decide) (by decide) ?_
                  show Steps p.tables e below (s₁.setTop (mkF m 61 #[.val (.int p1), .val (.int (p1 &&& (61440 : Int32))), .val (.int (1 : Int32))] [])) _
                  refine XS.iloadN X0.here hx rfl (hb hby d1_61) rfl ?_
                  exact k)
              have hh := own_hi hin
              have i1 := hin.1
              have i2 := hin.2
              have ef : own_fail p1 := by
                simp only [← Int32.toInt_inj, Int32.lt_iff_toInt_lt] at hc2
                simp only [← Int32.toInt_inj, Int32.lt_iff_toInt_lt] at hc7
                simp only [← Int32.toInt_inj, Int32.lt_iff_toInt_lt] at hc12
                simp only [← Int32.toInt_inj, Int32.lt_iff_toInt_lt] at hc17
                simp only [← Int32.toInt_inj, Int32.lt_iff_toInt_lt] at hc22
                simp only [← Int32.toInt_inj, Int32.lt_iff_toInt_lt] at hc27
                simp only [show (40960 : Int32).toInt = 40960 from by decide, show (49152 : Int32).toInt = 49152 from by decide, show (256 : Int32).toInt = 256 from by decide, show (767 : Int32).toInt = 767 from by decide, show (263 : Int32).toInt = 263 from by decide, show (278 : Int32).toInt = 278 from by decide, hh] at hc2 hc7 hc12 hc17 hc22 hc27
                unfold own_fail
                omega
              obtain ⟨fs, hr, hrun, hended, hW, hsame⟩ := X0.leave (v := some (.int (1 : Int32))) (fun h => by rw [Bd.returns] at h; cases h)
              refine ⟨_, _, k31 _ ?_, hrun, hended, _, _, rfl, ?_, ⟨_, rfl⟩, hW, hsame.mono (by decide) (by decide)⟩
              · show Steps p.tables e below (s₁.setTop (mkF m 62 #[.val (.int p1), .val (.int (p1 &&& (61440 : Int32))), .val (.int (1 : Int32))] [(.int (1 : Int32))])) _
                exact retN X0 hx (t := .boolean) Bd.returns (by simp) (hb hby d1_62) hr
              · show Q1 Z p1 h0 n0 _ s₁.heap _
                rw [e0]
                exact ⟨by rw [own_b1 ef], N0, rfl⟩
theorem pn_0 : plainName "com/example/modalis/modalis/dicom/net/CommandSetIsFailurePinLaw" = true := by first | (simp [plainName, overriddenIn]; done) | decide +kernel
theorem ef_0 (m : MethodId) (x0 : Int32) (x1 : Int32) : entryFrame m #[(.int x0), (.int x1)] maxLocals = mkF m 0 #[.val (.int x0), .val (.int x1), .unset, .unset, .unset, .unset, .unset] [] := by first | (simp [entryFrame, mkF, argsToLocals, Value.category, maxLocals]; done) | rfl
def Q0 (Z : State) (p1 p2 : Int32) (h0 : Heap) (n0 : Nat) (v : Option Value) (h : Heap) (L : List Loc) : Prop := v = some (.int 1) ∧ Fr n0 L
set_option maxRecDepth 65536 in
set_option maxHeartbeats 40000000 in
theorem rm0 (l : Launch) (Z : State) (a0 : Array Value) (hw : ∀ d ∈ tables_1, d.before a0 Z = true) (ws : List Jvm.Cond) (p1 : Int32) (p2 : Int32)  (h0 : Heap) (n0 : Nat) (Z0 : n0 ≤ h0.size)  :
    MetFree l x (head1 (Jvm.Cond.code x code maxLocals ret :: ws) room_1) (fun a U => a = #[(.int p1), (.int p2)] ∧ Z.Warmed39 U.vm ∧ U.heap = h0) (fun _ _ _ _ _ => True) (fun _ U o U' => ∃ v L, o = .returned v ∧ Q0 Z p1 p2 h0 n0 v U'.heap L ∧ FrameEnd U o U' L room_1.cells room_1.slots) := by
  refine MetFree.of_bodySF (plainFor_of_name pn_0) hisR ?_
  intro p e s m args below meth c s₁ Bd hml0 hP hK
  obtain ⟨rfl, hZ, hh⟩ := hP
  have hx := Bd.exec
  have hby := Bd.bytes
  have hml : c.maxLocals = 7 := hml0
  have hown : s.vm.findClass "com/example/modalis/modalis/dicom/net/CommandSetIsFailurePinLaw" = some m.cls := findClass_of_methodNamed Bd.named
  have hnm := (name_of_methodNamed Bd.named Bd.method).1
  have X0 : Stand p l e room_1 s m #[(.int p1), (.int p2)] below meth c s₁ [] 0 0 := Stand.of_body Bd
  have e0 : s₁.heap = h0 := by rw [← hh, Bd.state]; rfl
  have N0 := Fr.nil n0
  have pre0 : ∀ t, Steps p.tables e below (s₁.setTop (mkF m 0 #[.val (.int p1), .val (.int p2), .unset, .unset, .unset, .unset, .unset] [])) t → Steps p.tables e below (s₁.setTop (entryFrame m #[(.int p1), (.int p2)] maxLocals)) t := fun t k => castTop (ef_0 m p1 p2) k
  have k32 : ∀ t, Steps p.tables e below (s₁.setTop (mkF m 5 #[.val (.int p1), .val (.int p2), .val (.int (p1 &&& (7 : Int32))), .unset, .unset, .unset, .unset] [])) t → Steps p.tables e below (s₁.setTop (entryFrame m #[(.int p1), (.int p2)] maxLocals)) t := fun t k => pre0 t (by
      show Steps p.tables e below (s₁.setTop (mkF m 0 #[.val (.int p1), .val (.int p2), .unset, .unset, .unset, .unset, .unset] [])) _
      refine XS.iloadN X0.here hx rfl (hb hby at_0) rfl ?_
      show Steps p.tables e below (s₁.setTop (mkF m 1 #[.val (.int p1), .val (.int p2), .unset, .unset, .unset, .unset, .unset] [(.int p1)])) _
      refine XS.bipush X0.here hx rfl (hb hby at_1) ?_
      show Steps p.tables e below (s₁.setTop (mkF m 3 #[.val (.int p1), .val (.int p2), .unset, .unset, .unset, .unset, .unset] [(.int (7 : Int32)), (.int p1)])) _
      refine XS.iand X0.here hx rfl (hb hby at_3) rfl ?_
      show Steps p.tables e below (s₁.setTop (mkF m 4 #[.val (.int p1), .val (.int p2), .unset, .unset, .unset, .unset, .unset] [(.int (p1 &&& (7 : Int32)))])) _
      refine XS.istoreN X0.here hx rfl (hb hby at_4) rfl (l' := #[.val (.int p1), .val (.int p2), .val (.int (p1 &&& (7 : Int32))), .unset, .unset, .unset, .unset]) rfl ?_
      exact k)
  obtain ⟨x, s4, hj34, k33⟩ : ∃ (x : Int32) (s4 : Slot), (own_in x ∧ One s4) ∧ ∀ t, Steps p.tables e below (s₁.setTop (mkF m 177 #[.val (.int p1), .val (.int p2), .val (.int (p1 &&& (7 : Int32))), .val (.int x), s4, .unset, .unset] [])) t → Steps p.tables e below (s₁.setTop (mkF m 5 #[.val (.int p1), .val (.int p2), .val (.int (p1 &&& (7 : Int32))), .unset, .unset, .unset, .unset] [])) t := by
    have kid : ∀ t, Steps p.tables e below (s₁.setTop (mkF m 5 #[.val (.int p1), .val (.int p2), .val (.int (p1 &&& (7 : Int32))), .unset, .unset, .unset, .unset] [])) t → Steps p.tables e below (s₁.setTop (mkF m 5 #[.val (.int p1), .val (.int p2), .val (.int (p1 &&& (7 : Int32))), .unset, .unset, .unset, .unset] [])) t := fun _ k => k
    have k35 : ∀ t, Steps p.tables e below (s₁.setTop (mkF m 6 #[.val (.int p1), .val (.int p2), .val (.int (p1 &&& (7 : Int32))), .unset, .unset, .unset, .unset] [(.int (p1 &&& (7 : Int32)))])) t → Steps p.tables e below (s₁.setTop (mkF m 5 #[.val (.int p1), .val (.int p2), .val (.int (p1 &&& (7 : Int32))), .unset, .unset, .unset, .unset] [])) t := fun t k => kid t (by
        show Steps p.tables e below (s₁.setTop (mkF m 5 #[.val (.int p1), .val (.int p2), .val (.int (p1 &&& (7 : Int32))), .unset, .unset, .unset, .unset] [])) _
        refine XS.iloadN X0.here hx rfl (hb hby at_5) rfl ?_
        exact k)
    by_cases hc36 : (p1 &&& (7 : Int32)) = (0 : Int32)
    · have k37 : ∀ t, Steps p.tables e below (s₁.setTop (mkF m 9 #[.val (.int p1), .val (.int p2), .val (.int (p1 &&& (7 : Int32))), .unset, .unset, .unset, .unset] [])) t → Steps p.tables e below (s₁.setTop (mkF m 5 #[.val (.int p1), .val (.int p2), .val (.int (p1 &&& (7 : Int32))), .unset, .unset, .unset, .unset] [])) t := fun t k => k35 t (by
          show Steps p.tables e below (s₁.setTop (mkF m 6 #[.val (.int p1), .val (.int p2), .val (.int (p1 &&& (7 : Int32))), .unset, .unset, .unset, .unset] [(.int (p1 &&& (7 : Int32)))])) _
          refine XS.ifNo X0.here hx rfl (hb hby at_6) rfl ((if0 _ _).trans (teq hc36).2) ?_
          exact k)
      have k38 : ∀ t, Steps p.tables e below (s₁.setTop (mkF m 177 #[.val (.int p1), .val (.int p2), .val (.int (p1 &&& (7 : Int32))), .val (.int (p2 &&& (65535 : Int32))), .unset, .unset, .unset] [])) t → Steps p.tables e below (s₁.setTop (mkF m 5 #[.val (.int p1), .val (.int p2), .val (.int (p1 &&& (7 : Int32))), .unset, .unset, .unset, .unset] [])) t := fun t k => k37 t (by
          show Steps p.tables e below (s₁.setTop (mkF m 9 #[.val (.int p1), .val (.int p2), .val (.int (p1 &&& (7 : Int32))), .unset, .unset, .unset, .unset] [])) _
          refine XS.iloadN X0.here hx rfl (hb hby at_9) rfl ?_
          show Steps p.tables e below (s₁.setTop (mkF m 10 #[.val (.int p1), .val (.int p2), .val (.int (p1 &&& (7 : Int32))), .unset, .unset, .unset, .unset] [(.int p2)])) _
          refine X0.ldcInt hx hown (mvT hZ (hw _ (List.mem_of_getElem? (i := 0) rfl))) (g := (mkF m 10 #[.val (.int p1), .val (.int p2), .val (.int (p1 &&& (7 : Int32))), .unset, .unset, .unset, .unset] [(.int p2)])) rfl (hb hby at_10) _ ?_
          show Steps p.tables e below (s₁.setTop (mkF m 12 #[.val (.int p1), .val (.int p2), .val (.int (p1 &&& (7 : Int32))), .unset, .unset, .unset, .unset] [(.int (65535 : Int32)), (.int p2)])) _
          refine XS.iand X0.here hx rfl (hb hby at_12) rfl ?_
          show Steps p.tables e below (s₁.setTop (mkF m 13 #[.val (.int p1), .val (.int p2), .val (.int (p1 &&& (7 : Int32))), .unset, .unset, .unset, .unset] [(.int (p2 &&& (65535 : Int32)))])) _
          refine XS.istoreN X0.here hx rfl (hb hby at_13) rfl (l' := #[.val (.int p1), .val (.int p2), .val (.int (p1 &&& (7 : Int32))), .val (.int (p2 &&& (65535 : Int32))), .unset, .unset, .unset]) rfl ?_
          show Steps p.tables e below (s₁.setTop (mkF m 14 #[.val (.int p1), .val (.int p2), .val (.int (p1 &&& (7 : Int32))), .val (.int (p2 &&& (65535 : Int32))), .unset, .unset, .unset] [])) _
          refine XS.goto X0.here hx rfl (pc0 := 14) (pc' := 177) rfl (hb hby at_14) (by decide) (by decide) ?_
          exact k)
      exact ⟨(p2 &&& (65535 : Int32)), .unset, ⟨(own_and _ _ (by constructor <;> decide)), One.u⟩, k38⟩
    · have k39 : ∀ t, Steps p.tables e below (s₁.setTop (mkF m 17 #[.val (.int p1), .val (.int p2), .val (.int (p1 &&& (7 : Int32))), .unset, .unset, .unset, .unset] [])) t → Steps p.tables e below (s₁.setTop (mkF m 5 #[.val (.int p1), .val (.int p2), .val (.int (p1 &&& (7 : Int32))), .unset, .unset, .unset, .unset] [])) t := fun t k => k35 t (by
          show Steps p.tables e below (s₁.setTop (mkF m 6 #[.val (.int p1), .val (.int p2), .val (.int (p1 &&& (7 : Int32))), .unset, .unset, .unset, .unset] [(.int (p1 &&& (7 : Int32)))])) _
          refine XS.ifYes X0.here hx rfl (pc0 := 6) (pc' := 17) rfl (hb hby at_6) rfl ((if0 _ _).trans (feq hc36).2) (by decide) (by decide) ?_
          exact k)
      have k40 : ∀ t, Steps p.tables e below (s₁.setTop (mkF m 19 #[.val (.int p1), .val (.int p2), .val (.int (p1 &&& (7 : Int32))), .unset, .unset, .unset, .unset] [(.int (1 : Int32)), (.int (p1 &&& (7 : Int32)))])) t → Steps p.tables e below (s₁.setTop (mkF m 5 #[.val (.int p1), .val (.int p2), .val (.int (p1 &&& (7 : Int32))), .unset, .unset, .unset, .unset] [])) t := fun t k => k39 t (by
          show Steps p.tables e below (s₁.setTop (mkF m 17 #[.val (.int p1), .val (.int p2), .val (.int (p1 &&& (7 : Int32))), .unset, .unset, .unset, .unset] [])) _
          refine XS.iloadN X0.here hx rfl (hb hby at_17) rfl ?_
          show Steps p.tables e below (s₁.setTop (mkF m 18 #[.val (.int p1), .val (.int p2), .val (.int (p1 &&& (7 : Int32))), .unset, .unset, .unset, .unset] [(.int (p1 &&& (7 : Int32)))])) _
          refine XS.iconst X0.here hx rfl (hb hby at_18) ?_
          exact k)
      by_cases hc41 : (p1 &&& (7 : Int32)) = (1 : Int32)
      · have k42 : ∀ t, Steps p.tables e below (s₁.setTop (mkF m 22 #[.val (.int p1), .val (.int p2), .val (.int (p1 &&& (7 : Int32))), .unset, .unset, .unset, .unset] [])) t → Steps p.tables e below (s₁.setTop (mkF m 5 #[.val (.int p1), .val (.int p2), .val (.int (p1 &&& (7 : Int32))), .unset, .unset, .unset, .unset] [])) t := fun t k => k40 t (by
            show Steps p.tables e below (s₁.setTop (mkF m 19 #[.val (.int p1), .val (.int p2), .val (.int (p1 &&& (7 : Int32))), .unset, .unset, .unset, .unset] [(.int (1 : Int32)), (.int (p1 &&& (7 : Int32)))])) _
            refine XS.icmpNo X0.here hx rfl (hb hby at_19) rfl (teq hc41).2 ?_
            exact k)
        have k43 : ∀ t, Steps p.tables e below (s₁.setTop (mkF m 177 #[.val (.int p1), .val (.int p2), .val (.int (p1 &&& (7 : Int32))), .val (.int ((40960 : Int32) ||| (p2 &&& (4095 : Int32)))), .unset, .unset, .unset] [])) t → Steps p.tables e below (s₁.setTop (mkF m 5 #[.val (.int p1), .val (.int p2), .val (.int (p1 &&& (7 : Int32))), .unset, .unset, .unset, .unset] [])) t := fun t k => k42 t (by
            show Steps p.tables e below (s₁.setTop (mkF m 22 #[.val (.int p1), .val (.int p2), .val (.int (p1 &&& (7 : Int32))), .unset, .unset, .unset, .unset] [])) _
            refine X0.ldcInt hx hown (mvT hZ (hw _ (List.mem_of_getElem? (i := 11) rfl))) (g := (mkF m 22 #[.val (.int p1), .val (.int p2), .val (.int (p1 &&& (7 : Int32))), .unset, .unset, .unset, .unset] [])) rfl (hb hby at_22) _ ?_
            show Steps p.tables e below (s₁.setTop (mkF m 24 #[.val (.int p1), .val (.int p2), .val (.int (p1 &&& (7 : Int32))), .unset, .unset, .unset, .unset] [(.int (40960 : Int32))])) _
            refine XS.iloadN X0.here hx rfl (hb hby at_24) rfl ?_
            show Steps p.tables e below (s₁.setTop (mkF m 25 #[.val (.int p1), .val (.int p2), .val (.int (p1 &&& (7 : Int32))), .unset, .unset, .unset, .unset] [(.int p2), (.int (40960 : Int32))])) _
            refine XS.sipush X0.here hx rfl (hb hby at_25) ?_
            show Steps p.tables e below (s₁.setTop (mkF m 28 #[.val (.int p1), .val (.int p2), .val (.int (p1 &&& (7 : Int32))), .unset, .unset, .unset, .unset] [(.int (4095 : Int32)), (.int p2), (.int (40960 : Int32))])) _
            refine XS.iand X0.here hx rfl (hb hby at_28) rfl ?_
            show Steps p.tables e below (s₁.setTop (mkF m 29 #[.val (.int p1), .val (.int p2), .val (.int (p1 &&& (7 : Int32))), .unset, .unset, .unset, .unset] [(.int (p2 &&& (4095 : Int32))), (.int (40960 : Int32))])) _
            refine XS.ior X0.here hx rfl (hb hby at_29) rfl ?_
            show Steps p.tables e below (s₁.setTop (mkF m 30 #[.val (.int p1), .val (.int p2), .val (.int (p1 &&& (7 : Int32))), .unset, .unset, .unset, .unset] [(.int ((40960 : Int32) ||| (p2 &&& (4095 : Int32))))])) _
            refine XS.istoreN X0.here hx rfl (hb hby at_30) rfl (l' := #[.val (.int p1), .val (.int p2), .val (.int (p1 &&& (7 : Int32))), .val (.int ((40960 : Int32) ||| (p2 &&& (4095 : Int32)))), .unset, .unset, .unset]) rfl ?_
            show Steps p.tables e below (s₁.setTop (mkF m 31 #[.val (.int p1), .val (.int p2), .val (.int (p1 &&& (7 : Int32))), .val (.int ((40960 : Int32) ||| (p2 &&& (4095 : Int32)))), .unset, .unset, .unset] [])) _
            refine XS.goto X0.here hx rfl (pc0 := 31) (pc' := 177) rfl (hb hby at_31) (by decide) (by decide) ?_
            exact k)
        exact ⟨((40960 : Int32) ||| (p2 &&& (4095 : Int32))), .unset, ⟨(own_or (by constructor <;> decide) (own_and _ _ (by constructor <;> decide))), One.u⟩, k43⟩
      · have k44 : ∀ t, Steps p.tables e below (s₁.setTop (mkF m 34 #[.val (.int p1), .val (.int p2), .val (.int (p1 &&& (7 : Int32))), .unset, .unset, .unset, .unset] [])) t → Steps p.tables e below (s₁.setTop (mkF m 5 #[.val (.int p1), .val (.int p2), .val (.int (p1 &&& (7 : Int32))), .unset, .unset, .unset, .unset] [])) t := fun t k => k40 t (by
            show Steps p.tables e below (s₁.setTop (mkF m 19 #[.val (.int p1), .val (.int p2), .val (.int (p1 &&& (7 : Int32))), .unset, .unset, .unset, .unset] [(.int (1 : Int32)), (.int (p1 &&& (7 : Int32)))])) _
            refine XS.icmpYes X0.here hx rfl (pc0 := 19) (pc' := 34) rfl (hb hby at_19) rfl (feq hc41).2 (by decide) (by decide) ?_
            exact k)
        have k45 : ∀ t, Steps p.tables e below (s₁.setTop (mkF m 36 #[.val (.int p1), .val (.int p2), .val (.int (p1 &&& (7 : Int32))), .unset, .unset, .unset, .unset] [(.int (2 : Int32)), (.int (p1 &&& (7 : Int32)))])) t → Steps p.tables e below (s₁.setTop (mkF m 5 #[.val (.int p1), .val (.int p2), .val (.int (p1 &&& (7 : Int32))), .unset, .unset, .unset, .unset] [])) t := fun t k => k44 t (by
            show Steps p.tables e below (s₁.setTop (mkF m 34 #[.val (.int p1), .val (.int p2), .val (.int (p1 &&& (7 : Int32))), .unset, .unset, .unset, .unset] [])) _
            refine XS.iloadN X0.here hx rfl (hb hby at_34) rfl ?_
            show Steps p.tables e below (s₁.setTop (mkF m 35 #[.val (.int p1), .val (.int p2), .val (.int (p1 &&& (7 : Int32))), .unset, .unset, .unset, .unset] [(.int (p1 &&& (7 : Int32)))])) _
            refine XS.iconst X0.here hx rfl (hb hby at_35) ?_
            exact k)
        by_cases hc46 : (p1 &&& (7 : Int32)) = (2 : Int32)
        · have k47 : ∀ t, Steps p.tables e below (s₁.setTop (mkF m 39 #[.val (.int p1), .val (.int p2), .val (.int (p1 &&& (7 : Int32))), .unset, .unset, .unset, .unset] [])) t → Steps p.tables e below (s₁.setTop (mkF m 5 #[.val (.int p1), .val (.int p2), .val (.int (p1 &&& (7 : Int32))), .unset, .unset, .unset, .unset] [])) t := fun t k => k45 t (by
              show Steps p.tables e below (s₁.setTop (mkF m 36 #[.val (.int p1), .val (.int p2), .val (.int (p1 &&& (7 : Int32))), .unset, .unset, .unset, .unset] [(.int (2 : Int32)), (.int (p1 &&& (7 : Int32)))])) _
              refine XS.icmpNo X0.here hx rfl (hb hby at_36) rfl (teq hc46).2 ?_
              exact k)
          have k48 : ∀ t, Steps p.tables e below (s₁.setTop (mkF m 177 #[.val (.int p1), .val (.int p2), .val (.int (p1 &&& (7 : Int32))), .val (.int ((49152 : Int32) ||| (p2 &&& (4095 : Int32)))), .unset, .unset, .unset] [])) t → Steps p.tables e below (s₁.setTop (mkF m 5 #[.val (.int p1), .val (.int p2), .val (.int (p1 &&& (7 : Int32))), .unset, .unset, .unset, .unset] [])) t := fun t k => k47 t (by
              show Steps p.tables e below (s₁.setTop (mkF m 39 #[.val (.int p1), .val (.int p2), .val (.int (p1 &&& (7 : Int32))), .unset, .unset, .unset, .unset] [])) _
              refine X0.ldcInt hx hown (mvT hZ (hw _ (List.mem_of_getElem? (i := 13) rfl))) (g := (mkF m 39 #[.val (.int p1), .val (.int p2), .val (.int (p1 &&& (7 : Int32))), .unset, .unset, .unset, .unset] [])) rfl (hb hby at_39) _ ?_
              show Steps p.tables e below (s₁.setTop (mkF m 41 #[.val (.int p1), .val (.int p2), .val (.int (p1 &&& (7 : Int32))), .unset, .unset, .unset, .unset] [(.int (49152 : Int32))])) _
              refine XS.iloadN X0.here hx rfl (hb hby at_41) rfl ?_
              show Steps p.tables e below (s₁.setTop (mkF m 42 #[.val (.int p1), .val (.int p2), .val (.int (p1 &&& (7 : Int32))), .unset, .unset, .unset, .unset] [(.int p2), (.int (49152 : Int32))])) _
              refine XS.sipush X0.here hx rfl (hb hby at_42) ?_
              show Steps p.tables e below (s₁.setTop (mkF m 45 #[.val (.int p1), .val (.int p2), .val (.int (p1 &&& (7 : Int32))), .unset, .unset, .unset, .unset] [(.int (4095 : Int32)), (.int p2), (.int (49152 : Int32))])) _
              refine XS.iand X0.here hx rfl (hb hby at_45) rfl ?_
              show Steps p.tables e below (s₁.setTop (mkF m 46 #[.val (.int p1), .val (.int p2), .val (.int (p1 &&& (7 : Int32))), .unset, .unset, .unset, .unset] [(.int (p2 &&& (4095 : Int32))), (.int (49152 : Int32))])) _
              refine XS.ior X0.here hx rfl (hb hby at_46) rfl ?_
              show Steps p.tables e below (s₁.setTop (mkF m 47 #[.val (.int p1), .val (.int p2), .val (.int (p1 &&& (7 : Int32))), .unset, .unset, .unset, .unset] [(.int ((49152 : Int32) ||| (p2 &&& (4095 : Int32))))])) _
              refine XS.istoreN X0.here hx rfl (hb hby at_47) rfl (l' := #[.val (.int p1), .val (.int p2), .val (.int (p1 &&& (7 : Int32))), .val (.int ((49152 : Int32) ||| (p2 &&& (4095 : Int32)))), .unset, .unset, .unset]) rfl ?_
              show Steps p.tables e below (s₁.setTop (mkF m 48 #[.val (.int p1), .val (.int p2), .val (.int (p1 &&& (7 : Int32))), .val (.int ((49152 : Int32) ||| (p2 &&& (4095 : Int32)))), .unset, .unset, .unset] [])) _
              refine XS.goto X0.here hx rfl (pc0 := 48) (pc' := 177) rfl (hb hby at_48) (by decide) (by decide) ?_
              exact k)
          exact ⟨((49152 : Int32) ||| (p2 &&& (4095 : Int32))), .unset, ⟨(own_or (by constructor <;> decide) (own_and _ _ (by constructor <;> decide))), One.u⟩, k48⟩
        · have k49 : ∀ t, Steps p.tables e below (s₁.setTop (mkF m 51 #[.val (.int p1), .val (.int p2), .val (.int (p1 &&& (7 : Int32))), .unset, .unset, .unset, .unset] [])) t → Steps p.tables e below (s₁.setTop (mkF m 5 #[.val (.int p1), .val (.int p2), .val (.int (p1 &&& (7 : Int32))), .unset, .unset, .unset, .unset] [])) t := fun t k => k45 t (by
              show Steps p.tables e below (s₁.setTop (mkF m 36 #[.val (.int p1), .val (.int p2), .val (.int (p1 &&& (7 : Int32))), .unset, .unset, .unset, .unset] [(.int (2 : Int32)), (.int (p1 &&& (7 : Int32)))])) _
              refine XS.icmpYes X0.here hx rfl (pc0 := 36) (pc' := 51) rfl (hb hby at_36) rfl (feq hc46).2 (by decide) (by decide) ?_
              exact k)
          have k50 : ∀ t, Steps p.tables e below (s₁.setTop (mkF m 53 #[.val (.int p1), .val (.int p2), .val (.int (p1 &&& (7 : Int32))), .unset, .unset, .unset, .unset] [(.int (3 : Int32)), (.int (p1 &&& (7 : Int32)))])) t → Steps p.tables e below (s₁.setTop (mkF m 5 #[.val (.int p1), .val (.int p2), .val (.int (p1 &&& (7 : Int32))), .unset, .unset, .unset, .unset] [])) t := fun t k => k49 t (by
              show Steps p.tables e below (s₁.setTop (mkF m 51 #[.val (.int p1), .val (.int p2), .val (.int (p1 &&& (7 : Int32))), .unset, .unset, .unset, .unset] [])) _
              refine XS.iloadN X0.here hx rfl (hb hby at_51) rfl ?_
              show Steps p.tables e below (s₁.setTop (mkF m 52 #[.val (.int p1), .val (.int p2), .val (.int (p1 &&& (7 : Int32))), .unset, .unset, .unset, .unset] [(.int (p1 &&& (7 : Int32)))])) _
              refine XS.iconst X0.here hx rfl (hb hby at_52) ?_
              exact k)
          by_cases hc51 : (p1 &&& (7 : Int32)) = (3 : Int32)
          · have k52 : ∀ t, Steps p.tables e below (s₁.setTop (mkF m 56 #[.val (.int p1), .val (.int p2), .val (.int (p1 &&& (7 : Int32))), .unset, .unset, .unset, .unset] [])) t → Steps p.tables e below (s₁.setTop (mkF m 5 #[.val (.int p1), .val (.int p2), .val (.int (p1 &&& (7 : Int32))), .unset, .unset, .unset, .unset] [])) t := fun t k => k50 t (by
                show Steps p.tables e below (s₁.setTop (mkF m 53 #[.val (.int p1), .val (.int p2), .val (.int (p1 &&& (7 : Int32))), .unset, .unset, .unset, .unset] [(.int (3 : Int32)), (.int (p1 &&& (7 : Int32)))])) _
                refine XS.icmpNo X0.here hx rfl (hb hby at_53) rfl (teq hc51).2 ?_
                exact k)
            have k53 : ∀ t, Steps p.tables e below (s₁.setTop (mkF m 177 #[.val (.int p1), .val (.int p2), .val (.int (p1 &&& (7 : Int32))), .val (.int ((256 : Int32) + (p2 &&& (511 : Int32)))), .unset, .unset, .unset] [])) t → Steps p.tables e below (s₁.setTop (mkF m 5 #[.val (.int p1), .val (.int p2), .val (.int (p1 &&& (7 : Int32))), .unset, .unset, .unset, .unset] [])) t := fun t k => k52 t (by
                show Steps p.tables e below (s₁.setTop (mkF m 56 #[.val (.int p1), .val (.int p2), .val (.int (p1 &&& (7 : Int32))), .unset, .unset, .unset, .unset] [])) _
                refine XS.sipush X0.here hx rfl (hb hby at_56) ?_
                show Steps p.tables e below (s₁.setTop (mkF m 59 #[.val (.int p1), .val (.int p2), .val (.int (p1 &&& (7 : Int32))), .unset, .unset, .unset, .unset] [(.int (256 : Int32))])) _
                refine XS.iloadN X0.here hx rfl (hb hby at_59) rfl ?_
                show Steps p.tables e below (s₁.setTop (mkF m 60 #[.val (.int p1), .val (.int p2), .val (.int (p1 &&& (7 : Int32))), .unset, .unset, .unset, .unset] [(.int p2), (.int (256 : Int32))])) _
                refine XS.sipush X0.here hx rfl (hb hby at_60) ?_
                show Steps p.tables e below (s₁.setTop (mkF m 63 #[.val (.int p1), .val (.int p2), .val (.int (p1 &&& (7 : Int32))), .unset, .unset, .unset, .unset] [(.int (511 : Int32)), (.int p2), (.int (256 : Int32))])) _
                refine XS.iand X0.here hx rfl (hb hby at_63) rfl ?_
                show Steps p.tables e below (s₁.setTop (mkF m 64 #[.val (.int p1), .val (.int p2), .val (.int (p1 &&& (7 : Int32))), .unset, .unset, .unset, .unset] [(.int (p2 &&& (511 : Int32))), (.int (256 : Int32))])) _
                refine XS.iadd X0.here hx rfl (hb hby at_64) rfl ?_
                show Steps p.tables e below (s₁.setTop (mkF m 65 #[.val (.int p1), .val (.int p2), .val (.int (p1 &&& (7 : Int32))), .unset, .unset, .unset, .unset] [(.int ((256 : Int32) + (p2 &&& (511 : Int32))))])) _
                refine XS.istoreN X0.here hx rfl (hb hby at_65) rfl (l' := #[.val (.int p1), .val (.int p2), .val (.int (p1 &&& (7 : Int32))), .val (.int ((256 : Int32) + (p2 &&& (511 : Int32)))), .unset, .unset, .unset]) rfl ?_
                show Steps p.tables e below (s₁.setTop (mkF m 66 #[.val (.int p1), .val (.int p2), .val (.int (p1 &&& (7 : Int32))), .val (.int ((256 : Int32) + (p2 &&& (511 : Int32)))), .unset, .unset, .unset] [])) _
                refine XS.goto X0.here hx rfl (pc0 := 66) (pc' := 177) rfl (hb hby at_66) (by decide) (by decide) ?_
                exact k)
            exact ⟨((256 : Int32) + (p2 &&& (511 : Int32))), .unset, ⟨(own_add _), One.u⟩, k53⟩
          · have k54 : ∀ t, Steps p.tables e below (s₁.setTop (mkF m 69 #[.val (.int p1), .val (.int p2), .val (.int (p1 &&& (7 : Int32))), .unset, .unset, .unset, .unset] [])) t → Steps p.tables e below (s₁.setTop (mkF m 5 #[.val (.int p1), .val (.int p2), .val (.int (p1 &&& (7 : Int32))), .unset, .unset, .unset, .unset] [])) t := fun t k => k50 t (by
                show Steps p.tables e below (s₁.setTop (mkF m 53 #[.val (.int p1), .val (.int p2), .val (.int (p1 &&& (7 : Int32))), .unset, .unset, .unset, .unset] [(.int (3 : Int32)), (.int (p1 &&& (7 : Int32)))])) _
                refine XS.icmpYes X0.here hx rfl (pc0 := 53) (pc' := 69) rfl (hb hby at_53) rfl (feq hc51).2 (by decide) (by decide) ?_
                exact k)
            have k55 : ∀ t, Steps p.tables e below (s₁.setTop (mkF m 71 #[.val (.int p1), .val (.int p2), .val (.int (p1 &&& (7 : Int32))), .unset, .unset, .unset, .unset] [(.int (4 : Int32)), (.int (p1 &&& (7 : Int32)))])) t → Steps p.tables e below (s₁.setTop (mkF m 5 #[.val (.int p1), .val (.int p2), .val (.int (p1 &&& (7 : Int32))), .unset, .unset, .unset, .unset] [])) t := fun t k => k54 t (by
                show Steps p.tables e below (s₁.setTop (mkF m 69 #[.val (.int p1), .val (.int p2), .val (.int (p1 &&& (7 : Int32))), .unset, .unset, .unset, .unset] [])) _
                refine XS.iloadN X0.here hx rfl (hb hby at_69) rfl ?_
                show Steps p.tables e below (s₁.setTop (mkF m 70 #[.val (.int p1), .val (.int p2), .val (.int (p1 &&& (7 : Int32))), .unset, .unset, .unset, .unset] [(.int (p1 &&& (7 : Int32)))])) _
                refine XS.iconst X0.here hx rfl (hb hby at_70) ?_
                exact k)
            by_cases hc56 : (p1 &&& (7 : Int32)) = (4 : Int32)
            · have k57 : ∀ t, Steps p.tables e below (s₁.setTop (mkF m 74 #[.val (.int p1), .val (.int p2), .val (.int (p1 &&& (7 : Int32))), .unset, .unset, .unset, .unset] [])) t → Steps p.tables e below (s₁.setTop (mkF m 5 #[.val (.int p1), .val (.int p2), .val (.int (p1 &&& (7 : Int32))), .unset, .unset, .unset, .unset] [])) t := fun t k => k55 t (by
                  show Steps p.tables e below (s₁.setTop (mkF m 71 #[.val (.int p1), .val (.int p2), .val (.int (p1 &&& (7 : Int32))), .unset, .unset, .unset, .unset] [(.int (4 : Int32)), (.int (p1 &&& (7 : Int32)))])) _
                  refine XS.icmpNo X0.here hx rfl (hb hby at_71) rfl (teq hc56).2 ?_
                  exact k)
              have k58 : ∀ t, Steps p.tables e below (s₁.setTop (mkF m 77 #[.val (.int p1), .val (.int p2), .val (.int (p1 &&& (7 : Int32))), .unset, .unset, .unset, .unset] [(.int (p2 &&& (1 : Int32)))])) t → Steps p.tables e below (s₁.setTop (mkF m 5 #[.val (.int p1), .val (.int p2), .val (.int (p1 &&& (7 : Int32))), .unset, .unset, .unset, .unset] [])) t := fun t k => k57 t (by
                  show Steps p.tables e below (s₁.setTop (mkF m 74 #[.val (.int p1), .val (.int p2), .val (.int (p1 &&& (7 : Int32))), .unset, .unset, .unset, .unset] [])) _
                  refine XS.iloadN X0.here hx rfl (hb hby at_74) rfl ?_
                  show Steps p.tables e below (s₁.setTop (mkF m 75 #[.val (.int p1), .val (.int p2), .val (.int (p1 &&& (7 : Int32))), .unset, .unset, .unset, .unset] [(.int p2)])) _
                  refine XS.iconst X0.here hx rfl (hb hby at_75) ?_
                  show Steps p.tables e below (s₁.setTop (mkF m 76 #[.val (.int p1), .val (.int p2), .val (.int (p1 &&& (7 : Int32))), .unset, .unset, .unset, .unset] [(.int (1 : Int32)), (.int p2)])) _
                  refine XS.iand X0.here hx rfl (hb hby at_76) rfl ?_
                  exact k)
              by_cases hc59 : (p2 &&& (1 : Int32)) = (0 : Int32)
              · have k60 : ∀ t, Steps p.tables e below (s₁.setTop (mkF m 80 #[.val (.int p1), .val (.int p2), .val (.int (p1 &&& (7 : Int32))), .unset, .unset, .unset, .unset] [])) t → Steps p.tables e below (s₁.setTop (mkF m 5 #[.val (.int p1), .val (.int p2), .val (.int (p1 &&& (7 : Int32))), .unset, .unset, .unset, .unset] [])) t := fun t k => k58 t (by
                    show Steps p.tables e below (s₁.setTop (mkF m 77 #[.val (.int p1), .val (.int p2), .val (.int (p1 &&& (7 : Int32))), .unset, .unset, .unset, .unset] [(.int (p2 &&& (1 : Int32)))])) _
                    refine XS.ifNo X0.here hx rfl (hb hby at_77) rfl ((if0 _ _).trans (teq hc59).2) ?_
                    exact k)
                have k61 : ∀ t, Steps p.tables e below (s₁.setTop (mkF m 177 #[.val (.int p1), .val (.int p2), .val (.int (p1 &&& (7 : Int32))), .val (.int (263 : Int32)), .unset, .unset, .unset] [])) t → Steps p.tables e below (s₁.setTop (mkF m 5 #[.val (.int p1), .val (.int p2), .val (.int (p1 &&& (7 : Int32))), .unset, .unset, .unset, .unset] [])) t := fun t k => k60 t (by
                    show Steps p.tables e below (s₁.setTop (mkF m 80 #[.val (.int p1), .val (.int p2), .val (.int (p1 &&& (7 : Int32))), .unset, .unset, .unset, .unset] [])) _
                    refine XS.sipush X0.here hx rfl (hb hby at_80) ?_
                    show Steps p.tables e below (s₁.setTop (mkF m 83 #[.val (.int p1), .val (.int p2), .val (.int (p1 &&& (7 : Int32))), .unset, .unset, .unset, .unset] [(.int (263 : Int32))])) _
                    refine XS.goto X0.here hx rfl (pc0 := 83) (pc' := 89) rfl (hb hby at_83) (by decide) (by decide) ?_
                    show Steps p.tables e below (s₁.setTop (mkF m 89 #[.val (.int p1), .val (.int p2), .val (.int (p1 &&& (7 : Int32))), .unset, .unset, .unset, .unset] [(.int (263 : Int32))])) _
                    refine XS.istoreN X0.here hx rfl (hb hby at_89) rfl (l' := #[.val (.int p1), .val (.int p2), .val (.int (p1 &&& (7 : Int32))), .val (.int (263 : Int32)), .unset, .unset, .unset]) rfl ?_
                    show Steps p.tables e below (s₁.setTop (mkF m 90 #[.val (.int p1), .val (.int p2), .val (.int (p1 &&& (7 : Int32))), .val (.int (263 : Int32)), .unset, .unset, .unset] [])) _
                    refine XS.goto X0.here hx rfl (pc0 := 90) (pc' := 177) rfl (hb hby at_90) (by decide) (by decide) ?_
                    exact k)
                exact ⟨(263 : Int32), .unset, ⟨(by constructor <;> decide), One.u⟩, k61⟩
              · have k62 : ∀ t, Steps p.tables e below (s₁.setTop (mkF m 86 #[.val (.int p1), .val (.int p2), .val (.int (p1 &&& (7 : Int32))), .unset, .unset, .unset, .unset] [])) t → Steps p.tables e below (s₁.setTop (mkF m 5 #[.val (.int p1), .val (.int p2), .val (.int (p1 &&& (7 : Int32))), .unset, .unset, .unset, .unset] [])) t := fun t k => k58 t (by
                    show Steps p.tables e below (s₁.setTop (mkF m 77 #[.val (.int p1), .val (.int p2), .val (.int (p1 &&& (7 : Int32))), .unset, .unset, .unset, .unset] [(.int (p2 &&& (1 : Int32)))])) _
                    refine XS.ifYes X0.here hx rfl (pc0 := 77) (pc' := 86) rfl (hb hby at_77) rfl ((if0 _ _).trans (feq hc59).2) (by decide) (by decide) ?_
                    exact k)
                have k63 : ∀ t, Steps p.tables e below (s₁.setTop (mkF m 177 #[.val (.int p1), .val (.int p2), .val (.int (p1 &&& (7 : Int32))), .val (.int (278 : Int32)), .unset, .unset, .unset] [])) t → Steps p.tables e below (s₁.setTop (mkF m 5 #[.val (.int p1), .val (.int p2), .val (.int (p1 &&& (7 : Int32))), .unset, .unset, .unset, .unset] [])) t := fun t k => k62 t (by
                    show Steps p.tables e below (s₁.setTop (mkF m 86 #[.val (.int p1), .val (.int p2), .val (.int (p1 &&& (7 : Int32))), .unset, .unset, .unset, .unset] [])) _
                    refine XS.sipush X0.here hx rfl (hb hby at_86) ?_
                    show Steps p.tables e below (s₁.setTop (mkF m 89 #[.val (.int p1), .val (.int p2), .val (.int (p1 &&& (7 : Int32))), .unset, .unset, .unset, .unset] [(.int (278 : Int32))])) _
                    refine XS.istoreN X0.here hx rfl (hb hby at_89) rfl (l' := #[.val (.int p1), .val (.int p2), .val (.int (p1 &&& (7 : Int32))), .val (.int (278 : Int32)), .unset, .unset, .unset]) rfl ?_
                    show Steps p.tables e below (s₁.setTop (mkF m 90 #[.val (.int p1), .val (.int p2), .val (.int (p1 &&& (7 : Int32))), .val (.int (278 : Int32)), .unset, .unset, .unset] [])) _
                    refine XS.goto X0.here hx rfl (pc0 := 90) (pc' := 177) rfl (hb hby at_90) (by decide) (by decide) ?_
                    exact k)
                exact ⟨(278 : Int32), .unset, ⟨(by constructor <;> decide), One.u⟩, k63⟩
            · have k64 : ∀ t, Steps p.tables e below (s₁.setTop (mkF m 93 #[.val (.int p1), .val (.int p2), .val (.int (p1 &&& (7 : Int32))), .unset, .unset, .unset, .unset] [])) t → Steps p.tables e below (s₁.setTop (mkF m 5 #[.val (.int p1), .val (.int p2), .val (.int (p1 &&& (7 : Int32))), .unset, .unset, .unset, .unset] [])) t := fun t k => k55 t (by
                  show Steps p.tables e below (s₁.setTop (mkF m 71 #[.val (.int p1), .val (.int p2), .val (.int (p1 &&& (7 : Int32))), .unset, .unset, .unset, .unset] [(.int (4 : Int32)), (.int (p1 &&& (7 : Int32)))])) _
                  refine XS.icmpYes X0.here hx rfl (pc0 := 71) (pc' := 93) rfl (hb hby at_71) rfl (feq hc56).2 (by decide) (by decide) ?_
                  exact k)
              have k65 : ∀ t, Steps p.tables e below (s₁.setTop (mkF m 95 #[.val (.int p1), .val (.int p2), .val (.int (p1 &&& (7 : Int32))), .unset, .unset, .unset, .unset] [(.int (5 : Int32)), (.int (p1 &&& (7 : Int32)))])) t → Steps p.tables e below (s₁.setTop (mkF m 5 #[.val (.int p1), .val (.int p2), .val (.int (p1 &&& (7 : Int32))), .unset, .unset, .unset, .unset] [])) t := fun t k => k64 t (by
                  show Steps p.tables e below (s₁.setTop (mkF m 93 #[.val (.int p1), .val (.int p2), .val (.int (p1 &&& (7 : Int32))), .unset, .unset, .unset, .unset] [])) _
                  refine XS.iloadN X0.here hx rfl (hb hby at_93) rfl ?_
                  show Steps p.tables e below (s₁.setTop (mkF m 94 #[.val (.int p1), .val (.int p2), .val (.int (p1 &&& (7 : Int32))), .unset, .unset, .unset, .unset] [(.int (p1 &&& (7 : Int32)))])) _
                  refine XS.iconst X0.here hx rfl (hb hby at_94) ?_
                  exact k)
              by_cases hc66 : (p1 &&& (7 : Int32)) = (5 : Int32)
              · have k67 : ∀ t, Steps p.tables e below (s₁.setTop (mkF m 98 #[.val (.int p1), .val (.int p2), .val (.int (p1 &&& (7 : Int32))), .unset, .unset, .unset, .unset] [])) t → Steps p.tables e below (s₁.setTop (mkF m 5 #[.val (.int p1), .val (.int p2), .val (.int (p1 &&& (7 : Int32))), .unset, .unset, .unset, .unset] [])) t := fun t k => k65 t (by
                    show Steps p.tables e below (s₁.setTop (mkF m 95 #[.val (.int p1), .val (.int p2), .val (.int (p1 &&& (7 : Int32))), .unset, .unset, .unset, .unset] [(.int (5 : Int32)), (.int (p1 &&& (7 : Int32)))])) _
                    refine XS.icmpNo X0.here hx rfl (hb hby at_95) rfl (teq hc66).2 ?_
                    exact k)
                have k68 : ∀ t, Steps p.tables e below (s₁.setTop (mkF m 101 #[.val (.int p1), .val (.int p2), .val (.int (p1 &&& (7 : Int32))), .unset, .unset, .unset, .unset] [(.int (p2 &&& (1 : Int32)))])) t → Steps p.tables e below (s₁.setTop (mkF m 5 #[.val (.int p1), .val (.int p2), .val (.int (p1 &&& (7 : Int32))), .unset, .unset, .unset, .unset] [])) t := fun t k => k67 t (by
                    show Steps p.tables e below (s₁.setTop (mkF m 98 #[.val (.int p1), .val (.int p2), .val (.int (p1 &&& (7 : Int32))), .unset, .unset, .unset, .unset] [])) _
                    refine XS.iloadN X0.here hx rfl (hb hby at_98) rfl ?_
                    show Steps p.tables e below (s₁.setTop (mkF m 99 #[.val (.int p1), .val (.int p2), .val (.int (p1 &&& (7 : Int32))), .unset, .unset, .unset, .unset] [(.int p2)])) _
                    refine XS.iconst X0.here hx rfl (hb hby at_99) ?_
                    show Steps p.tables e below (s₁.setTop (mkF m 100 #[.val (.int p1), .val (.int p2), .val (.int (p1 &&& (7 : Int32))), .unset, .unset, .unset, .unset] [(.int (1 : Int32)), (.int p2)])) _
                    refine XS.iand X0.here hx rfl (hb hby at_100) rfl ?_
                    exact k)
                by_cases hc69 : (p2 &&& (1 : Int32)) = (0 : Int32)
                · have k70 : ∀ t, Steps p.tables e below (s₁.setTop (mkF m 104 #[.val (.int p1), .val (.int p2), .val (.int (p1 &&& (7 : Int32))), .unset, .unset, .unset, .unset] [])) t → Steps p.tables e below (s₁.setTop (mkF m 5 #[.val (.int p1), .val (.int p2), .val (.int (p1 &&& (7 : Int32))), .unset, .unset, .unset, .unset] [])) t := fun t k => k68 t (by
                      show Steps p.tables e below (s₁.setTop (mkF m 101 #[.val (.int p1), .val (.int p2), .val (.int (p1 &&& (7 : Int32))), .unset, .unset, .unset, .unset] [(.int (p2 &&& (1 : Int32)))])) _
                      refine XS.ifNo X0.here hx rfl (hb hby at_101) rfl ((if0 _ _).trans (teq hc69).2) ?_
                      exact k)
                  have k71 : ∀ t, Steps p.tables e below (s₁.setTop (mkF m 177 #[.val (.int p1), .val (.int p2), .val (.int (p1 &&& (7 : Int32))), .val (.int (255 : Int32)), .unset, .unset, .unset] [])) t → Steps p.tables e below (s₁.setTop (mkF m 5 #[.val (.int p1), .val (.int p2), .val (.int (p1 &&& (7 : Int32))), .unset, .unset, .unset, .unset] [])) t := fun t k => k70 t (by
                      show Steps p.tables e below (s₁.setTop (mkF m 104 #[.val (.int p1), .val (.int p2), .val (.int (p1 &&& (7 : Int32))), .unset, .unset, .unset, .unset] [])) _
                      refine XS.sipush X0.here hx rfl (hb hby at_104) ?_
                      show Steps p.tables e below (s₁.setTop (mkF m 107 #[.val (.int p1), .val (.int p2), .val (.int (p1 &&& (7 : Int32))), .unset, .unset, .unset, .unset] [(.int (255 : Int32))])) _
                      refine XS.goto X0.here hx rfl (pc0 := 107) (pc' := 113) rfl (hb hby at_107) (by decide) (by decide) ?_
                      show Steps p.tables e below (s₁.setTop (mkF m 113 #[.val (.int p1), .val (.int p2), .val (.int (p1 &&& (7 : Int32))), .unset, .unset, .unset, .unset] [(.int (255 : Int32))])) _
                      refine XS.istoreN X0.here hx rfl (hb hby at_113) rfl (l' := #[.val (.int p1), .val (.int p2), .val (.int (p1 &&& (7 : Int32))), .val (.int (255 : Int32)), .unset, .unset, .unset]) rfl ?_
                      show Steps p.tables e below (s₁.setTop (mkF m 114 #[.val (.int p1), .val (.int p2), .val (.int (p1 &&& (7 : Int32))), .val (.int (255 : Int32)), .unset, .unset, .unset] [])) _
                      refine XS.goto X0.here hx rfl (pc0 := 114) (pc' := 177) rfl (hb hby at_114) (by decide) (by decide) ?_
                      exact k)
                  exact ⟨(255 : Int32), .unset, ⟨(by constructor <;> decide), One.u⟩, k71⟩
                · have k72 : ∀ t, Steps p.tables e below (s₁.setTop (mkF m 110 #[.val (.int p1), .val (.int p2), .val (.int (p1 &&& (7 : Int32))), .unset, .unset, .unset, .unset] [])) t → Steps p.tables e below (s₁.setTop (mkF m 5 #[.val (.int p1), .val (.int p2), .val (.int (p1 &&& (7 : Int32))), .unset, .unset, .unset, .unset] [])) t := fun t k => k68 t (by
                      show Steps p.tables e below (s₁.setTop (mkF m 101 #[.val (.int p1), .val (.int p2), .val (.int (p1 &&& (7 : Int32))), .unset, .unset, .unset, .unset] [(.int (p2 &&& (1 : Int32)))])) _
                      refine XS.ifYes X0.here hx rfl (pc0 := 101) (pc' := 110) rfl (hb hby at_101) rfl ((if0 _ _).trans (feq hc69).2) (by decide) (by decide) ?_
                      exact k)
                  have k73 : ∀ t, Steps p.tables e below (s₁.setTop (mkF m 177 #[.val (.int p1), .val (.int p2), .val (.int (p1 &&& (7 : Int32))), .val (.int (768 : Int32)), .unset, .unset, .unset] [])) t → Steps p.tables e below (s₁.setTop (mkF m 5 #[.val (.int p1), .val (.int p2), .val (.int (p1 &&& (7 : Int32))), .unset, .unset, .unset, .unset] [])) t := fun t k => k72 t (by
                      show Steps p.tables e below (s₁.setTop (mkF m 110 #[.val (.int p1), .val (.int p2), .val (.int (p1 &&& (7 : Int32))), .unset, .unset, .unset, .unset] [])) _
                      refine XS.sipush X0.here hx rfl (hb hby at_110) ?_
                      show Steps p.tables e below (s₁.setTop (mkF m 113 #[.val (.int p1), .val (.int p2), .val (.int (p1 &&& (7 : Int32))), .unset, .unset, .unset, .unset] [(.int (768 : Int32))])) _
                      refine XS.istoreN X0.here hx rfl (hb hby at_113) rfl (l' := #[.val (.int p1), .val (.int p2), .val (.int (p1 &&& (7 : Int32))), .val (.int (768 : Int32)), .unset, .unset, .unset]) rfl ?_
                      show Steps p.tables e below (s₁.setTop (mkF m 114 #[.val (.int p1), .val (.int p2), .val (.int (p1 &&& (7 : Int32))), .val (.int (768 : Int32)), .unset, .unset, .unset] [])) _
                      refine XS.goto X0.here hx rfl (pc0 := 114) (pc' := 177) rfl (hb hby at_114) (by decide) (by decide) ?_
                      exact k)
                  exact ⟨(768 : Int32), .unset, ⟨(by constructor <;> decide), One.u⟩, k73⟩
              · have k74 : ∀ t, Steps p.tables e below (s₁.setTop (mkF m 117 #[.val (.int p1), .val (.int p2), .val (.int (p1 &&& (7 : Int32))), .unset, .unset, .unset, .unset] [])) t → Steps p.tables e below (s₁.setTop (mkF m 5 #[.val (.int p1), .val (.int p2), .val (.int (p1 &&& (7 : Int32))), .unset, .unset, .unset, .unset] [])) t := fun t k => k65 t (by
                    show Steps p.tables e below (s₁.setTop (mkF m 95 #[.val (.int p1), .val (.int p2), .val (.int (p1 &&& (7 : Int32))), .unset, .unset, .unset, .unset] [(.int (5 : Int32)), (.int (p1 &&& (7 : Int32)))])) _
                    refine XS.icmpYes X0.here hx rfl (pc0 := 95) (pc' := 117) rfl (hb hby at_95) rfl (feq hc66).2 (by decide) (by decide) ?_
                    exact k)
                have k75 : ∀ t, Steps p.tables e below (s₁.setTop (mkF m 120 #[.val (.int p1), .val (.int p2), .val (.int (p1 &&& (7 : Int32))), .unset, .unset, .unset, .unset] [(.int (6 : Int32)), (.int (p1 &&& (7 : Int32)))])) t → Steps p.tables e below (s₁.setTop (mkF m 5 #[.val (.int p1), .val (.int p2), .val (.int (p1 &&& (7 : Int32))), .unset, .unset, .unset, .unset] [])) t := fun t k => k74 t (by
                    show Steps p.tables e below (s₁.setTop (mkF m 117 #[.val (.int p1), .val (.int p2), .val (.int (p1 &&& (7 : Int32))), .unset, .unset, .unset, .unset] [])) _
                    refine XS.iloadN X0.here hx rfl (hb hby at_117) rfl ?_
                    show Steps p.tables e below (s₁.setTop (mkF m 118 #[.val (.int p1), .val (.int p2), .val (.int (p1 &&& (7 : Int32))), .unset, .unset, .unset, .unset] [(.int (p1 &&& (7 : Int32)))])) _
                    refine XS.bipush X0.here hx rfl (hb hby at_118) ?_
                    exact k)
                by_cases hc76 : (p1 &&& (7 : Int32)) = (6 : Int32)
                · have k77 : ∀ t, Steps p.tables e below (s₁.setTop (mkF m 123 #[.val (.int p1), .val (.int p2), .val (.int (p1 &&& (7 : Int32))), .unset, .unset, .unset, .unset] [])) t → Steps p.tables e below (s₁.setTop (mkF m 5 #[.val (.int p1), .val (.int p2), .val (.int (p1 &&& (7 : Int32))), .unset, .unset, .unset, .unset] [])) t := fun t k => k75 t (by
                      show Steps p.tables e below (s₁.setTop (mkF m 120 #[.val (.int p1), .val (.int p2), .val (.int (p1 &&& (7 : Int32))), .unset, .unset, .unset, .unset] [(.int (6 : Int32)), (.int (p1 &&& (7 : Int32)))])) _
                      refine XS.icmpNo X0.here hx rfl (hb hby at_120) rfl (teq hc76).2 ?_
                      exact k)
                  have k78 : ∀ t, Steps p.tables e below (s₁.setTop (mkF m 130 #[.val (.int p1), .val (.int p2), .val (.int (p1 &&& (7 : Int32))), .unset, .val (.int (p2 &&& (3 : Int32))), .unset, .unset] [(.int (p2 &&& (3 : Int32)))])) t → Steps p.tables e below (s₁.setTop (mkF m 5 #[.val (.int p1), .val (.int p2), .val (.int (p1 &&& (7 : Int32))), .unset, .unset, .unset, .unset] [])) t := fun t k => k77 t (by
                      show Steps p.tables e below (s₁.setTop (mkF m 123 #[.val (.int p1), .val (.int p2), .val (.int (p1 &&& (7 : Int32))), .unset, .unset, .unset, .unset] [])) _
                      refine XS.iloadN X0.here hx rfl (hb hby at_123) rfl ?_
                      show Steps p.tables e below (s₁.setTop (mkF m 124 #[.val (.int p1), .val (.int p2), .val (.int (p1 &&& (7 : Int32))), .unset, .unset, .unset, .unset] [(.int p2)])) _
                      refine XS.iconst X0.here hx rfl (hb hby at_124) ?_
                      show Steps p.tables e below (s₁.setTop (mkF m 125 #[.val (.int p1), .val (.int p2), .val (.int (p1 &&& (7 : Int32))), .unset, .unset, .unset, .unset] [(.int (3 : Int32)), (.int p2)])) _
                      refine XS.iand X0.here hx rfl (hb hby at_125) rfl ?_
                      show Steps p.tables e below (s₁.setTop (mkF m 126 #[.val (.int p1), .val (.int p2), .val (.int (p1 &&& (7 : Int32))), .unset, .unset, .unset, .unset] [(.int (p2 &&& (3 : Int32)))])) _
                      refine XS.istore X0.here hx rfl (hb hby at_126) rfl (l' := #[.val (.int p1), .val (.int p2), .val (.int (p1 &&& (7 : Int32))), .unset, .val (.int (p2 &&& (3 : Int32))), .unset, .unset]) rfl ?_
                      show Steps p.tables e below (s₁.setTop (mkF m 128 #[.val (.int p1), .val (.int p2), .val (.int (p1 &&& (7 : Int32))), .unset, .val (.int (p2 &&& (3 : Int32))), .unset, .unset] [])) _
                      refine XS.iload X0.here hx rfl (hb hby at_128) rfl ?_
                      exact k)
                  by_cases hc79 : (p2 &&& (3 : Int32)) = (0 : Int32)
                  · have k80 : ∀ t, Steps p.tables e below (s₁.setTop (mkF m 133 #[.val (.int p1), .val (.int p2), .val (.int (p1 &&& (7 : Int32))), .unset, .val (.int (p2 &&& (3 : Int32))), .unset, .unset] [])) t → Steps p.tables e below (s₁.setTop (mkF m 5 #[.val (.int p1), .val (.int p2), .val (.int (p1 &&& (7 : Int32))), .unset, .unset, .unset, .unset] [])) t := fun t k => k78 t (by
                        show Steps p.tables e below (s₁.setTop (mkF m 130 #[.val (.int p1), .val (.int p2), .val (.int (p1 &&& (7 : Int32))), .unset, .val (.int (p2 &&& (3 : Int32))), .unset, .unset] [(.int (p2 &&& (3 : Int32)))])) _
                        refine XS.ifNo X0.here hx rfl (hb hby at_130) rfl ((if0 _ _).trans (teq hc79).2) ?_
                        exact k)
                    have k81 : ∀ t, Steps p.tables e below (s₁.setTop (mkF m 177 #[.val (.int p1), .val (.int p2), .val (.int (p1 &&& (7 : Int32))), .val (.int (40959 : Int32)), .val (.int (p2 &&& (3 : Int32))), .unset, .unset] [])) t → Steps p.tables e below (s₁.setTop (mkF m 5 #[.val (.int p1), .val (.int p2), .val (.int (p1 &&& (7 : Int32))), .unset, .unset, .unset, .unset] [])) t := fun t k => k80 t (by
                        show Steps p.tables e below (s₁.setTop (mkF m 133 #[.val (.int p1), .val (.int p2), .val (.int (p1 &&& (7 : Int32))), .unset, .val (.int (p2 &&& (3 : Int32))), .unset, .unset] [])) _
                        refine X0.ldcInt hx hown (mvT hZ (hw _ (List.mem_of_getElem? (i := 9) rfl))) (g := (mkF m 133 #[.val (.int p1), .val (.int p2), .val (.int (p1 &&& (7 : Int32))), .unset, .val (.int (p2 &&& (3 : Int32))), .unset, .unset] [])) rfl (hb hby at_133) _ ?_
                        show Steps p.tables e below (s₁.setTop (mkF m 135 #[.val (.int p1), .val (.int p2), .val (.int (p1 &&& (7 : Int32))), .unset, .val (.int (p2 &&& (3 : Int32))), .unset, .unset] [(.int (40959 : Int32))])) _
                        refine XS.goto X0.here hx rfl (pc0 := 135) (pc' := 162) rfl (hb hby at_135) (by decide) (by decide) ?_
                        show Steps p.tables e below (s₁.setTop (mkF m 162 #[.val (.int p1), .val (.int p2), .val (.int (p1 &&& (7 : Int32))), .unset, .val (.int (p2 &&& (3 : Int32))), .unset, .unset] [(.int (40959 : Int32))])) _
                        refine XS.istoreN X0.here hx rfl (hb hby at_162) rfl (l' := #[.val (.int p1), .val (.int p2), .val (.int (p1 &&& (7 : Int32))), .val (.int (40959 : Int32)), .val (.int (p2 &&& (3 : Int32))), .unset, .unset]) rfl ?_
                        show Steps p.tables e below (s₁.setTop (mkF m 163 #[.val (.int p1), .val (.int p2), .val (.int (p1 &&& (7 : Int32))), .val (.int (40959 : Int32)), .val (.int (p2 &&& (3 : Int32))), .unset, .unset] [])) _
                        refine XS.goto X0.here hx rfl (pc0 := 163) (pc' := 177) rfl (hb hby at_163) (by decide) (by decide) ?_
                        exact k)
                    exact ⟨(40959 : Int32), .val (.int (p2 &&& (3 : Int32))), ⟨(by constructor <;> decide), (One.val rfl)⟩, k81⟩
                  · have k82 : ∀ t, Steps p.tables e below (s₁.setTop (mkF m 138 #[.val (.int p1), .val (.int p2), .val (.int (p1 &&& (7 : Int32))), .unset, .val (.int (p2 &&& (3 : Int32))), .unset, .unset] [])) t → Steps p.tables e below (s₁.setTop (mkF m 5 #[.val (.int p1), .val (.int p2), .val (.int (p1 &&& (7 : Int32))), .unset, .unset, .unset, .unset] [])) t := fun t k => k78 t (by
                        show Steps p.tables e below (s₁.setTop (mkF m 130 #[.val (.int p1), .val (.int p2), .val (.int (p1 &&& (7 : Int32))), .unset, .val (.int (p2 &&& (3 : Int32))), .unset, .unset] [(.int (p2 &&& (3 : Int32)))])) _
                        refine XS.ifYes X0.here hx rfl (pc0 := 130) (pc' := 138) rfl (hb hby at_130) rfl ((if0 _ _).trans (feq hc79).2) (by decide) (by decide) ?_
                        exact k)
                    have k83 : ∀ t, Steps p.tables e below (s₁.setTop (mkF m 141 #[.val (.int p1), .val (.int p2), .val (.int (p1 &&& (7 : Int32))), .unset, .val (.int (p2 &&& (3 : Int32))), .unset, .unset] [(.int (1 : Int32)), (.int (p2 &&& (3 : Int32)))])) t → Steps p.tables e below (s₁.setTop (mkF m 5 #[.val (.int p1), .val (.int p2), .val (.int (p1 &&& (7 : Int32))), .unset, .unset, .unset, .unset] [])) t := fun t k => k82 t (by
                        show Steps p.tables e below (s₁.setTop (mkF m 138 #[.val (.int p1), .val (.int p2), .val (.int (p1 &&& (7 : Int32))), .unset, .val (.int (p2 &&& (3 : Int32))), .unset, .unset] [])) _
                        refine XS.iload X0.here hx rfl (hb hby at_138) rfl ?_
                        show Steps p.tables e below (s₁.setTop (mkF m 140 #[.val (.int p1), .val (.int p2), .val (.int (p1 &&& (7 : Int32))), .unset, .val (.int (p2 &&& (3 : Int32))), .unset, .unset] [(.int (p2 &&& (3 : Int32)))])) _
                        refine XS.iconst X0.here hx rfl (hb hby at_140) ?_
                        exact k)
                    by_cases hc84 : (p2 &&& (3 : Int32)) = (1 : Int32)
                    · have k85 : ∀ t, Steps p.tables e below (s₁.setTop (mkF m 144 #[.val (.int p1), .val (.int p2), .val (.int (p1 &&& (7 : Int32))), .unset, .val (.int (p2 &&& (3 : Int32))), .unset, .unset] [])) t → Steps p.tables e below (s₁.setTop (mkF m 5 #[.val (.int p1), .val (.int p2), .val (.int (p1 &&& (7 : Int32))), .unset, .unset, .unset, .unset] [])) t := fun t k => k83 t (by
                          show Steps p.tables e below (s₁.setTop (mkF m 141 #[.val (.int p1), .val (.int p2), .val (.int (p1 &&& (7 : Int32))), .unset, .val (.int (p2 &&& (3 : Int32))), .unset, .unset] [(.int (1 : Int32)), (.int (p2 &&& (3 : Int32)))])) _
                          refine XS.icmpNo X0.here hx rfl (hb hby at_141) rfl (teq hc84).2 ?_
                          exact k)
                      have k86 : ∀ t, Steps p.tables e below (s₁.setTop (mkF m 177 #[.val (.int p1), .val (.int p2), .val (.int (p1 &&& (7 : Int32))), .val (.int (45056 : Int32)), .val (.int (p2 &&& (3 : Int32))), .unset, .unset] [])) t → Steps p.tables e below (s₁.setTop (mkF m 5 #[.val (.int p1), .val (.int p2), .val (.int (p1 &&& (7 : Int32))), .unset, .unset, .unset, .unset] [])) t := fun t k => k85 t (by
                          show Steps p.tables e below (s₁.setTop (mkF m 144 #[.val (.int p1), .val (.int p2), .val (.int (p1 &&& (7 : Int32))), .unset, .val (.int (p2 &&& (3 : Int32))), .unset, .unset] [])) _
                          refine X0.ldcInt hx hown (mvT hZ (hw _ (List.mem_of_getElem? (i := 8) rfl))) (g := (mkF m 144 #[.val (.int p1), .val (.int p2), .val (.int (p1 &&& (7 : Int32))), .unset, .val (.int (p2 &&& (3 : Int32))), .unset, .unset] [])) rfl (hb hby at_144) _ ?_
                          show Steps p.tables e below (s₁.setTop (mkF m 146 #[.val (.int p1), .val (.int p2), .val (.int (p1 &&& (7 : Int32))), .unset, .val (.int (p2 &&& (3 : Int32))), .unset, .unset] [(.int (45056 : Int32))])) _
                          refine XS.goto X0.here hx rfl (pc0 := 146) (pc' := 162) rfl (hb hby at_146) (by decide) (by decide) ?_
                          show Steps p.tables e below (s₁.setTop (mkF m 162 #[.val (.int p1), .val (.int p2), .val (.int (p1 &&& (7 : Int32))), .unset, .val (.int (p2 &&& (3 : Int32))), .unset, .unset] [(.int (45056 : Int32))])) _
                          refine XS.istoreN X0.here hx rfl (hb hby at_162) rfl (l' := #[.val (.int p1), .val (.int p2), .val (.int (p1 &&& (7 : Int32))), .val (.int (45056 : Int32)), .val (.int (p2 &&& (3 : Int32))), .unset, .unset]) rfl ?_
                          show Steps p.tables e below (s₁.setTop (mkF m 163 #[.val (.int p1), .val (.int p2), .val (.int (p1 &&& (7 : Int32))), .val (.int (45056 : Int32)), .val (.int (p2 &&& (3 : Int32))), .unset, .unset] [])) _
                          refine XS.goto X0.here hx rfl (pc0 := 163) (pc' := 177) rfl (hb hby at_163) (by decide) (by decide) ?_
                          exact k)
                      exact ⟨(45056 : Int32), .val (.int (p2 &&& (3 : Int32))), ⟨(by constructor <;> decide), (One.val rfl)⟩, k86⟩
                    · have k87 : ∀ t, Steps p.tables e below (s₁.setTop (mkF m 149 #[.val (.int p1), .val (.int p2), .val (.int (p1 &&& (7 : Int32))), .unset, .val (.int (p2 &&& (3 : Int32))), .unset, .unset] [])) t → Steps p.tables e below (s₁.setTop (mkF m 5 #[.val (.int p1), .val (.int p2), .val (.int (p1 &&& (7 : Int32))), .unset, .unset, .unset, .unset] [])) t := fun t k => k83 t (by
                          show Steps p.tables e below (s₁.setTop (mkF m 141 #[.val (.int p1), .val (.int p2), .val (.int (p1 &&& (7 : Int32))), .unset, .val (.int (p2 &&& (3 : Int32))), .unset, .unset] [(.int (1 : Int32)), (.int (p2 &&& (3 : Int32)))])) _
                          refine XS.icmpYes X0.here hx rfl (pc0 := 141) (pc' := 149) rfl (hb hby at_141) rfl (feq hc84).2 (by decide) (by decide) ?_
                          exact k)
                      have k88 : ∀ t, Steps p.tables e below (s₁.setTop (mkF m 152 #[.val (.int p1), .val (.int p2), .val (.int (p1 &&& (7 : Int32))), .unset, .val (.int (p2 &&& (3 : Int32))), .unset, .unset] [(.int (2 : Int32)), (.int (p2 &&& (3 : Int32)))])) t → Steps p.tables e below (s₁.setTop (mkF m 5 #[.val (.int p1), .val (.int p2), .val (.int (p1 &&& (7 : Int32))), .unset, .unset, .unset, .unset] [])) t := fun t k => k87 t (by
                          show Steps p.tables e below (s₁.setTop (mkF m 149 #[.val (.int p1), .val (.int p2), .val (.int (p1 &&& (7 : Int32))), .unset, .val (.int (p2 &&& (3 : Int32))), .unset, .unset] [])) _
                          refine XS.iload X0.here hx rfl (hb hby at_149) rfl ?_
                          show Steps p.tables e below (s₁.setTop (mkF m 151 #[.val (.int p1), .val (.int p2), .val (.int (p1 &&& (7 : Int32))), .unset, .val (.int (p2 &&& (3 : Int32))), .unset, .unset] [(.int (p2 &&& (3 : Int32)))])) _
                          refine XS.iconst X0.here hx rfl (hb hby at_151) ?_
                          exact k)
                      by_cases hc89 : (p2 &&& (3 : Int32)) = (2 : Int32)
                      · have k90 : ∀ t, Steps p.tables e below (s₁.setTop (mkF m 155 #[.val (.int p1), .val (.int p2), .val (.int (p1 &&& (7 : Int32))), .unset, .val (.int (p2 &&& (3 : Int32))), .unset, .unset] [])) t → Steps p.tables e below (s₁.setTop (mkF m 5 #[.val (.int p1), .val (.int p2), .val (.int (p1 &&& (7 : Int32))), .unset, .unset, .unset, .unset] [])) t := fun t k => k88 t (by
                            show Steps p.tables e below (s₁.setTop (mkF m 152 #[.val (.int p1), .val (.int p2), .val (.int (p1 &&& (7 : Int32))), .unset, .val (.int (p2 &&& (3 : Int32))), .unset, .unset] [(.int (2 : Int32)), (.int (p2 &&& (3 : Int32)))])) _
                            refine XS.icmpNo X0.here hx rfl (hb hby at_152) rfl (teq hc89).2 ?_
                            exact k)
                        have k91 : ∀ t, Steps p.tables e below (s₁.setTop (mkF m 177 #[.val (.int p1), .val (.int p2), .val (.int (p1 &&& (7 : Int32))), .val (.int (49151 : Int32)), .val (.int (p2 &&& (3 : Int32))), .unset, .unset] [])) t → Steps p.tables e below (s₁.setTop (mkF m 5 #[.val (.int p1), .val (.int p2), .val (.int (p1 &&& (7 : Int32))), .unset, .unset, .unset, .unset] [])) t := fun t k => k90 t (by
                            show Steps p.tables e below (s₁.setTop (mkF m 155 #[.val (.int p1), .val (.int p2), .val (.int (p1 &&& (7 : Int32))), .unset, .val (.int (p2 &&& (3 : Int32))), .unset, .unset] [])) _
                            refine X0.ldcInt hx hown (mvT hZ (hw _ (List.mem_of_getElem? (i := 14) rfl))) (g := (mkF m 155 #[.val (.int p1), .val (.int p2), .val (.int (p1 &&& (7 : Int32))), .unset, .val (.int (p2 &&& (3 : Int32))), .unset, .unset] [])) rfl (hb hby at_155) _ ?_
                            show Steps p.tables e below (s₁.setTop (mkF m 157 #[.val (.int p1), .val (.int p2), .val (.int (p1 &&& (7 : Int32))), .unset, .val (.int (p2 &&& (3 : Int32))), .unset, .unset] [(.int (49151 : Int32))])) _
                            refine XS.goto X0.here hx rfl (pc0 := 157) (pc' := 162) rfl (hb hby at_157) (by decide) (by decide) ?_
                            show Steps p.tables e below (s₁.setTop (mkF m 162 #[.val (.int p1), .val (.int p2), .val (.int (p1 &&& (7 : Int32))), .unset, .val (.int (p2 &&& (3 : Int32))), .unset, .unset] [(.int (49151 : Int32))])) _
                            refine XS.istoreN X0.here hx rfl (hb hby at_162) rfl (l' := #[.val (.int p1), .val (.int p2), .val (.int (p1 &&& (7 : Int32))), .val (.int (49151 : Int32)), .val (.int (p2 &&& (3 : Int32))), .unset, .unset]) rfl ?_
                            show Steps p.tables e below (s₁.setTop (mkF m 163 #[.val (.int p1), .val (.int p2), .val (.int (p1 &&& (7 : Int32))), .val (.int (49151 : Int32)), .val (.int (p2 &&& (3 : Int32))), .unset, .unset] [])) _
                            refine XS.goto X0.here hx rfl (pc0 := 163) (pc' := 177) rfl (hb hby at_163) (by decide) (by decide) ?_
                            exact k)
                        exact ⟨(49151 : Int32), .val (.int (p2 &&& (3 : Int32))), ⟨(by constructor <;> decide), (One.val rfl)⟩, k91⟩
                      · have k92 : ∀ t, Steps p.tables e below (s₁.setTop (mkF m 160 #[.val (.int p1), .val (.int p2), .val (.int (p1 &&& (7 : Int32))), .unset, .val (.int (p2 &&& (3 : Int32))), .unset, .unset] [])) t → Steps p.tables e below (s₁.setTop (mkF m 5 #[.val (.int p1), .val (.int p2), .val (.int (p1 &&& (7 : Int32))), .unset, .unset, .unset, .unset] [])) t := fun t k => k88 t (by
                            show Steps p.tables e below (s₁.setTop (mkF m 152 #[.val (.int p1), .val (.int p2), .val (.int (p1 &&& (7 : Int32))), .unset, .val (.int (p2 &&& (3 : Int32))), .unset, .unset] [(.int (2 : Int32)), (.int (p2 &&& (3 : Int32)))])) _
                            refine XS.icmpYes X0.here hx rfl (pc0 := 152) (pc' := 160) rfl (hb hby at_152) rfl (feq hc89).2 (by decide) (by decide) ?_
                            exact k)
                        have k93 : ∀ t, Steps p.tables e below (s₁.setTop (mkF m 177 #[.val (.int p1), .val (.int p2), .val (.int (p1 &&& (7 : Int32))), .val (.int (53248 : Int32)), .val (.int (p2 &&& (3 : Int32))), .unset, .unset] [])) t → Steps p.tables e below (s₁.setTop (mkF m 5 #[.val (.int p1), .val (.int p2), .val (.int (p1 &&& (7 : Int32))), .unset, .unset, .unset, .unset] [])) t := fun t k => k92 t (by
                            show Steps p.tables e below (s₁.setTop (mkF m 160 #[.val (.int p1), .val (.int p2), .val (.int (p1 &&& (7 : Int32))), .unset, .val (.int (p2 &&& (3 : Int32))), .unset, .unset] [])) _
                            refine X0.ldcInt hx hown (mvT hZ (hw _ (List.mem_of_getElem? (i := 12) rfl))) (g := (mkF m 160 #[.val (.int p1), .val (.int p2), .val (.int (p1 &&& (7 : Int32))), .unset, .val (.int (p2 &&& (3 : Int32))), .unset, .unset] [])) rfl (hb hby at_160) _ ?_
                            show Steps p.tables e below (s₁.setTop (mkF m 162 #[.val (.int p1), .val (.int p2), .val (.int (p1 &&& (7 : Int32))), .unset, .val (.int (p2 &&& (3 : Int32))), .unset, .unset] [(.int (53248 : Int32))])) _
                            refine XS.istoreN X0.here hx rfl (hb hby at_162) rfl (l' := #[.val (.int p1), .val (.int p2), .val (.int (p1 &&& (7 : Int32))), .val (.int (53248 : Int32)), .val (.int (p2 &&& (3 : Int32))), .unset, .unset]) rfl ?_
                            show Steps p.tables e below (s₁.setTop (mkF m 163 #[.val (.int p1), .val (.int p2), .val (.int (p1 &&& (7 : Int32))), .val (.int (53248 : Int32)), .val (.int (p2 &&& (3 : Int32))), .unset, .unset] [])) _
                            refine XS.goto X0.here hx rfl (pc0 := 163) (pc' := 177) rfl (hb hby at_163) (by decide) (by decide) ?_
                            exact k)
                        exact ⟨(53248 : Int32), .val (.int (p2 &&& (3 : Int32))), ⟨(by constructor <;> decide), (One.val rfl)⟩, k93⟩
                · have k94 : ∀ t, Steps p.tables e below (s₁.setTop (mkF m 166 #[.val (.int p1), .val (.int p2), .val (.int (p1 &&& (7 : Int32))), .unset, .unset, .unset, .unset] [])) t → Steps p.tables e below (s₁.setTop (mkF m 5 #[.val (.int p1), .val (.int p2), .val (.int (p1 &&& (7 : Int32))), .unset, .unset, .unset, .unset] [])) t := fun t k => k75 t (by
                      show Steps p.tables e below (s₁.setTop (mkF m 120 #[.val (.int p1), .val (.int p2), .val (.int (p1 &&& (7 : Int32))), .unset, .unset, .unset, .unset] [(.int (6 : Int32)), (.int (p1 &&& (7 : Int32)))])) _
                      refine XS.icmpYes X0.here hx rfl (pc0 := 120) (pc' := 166) rfl (hb hby at_120) rfl (feq hc76).2 (by decide) (by decide) ?_
                      exact k)
                  have k95 : ∀ t, Steps p.tables e below (s₁.setTop (mkF m 177 #[.val (.int p1), .val (.int p2), .val (.int (p1 &&& (7 : Int32))), .val (.int ((65024 : Int32) ||| (((p2.toUInt32 >>> ((1 : Int32) &&& 31).toUInt32).toInt32) &&& (511 : Int32)))), .unset, .unset, .unset] [])) t → Steps p.tables e below (s₁.setTop (mkF m 5 #[.val (.int p1), .val (.int p2), .val (.int (p1 &&& (7 : Int32))), .unset, .unset, .unset, .unset] [])) t := fun t k => k94 t (by
                      show Steps p.tables e below (s₁.setTop (mkF m 166 #[.val (.int p1), .val (.int p2), .val (.int (p1 &&& (7 : Int32))), .unset, .unset, .unset, .unset] [])) _
                      refine X0.ldcInt hx hown (mvT hZ (hw _ (List.mem_of_getElem? (i := 10) rfl))) (g := (mkF m 166 #[.val (.int p1), .val (.int p2), .val (.int (p1 &&& (7 : Int32))), .unset, .unset, .unset, .unset] [])) rfl (hb hby at_166) _ ?_
                      show Steps p.tables e below (s₁.setTop (mkF m 168 #[.val (.int p1), .val (.int p2), .val (.int (p1 &&& (7 : Int32))), .unset, .unset, .unset, .unset] [(.int (65024 : Int32))])) _
                      refine XS.iloadN X0.here hx rfl (hb hby at_168) rfl ?_
                      show Steps p.tables e below (s₁.setTop (mkF m 169 #[.val (.int p1), .val (.int p2), .val (.int (p1 &&& (7 : Int32))), .unset, .unset, .unset, .unset] [(.int p2), (.int (65024 : Int32))])) _
                      refine XS.iconst X0.here hx rfl (hb hby at_169) ?_
                      show Steps p.tables e below (s₁.setTop (mkF m 170 #[.val (.int p1), .val (.int p2), .val (.int (p1 &&& (7 : Int32))), .unset, .unset, .unset, .unset] [(.int (1 : Int32)), (.int p2), (.int (65024 : Int32))])) _
                      refine XS.iushr X0.here hx rfl (hb hby at_170) rfl ?_
                      show Steps p.tables e below (s₁.setTop (mkF m 171 #[.val (.int p1), .val (.int p2), .val (.int (p1 &&& (7 : Int32))), .unset, .unset, .unset, .unset] [(.int ((p2.toUInt32 >>> ((1 : Int32) &&& 31).toUInt32).toInt32)), (.int (65024 : Int32))])) _
                      refine XS.sipush X0.here hx rfl (hb hby at_171) ?_
                      show Steps p.tables e below (s₁.setTop (mkF m 174 #[.val (.int p1), .val (.int p2), .val (.int (p1 &&& (7 : Int32))), .unset, .unset, .unset, .unset] [(.int (511 : Int32)), (.int ((p2.toUInt32 >>> ((1 : Int32) &&& 31).toUInt32).toInt32)), (.int (65024 : Int32))])) _
                      refine XS.iand X0.here hx rfl (hb hby at_174) rfl ?_
                      show Steps p.tables e below (s₁.setTop (mkF m 175 #[.val (.int p1), .val (.int p2), .val (.int (p1 &&& (7 : Int32))), .unset, .unset, .unset, .unset] [(.int (((p2.toUInt32 >>> ((1 : Int32) &&& 31).toUInt32).toInt32) &&& (511 : Int32))), (.int (65024 : Int32))])) _
                      refine XS.ior X0.here hx rfl (hb hby at_175) rfl ?_
                      show Steps p.tables e below (s₁.setTop (mkF m 176 #[.val (.int p1), .val (.int p2), .val (.int (p1 &&& (7 : Int32))), .unset, .unset, .unset, .unset] [(.int ((65024 : Int32) ||| (((p2.toUInt32 >>> ((1 : Int32) &&& 31).toUInt32).toInt32) &&& (511 : Int32))))])) _
                      refine XS.istoreN X0.here hx rfl (hb hby at_176) rfl (l' := #[.val (.int p1), .val (.int p2), .val (.int (p1 &&& (7 : Int32))), .val (.int ((65024 : Int32) ||| (((p2.toUInt32 >>> ((1 : Int32) &&& 31).toUInt32).toInt32) &&& (511 : Int32)))), .unset, .unset, .unset]) rfl ?_
                      exact k)
                  exact ⟨((65024 : Int32) ||| (((p2.toUInt32 >>> ((1 : Int32) &&& 31).toUInt32).toInt32) &&& (511 : Int32))), .unset, ⟨(own_or (by constructor <;> decide) (own_and _ _ (by constructor <;> decide))), One.u⟩, k95⟩
  have k96 : ∀ t, Steps p.tables e below (s₁.setTop (mkF m 177 #[.val (.int p1), .val (.int p2), .val (.int (p1 &&& (7 : Int32))), .val (.int x), s4, .unset, .unset] [])) t → Steps p.tables e below (s₁.setTop (entryFrame m #[(.int p1), (.int p2)] maxLocals)) t := fun t q => k32 t (k33 t q)
  obtain ⟨hin, h4⟩ := hj34
  have k97 : ∀ t, Steps p.tables e below (s₁.setTop (mkF m 189 #[.val (.int p1), .val (.int p2), .val (.int (p1 &&& (7 : Int32))), .val (.int x), .val (.int ((x.toUInt32 >>> ((12 : Int32) &&& 31).toUInt32).toInt32)), .val (.int ((x.toUInt32 >>> ((8 : Int32) &&& 31).toUInt32).toInt32)), .unset] [])) t → Steps p.tables e below (s₁.setTop (entryFrame m #[(.int p1), (.int p2)] maxLocals)) t := fun t k => k96 t (by
      show Steps p.tables e below (s₁.setTop (mkF m 177 #[.val (.int p1), .val (.int p2), .val (.int (p1 &&& (7 : Int32))), .val (.int x), s4, .unset, .unset] [])) _
      refine XS.iloadN X0.here hx rfl (hb hby at_177) rfl ?_
      show Steps p.tables e below (s₁.setTop (mkF m 178 #[.val (.int p1), .val (.int p2), .val (.int (p1 &&& (7 : Int32))), .val (.int x), s4, .unset, .unset] [(.int x)])) _
      refine XS.bipush X0.here hx rfl (hb hby at_178) ?_
      show Steps p.tables e below (s₁.setTop (mkF m 180 #[.val (.int p1), .val (.int p2), .val (.int (p1 &&& (7 : Int32))), .val (.int x), s4, .unset, .unset] [(.int (12 : Int32)), (.int x)])) _
      refine XS.iushr X0.here hx rfl (hb hby at_180) rfl ?_
      show Steps p.tables e below (s₁.setTop (mkF m 181 #[.val (.int p1), .val (.int p2), .val (.int (p1 &&& (7 : Int32))), .val (.int x), s4, .unset, .unset] [(.int ((x.toUInt32 >>> ((12 : Int32) &&& 31).toUInt32).toInt32))])) _
      refine XS.istore X0.here hx rfl (hb hby at_181) rfl (l' := #[.val (.int p1), .val (.int p2), .val (.int (p1 &&& (7 : Int32))), .val (.int x), .val (.int ((x.toUInt32 >>> ((12 : Int32) &&& 31).toUInt32).toInt32)), .unset, .unset]) (own_st h4) ?_
      show Steps p.tables e below (s₁.setTop (mkF m 183 #[.val (.int p1), .val (.int p2), .val (.int (p1 &&& (7 : Int32))), .val (.int x), .val (.int ((x.toUInt32 >>> ((12 : Int32) &&& 31).toUInt32).toInt32)), .unset, .unset] [])) _
      refine XS.iloadN X0.here hx rfl (hb hby at_183) rfl ?_
      show Steps p.tables e below (s₁.setTop (mkF m 184 #[.val (.int p1), .val (.int p2), .val (.int (p1 &&& (7 : Int32))), .val (.int x), .val (.int ((x.toUInt32 >>> ((12 : Int32) &&& 31).toUInt32).toInt32)), .unset, .unset] [(.int x)])) _
      refine XS.bipush X0.here hx rfl (hb hby at_184) ?_
      show Steps p.tables e below (s₁.setTop (mkF m 186 #[.val (.int p1), .val (.int p2), .val (.int (p1 &&& (7 : Int32))), .val (.int x), .val (.int ((x.toUInt32 >>> ((12 : Int32) &&& 31).toUInt32).toInt32)), .unset, .unset] [(.int (8 : Int32)), (.int x)])) _
      refine XS.iushr X0.here hx rfl (hb hby at_186) rfl ?_
      show Steps p.tables e below (s₁.setTop (mkF m 187 #[.val (.int p1), .val (.int p2), .val (.int (p1 &&& (7 : Int32))), .val (.int x), .val (.int ((x.toUInt32 >>> ((12 : Int32) &&& 31).toUInt32).toInt32)), .unset, .unset] [(.int ((x.toUInt32 >>> ((8 : Int32) &&& 31).toUInt32).toInt32))])) _
      refine XS.istore X0.here hx rfl (hb hby at_187) rfl (l' := #[.val (.int p1), .val (.int p2), .val (.int (p1 &&& (7 : Int32))), .val (.int x), .val (.int ((x.toUInt32 >>> ((12 : Int32) &&& 31).toUInt32).toInt32)), .val (.int ((x.toUInt32 >>> ((8 : Int32) &&& 31).toUInt32).toInt32)), .unset]) rfl ?_
      exact k)
  have hi := c_iushr x (12 : Int32) 12 (by decide) (by decide)
  have mi := c_iushr x (8 : Int32) 8 (by decide) (by decide)
  obtain ⟨y, ey⟩ : ∃ z, z = ((x.toUInt32 >>> ((12 : Int32) &&& 31).toUInt32).toInt32) := ⟨_, rfl⟩
  rw [← ey] at k97
  obtain ⟨z, ez⟩ : ∃ z, z = ((x.toUInt32 >>> ((8 : Int32) &&& 31).toUInt32).toInt32) := ⟨_, rfl⟩
  rw [← ez] at k97
  rw [← ey] at hi
  rw [← ez] at mi
  obtain ⟨b, hj99, k98⟩ : ∃ (b : Int32), (own_b x = b) ∧ ∀ t, Steps p.tables e below (s₁.setTop (mkF m 236 #[.val (.int p1), .val (.int p2), .val (.int (p1 &&& (7 : Int32))), .val (.int x), .val (.int y), .val (.int z), .val (.int b)] [])) t → Steps p.tables e below (s₁.setTop (mkF m 189 #[.val (.int p1), .val (.int p2), .val (.int (p1 &&& (7 : Int32))), .val (.int x), .val (.int y), .val (.int z), .unset] [])) t := by
    have kid : ∀ t, Steps p.tables e below (s₁.setTop (mkF m 189 #[.val (.int p1), .val (.int p2), .val (.int (p1 &&& (7 : Int32))), .val (.int x), .val (.int y), .val (.int z), .unset] [])) t → Steps p.tables e below (s₁.setTop (mkF m 189 #[.val (.int p1), .val (.int p2), .val (.int (p1 &&& (7 : Int32))), .val (.int x), .val (.int y), .val (.int z), .unset] [])) t := fun _ k => k
    have k100 : ∀ t, Steps p.tables e below (s₁.setTop (mkF m 193 #[.val (.int p1), .val (.int p2), .val (.int (p1 &&& (7 : Int32))), .val (.int x), .val (.int y), .val (.int z), .unset] [(.int (10 : Int32)), (.int y)])) t → Steps p.tables e below (s₁.setTop (mkF m 189 #[.val (.int p1), .val (.int p2), .val (.int (p1 &&& (7 : Int32))), .val (.int x), .val (.int y), .val (.int z), .unset] [])) t := fun t k => kid t (by
        show Steps p.tables e below (s₁.setTop (mkF m 189 #[.val (.int p1), .val (.int p2), .val (.int (p1 &&& (7 : Int32))), .val (.int x), .val (.int y), .val (.int z), .unset] [])) _
        refine XS.iload X0.here hx rfl (hb hby at_189) rfl ?_
        show Steps p.tables e below (s₁.setTop (mkF m 191 #[.val (.int p1), .val (.int p2), .val (.int (p1 &&& (7 : Int32))), .val (.int x), .val (.int y), .val (.int z), .unset] [(.int y)])) _
        refine XS.bipush X0.here hx rfl (hb hby at_191) ?_
        exact k)
    by_cases hc101 : y = (10 : Int32)
    · have k102 : ∀ t, Steps p.tables e below (s₁.setTop (mkF m 229 #[.val (.int p1), .val (.int p2), .val (.int (p1 &&& (7 : Int32))), .val (.int x), .val (.int y), .val (.int z), .unset] [])) t → Steps p.tables e below (s₁.setTop (mkF m 189 #[.val (.int p1), .val (.int p2), .val (.int (p1 &&& (7 : Int32))), .val (.int x), .val (.int y), .val (.int z), .unset] [])) t := fun t k => k100 t (by
          show Steps p.tables e below (s₁.setTop (mkF m 193 #[.val (.int p1), .val (.int p2), .val (.int (p1 &&& (7 : Int32))), .val (.int x), .val (.int y), .val (.int z), .unset] [(.int (10 : Int32)), (.int y)])) _
          refine XS.icmpYes X0.here hx rfl (pc0 := 193) (pc' := 229) rfl (hb hby at_193) rfl (teq hc101).1 (by decide) (by decide) ?_
          exact k)
      have k103 : ∀ t, Steps p.tables e below (s₁.setTop (mkF m 236 #[.val (.int p1), .val (.int p2), .val (.int (p1 &&& (7 : Int32))), .val (.int x), .val (.int y), .val (.int z), .val (.int (1 : Int32))] [])) t → Steps p.tables e below (s₁.setTop (mkF m 189 #[.val (.int p1), .val (.int p2), .val (.int (p1 &&& (7 : Int32))), .val (.int x), .val (.int y), .val (.int z), .unset] [])) t := fun t k => k102 t (by
          show Steps p.tables e below (s₁.setTop (mkF m 229 #[.val (.int p1), .val (.int p2), .val (.int (p1 &&& (7 : Int32))), .val (.int x), .val (.int y), .val (.int z), .unset] [])) _
          refine XS.iconst X0.here hx rfl (hb hby at_229) ?_
          show Steps p.tables e below (s₁.setTop (mkF m 230 #[.val (.int p1), .val (.int p2), .val (.int (p1 &&& (7 : Int32))), .val (.int x), .val (.int y), .val (.int z), .unset] [(.int (1 : Int32))])) _
          refine XS.goto X0.here hx rfl (pc0 := 230) (pc' := 234) rfl (hb hby at_230) (by decide) (by decide) ?_
          show Steps p.tables e below (s₁.setTop (mkF m 234 #[.val (.int p1), .val (.int p2), .val (.int (p1 &&& (7 : Int32))), .val (.int x), .val (.int y), .val (.int z), .unset] [(.int (1 : Int32))])) _
          refine XS.istore X0.here hx rfl (hb hby at_234) rfl (l' := #[.val (.int p1), .val (.int p2), .val (.int (p1 &&& (7 : Int32))), .val (.int x), .val (.int y), .val (.int z), .val (.int (1 : Int32))]) rfl ?_
          exact k)
      have ef : own_fail x := by
        have i1 := hin.1; have i2 := hin.2
        simp only [← Int32.toInt_inj, show (10 : Int32).toInt = 10 from by decide, show (12 : Int32).toInt = 12 from by decide, show (1 : Int32).toInt = 1 from by decide, show (2 : Int32).toInt = 2 from by decide, show (263 : Int32).toInt = 263 from by decide, show (278 : Int32).toInt = 278 from by decide] at hc101
        unfold own_fail
        omega
      exact ⟨(1 : Int32), (by rw [own_b1 ef]), k103⟩
    · have k104 : ∀ t, Steps p.tables e below (s₁.setTop (mkF m 196 #[.val (.int p1), .val (.int p2), .val (.int (p1 &&& (7 : Int32))), .val (.int x), .val (.int y), .val (.int z), .unset] [])) t → Steps p.tables e below (s₁.setTop (mkF m 189 #[.val (.int p1), .val (.int p2), .val (.int (p1 &&& (7 : Int32))), .val (.int x), .val (.int y), .val (.int z), .unset] [])) t := fun t k => k100 t (by
          show Steps p.tables e below (s₁.setTop (mkF m 193 #[.val (.int p1), .val (.int p2), .val (.int (p1 &&& (7 : Int32))), .val (.int x), .val (.int y), .val (.int z), .unset] [(.int (10 : Int32)), (.int y)])) _
          refine XS.icmpNo X0.here hx rfl (hb hby at_193) rfl (feq hc101).1 ?_
          exact k)
      have k105 : ∀ t, Steps p.tables e below (s₁.setTop (mkF m 200 #[.val (.int p1), .val (.int p2), .val (.int (p1 &&& (7 : Int32))), .val (.int x), .val (.int y), .val (.int z), .unset] [(.int (12 : Int32)), (.int y)])) t → Steps p.tables e below (s₁.setTop (mkF m 189 #[.val (.int p1), .val (.int p2), .val (.int (p1 &&& (7 : Int32))), .val (.int x), .val (.int y), .val (.int z), .unset] [])) t := fun t k => k104 t (by
          show Steps p.tables e below (s₁.setTop (mkF m 196 #[.val (.int p1), .val (.int p2), .val (.int (p1 &&& (7 : Int32))), .val (.int x), .val (.int y), .val (.int z), .unset] [])) _
          refine XS.iload X0.here hx rfl (hb hby at_196) rfl ?_
          show Steps p.tables e below (s₁.setTop (mkF m 198 #[.val (.int p1), .val (.int p2), .val (.int (p1 &&& (7 : Int32))), .val (.int x), .val (.int y), .val (.int z), .unset] [(.int y)])) _
          refine XS.bipush X0.here hx rfl (hb hby at_198) ?_
          exact k)
      by_cases hc106 : y = (12 : Int32)
      · have k107 : ∀ t, Steps p.tables e below (s₁.setTop (mkF m 229 #[.val (.int p1), .val (.int p2), .val (.int (p1 &&& (7 : Int32))), .val (.int x), .val (.int y), .val (.int z), .unset] [])) t → Steps p.tables e below (s₁.setTop (mkF m 189 #[.val (.int p1), .val (.int p2), .val (.int (p1 &&& (7 : Int32))), .val (.int x), .val (.int y), .val (.int z), .unset] [])) t := fun t k => k105 t (by
            show Steps p.tables e below (s₁.setTop (mkF m 200 #[.val (.int p1), .val (.int p2), .val (.int (p1 &&& (7 : Int32))), .val (.int x), .val (.int y), .val (.int z), .unset] [(.int (12 : Int32)), (.int y)])) _
            refine XS.icmpYes X0.here hx rfl (pc0 := 200) (pc' := 229) rfl (hb hby at_200) rfl (teq hc106).1 (by decide) (by decide) ?_
            exact k)
        have k108 : ∀ t, Steps p.tables e below (s₁.setTop (mkF m 236 #[.val (.int p1), .val (.int p2), .val (.int (p1 &&& (7 : Int32))), .val (.int x), .val (.int y), .val (.int z), .val (.int (1 : Int32))] [])) t → Steps p.tables e below (s₁.setTop (mkF m 189 #[.val (.int p1), .val (.int p2), .val (.int (p1 &&& (7 : Int32))), .val (.int x), .val (.int y), .val (.int z), .unset] [])) t := fun t k => k107 t (by
            show Steps p.tables e below (s₁.setTop (mkF m 229 #[.val (.int p1), .val (.int p2), .val (.int (p1 &&& (7 : Int32))), .val (.int x), .val (.int y), .val (.int z), .unset] [])) _
            refine XS.iconst X0.here hx rfl (hb hby at_229) ?_
            show Steps p.tables e below (s₁.setTop (mkF m 230 #[.val (.int p1), .val (.int p2), .val (.int (p1 &&& (7 : Int32))), .val (.int x), .val (.int y), .val (.int z), .unset] [(.int (1 : Int32))])) _
            refine XS.goto X0.here hx rfl (pc0 := 230) (pc' := 234) rfl (hb hby at_230) (by decide) (by decide) ?_
            show Steps p.tables e below (s₁.setTop (mkF m 234 #[.val (.int p1), .val (.int p2), .val (.int (p1 &&& (7 : Int32))), .val (.int x), .val (.int y), .val (.int z), .unset] [(.int (1 : Int32))])) _
            refine XS.istore X0.here hx rfl (hb hby at_234) rfl (l' := #[.val (.int p1), .val (.int p2), .val (.int (p1 &&& (7 : Int32))), .val (.int x), .val (.int y), .val (.int z), .val (.int (1 : Int32))]) rfl ?_
            exact k)
        have ef : own_fail x := by
          have i1 := hin.1; have i2 := hin.2
          simp only [← Int32.toInt_inj, show (10 : Int32).toInt = 10 from by decide, show (12 : Int32).toInt = 12 from by decide, show (1 : Int32).toInt = 1 from by decide, show (2 : Int32).toInt = 2 from by decide, show (263 : Int32).toInt = 263 from by decide, show (278 : Int32).toInt = 278 from by decide] at hc101 hc106
          unfold own_fail
          omega
        exact ⟨(1 : Int32), (by rw [own_b1 ef]), k108⟩
      · have k109 : ∀ t, Steps p.tables e below (s₁.setTop (mkF m 203 #[.val (.int p1), .val (.int p2), .val (.int (p1 &&& (7 : Int32))), .val (.int x), .val (.int y), .val (.int z), .unset] [])) t → Steps p.tables e below (s₁.setTop (mkF m 189 #[.val (.int p1), .val (.int p2), .val (.int (p1 &&& (7 : Int32))), .val (.int x), .val (.int y), .val (.int z), .unset] [])) t := fun t k => k105 t (by
            show Steps p.tables e below (s₁.setTop (mkF m 200 #[.val (.int p1), .val (.int p2), .val (.int (p1 &&& (7 : Int32))), .val (.int x), .val (.int y), .val (.int z), .unset] [(.int (12 : Int32)), (.int y)])) _
            refine XS.icmpNo X0.here hx rfl (hb hby at_200) rfl (feq hc106).1 ?_
            exact k)
        have k110 : ∀ t, Steps p.tables e below (s₁.setTop (mkF m 206 #[.val (.int p1), .val (.int p2), .val (.int (p1 &&& (7 : Int32))), .val (.int x), .val (.int y), .val (.int z), .unset] [(.int (1 : Int32)), (.int z)])) t → Steps p.tables e below (s₁.setTop (mkF m 189 #[.val (.int p1), .val (.int p2), .val (.int (p1 &&& (7 : Int32))), .val (.int x), .val (.int y), .val (.int z), .unset] [])) t := fun t k => k109 t (by
            show Steps p.tables e below (s₁.setTop (mkF m 203 #[.val (.int p1), .val (.int p2), .val (.int (p1 &&& (7 : Int32))), .val (.int x), .val (.int y), .val (.int z), .unset] [])) _
            refine XS.iload X0.here hx rfl (hb hby at_203) rfl ?_
            show Steps p.tables e below (s₁.setTop (mkF m 205 #[.val (.int p1), .val (.int p2), .val (.int (p1 &&& (7 : Int32))), .val (.int x), .val (.int y), .val (.int z), .unset] [(.int z)])) _
            refine XS.iconst X0.here hx rfl (hb hby at_205) ?_
            exact k)
        by_cases hc111 : z = (1 : Int32)
        · have k112 : ∀ t, Steps p.tables e below (s₁.setTop (mkF m 215 #[.val (.int p1), .val (.int p2), .val (.int (p1 &&& (7 : Int32))), .val (.int x), .val (.int y), .val (.int z), .unset] [])) t → Steps p.tables e below (s₁.setTop (mkF m 189 #[.val (.int p1), .val (.int p2), .val (.int (p1 &&& (7 : Int32))), .val (.int x), .val (.int y), .val (.int z), .unset] [])) t := fun t k => k110 t (by
              show Steps p.tables e below (s₁.setTop (mkF m 206 #[.val (.int p1), .val (.int p2), .val (.int (p1 &&& (7 : Int32))), .val (.int x), .val (.int y), .val (.int z), .unset] [(.int (1 : Int32)), (.int z)])) _
              refine XS.icmpYes X0.here hx rfl (pc0 := 206) (pc' := 215) rfl (hb hby at_206) rfl (teq hc111).1 (by decide) (by decide) ?_
              exact k)
          have k113 : ∀ t, Steps p.tables e below (s₁.setTop (mkF m 219 #[.val (.int p1), .val (.int p2), .val (.int (p1 &&& (7 : Int32))), .val (.int x), .val (.int y), .val (.int z), .unset] [(.int (263 : Int32)), (.int x)])) t → Steps p.tables e below (s₁.setTop (mkF m 189 #[.val (.int p1), .val (.int p2), .val (.int (p1 &&& (7 : Int32))), .val (.int x), .val (.int y), .val (.int z), .unset] [])) t := fun t k => k112 t (by
              show Steps p.tables e below (s₁.setTop (mkF m 215 #[.val (.int p1), .val (.int p2), .val (.int (p1 &&& (7 : Int32))), .val (.int x), .val (.int y), .val (.int z), .unset] [])) _
              refine XS.iloadN X0.here hx rfl (hb hby at_215) rfl ?_
              show Steps p.tables e below (s₁.setTop (mkF m 216 #[.val (.int p1), .val (.int p2), .val (.int (p1 &&& (7 : Int32))), .val (.int x), .val (.int y), .val (.int z), .unset] [(.int x)])) _
              refine XS.sipush X0.here hx rfl (hb hby at_216) ?_
              exact k)
          by_cases hc114 : x = (263 : Int32)
          · have k115 : ∀ t, Steps p.tables e below (s₁.setTop (mkF m 233 #[.val (.int p1), .val (.int p2), .val (.int (p1 &&& (7 : Int32))), .val (.int x), .val (.int y), .val (.int z), .unset] [])) t → Steps p.tables e below (s₁.setTop (mkF m 189 #[.val (.int p1), .val (.int p2), .val (.int (p1 &&& (7 : Int32))), .val (.int x), .val (.int y), .val (.int z), .unset] [])) t := fun t k => k113 t (by
                show Steps p.tables e below (s₁.setTop (mkF m 219 #[.val (.int p1), .val (.int p2), .val (.int (p1 &&& (7 : Int32))), .val (.int x), .val (.int y), .val (.int z), .unset] [(.int (263 : Int32)), (.int x)])) _
                refine XS.icmpYes X0.here hx rfl (pc0 := 219) (pc' := 233) rfl (hb hby at_219) rfl (teq hc114).1 (by decide) (by decide) ?_
                exact k)
            have k116 : ∀ t, Steps p.tables e below (s₁.setTop (mkF m 236 #[.val (.int p1), .val (.int p2), .val (.int (p1 &&& (7 : Int32))), .val (.int x), .val (.int y), .val (.int z), .val (.int (0 : Int32))] [])) t → Steps p.tables e below (s₁.setTop (mkF m 189 #[.val (.int p1), .val (.int p2), .val (.int (p1 &&& (7 : Int32))), .val (.int x), .val (.int y), .val (.int z), .unset] [])) t := fun t k => k115 t (by
                show Steps p.tables e below (s₁.setTop (mkF m 233 #[.val (.int p1), .val (.int p2), .val (.int (p1 &&& (7 : Int32))), .val (.int x), .val (.int y), .val (.int z), .unset] [])) _
                refine XS.iconst X0.here hx rfl (hb hby at_233) ?_
                show Steps p.tables e below (s₁.setTop (mkF m 234 #[.val (.int p1), .val (.int p2), .val (.int (p1 &&& (7 : Int32))), .val (.int x), .val (.int y), .val (.int z), .unset] [(.int (0 : Int32))])) _
                refine XS.istore X0.here hx rfl (hb hby at_234) rfl (l' := #[.val (.int p1), .val (.int p2), .val (.int (p1 &&& (7 : Int32))), .val (.int x), .val (.int y), .val (.int z), .val (.int (0 : Int32))]) rfl ?_
                exact k)
            have ef : ¬ own_fail x := by
              have i1 := hin.1; have i2 := hin.2
              simp only [← Int32.toInt_inj, show (10 : Int32).toInt = 10 from by decide, show (12 : Int32).toInt = 12 from by decide, show (1 : Int32).toInt = 1 from by decide, show (2 : Int32).toInt = 2 from by decide, show (263 : Int32).toInt = 263 from by decide, show (278 : Int32).toInt = 278 from by decide] at hc101 hc106 hc111 hc114
              unfold own_fail
              omega
            exact ⟨(0 : Int32), (by rw [own_b0 ef]), k116⟩
          · have k117 : ∀ t, Steps p.tables e below (s₁.setTop (mkF m 222 #[.val (.int p1), .val (.int p2), .val (.int (p1 &&& (7 : Int32))), .val (.int x), .val (.int y), .val (.int z), .unset] [])) t → Steps p.tables e below (s₁.setTop (mkF m 189 #[.val (.int p1), .val (.int p2), .val (.int (p1 &&& (7 : Int32))), .val (.int x), .val (.int y), .val (.int z), .unset] [])) t := fun t k => k113 t (by
                show Steps p.tables e below (s₁.setTop (mkF m 219 #[.val (.int p1), .val (.int p2), .val (.int (p1 &&& (7 : Int32))), .val (.int x), .val (.int y), .val (.int z), .unset] [(.int (263 : Int32)), (.int x)])) _
                refine XS.icmpNo X0.here hx rfl (hb hby at_219) rfl (feq hc114).1 ?_
                exact k)
            have k118 : ∀ t, Steps p.tables e below (s₁.setTop (mkF m 226 #[.val (.int p1), .val (.int p2), .val (.int (p1 &&& (7 : Int32))), .val (.int x), .val (.int y), .val (.int z), .unset] [(.int (278 : Int32)), (.int x)])) t → Steps p.tables e below (s₁.setTop (mkF m 189 #[.val (.int p1), .val (.int p2), .val (.int (p1 &&& (7 : Int32))), .val (.int x), .val (.int y), .val (.int z), .unset] [])) t := fun t k => k117 t (by
                show Steps p.tables e below (s₁.setTop (mkF m 222 #[.val (.int p1), .val (.int p2), .val (.int (p1 &&& (7 : Int32))), .val (.int x), .val (.int y), .val (.int z), .unset] [])) _
                refine XS.iloadN X0.here hx rfl (hb hby at_222) rfl ?_
                show Steps p.tables e below (s₁.setTop (mkF m 223 #[.val (.int p1), .val (.int p2), .val (.int (p1 &&& (7 : Int32))), .val (.int x), .val (.int y), .val (.int z), .unset] [(.int x)])) _
                refine XS.sipush X0.here hx rfl (hb hby at_223) ?_
                exact k)
            by_cases hc119 : x = (278 : Int32)
            · have k120 : ∀ t, Steps p.tables e below (s₁.setTop (mkF m 233 #[.val (.int p1), .val (.int p2), .val (.int (p1 &&& (7 : Int32))), .val (.int x), .val (.int y), .val (.int z), .unset] [])) t → Steps p.tables e below (s₁.setTop (mkF m 189 #[.val (.int p1), .val (.int p2), .val (.int (p1 &&& (7 : Int32))), .val (.int x), .val (.int y), .val (.int z), .unset] [])) t := fun t k => k118 t (by
                  show Steps p.tables e below (s₁.setTop (mkF m 226 #[.val (.int p1), .val (.int p2), .val (.int (p1 &&& (7 : Int32))), .val (.int x), .val (.int y), .val (.int z), .unset] [(.int (278 : Int32)), (.int x)])) _
                  refine XS.icmpYes X0.here hx rfl (pc0 := 226) (pc' := 233) rfl (hb hby at_226) rfl (teq hc119).1 (by decide) (by decide) ?_
                  exact k)
              have k121 : ∀ t, Steps p.tables e below (s₁.setTop (mkF m 236 #[.val (.int p1), .val (.int p2), .val (.int (p1 &&& (7 : Int32))), .val (.int x), .val (.int y), .val (.int z), .val (.int (0 : Int32))] [])) t → Steps p.tables e below (s₁.setTop (mkF m 189 #[.val (.int p1), .val (.int p2), .val (.int (p1 &&& (7 : Int32))), .val (.int x), .val (.int y), .val (.int z), .unset] [])) t := fun t k => k120 t (by
                  show Steps p.tables e below (s₁.setTop (mkF m 233 #[.val (.int p1), .val (.int p2), .val (.int (p1 &&& (7 : Int32))), .val (.int x), .val (.int y), .val (.int z), .unset] [])) _
                  refine XS.iconst X0.here hx rfl (hb hby at_233) ?_
                  show Steps p.tables e below (s₁.setTop (mkF m 234 #[.val (.int p1), .val (.int p2), .val (.int (p1 &&& (7 : Int32))), .val (.int x), .val (.int y), .val (.int z), .unset] [(.int (0 : Int32))])) _
                  refine XS.istore X0.here hx rfl (hb hby at_234) rfl (l' := #[.val (.int p1), .val (.int p2), .val (.int (p1 &&& (7 : Int32))), .val (.int x), .val (.int y), .val (.int z), .val (.int (0 : Int32))]) rfl ?_
                  exact k)
              have ef : ¬ own_fail x := by
                have i1 := hin.1; have i2 := hin.2
                simp only [← Int32.toInt_inj, show (10 : Int32).toInt = 10 from by decide, show (12 : Int32).toInt = 12 from by decide, show (1 : Int32).toInt = 1 from by decide, show (2 : Int32).toInt = 2 from by decide, show (263 : Int32).toInt = 263 from by decide, show (278 : Int32).toInt = 278 from by decide] at hc101 hc106 hc111 hc114 hc119
                unfold own_fail
                omega
              exact ⟨(0 : Int32), (by rw [own_b0 ef]), k121⟩
            · have k122 : ∀ t, Steps p.tables e below (s₁.setTop (mkF m 229 #[.val (.int p1), .val (.int p2), .val (.int (p1 &&& (7 : Int32))), .val (.int x), .val (.int y), .val (.int z), .unset] [])) t → Steps p.tables e below (s₁.setTop (mkF m 189 #[.val (.int p1), .val (.int p2), .val (.int (p1 &&& (7 : Int32))), .val (.int x), .val (.int y), .val (.int z), .unset] [])) t := fun t k => k118 t (by
                  show Steps p.tables e below (s₁.setTop (mkF m 226 #[.val (.int p1), .val (.int p2), .val (.int (p1 &&& (7 : Int32))), .val (.int x), .val (.int y), .val (.int z), .unset] [(.int (278 : Int32)), (.int x)])) _
                  refine XS.icmpNo X0.here hx rfl (hb hby at_226) rfl (feq hc119).1 ?_
                  exact k)
              have k123 : ∀ t, Steps p.tables e below (s₁.setTop (mkF m 236 #[.val (.int p1), .val (.int p2), .val (.int (p1 &&& (7 : Int32))), .val (.int x), .val (.int y), .val (.int z), .val (.int (1 : Int32))] [])) t → Steps p.tables e below (s₁.setTop (mkF m 189 #[.val (.int p1), .val (.int p2), .val (.int (p1 &&& (7 : Int32))), .val (.int x), .val (.int y), .val (.int z), .unset] [])) t := fun t k => k122 t (by
                  show Steps p.tables e below (s₁.setTop (mkF m 229 #[.val (.int p1), .val (.int p2), .val (.int (p1 &&& (7 : Int32))), .val (.int x), .val (.int y), .val (.int z), .unset] [])) _
                  refine XS.iconst X0.here hx rfl (hb hby at_229) ?_
                  show Steps p.tables e below (s₁.setTop (mkF m 230 #[.val (.int p1), .val (.int p2), .val (.int (p1 &&& (7 : Int32))), .val (.int x), .val (.int y), .val (.int z), .unset] [(.int (1 : Int32))])) _
                  refine XS.goto X0.here hx rfl (pc0 := 230) (pc' := 234) rfl (hb hby at_230) (by decide) (by decide) ?_
                  show Steps p.tables e below (s₁.setTop (mkF m 234 #[.val (.int p1), .val (.int p2), .val (.int (p1 &&& (7 : Int32))), .val (.int x), .val (.int y), .val (.int z), .unset] [(.int (1 : Int32))])) _
                  refine XS.istore X0.here hx rfl (hb hby at_234) rfl (l' := #[.val (.int p1), .val (.int p2), .val (.int (p1 &&& (7 : Int32))), .val (.int x), .val (.int y), .val (.int z), .val (.int (1 : Int32))]) rfl ?_
                  exact k)
              have ef : own_fail x := by
                have i1 := hin.1; have i2 := hin.2
                simp only [← Int32.toInt_inj, show (10 : Int32).toInt = 10 from by decide, show (12 : Int32).toInt = 12 from by decide, show (1 : Int32).toInt = 1 from by decide, show (2 : Int32).toInt = 2 from by decide, show (263 : Int32).toInt = 263 from by decide, show (278 : Int32).toInt = 278 from by decide] at hc101 hc106 hc111 hc114 hc119
                unfold own_fail
                omega
              exact ⟨(1 : Int32), (by rw [own_b1 ef]), k123⟩
        · have k124 : ∀ t, Steps p.tables e below (s₁.setTop (mkF m 209 #[.val (.int p1), .val (.int p2), .val (.int (p1 &&& (7 : Int32))), .val (.int x), .val (.int y), .val (.int z), .unset] [])) t → Steps p.tables e below (s₁.setTop (mkF m 189 #[.val (.int p1), .val (.int p2), .val (.int (p1 &&& (7 : Int32))), .val (.int x), .val (.int y), .val (.int z), .unset] [])) t := fun t k => k110 t (by
              show Steps p.tables e below (s₁.setTop (mkF m 206 #[.val (.int p1), .val (.int p2), .val (.int (p1 &&& (7 : Int32))), .val (.int x), .val (.int y), .val (.int z), .unset] [(.int (1 : Int32)), (.int z)])) _
              refine XS.icmpNo X0.here hx rfl (hb hby at_206) rfl (feq hc111).1 ?_
              exact k)
          have k125 : ∀ t, Steps p.tables e below (s₁.setTop (mkF m 212 #[.val (.int p1), .val (.int p2), .val (.int (p1 &&& (7 : Int32))), .val (.int x), .val (.int y), .val (.int z), .unset] [(.int (2 : Int32)), (.int z)])) t → Steps p.tables e below (s₁.setTop (mkF m 189 #[.val (.int p1), .val (.int p2), .val (.int (p1 &&& (7 : Int32))), .val (.int x), .val (.int y), .val (.int z), .unset] [])) t := fun t k => k124 t (by
              show Steps p.tables e below (s₁.setTop (mkF m 209 #[.val (.int p1), .val (.int p2), .val (.int (p1 &&& (7 : Int32))), .val (.int x), .val (.int y), .val (.int z), .unset] [])) _
              refine XS.iload X0.here hx rfl (hb hby at_209) rfl ?_
              show Steps p.tables e below (s₁.setTop (mkF m 211 #[.val (.int p1), .val (.int p2), .val (.int (p1 &&& (7 : Int32))), .val (.int x), .val (.int y), .val (.int z), .unset] [(.int z)])) _
              refine XS.iconst X0.here hx rfl (hb hby at_211) ?_
              exact k)
          by_cases hc126 : z = (2 : Int32)
          · have k127 : ∀ t, Steps p.tables e below (s₁.setTop (mkF m 215 #[.val (.int p1), .val (.int p2), .val (.int (p1 &&& (7 : Int32))), .val (.int x), .val (.int y), .val (.int z), .unset] [])) t → Steps p.tables e below (s₁.setTop (mkF m 189 #[.val (.int p1), .val (.int p2), .val (.int (p1 &&& (7 : Int32))), .val (.int x), .val (.int y), .val (.int z), .unset] [])) t := fun t k => k125 t (by
                show Steps p.tables e below (s₁.setTop (mkF m 212 #[.val (.int p1), .val (.int p2), .val (.int (p1 &&& (7 : Int32))), .val (.int x), .val (.int y), .val (.int z), .unset] [(.int (2 : Int32)), (.int z)])) _
                refine XS.icmpNo X0.here hx rfl (hb hby at_212) rfl (teq hc126).2 ?_
                exact k)
            have k128 : ∀ t, Steps p.tables e below (s₁.setTop (mkF m 219 #[.val (.int p1), .val (.int p2), .val (.int (p1 &&& (7 : Int32))), .val (.int x), .val (.int y), .val (.int z), .unset] [(.int (263 : Int32)), (.int x)])) t → Steps p.tables e below (s₁.setTop (mkF m 189 #[.val (.int p1), .val (.int p2), .val (.int (p1 &&& (7 : Int32))), .val (.int x), .val (.int y), .val (.int z), .unset] [])) t := fun t k => k127 t (by
                show Steps p.tables e below (s₁.setTop (mkF m 215 #[.val (.int p1), .val (.int p2), .val (.int (p1 &&& (7 : Int32))), .val (.int x), .val (.int y), .val (.int z), .unset] [])) _
                refine XS.iloadN X0.here hx rfl (hb hby at_215) rfl ?_
                show Steps p.tables e below (s₁.setTop (mkF m 216 #[.val (.int p1), .val (.int p2), .val (.int (p1 &&& (7 : Int32))), .val (.int x), .val (.int y), .val (.int z), .unset] [(.int x)])) _
                refine XS.sipush X0.here hx rfl (hb hby at_216) ?_
                exact k)
            by_cases hc129 : x = (263 : Int32)
            · have k130 : ∀ t, Steps p.tables e below (s₁.setTop (mkF m 233 #[.val (.int p1), .val (.int p2), .val (.int (p1 &&& (7 : Int32))), .val (.int x), .val (.int y), .val (.int z), .unset] [])) t → Steps p.tables e below (s₁.setTop (mkF m 189 #[.val (.int p1), .val (.int p2), .val (.int (p1 &&& (7 : Int32))), .val (.int x), .val (.int y), .val (.int z), .unset] [])) t := fun t k => k128 t (by
                  show Steps p.tables e below (s₁.setTop (mkF m 219 #[.val (.int p1), .val (.int p2), .val (.int (p1 &&& (7 : Int32))), .val (.int x), .val (.int y), .val (.int z), .unset] [(.int (263 : Int32)), (.int x)])) _
                  refine XS.icmpYes X0.here hx rfl (pc0 := 219) (pc' := 233) rfl (hb hby at_219) rfl (teq hc129).1 (by decide) (by decide) ?_
                  exact k)
              have k131 : ∀ t, Steps p.tables e below (s₁.setTop (mkF m 236 #[.val (.int p1), .val (.int p2), .val (.int (p1 &&& (7 : Int32))), .val (.int x), .val (.int y), .val (.int z), .val (.int (0 : Int32))] [])) t → Steps p.tables e below (s₁.setTop (mkF m 189 #[.val (.int p1), .val (.int p2), .val (.int (p1 &&& (7 : Int32))), .val (.int x), .val (.int y), .val (.int z), .unset] [])) t := fun t k => k130 t (by
                  show Steps p.tables e below (s₁.setTop (mkF m 233 #[.val (.int p1), .val (.int p2), .val (.int (p1 &&& (7 : Int32))), .val (.int x), .val (.int y), .val (.int z), .unset] [])) _
                  refine XS.iconst X0.here hx rfl (hb hby at_233) ?_
                  show Steps p.tables e below (s₁.setTop (mkF m 234 #[.val (.int p1), .val (.int p2), .val (.int (p1 &&& (7 : Int32))), .val (.int x), .val (.int y), .val (.int z), .unset] [(.int (0 : Int32))])) _
                  refine XS.istore X0.here hx rfl (hb hby at_234) rfl (l' := #[.val (.int p1), .val (.int p2), .val (.int (p1 &&& (7 : Int32))), .val (.int x), .val (.int y), .val (.int z), .val (.int (0 : Int32))]) rfl ?_
                  exact k)
              have ef : ¬ own_fail x := by
                have i1 := hin.1; have i2 := hin.2
                simp only [← Int32.toInt_inj, show (10 : Int32).toInt = 10 from by decide, show (12 : Int32).toInt = 12 from by decide, show (1 : Int32).toInt = 1 from by decide, show (2 : Int32).toInt = 2 from by decide, show (263 : Int32).toInt = 263 from by decide, show (278 : Int32).toInt = 278 from by decide] at hc101 hc106 hc111 hc126 hc129
                unfold own_fail
                omega
              exact ⟨(0 : Int32), (by rw [own_b0 ef]), k131⟩
            · have k132 : ∀ t, Steps p.tables e below (s₁.setTop (mkF m 222 #[.val (.int p1), .val (.int p2), .val (.int (p1 &&& (7 : Int32))), .val (.int x), .val (.int y), .val (.int z), .unset] [])) t → Steps p.tables e below (s₁.setTop (mkF m 189 #[.val (.int p1), .val (.int p2), .val (.int (p1 &&& (7 : Int32))), .val (.int x), .val (.int y), .val (.int z), .unset] [])) t := fun t k => k128 t (by
                  show Steps p.tables e below (s₁.setTop (mkF m 219 #[.val (.int p1), .val (.int p2), .val (.int (p1 &&& (7 : Int32))), .val (.int x), .val (.int y), .val (.int z), .unset] [(.int (263 : Int32)), (.int x)])) _
                  refine XS.icmpNo X0.here hx rfl (hb hby at_219) rfl (feq hc129).1 ?_
                  exact k)
              have k133 : ∀ t, Steps p.tables e below (s₁.setTop (mkF m 226 #[.val (.int p1), .val (.int p2), .val (.int (p1 &&& (7 : Int32))), .val (.int x), .val (.int y), .val (.int z), .unset] [(.int (278 : Int32)), (.int x)])) t → Steps p.tables e below (s₁.setTop (mkF m 189 #[.val (.int p1), .val (.int p2), .val (.int (p1 &&& (7 : Int32))), .val (.int x), .val (.int y), .val (.int z), .unset] [])) t := fun t k => k132 t (by
                  show Steps p.tables e below (s₁.setTop (mkF m 222 #[.val (.int p1), .val (.int p2), .val (.int (p1 &&& (7 : Int32))), .val (.int x), .val (.int y), .val (.int z), .unset] [])) _
                  refine XS.iloadN X0.here hx rfl (hb hby at_222) rfl ?_
                  show Steps p.tables e below (s₁.setTop (mkF m 223 #[.val (.int p1), .val (.int p2), .val (.int (p1 &&& (7 : Int32))), .val (.int x), .val (.int y), .val (.int z), .unset] [(.int x)])) _
                  refine XS.sipush X0.here hx rfl (hb hby at_223) ?_
                  exact k)
              by_cases hc134 : x = (278 : Int32)
              · have k135 : ∀ t, Steps p.tables e below (s₁.setTop (mkF m 233 #[.val (.int p1), .val (.int p2), .val (.int (p1 &&& (7 : Int32))), .val (.int x), .val (.int y), .val (.int z), .unset] [])) t → Steps p.tables e below (s₁.setTop (mkF m 189 #[.val (.int p1), .val (.int p2), .val (.int (p1 &&& (7 : Int32))), .val (.int x), .val (.int y), .val (.int z), .unset] [])) t := fun t k => k133 t (by
                    show Steps p.tables e below (s₁.setTop (mkF m 226 #[.val (.int p1), .val (.int p2), .val (.int (p1 &&& (7 : Int32))), .val (.int x), .val (.int y), .val (.int z), .unset] [(.int (278 : Int32)), (.int x)])) _
                    refine XS.icmpYes X0.here hx rfl (pc0 := 226) (pc' := 233) rfl (hb hby at_226) rfl (teq hc134).1 (by decide) (by decide) ?_
                    exact k)
                have k136 : ∀ t, Steps p.tables e below (s₁.setTop (mkF m 236 #[.val (.int p1), .val (.int p2), .val (.int (p1 &&& (7 : Int32))), .val (.int x), .val (.int y), .val (.int z), .val (.int (0 : Int32))] [])) t → Steps p.tables e below (s₁.setTop (mkF m 189 #[.val (.int p1), .val (.int p2), .val (.int (p1 &&& (7 : Int32))), .val (.int x), .val (.int y), .val (.int z), .unset] [])) t := fun t k => k135 t (by
                    show Steps p.tables e below (s₁.setTop (mkF m 233 #[.val (.int p1), .val (.int p2), .val (.int (p1 &&& (7 : Int32))), .val (.int x), .val (.int y), .val (.int z), .unset] [])) _
                    refine XS.iconst X0.here hx rfl (hb hby at_233) ?_
                    show Steps p.tables e below (s₁.setTop (mkF m 234 #[.val (.int p1), .val (.int p2), .val (.int (p1 &&& (7 : Int32))), .val (.int x), .val (.int y), .val (.int z), .unset] [(.int (0 : Int32))])) _
                    refine XS.istore X0.here hx rfl (hb hby at_234) rfl (l' := #[.val (.int p1), .val (.int p2), .val (.int (p1 &&& (7 : Int32))), .val (.int x), .val (.int y), .val (.int z), .val (.int (0 : Int32))]) rfl ?_
                    exact k)
                have ef : ¬ own_fail x := by
                  have i1 := hin.1; have i2 := hin.2
                  simp only [← Int32.toInt_inj, show (10 : Int32).toInt = 10 from by decide, show (12 : Int32).toInt = 12 from by decide, show (1 : Int32).toInt = 1 from by decide, show (2 : Int32).toInt = 2 from by decide, show (263 : Int32).toInt = 263 from by decide, show (278 : Int32).toInt = 278 from by decide] at hc101 hc106 hc111 hc126 hc129 hc134
                  unfold own_fail
                  omega
                exact ⟨(0 : Int32), (by rw [own_b0 ef]), k136⟩
              · have k137 : ∀ t, Steps p.tables e below (s₁.setTop (mkF m 229 #[.val (.int p1), .val (.int p2), .val (.int (p1 &&& (7 : Int32))), .val (.int x), .val (.int y), .val (.int z), .unset] [])) t → Steps p.tables e below (s₁.setTop (mkF m 189 #[.val (.int p1), .val (.int p2), .val (.int (p1 &&& (7 : Int32))), .val (.int x), .val (.int y), .val (.int z), .unset] [])) t := fun t k => k133 t (by
                    show Steps p.tables e below (s₁.setTop (mkF m 226 #[.val (.int p1), .val (.int p2), .val (.int (p1 &&& (7 : Int32))), .val (.int x), .val (.int y), .val (.int z), .unset] [(.int (278 : Int32)), (.int x)])) _
                    refine XS.icmpNo X0.here hx rfl (hb hby at_226) rfl (feq hc134).1 ?_
                    exact k)
                have k138 : ∀ t, Steps p.tables e below (s₁.setTop (mkF m 236 #[.val (.int p1), .val (.int p2), .val (.int (p1 &&& (7 : Int32))), .val (.int x), .val (.int y), .val (.int z), .val (.int (1 : Int32))] [])) t → Steps p.tables e below (s₁.setTop (mkF m 189 #[.val (.int p1), .val (.int p2), .val (.int (p1 &&& (7 : Int32))), .val (.int x), .val (.int y), .val (.int z), .unset] [])) t := fun t k => k137 t (by
                    show Steps p.tables e below (s₁.setTop (mkF m 229 #[.val (.int p1), .val (.int p2), .val (.int (p1 &&& (7 : Int32))), .val (.int x), .val (.int y), .val (.int z), .unset] [])) _
                    refine XS.iconst X0.here hx rfl (hb hby at_229) ?_
                    show Steps p.tables e below (s₁.setTop (mkF m 230 #[.val (.int p1), .val (.int p2), .val (.int (p1 &&& (7 : Int32))), .val (.int x), .val (.int y), .val (.int z), .unset] [(.int (1 : Int32))])) _
                    refine XS.goto X0.here hx rfl (pc0 := 230) (pc' := 234) rfl (hb hby at_230) (by decide) (by decide) ?_
                    show Steps p.tables e below (s₁.setTop (mkF m 234 #[.val (.int p1), .val (.int p2), .val (.int (p1 &&& (7 : Int32))), .val (.int x), .val (.int y), .val (.int z), .unset] [(.int (1 : Int32))])) _
                    refine XS.istore X0.here hx rfl (hb hby at_234) rfl (l' := #[.val (.int p1), .val (.int p2), .val (.int (p1 &&& (7 : Int32))), .val (.int x), .val (.int y), .val (.int z), .val (.int (1 : Int32))]) rfl ?_
                    exact k)
                have ef : own_fail x := by
                  have i1 := hin.1; have i2 := hin.2
                  simp only [← Int32.toInt_inj, show (10 : Int32).toInt = 10 from by decide, show (12 : Int32).toInt = 12 from by decide, show (1 : Int32).toInt = 1 from by decide, show (2 : Int32).toInt = 2 from by decide, show (263 : Int32).toInt = 263 from by decide, show (278 : Int32).toInt = 278 from by decide] at hc101 hc106 hc111 hc126 hc129 hc134
                  unfold own_fail
                  omega
                exact ⟨(1 : Int32), (by rw [own_b1 ef]), k138⟩
          · have k139 : ∀ t, Steps p.tables e below (s₁.setTop (mkF m 233 #[.val (.int p1), .val (.int p2), .val (.int (p1 &&& (7 : Int32))), .val (.int x), .val (.int y), .val (.int z), .unset] [])) t → Steps p.tables e below (s₁.setTop (mkF m 189 #[.val (.int p1), .val (.int p2), .val (.int (p1 &&& (7 : Int32))), .val (.int x), .val (.int y), .val (.int z), .unset] [])) t := fun t k => k125 t (by
                show Steps p.tables e below (s₁.setTop (mkF m 212 #[.val (.int p1), .val (.int p2), .val (.int (p1 &&& (7 : Int32))), .val (.int x), .val (.int y), .val (.int z), .unset] [(.int (2 : Int32)), (.int z)])) _
                refine XS.icmpYes X0.here hx rfl (pc0 := 212) (pc' := 233) rfl (hb hby at_212) rfl (feq hc126).2 (by decide) (by decide) ?_
                exact k)
            have k140 : ∀ t, Steps p.tables e below (s₁.setTop (mkF m 236 #[.val (.int p1), .val (.int p2), .val (.int (p1 &&& (7 : Int32))), .val (.int x), .val (.int y), .val (.int z), .val (.int (0 : Int32))] [])) t → Steps p.tables e below (s₁.setTop (mkF m 189 #[.val (.int p1), .val (.int p2), .val (.int (p1 &&& (7 : Int32))), .val (.int x), .val (.int y), .val (.int z), .unset] [])) t := fun t k => k139 t (by
                show Steps p.tables e below (s₁.setTop (mkF m 233 #[.val (.int p1), .val (.int p2), .val (.int (p1 &&& (7 : Int32))), .val (.int x), .val (.int y), .val (.int z), .unset] [])) _
                refine XS.iconst X0.here hx rfl (hb hby at_233) ?_
                show Steps p.tables e below (s₁.setTop (mkF m 234 #[.val (.int p1), .val (.int p2), .val (.int (p1 &&& (7 : Int32))), .val (.int x), .val (.int y), .val (.int z), .unset] [(.int (0 : Int32))])) _
                refine XS.istore X0.here hx rfl (hb hby at_234) rfl (l' := #[.val (.int p1), .val (.int p2), .val (.int (p1 &&& (7 : Int32))), .val (.int x), .val (.int y), .val (.int z), .val (.int (0 : Int32))]) rfl ?_
                exact k)
            have ef : ¬ own_fail x := by
              have i1 := hin.1; have i2 := hin.2
              simp only [← Int32.toInt_inj, show (10 : Int32).toInt = 10 from by decide, show (12 : Int32).toInt = 12 from by decide, show (1 : Int32).toInt = 1 from by decide, show (2 : Int32).toInt = 2 from by decide, show (263 : Int32).toInt = 263 from by decide, show (278 : Int32).toInt = 278 from by decide] at hc101 hc106 hc111 hc126
              unfold own_fail
              omega
            exact ⟨(0 : Int32), (by rw [own_b0 ef]), k140⟩
  have k141 : ∀ t, Steps p.tables e below (s₁.setTop (mkF m 236 #[.val (.int p1), .val (.int p2), .val (.int (p1 &&& (7 : Int32))), .val (.int x), .val (.int y), .val (.int z), .val (.int b)] [])) t → Steps p.tables e below (s₁.setTop (entryFrame m #[(.int p1), (.int p2)] maxLocals)) t := fun t q => k97 t (k98 t q)
  have k142 : ∀ t, Steps p.tables e below (s₁.setTop (mkF m 237 #[.val (.int p1), .val (.int p2), .val (.int (p1 &&& (7 : Int32))), .val (.int x), .val (.int y), .val (.int z), .val (.int b)] [(.int x)])) t → Steps p.tables e below (s₁.setTop (entryFrame m #[(.int p1), (.int p2)] maxLocals)) t := fun t k => k141 t (by
      show Steps p.tables e below (s₁.setTop (mkF m 236 #[.val (.int p1), .val (.int p2), .val (.int (p1 &&& (7 : Int32))), .val (.int x), .val (.int y), .val (.int z), .val (.int b)] [])) _
      refine XS.iloadN X0.here hx rfl (hb hby at_236) rfl ?_
      exact k)
  obtain ⟨_, _, ⟨T143, L143, c143, n143⟩, -, X143, ⟨Lc143, hQ143, l143, y143, z143⟩, st143⟩ := Jvm.LawKit.callS X0 hx (y := (⟨"com/example/modalis/modalis/dicom/net/CommandSet", "isFailure", "(I)Z"⟩ : MethodName)) hown (mvT hZ (hw _ (List.mem_of_getElem? (i := 1) rfl))) (mvT hZ (hw _ (List.mem_of_getElem? (i := 2) rfl))) (mvT hZ (hw _ (List.mem_of_getElem? (i := 3) rfl))) (mvT hZ (hw _ (List.mem_of_getElem? (i := 4) rfl))) (by decide) (backOf (W := 0) (rm1 l Z a0 hw [] x h0 n0 Z0 hin) hZ (hw _ (List.mem_of_getElem? (i := 4) rfl)) (hw _ (List.mem_of_getElem? (i := 3) rfl)) (by decide) (by decide)) (g := (mkF m 237 #[.val (.int p1), .val (.int p2), .val (.int (p1 &&& (7 : Int32))), .val (.int x), .val (.int y), .val (.int z), .val (.int b)] [(.int x)])) rfl (by rw [hml]; rfl) (argsL := [(.int x)]) (rest := []) (lenOf own_pd0 rfl) rfl (by show 2 * 0 + _ ≤ _; exact Nat.le_of_eq rfl) (hb hby at_237) (fun _ _ => ⟨rfl, e0, (by decide : 0 + 0 ≤ _), (by decide : 0 + 0 ≤ _)⟩)
  dsimp only [Pt.U, Pt.locs, Pt.cells, Pt.slots] at X143 l143 y143 z143 st143 hQ143
  subst l143 y143 z143
  obtain ⟨rfl, N143q, eh⟩ := hQ143
  have N143 := Fr.app N0 N143q
  have k144 : ∀ t, Steps p.tables e below (T143.setTop (mkF m 240 #[.val (.int p1), .val (.int p2), .val (.int (p1 &&& (7 : Int32))), .val (.int x), .val (.int y), .val (.int z), .val (.int b)] [(.int (own_b x))])) t → Steps p.tables e below (s₁.setTop (entryFrame m #[(.int p1), (.int p2)] maxLocals)) t := fun t k => k142 t (st143 t k)
  have k145 : ∀ t, Steps p.tables e below (T143.setTop (mkF m 250 #[.val (.int p1), .val (.int p2), .val (.int (p1 &&& (7 : Int32))), .val (.int x), .val (.int y), .val (.int z), .val (.int b)] [(.int (1 : Int32))])) t → Steps p.tables e below (s₁.setTop (entryFrame m #[(.int p1), (.int p2)] maxLocals)) t := fun t k => k144 t (by
      show Steps p.tables e below (T143.setTop (mkF m 240 #[.val (.int p1), .val (.int p2), .val (.int (p1 &&& (7 : Int32))), .val (.int x), .val (.int y), .val (.int z), .val (.int b)] [(.int (own_b x))])) _
      refine XS.iload X143.here hx rfl (hb hby at_240) rfl ?_
      show Steps p.tables e below (T143.setTop (mkF m 242 #[.val (.int p1), .val (.int p2), .val (.int (p1 &&& (7 : Int32))), .val (.int x), .val (.int y), .val (.int z), .val (.int b)] [(.int b), (.int (own_b x))])) _
      refine XS.icmpNo X143.here hx rfl (hb hby at_242) rfl (teq hj99).2 ?_
      show Steps p.tables e below (T143.setTop (mkF m 245 #[.val (.int p1), .val (.int p2), .val (.int (p1 &&& (7 : Int32))), .val (.int x), .val (.int y), .val (.int z), .val (.int b)] [])) _
      refine XS.iconst X143.here hx rfl (hb hby at_245) ?_
      show Steps p.tables e below (T143.setTop (mkF m 246 #[.val (.int p1), .val (.int p2), .val (.int (p1 &&& (7 : Int32))), .val (.int x), .val (.int y), .val (.int z), .val (.int b)] [(.int (1 : Int32))])) _
      refine XS.goto X143.here hx rfl (pc0 := 246) (pc' := 250) rfl (hb hby at_246) (by decide) (by decide) ?_
      exact k)
  obtain ⟨fs, hr, hrun, hended, hW, hsame⟩ := X143.leave (v := some (.int (1 : Int32))) (fun h => by rw [Bd.returns] at h; cases h)
  refine ⟨_, _, k145 _ ?_, hrun, hended, _, _, rfl, ?_, ⟨_, rfl⟩, hW, hsame.mono (by decide) (by decide)⟩
  · show Steps p.tables e below (T143.setTop (mkF m 250 #[.val (.int p1), .val (.int p2), .val (.int (p1 &&& (7 : Int32))), .val (.int x), .val (.int y), .val (.int z), .val (.int b)] [(.int (1 : Int32))])) _
    exact retN X143 hx (t := .boolean) Bd.returns (by simp) (hb hby at_250) hr
  · show Q0 Z p1 p2 h0 n0 _ T143.heap _
    exact ⟨rfl, N143⟩
set_option maxRecDepth 65536 in
set_option maxHeartbeats 40000000 in
theorem comes_1 {Post : Tables → Env → Array Value → State → Outcome → State → Prop} (hpost : ∀ tb e args s v u, (limb_1_1.after args s (.returned v) u = true ∧ limb_1_2.after args s (.returned v) u = true ∧ True) → FrameEnd s (.returned v) u (Jvm.fieldLocs frame_1_writes args s ++ Jvm.arrayLocs frame_1_arrays args s ++ Jvm.staticLocs frame_1_statics s) 0 0 → Post tb e args s (.returned v) u) :
    ArmFor flags0 classFile x code maxLocals ret World_1 tables_1 room_1 Calls_1 rest_1 Pre_1 Post := by
  intro l hfl _ _ p e ha hc hk s m args below hf hA hF happ hP
  obtain ⟨hcalls, hrest, hpre⟩ := hP
  obtain ⟨-, -, -, hnamed, -, -, -, hat⟩ := (Spec.applies_iff hf).mp happ
  obtain ⟨hg, hn⟩ := and_e (Cond.before_iff.mp (show (Jvm.Cond.and given_1 narrow_1).before args s = true from hpre))
  obtain ⟨g1a, g1b⟩ := and_e hg
  obtain ⟨g2a, g2b⟩ := and_e g1b
  obtain ⟨w0, w1, rfl⟩ : ∃ w0 w1 : Value, args = #[w0, w1] := by
    have hs : args.size = 2 := by simpa [Cond.value, given_1] using g1a
    obtain ⟨L⟩ := args
    match L, hs with
    | [w0, w1], _ => exact ⟨w0, w1, rfl⟩
  have hw := fun d (hd : d ∈ tables_1) => atoms_spec (ws := Jvm.Cond.code x code maxLocals ret :: tables_1) hat d (List.mem_cons_of_mem _ hd)
  obtain ⟨i0, ei0⟩ := is_v g2a
  obtain rfl : w0 = (.int i0) := Option.some.inj ei0
  obtain ⟨i1, ei1⟩ := is_v g2b
  obtain rfl : w1 = (.int i1) := Option.some.inj ei1
  obtain ⟨n, o, h1, h2, h3, _, L, rfl, ⟨rfl, N⟩, hq⟩ := rm0 l s _ hw tables_1 i0 i1  s.heap s.heap.size (Nat.le_refl _)  p e ha hc hk s m _ below hf ((Spec.applies_iff_loose hf).mp happ).1 ⟨rfl, State.Warmed39.refl s, rfl⟩ trivial
  refine ⟨n, _, h1, h2, h3, hpost _ _ _ _ _ _ ⟨Cond.after_iff.mpr rfl, Cond.after_iff.mpr (eq_i res_at (Term.int_eval (1)) rfl), trivial⟩ ⟨hq.1, hq.2.1, (hq.2.2.sift fun y hy => Or.inr (N y hy)).mono (by decide) (by decide)⟩⟩
theorem main_1_1 : Claimed_1_1 := comes_1 fun _ _ _ _ _ _ h hF => ⟨h.1, hF⟩
theorem main_1_2 : Claimed_1_2 := comes_1 fun _ _ _ _ _ _ h hF => ⟨h.2.1, hF⟩
end Jvm.Pilot.@@N@@
namespace Jvm.Pilot.@@N@@
open Jvm Jvm.ClassFile Sem Op Lib Jvm.Free Jvm.Stand Jvm.Pilot.@@N@@.Jvm.D
/-! MADE BY PROGRAM (witnessworld.py) out of the Statement's table words and the real class files: 7 classes; the members and pool entries that the words name. The judged class is class 1, her method 1. -/
namespace start1
open Jvm.ClassFile
def u (s : String) : CpInfo := .utf8 (stringToUtf16 s)
/-- a pool by its gaps: so many unusable entries, then the entry; so many at the end -/
def gap : Nat → List CpInfo → List CpInfo
  | 0, r => r
  | n + 1, r => .unusable :: gap n r
def poolList (es : List (Nat × CpInfo)) (last : Nat) : List CpInfo := es.foldr (fun e r => gap e.1 (e.2 :: r)) (gap last [])
def pool (es : List (Nat × CpInfo)) (last : Nat) : Array CpInfo := ⟨poolList es last⟩
def fileOf (pool : Array CpInfo) (this : Nat) (attrs : Array Attribute := #[]) (ms : Array MethodInfo := #[]) (fl : Nat := 33) (sup : Nat := 0) (ifs : Array Nat := #[]) (fds : Array FieldInfo := #[]) : ClassFile where
  minorVersion := 0
  majorVersion := 65
  constantPool := pool
  accessFlags := fl
  thisClass := this
  superClass := sup
  interfaces := ifs
  fields := fds
  methods := ms
  attributes := attrs
def plain (name : String) (sup : Option ClassId) : Class where
  name := name
  kind := .ordinary
  loader := none
  accessFlags := 33
  super := sup
  interfaces := #[]
  cf := none
  fields := #[]
  methods := #[]
  instanceTypes := #[]
  staticTypes := #[]
  resolved := #[]
  callSites := []
  init := .initialized
  statics := none
  mirror := none

def pool0 : Array CpInfo := pool [(5, u "<init>"), (0, u "()V"), (1, .class_ 10), (1, u "java/lang/Object")] 113

def k0m0 : Method := { name := "<init>", desc := "()V", sig := { parameters := [], returnType := none }, accessFlags := 1, code := none }
/-- java/lang/Object -/
def k0 : Class := { plain "java/lang/Object" none with
  accessFlags := 33
  interfaces := #[]
  cf := some (fileOf pool0 8 #[] #[{ accessFlags := 1, nameIndex := 5, descriptorIndex := 6, attributes := #[] }] 33 0 #[] #[])
  fields := #[]
  methods := #[k0m0]
  instanceTypes := #[]
  staticTypes := #[]
  resolved := Array.replicate 124 none
  statics := none }

def pool1 : Array CpInfo := pool [(2, .class_ 4), (1, u "java/lang/Object"), (0, u "<init>"), (0, u "()V"), (0, .integer 65535), (0, .integer 40960), (0, .integer 49152), (0, .integer 40959), (0, .integer 45056), (0, .integer 49151), (0, .integer 53248), (0, .integer 65024), (0, .methodref 16 17), (0, .class_ 18), (0, .nameAndType 19 20), (0, u "com/example/modalis/modalis/dicom/net/CommandSet"), (0, u "isFailure"), (0, u "(I)Z"), (0, .class_ 22), (0, u "com/example/modalis/modalis/dicom/net/CommandSetIsFailurePinLaw"), (2, u "law"), (0, u "(II)Z")] 3

def k1m0 : Method := { name := "<init>", desc := "()V", sig := { parameters := [], returnType := none }, accessFlags := 2, code := none }
def k1c1 : Code := { maxStack := 3, maxLocals := 7, code := code, exceptionTable := #[], attributes := #[] }
def k1m1 : Method := { name := "law", desc := "(II)Z", sig := { parameters := [.int, .int], returnType := some .boolean }, accessFlags := 9, code := some k1c1 }
/-- com/example/modalis/modalis/dicom/net/CommandSetIsFailurePinLaw -/
def k1 : Class := { plain "com/example/modalis/modalis/dicom/net/CommandSetIsFailurePinLaw" (some 0) with
  accessFlags := 49
  interfaces := #[]
  cf := some (fileOf pool1 21 #[] #[{ accessFlags := 2, nameIndex := 5, descriptorIndex := 6, attributes := #[] }, { accessFlags := 9, nameIndex := 25, descriptorIndex := 26, attributes := #[] }] 49 2 #[] #[])
  fields := #[]
  methods := #[k1m0, k1m1]
  instanceTypes := #[]
  staticTypes := #[]
  resolved := Array.replicate 30 none
  statics := none }

def pool2 : Array CpInfo := pool [(2, .class_ 4), (1, u "java/lang/Object"), (0, u "<init>"), (0, u "()V"), (4, .class_ 13), (1, u "com/example/modalis/modalis/dicom/net/CommandSet"), (0, u "elements"), (0, u "Lcom/example/modalis/modalis/dicom/data/DataSet;"), (69, u "(I)Z"), (16, .integer 61440), (0, .integer 40960), (0, .integer 49152), (51, u "NAMING"), (0, u "Ljava/util/List;"), (3, .class_ 162), (0, u "com/example/modalis/modalis/dicom/net/CommandSet$Naming"), (46, u "AFFECTED_SOP_CLASS_UID"), (0, u "I"), (2, u "REQUESTED_SOP_CLASS_UID"), (1, u "COMMAND_FIELD"), (1, u "MESSAGE_ID"), (1, u "MESSAGE_ID_BEING_RESPONDED_TO"), (1, u "MOVE_DESTINATION"), (1, u "PRIORITY"), (1, u "COMMAND_DATA_SET_TYPE"), (1, u "STATUS"), (1, u "AFFECTED_SOP_INSTANCE_UID"), (1, u "REQUESTED_SOP_INSTANCE_UID"), (1, u "NUMBER_OF_REMAINING_SUB_OPERATIONS"), (1, u "NUMBER_OF_COMPLETED_SUB_OPERATIONS"), (1, u "NUMBER_OF_FAILED_SUB_OPERATIONS"), (1, u "NUMBER_OF_WARNING_SUB_OPERATIONS"), (1, u "MOVE_ORIGINATOR_AE_TITLE"), (1, u "MOVE_ORIGINATOR_MESSAGE_ID"), (1, u "EVENT_TYPE_ID"), (1, u "ACTION_TYPE_ID"), (1, u "NO_DATA_SET"), (1, u "DATA_SET_PRESENT"), (1, u "C_STORE_RQ"), (1, u "C_FIND_RQ"), (1, u "C_MOVE_RQ"), (1, u "C_ECHO_RQ"), (1, u "N_EVENT_REPORT_RQ"), (0, u "N_SET_RQ"), (0, u "N_ACTION_RQ"), (1, u "N_CREATE_RQ"), (1, u "C_CANCEL_RQ"), (1, u "RESPONSE"), (0, u "SUCCESS"), (0, u "UNRECOGNIZED_OPERATION"), (1, u "NO_SUCH_ATTRIBUTE"), (1, u "INVALID_ATTRIBUTE_VALUE"), (1, u "PROCESSING_FAILURE"), (0, u "DUPLICATE_SOP_INSTANCE"), (1, u "NO_SUCH_SOP_INSTANCE"), (1, u "INVALID_ARGUMENT_VALUE"), (1, u "NO_SUCH_ACTION"), (1, u "RESOURCE_LIMITATION"), (1, u "INVALID_OBJECT_INSTANCE"), (1, u "MISSING_ATTRIBUTE"), (0, u "MISSING_ATTRIBUTE_VALUE"), (1, u "CANCEL"), (1, u "SUB_OPERATIONS_COMPLETE_WITH_FAILURES"), (1, u "UNABLE_TO_CALCULATE_MATCHES"), (1, u "UNABLE_TO_PERFORM_SUB_OPERATIONS"), (1, u "MOVE_DESTINATION_UNKNOWN"), (1, u "PENDING"), (1, u "PENDING_WARNING"), (1, u "OUT_OF_RESOURCES"), (1, u "DATA_SET_DOES_NOT_MATCH_SOP_CLASS"), (1, u "UNABLE_TO_PROCESS"), (0, u "ERROR_COMMENT"), (1, u "ATTRIBUTE_LIST_ERROR"), (1, u "ATTRIBUTE_VALUE_OUT_OF_RANGE"), (1, u "COMMAND_GROUP_LENGTH"), (2, u "MAX_ERROR_COMMENT_LENGTH"), (11, u "isFailure")] 30

def k2m0 : Method := { name := "<init>", desc := "()V", sig := { parameters := [], returnType := none }, accessFlags := 1, code := none }
def k2c1 : Code := { maxStack := 2, maxLocals := 3, code := prog_24_method_4_code, exceptionTable := #[], attributes := #[] }
def k2m1 : Method := { name := "isFailure", desc := "(I)Z", sig := { parameters := [.int], returnType := some .boolean }, accessFlags := 9, code := some k2c1 }
/-- com/example/modalis/modalis/dicom/net/CommandSet -/
def k2 : Class := { plain "com/example/modalis/modalis/dicom/net/CommandSet" (some 0) with
  accessFlags := 49
  interfaces := #[]
  cf := some (fileOf pool2 11 #[.nestMembers #[161]] #[{ accessFlags := 1, nameIndex := 5, descriptorIndex := 6, attributes := #[] }, { accessFlags := 9, nameIndex := 333, descriptorIndex := 85, attributes := #[] }] 49 2 #[] #[{ accessFlags := 25, nameIndex := 209, descriptorIndex := 210, attributes := #[] }, { accessFlags := 25, nameIndex := 213, descriptorIndex := 210, attributes := #[] }, { accessFlags := 25, nameIndex := 215, descriptorIndex := 210, attributes := #[] }, { accessFlags := 25, nameIndex := 217, descriptorIndex := 210, attributes := #[] }, { accessFlags := 25, nameIndex := 219, descriptorIndex := 210, attributes := #[] }, { accessFlags := 25, nameIndex := 221, descriptorIndex := 210, attributes := #[] }, { accessFlags := 25, nameIndex := 223, descriptorIndex := 210, attributes := #[] }, { accessFlags := 25, nameIndex := 225, descriptorIndex := 210, attributes := #[] }, { accessFlags := 25, nameIndex := 227, descriptorIndex := 210, attributes := #[] }, { accessFlags := 25, nameIndex := 229, descriptorIndex := 210, attributes := #[] }, { accessFlags := 25, nameIndex := 231, descriptorIndex := 210, attributes := #[] }, { accessFlags := 25, nameIndex := 233, descriptorIndex := 210, attributes := #[] }, { accessFlags := 25, nameIndex := 235, descriptorIndex := 210, attributes := #[] }, { accessFlags := 25, nameIndex := 237, descriptorIndex := 210, attributes := #[] }, { accessFlags := 25, nameIndex := 239, descriptorIndex := 210, attributes := #[] }, { accessFlags := 25, nameIndex := 241, descriptorIndex := 210, attributes := #[] }, { accessFlags := 25, nameIndex := 243, descriptorIndex := 210, attributes := #[] }, { accessFlags := 25, nameIndex := 245, descriptorIndex := 210, attributes := #[] }, { accessFlags := 25, nameIndex := 247, descriptorIndex := 210, attributes := #[] }, { accessFlags := 25, nameIndex := 249, descriptorIndex := 210, attributes := #[] }, { accessFlags := 25, nameIndex := 251, descriptorIndex := 210, attributes := #[] }, { accessFlags := 25, nameIndex := 253, descriptorIndex := 210, attributes := #[] }, { accessFlags := 25, nameIndex := 255, descriptorIndex := 210, attributes := #[] }, { accessFlags := 25, nameIndex := 257, descriptorIndex := 210, attributes := #[] }, { accessFlags := 25, nameIndex := 259, descriptorIndex := 210, attributes := #[] }, { accessFlags := 25, nameIndex := 261, descriptorIndex := 210, attributes := #[] }, { accessFlags := 25, nameIndex := 262, descriptorIndex := 210, attributes := #[] }, { accessFlags := 25, nameIndex := 263, descriptorIndex := 210, attributes := #[] }, { accessFlags := 25, nameIndex := 265, descriptorIndex := 210, attributes := #[] }, { accessFlags := 25, nameIndex := 267, descriptorIndex := 210, attributes := #[] }, { accessFlags := 25, nameIndex := 269, descriptorIndex := 210, attributes := #[] }, { accessFlags := 25, nameIndex := 270, descriptorIndex := 210, attributes := #[] }, { accessFlags := 25, nameIndex := 271, descriptorIndex := 210, attributes := #[] }, { accessFlags := 25, nameIndex := 273, descriptorIndex := 210, attributes := #[] }, { accessFlags := 25, nameIndex := 275, descriptorIndex := 210, attributes := #[] }, { accessFlags := 25, nameIndex := 277, descriptorIndex := 210, attributes := #[] }, { accessFlags := 25, nameIndex := 278, descriptorIndex := 210, attributes := #[] }, { accessFlags := 25, nameIndex := 280, descriptorIndex := 210, attributes := #[] }, { accessFlags := 25, nameIndex := 282, descriptorIndex := 210, attributes := #[] }, { accessFlags := 25, nameIndex := 284, descriptorIndex := 210, attributes := #[] }, { accessFlags := 25, nameIndex := 286, descriptorIndex := 210, attributes := #[] }, { accessFlags := 25, nameIndex := 288, descriptorIndex := 210, attributes := #[] }, { accessFlags := 25, nameIndex := 290, descriptorIndex := 210, attributes := #[] }, { accessFlags := 25, nameIndex := 291, descriptorIndex := 210, attributes := #[] }, { accessFlags := 25, nameIndex := 293, descriptorIndex := 210, attributes := #[] }, { accessFlags := 25, nameIndex := 295, descriptorIndex := 210, attributes := #[] }, { accessFlags := 25, nameIndex := 297, descriptorIndex := 210, attributes := #[] }, { accessFlags := 25, nameIndex := 299, descriptorIndex := 210, attributes := #[] }, { accessFlags := 25, nameIndex := 301, descriptorIndex := 210, attributes := #[] }, { accessFlags := 25, nameIndex := 303, descriptorIndex := 210, attributes := #[] }, { accessFlags := 25, nameIndex := 305, descriptorIndex := 210, attributes := #[] }, { accessFlags := 25, nameIndex := 307, descriptorIndex := 210, attributes := #[] }, { accessFlags := 25, nameIndex := 309, descriptorIndex := 210, attributes := #[] }, { accessFlags := 25, nameIndex := 311, descriptorIndex := 210, attributes := #[] }, { accessFlags := 25, nameIndex := 312, descriptorIndex := 210, attributes := #[] }, { accessFlags := 26, nameIndex := 314, descriptorIndex := 210, attributes := #[] }, { accessFlags := 26, nameIndex := 316, descriptorIndex := 210, attributes := #[] }, { accessFlags := 26, nameIndex := 318, descriptorIndex := 210, attributes := #[] }, { accessFlags := 26, nameIndex := 156, descriptorIndex := 157, attributes := #[] }, { accessFlags := 26, nameIndex := 321, descriptorIndex := 210, attributes := #[] }, { accessFlags := 18, nameIndex := 14, descriptorIndex := 15, attributes := #[] }])
  fields := #[{ name := "AFFECTED_SOP_CLASS_UID", type := .int, accessFlags := 25, slot := 0, constantValue := 0 }, { name := "REQUESTED_SOP_CLASS_UID", type := .int, accessFlags := 25, slot := 1, constantValue := 0 }, { name := "COMMAND_FIELD", type := .int, accessFlags := 25, slot := 2, constantValue := 0 }, { name := "MESSAGE_ID", type := .int, accessFlags := 25, slot := 3, constantValue := 0 }, { name := "MESSAGE_ID_BEING_RESPONDED_TO", type := .int, accessFlags := 25, slot := 4, constantValue := 0 }, { name := "MOVE_DESTINATION", type := .int, accessFlags := 25, slot := 5, constantValue := 0 }, { name := "PRIORITY", type := .int, accessFlags := 25, slot := 6, constantValue := 0 }, { name := "COMMAND_DATA_SET_TYPE", type := .int, accessFlags := 25, slot := 7, constantValue := 0 }, { name := "STATUS", type := .int, accessFlags := 25, slot := 8, constantValue := 0 }, { name := "AFFECTED_SOP_INSTANCE_UID", type := .int, accessFlags := 25, slot := 9, constantValue := 0 }, { name := "REQUESTED_SOP_INSTANCE_UID", type := .int, accessFlags := 25, slot := 10, constantValue := 0 }, { name := "NUMBER_OF_REMAINING_SUB_OPERATIONS", type := .int, accessFlags := 25, slot := 11, constantValue := 0 }, { name := "NUMBER_OF_COMPLETED_SUB_OPERATIONS", type := .int, accessFlags := 25, slot := 12, constantValue := 0 }, { name := "NUMBER_OF_FAILED_SUB_OPERATIONS", type := .int, accessFlags := 25, slot := 13, constantValue := 0 }, { name := "NUMBER_OF_WARNING_SUB_OPERATIONS", type := .int, accessFlags := 25, slot := 14, constantValue := 0 }, { name := "MOVE_ORIGINATOR_AE_TITLE", type := .int, accessFlags := 25, slot := 15, constantValue := 0 }, { name := "MOVE_ORIGINATOR_MESSAGE_ID", type := .int, accessFlags := 25, slot := 16, constantValue := 0 }, { name := "EVENT_TYPE_ID", type := .int, accessFlags := 25, slot := 17, constantValue := 0 }, { name := "ACTION_TYPE_ID", type := .int, accessFlags := 25, slot := 18, constantValue := 0 }, { name := "NO_DATA_SET", type := .int, accessFlags := 25, slot := 19, constantValue := 0 }, { name := "DATA_SET_PRESENT", type := .int, accessFlags := 25, slot := 20, constantValue := 0 }, { name := "C_STORE_RQ", type := .int, accessFlags := 25, slot := 21, constantValue := 0 }, { name := "C_FIND_RQ", type := .int, accessFlags := 25, slot := 22, constantValue := 0 }, { name := "C_MOVE_RQ", type := .int, accessFlags := 25, slot := 23, constantValue := 0 }, { name := "C_ECHO_RQ", type := .int, accessFlags := 25, slot := 24, constantValue := 0 }, { name := "N_EVENT_REPORT_RQ", type := .int, accessFlags := 25, slot := 25, constantValue := 0 }, { name := "N_SET_RQ", type := .int, accessFlags := 25, slot := 26, constantValue := 0 }, { name := "N_ACTION_RQ", type := .int, accessFlags := 25, slot := 27, constantValue := 0 }, { name := "N_CREATE_RQ", type := .int, accessFlags := 25, slot := 28, constantValue := 0 }, { name := "C_CANCEL_RQ", type := .int, accessFlags := 25, slot := 29, constantValue := 0 }, { name := "RESPONSE", type := .int, accessFlags := 25, slot := 30, constantValue := 0 }, { name := "SUCCESS", type := .int, accessFlags := 25, slot := 31, constantValue := 0 }, { name := "UNRECOGNIZED_OPERATION", type := .int, accessFlags := 25, slot := 32, constantValue := 0 }, { name := "NO_SUCH_ATTRIBUTE", type := .int, accessFlags := 25, slot := 33, constantValue := 0 }, { name := "INVALID_ATTRIBUTE_VALUE", type := .int, accessFlags := 25, slot := 34, constantValue := 0 }, { name := "PROCESSING_FAILURE", type := .int, accessFlags := 25, slot := 35, constantValue := 0 }, { name := "DUPLICATE_SOP_INSTANCE", type := .int, accessFlags := 25, slot := 36, constantValue := 0 }, { name := "NO_SUCH_SOP_INSTANCE", type := .int, accessFlags := 25, slot := 37, constantValue := 0 }, { name := "INVALID_ARGUMENT_VALUE", type := .int, accessFlags := 25, slot := 38, constantValue := 0 }, { name := "NO_SUCH_ACTION", type := .int, accessFlags := 25, slot := 39, constantValue := 0 }, { name := "RESOURCE_LIMITATION", type := .int, accessFlags := 25, slot := 40, constantValue := 0 }, { name := "INVALID_OBJECT_INSTANCE", type := .int, accessFlags := 25, slot := 41, constantValue := 0 }, { name := "MISSING_ATTRIBUTE", type := .int, accessFlags := 25, slot := 42, constantValue := 0 }, { name := "MISSING_ATTRIBUTE_VALUE", type := .int, accessFlags := 25, slot := 43, constantValue := 0 }, { name := "CANCEL", type := .int, accessFlags := 25, slot := 44, constantValue := 0 }, { name := "SUB_OPERATIONS_COMPLETE_WITH_FAILURES", type := .int, accessFlags := 25, slot := 45, constantValue := 0 }, { name := "UNABLE_TO_CALCULATE_MATCHES", type := .int, accessFlags := 25, slot := 46, constantValue := 0 }, { name := "UNABLE_TO_PERFORM_SUB_OPERATIONS", type := .int, accessFlags := 25, slot := 47, constantValue := 0 }, { name := "MOVE_DESTINATION_UNKNOWN", type := .int, accessFlags := 25, slot := 48, constantValue := 0 }, { name := "PENDING", type := .int, accessFlags := 25, slot := 49, constantValue := 0 }, { name := "PENDING_WARNING", type := .int, accessFlags := 25, slot := 50, constantValue := 0 }, { name := "OUT_OF_RESOURCES", type := .int, accessFlags := 25, slot := 51, constantValue := 0 }, { name := "DATA_SET_DOES_NOT_MATCH_SOP_CLASS", type := .int, accessFlags := 25, slot := 52, constantValue := 0 }, { name := "UNABLE_TO_PROCESS", type := .int, accessFlags := 25, slot := 53, constantValue := 0 }, { name := "ERROR_COMMENT", type := .int, accessFlags := 25, slot := 54, constantValue := 0 }, { name := "ATTRIBUTE_LIST_ERROR", type := .int, accessFlags := 26, slot := 55, constantValue := 0 }, { name := "ATTRIBUTE_VALUE_OUT_OF_RANGE", type := .int, accessFlags := 26, slot := 56, constantValue := 0 }, { name := "COMMAND_GROUP_LENGTH", type := .int, accessFlags := 26, slot := 57, constantValue := 0 }, { name := "NAMING", type := (.object "java/util/List"), accessFlags := 26, slot := 58, constantValue := 0 }, { name := "MAX_ERROR_COMMENT_LENGTH", type := .int, accessFlags := 26, slot := 59, constantValue := 0 }, { name := "elements", type := (.object "com/example/modalis/modalis/dicom/data/DataSet"), accessFlags := 18, slot := 0, constantValue := 0 }]
  methods := #[k2m0, k2m1]
  instanceTypes := #[(.object "com/example/modalis/modalis/dicom/data/DataSet")]
  staticTypes := #[.int, .int, .int, .int, .int, .int, .int, .int, .int, .int, .int, .int, .int, .int, .int, .int, .int, .int, .int, .int, .int, .int, .int, .int, .int, .int, .int, .int, .int, .int, .int, .int, .int, .int, .int, .int, .int, .int, .int, .int, .int, .int, .int, .int, .int, .int, .int, .int, .int, .int, .int, .int, .int, .int, .int, .int, .int, .int, (.object "java/util/List"), .int]
  resolved := Array.replicate 364 none
  statics := none }

def pool3 : Array CpInfo := pool [(1, u "java/lang/Cloneable"), (0, .class_ 1), (0, u "java/lang/Object"), (0, .class_ 3)] 3

/-- java/lang/Cloneable -/
def k3 : Class := { plain "java/lang/Cloneable" (some 0) with
  accessFlags := 1537
  interfaces := #[]
  cf := some (fileOf pool3 2 #[] #[] 1537 4 #[] #[])
  fields := #[]
  methods := #[]
  instanceTypes := #[]
  staticTypes := #[]
  resolved := Array.replicate 8 none
  statics := none }

def pool4 : Array CpInfo := pool [(1, u "java/io/Serializable"), (0, .class_ 1), (0, u "java/lang/Object"), (0, .class_ 3)] 3

/-- java/io/Serializable -/
def k4 : Class := { plain "java/io/Serializable" (some 0) with
  accessFlags := 1537
  interfaces := #[]
  cf := some (fileOf pool4 2 #[] #[] 1537 4 #[] #[])
  fields := #[]
  methods := #[]
  instanceTypes := #[]
  staticTypes := #[]
  resolved := Array.replicate 8 none
  statics := none }

/-- the primitive byte -/
def k5 : Class := { plain "byte" none with kind := .primitive 'B', accessFlags := 0x411 }
/-- [B -/
def k6 : Class := { plain "[B" (some 0) with kind := .array 5 .byte, interfaces := #[3, 4], accessFlags := 1041 }

def heap : Heap := #[]
def classes : Array Class := #[k0, k1, k2, k3, k4, k5, k6]
def interned : List (Array UInt16 × Addr) := []
def slotsUsed : Nat := 0
def theMethod : MethodId := ⟨1, 1⟩
def args0 : Array Value := #[.int 5, .int 7]
def aboutOver (below : List Frame) : State where
  vm := { classes := classes, interned := interned.toArray }
  heap := heap
  slotsUsed := slotsUsed
  threads := #[{ frames := .invoking theMethod args0 :: below }]
def below0 : List Frame := [.native { method := ⟨0, 0⟩, args := #[] }]
def about1 : State := aboutOver below0
def p0 : Program := .bare "" "" ""
def e0 : Env := launch0.env 0 0 0
theorem w_frames : about1.frames = Frame.invoking theMethod args0 :: below0 := rfl
set_option maxRecDepth 65536 in
theorem w_args : argsFit about1.vm theMethod args0 = true := by decide +kernel
set_option maxRecDepth 65536 in
theorem w_heap : heapFits about1 = true := by decide +kernel
set_option maxRecDepth 65536 in
theorem w_runnable : about1.curStatus? = some .runnable := by decide +kernel
set_option maxRecDepth 65536 in
theorem w_alone : about1.alone = true := by decide +kernel
set_option maxRecDepth 65536 in
theorem w_named : about1.methodNamed? x = some theMethod := by decide +kernel
set_option maxRecDepth 65536 in
theorem w_hears : about1.hears theMethod below0 = true := by decide +kernel
set_option maxRecDepth 65536 in
theorem w_ripe : about1.ripe theMethod args0 below0 = true := by decide +kernel
theorem w_running : about1.status = .running := rfl
set_option maxRecDepth 65536 in
theorem w_room : about1.hasRoom e0.platform room_1 = true :=
  launch0.hasRoom_least _ room_1 (by decide +kernel) (by decide +kernel) (by decide +kernel) (by decide +kernel) (by decide +kernel) (by decide +kernel)
theorem allAtoms_all (ts : List Jvm.Cond) (a : Array Jvm.Value) (st : Jvm.State) : (allAtoms ts).before a st = ts.all (fun c => c.before a st) := by
  induction ts with
  | nil => rfl
  | cons c t ih =>
    show (Jvm.Cond.and c (allAtoms t)).before a st = _
    rw [Jvm.Cond.before_and, ih, List.all_cons]
def words1 : List Jvm.Cond := Jvm.Cond.code x code maxLocals ret :: tables_1
/-- a 'code' word, met by the world's own term for the bytes: nothing is compared byte by byte -/
theorem code_word {y : MethodName} {bytes : ByteArray} {mx : Nat} {rt : Option FieldType} {a : Array Value} {s : State} {m : MethodId} {meth : Method} {c : Code} (h1 : s.methodNamed? y = some m) (h2 : s.vm.method? m = some meth) (h3 : meth.code = some c) (h4 : c.code = bytes)
    (h5 : (c.maxLocals == mx && c.exceptionTable.isEmpty && decide (c.maxStack ≤ mostOperands) && decide (meth.sig.returnType = rt) && !meth.locks && decide (parseMethodDescriptor y.desc = some meth.sig)) = true) : (Jvm.Cond.code y bytes mx rt).before a s = true := by
  simp only [Bool.and_eq_true, beq_iff_eq, Bool.not_eq_true', decide_eq_true_eq] at h5
  obtain ⟨⟨⟨⟨⟨g1, g2⟩, g3⟩, g4⟩, g5⟩, g6⟩ := h5
  simp [Cond.before, Cond.holds, Cond.value, h1, h2, h3, h4, g1, g2, g3, g4, g5, g6]
def isCode : Jvm.Cond → Bool
  | .code _ _ _ _ => true
  | _ => false
theorem all_split {L : List Jvm.Cond} {P : Jvm.Cond → Bool} (h1 : L.all (fun c => isCode c || P c) = true) (h2 : ∀ c ∈ L.filter isCode, P c = true) : L.all P = true := by
  refine List.all_eq_true.mpr fun c hc => ?_
  have h := List.all_eq_true.mp h1 c hc
  rcases Bool.eq_false_or_eq_true (isCode c) with hi | hi
  · exact h2 c (List.mem_filter.mpr ⟨hc, hi⟩)
  · simpa [hi] using h
set_option maxRecDepth 65536 in
theorem w_c0 : (Jvm.Cond.code x code maxLocals ret).before args0 about1 = true := code_word (m := ⟨1, 1⟩) (meth := k1m1) (c := k1c1) (by decide +kernel) rfl rfl rfl (by decide +kernel)
set_option maxRecDepth 65536 in
theorem w_c1 : (Jvm.Cond.code ({ cls := "com/example/modalis/modalis/dicom/net/CommandSet", name := "isFailure", desc := "(I)Z" } : Jvm.MethodName) prog_24_method_4_code (3 : Nat) (Option.some Jvm.ClassFile.FieldType.boolean)).before args0 about1 = true := code_word (m := ⟨2, 1⟩) (meth := k2m1) (c := k2c1) (by decide +kernel) rfl rfl rfl (by decide +kernel)
def codes1 : List Jvm.Cond := [Jvm.Cond.code x code maxLocals ret, Jvm.Cond.code ({ cls := "com/example/modalis/modalis/dicom/net/CommandSet", name := "isFailure", desc := "(I)Z" } : Jvm.MethodName) prog_24_method_4_code (3 : Nat) (Option.some Jvm.ClassFile.FieldType.boolean)]
set_option maxRecDepth 65536 in
theorem codes_eq : words1.filter isCode = codes1 := rfl
theorem w_codes : ∀ c ∈ words1.filter isCode, c.before args0 about1 = true := by
  rw [codes_eq]
  intro c hc
  simp only [codes1, List.mem_cons, List.not_mem_nil, or_false] at hc
  rcases hc with rfl | rfl
  · exact w_c0
  · exact w_c1
set_option maxRecDepth 65536 in
theorem w_t1 : words1.all (fun c => isCode c || c.before args0 about1) = true := by decide +kernel
theorem w_tables : (allAtoms (Jvm.Cond.code x code maxLocals ret :: tables_1)).before args0 about1 = true := by
  rw [allAtoms_all]
  show words1.all (fun c => c.before args0 about1) = true
  refine all_split ?_ w_codes
  rw [w_t1]
set_option maxRecDepth 65536 in
theorem w_case : (Jvm.Cond.and given_1 narrow_1).before args0 about1 = true := by decide +kernel
theorem w_applies : (headSpec (Jvm.Cond.code x code maxLocals ret :: tables_1) room_1).applies x e0.platform about1 = true :=
  (Spec.applies_iff w_frames).mpr ⟨w_running, w_runnable, w_alone, w_named, w_hears, w_ripe, w_room, w_tables⟩
theorem atStart : AtStart classFile x code maxLocals ret World_1 tables_1 room_1 Calls_1 rest_1 Pre_1 launch0 p0 e0 about1 theMethod args0 below0 :=
  ⟨lists_1, trivial, launch0.admits_env _ _ _, launch0.least_env, fairChoices_fair.cas, fairChoices_fair.clock, w_frames, w_args, w_heap, w_applies, trivial, trivial, w_case⟩
end start1
theorem witness_1 : WitnessClaimed_1 := ⟨start1.p0, start1.e0, start1.about1, start1.theMethod, start1.args0, start1.below0, start1.atStart⟩
end Jvm.Pilot.@@N@@
