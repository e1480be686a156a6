import JvmDerived
import JvmDerived.Pilot.@@N@@Statement
import JvmDerived.Pilot.@@N@@Code
set_option linter.unusedVariables false
set_option linter.unusedSimpArgs false
namespace Jvm.RoadKit
open Sem ClassFile Op Lib Jvm.Stand Jvm.Free Jvm.LawKit
section New
variable {p : Program} {l : Launch} {e : Env} {R : Room} {s : State} {m : MethodId} {args : Array Value} {below : List Frame} {meth : Method} {c : Code} {T : State} {locs : List Loc} {cells slots : Nat}
theorem retI (X : Stand p l e R s m args below meth c T locs cells slots) (hx : p.tables.exec = Jvm.exec) {pc : Nat} {Ls : Array Slot} {z : Int32} {rest : List Value} (hret : meth.sig.returnType = some .int) (hd : decode c.code pc = .ok (.ireturn, 1)) {fs : List Frame}
    (hl : ∀ (f : JFrame) (acts : List Action), f.method = m → f.locked = none → f.entered = [] → (doReturn e (T.setTop f) acts (some (.int z))).1 = T.setFrames fs) : Steps p.tables e below (T.setTop (mkF m pc Ls (.int z :: rest))) (T.setFrames fs) := by
  have hm' : T.vm.method? m = some meth := X.method'
  have hn : narrow .int (.int z) = .int z := rfl
  show Steps p.tables e below (T.setTop { method := m, pc := pc, locals := Ls, stack := _ :: rest, locked := none }) _
  jvm_step X.here [X.here.top, hx, hd, hm', hret, hn]
  first | (intro acts; rw [hl _ acts rfl rfl rfl]) | rw [hl _ _ rfl rfl rfl]
  exact Steps.refl _
end New
end Jvm.RoadKit
namespace Jvm.Pilot.@@N@@
open Jvm Jvm.ClassFile Sem Op Lib Jvm.Free Jvm.Stand Jvm.LawKit Jvm.RoadKit Bundle Jvm.Pilot.@@N@@.Jvm.D
theorem own_pd0 : parseMethodDescriptor "(JJI)B" = some ⟨[.long, .long, .int], some .byte⟩ := by decide +kernel
theorem own_pd1 : parseMethodDescriptor "([BII)V" = some ⟨[(.array .byte), .int, .int], none⟩ := by decide +kernel
theorem own_pd2 : parseMethodDescriptor "([BJJIII)Z" = some ⟨[(.array .byte), .long, .long, .int, .int, .int], some .boolean⟩ := by decide +kernel
theorem own_frE {n : Nat} {L L' : List Loc} (h : L' = L) (f : Fr n L) : Fr n L' := h ▸ f
theorem own_ni {a b : Addr} {n : Nat} (h : a < n) (g : b = n) : a ∉ [b] := fun q => absurd (List.mem_singleton.mp q) (Nat.ne_of_lt (g ▸ h))
theorem own_in0 (a : Addr) (l : List Addr) : a ∈ a :: l := List.mem_cons_self ..
/-- an array: its kind, its length, what each place holds -/
def Av (Z : State) (h : Heap) (a : Addr) (ty : FieldType) (N : Nat) (g : Nat → Value) : Prop := ∃ c : Cell, Arr Z h a c ty ∧ c.slots.size = N ∧ ∀ j, j < N → c.slots[j]? = some (g j)
theorem Av.lt {Z : State} {h : Heap} {a : Addr} {ty : FieldType} {N : Nat} {g : Nat → Value} (V : Av Z h a ty N g) : a < h.size := by obtain ⟨c, A, -⟩ := V; exact A.lt
theorem Av.ext {Z : State} {h h' : Heap} {a : Addr} {ty : FieldType} {N : Nat} {g : Nat → Value} (V : Av Z h a ty N g) (E : Ext h h') : Av Z h' a ty N g := by obtain ⟨c, A, r⟩ := V; exact ⟨c, A.ext E, r⟩
theorem Av.other {Z : State} {h h' : Heap} {a b : Addr} {ty : FieldType} {N sl : Nat} {v : Value} {g : Nat → Value} (V : Av Z h b ty N g) (W : Wr h h' a sl v) (q : b ≠ a) : Av Z h' b ty N g := by obtain ⟨c, A, r⟩ := V; exact ⟨c, A.other W q, r⟩
theorem Av.keep {Z : State} {h h' : Heap} {a : Addr} {ty : FieldType} {N : Nat} {g : Nat → Value} {ws : List Addr} (V : Av Z h a ty N g) (K : Keep h h' ws) (q : a ∉ ws) : Av Z h' a ty N g := by obtain ⟨c, A, r⟩ := V; exact ⟨c, ⟨K.2.1 a c A.1 q, A.2⟩, r⟩
theorem Av.congr {Z : State} {h : Heap} {a : Addr} {ty : FieldType} {N : Nat} {g g' : Nat → Value} (V : Av Z h a ty N g) (q : ∀ j, j < N → g j = g' j) : Av Z h a ty N g' := by obtain ⟨c, A, S, G⟩ := V; exact ⟨c, A, S, fun j hj => (G j hj).trans (congrArg some (q j hj))⟩
theorem Av.new {Z : State} {h : Heap} {a : Addr} {cA : ClassId} {ty : FieldType} {n : Int32} (A : Arr Z h a (newA cA ty n) ty) {N : Nat} (hN : n.toInt = N) : Av Z h a ty N (fun _ => defaultValue ty) := by
  have e : n.toNatClampNeg = N := by rw [Int32.toNatClampNeg, hN]; rfl
  refine ⟨_, A, (sz_new _ _ _).trans e, fun j hj => ?_⟩
  simp [newA, e, hj]
theorem own_tn {j : Int32} {i : Nat} (hj : j.toInt = i) : j.toNatClampNeg = i := by rw [Int32.toNatClampNeg, hj]; rfl
theorem own_hin {cl : Cell} {N i : Nat} {j : Int32} (S : cl.slots.size = N) (hj : j.toInt = i) (hi : i < N) : ¬ (j < 0 ∨ cl.slots.size ≤ j.toNatClampNeg) := by
  rw [S, own_tn hj, Int32.lt_iff_toInt_lt, hj, show (0 : Int32).toInt = 0 from rfl]
  omega
theorem own_hat {cl : Cell} {N i : Nat} {j : Int32} {g : Nat → Value} (G : ∀ j, j < N → cl.slots[j]? = some (g j)) (hj : j.toInt = i) (hi : i < N) : cl.slots[j.toNatClampNeg]? = some (g i) := by
  rw [own_tn hj]; exact G i hi
theorem Av.set {Z : State} {h h' : Heap} {a : Addr} {ty : FieldType} {N i : Nat} {g : Nat → Value} {v : Value} {c : Cell} {j : Int32} (A : Arr Z h a c ty) (S : c.slots.size = N) (G : ∀ j, j < N → c.slots[j]? = some (g j)) (hj : j.toInt = i) (W : Wr h h' a j.toNatClampNeg v) : Av Z h' a ty N (fun k => if k = i then v else g k) := by
  refine ⟨_, A.same W, (sz_set _ _ _).trans S, fun k hk => ?_⟩
  show (c.slots.setIfInBounds j.toNatClampNeg v)[k]? = some (if k = i then v else g k)
  rw [own_tn hj, Array.getElem?_setIfInBounds]
  by_cases q : i = k
  · subst q; simp [S, hk]
  · rw [if_neg q, if_neg (fun z => q z.symm)]; exact G k hk
theorem own_nneg {j : Int32} {i : Nat} (hj : j.toInt = i) : ¬ j < 0 := by
  rw [Int32.lt_iff_toInt_lt, hj, show (0 : Int32).toInt = 0 from rfl]; omega
theorem own_sz {cl : Cell} {N : Nat} {j : Int32} (S : cl.slots.size = N) (hj : j.toInt = N) : cl.slots.size = j.toNatClampNeg := by rw [S, own_tn hj]
theorem own_ni1 {a b : Addr} (h : a ≠ b) : a ∉ [b] := fun q => h (List.mem_singleton.mp q)
theorem own_inc {x : Int32} {i : Nat} (hx : x.toInt = i) (hi : i < 2147483647) : (x + (1 : Int32)).toInt = ((i + 1 : Nat) : Int) := by
  have h := c_iadd x (1 : Int32)
  have := rng32 (x + (1 : Int32))
  rw [show (1 : Int32).toInt = 1 from by decide] at h
  omega
theorem own_addN {x y : Int32} {a b : Nat} (hx : x.toInt = a) (hy : y.toInt = b) (hi : a + b < 2147483648) : (x + y).toInt = ((a + b : Nat) : Int) := by
  have h := c_iadd x y
  have := rng32 (x + y)
  omega
theorem own_subN {x y : Int32} {a b : Nat} (hx : x.toInt = a) (hy : y.toInt = b) (hi : b ≤ a) : (x - y).toInt = ((a - b : Nat) : Int) := by
  have h := c_isub x y
  have := rng32 (x - y); have := rng32 x
  omega
theorem own_lt {x y : Int32} {i j : Nat} (hx : x.toInt = i) (hy : y.toInt = j) : x < y ↔ i < j := by
  rw [Int32.lt_iff_toInt_lt, hx, hy]; omega
theorem own_eqi {x y : Int32} {i j : Nat} (hx : x.toInt = i) (hy : y.toInt = j) : x = y ↔ i = j := by
  rw [← Int32.toInt_inj, hx, hy]; omega
theorem own_rem {x y : Int32} {a b : Nat} (hx : x.toInt = a) (hy : y.toInt = b) : (x % y).toInt = ((a % b : Nat) : Int) := by
  rw [(c_irem x y b hy).1 (by omega), hx, Int.natCast_emod]
theorem own_ne0 {x : Int32} {a : Nat} (hx : x.toInt = a) (ha : 0 < a) : x ≠ 0 := fun q => by
  rw [q, show (0 : Int32).toInt = 0 from by decide] at hx; omega
theorem own_of {x : Int32} {n : Nat} (h : x.toInt = n) : x = Int32.ofInt n := by
  rw [← h]; exact (Int32.ofInt_toInt x).symm
/-- the byte of x at the bit place s -/
def own_by (x : Int64) (s : Int32) : Int32 := ((x.toUInt64 >>> (s &&& 0x3f).toInt64.toUInt64).toInt64).toInt32.toInt8.toInt32
def own_at (a b : Int64) (j : Int32) : Int32 := if j < (8 : Int32) then own_by a ((8 : Int32) * j) else own_by b ((8 : Int32) * (j - (8 : Int32)))
theorem own_nn (x : Int32) : nar .byte x.toInt8.toInt32 = x.toInt8.toInt32 := by
  show x.toInt8.toInt32.toInt8.toInt32 = _
  rw [Int8.toInt8_toInt32]
theorem own_nat (a b : Int64) (j : Int32) : nar .byte (own_at a b j) = own_at a b j := by
  unfold own_at own_by
  split <;> exact own_nn _
theorem own_divN {x y : Int32} {a b : Nat} (hx : x.toInt = a) (hy : y.toInt = b) (hb : 0 < b) : (x / y).toInt = ((a / b : Nat) : Int) := by
  rw [(c_idiv x y b hy (fun q => by rw [q, show (-1 : Int32).toInt = -1 from by decide] at hy; omega)).1 (by omega), hx, Int.natCast_ediv]
theorem own_mulN {x y : Int32} {a b : Nat} (hx : x.toInt = a) (hy : y.toInt = b) (h : a * b < 2147483648) : (x * y).toInt = ((a * b : Nat) : Int) := by
  have e := c_imul x y
  have := rng32 (x * y)
  rw [hx, hy, ← Int.natCast_mul] at e
  generalize a * b = z at *
  omega
/-- a word's bytes from place i + k to i + w - k the other way round -/
def own_rv (f : Nat → Int32) (i w k : Nat) : Nat → Int32 := fun j => if i + k ≤ j ∧ j < i + w - k then f (2 * i + w - 1 - j) else f j
def own_sw (f : Nat → Int32) (x y : Nat) : Nat → Int32 := fun j => if j = y then f x else if j = x then f y else f j
theorem own_rv0 {f : Nat → Int32} {i w k : Nat} (h : ¬ k < w / 2) (j : Nat) : own_rv f i w k j = f j := by
  unfold own_rv
  split
  · congr 1; omega
  · rfl
theorem own_rv1 {f : Nat → Int32} {i w k : Nat} (h : k < w / 2) (j : Nat) : own_rv (own_sw f (i + k) (i + w - 1 - k)) i w (k + 1) j = own_rv f i w k j := by
  unfold own_rv own_sw
  try dsimp only
  by_cases h1 : i + (k + 1) ≤ j ∧ j < i + w - (k + 1)
  · have a1 : i + k ≤ j ∧ j < i + w - k := by omega
    have a2 : ¬ 2 * i + w - 1 - j = i + w - 1 - k := by omega
    have a3 : ¬ 2 * i + w - 1 - j = i + k := by omega
    rw [if_pos h1, if_pos a1, if_neg a2, if_neg a3]
  · rw [if_neg h1]
    by_cases h2 : j = i + w - 1 - k
    · have a1 : i + k ≤ j ∧ j < i + w - k := by omega
      rw [if_pos h2, if_pos a1]; congr 1; omega
    · rw [if_neg h2]
      by_cases h3 : j = i + k
      · have a1 : i + k ≤ j ∧ j < i + w - k := by omega
        rw [if_pos h3, if_pos a1]; congr 1; omega
      · have a1 : ¬ (i + k ≤ j ∧ j < i + w - k) := by omega
        rw [if_neg h3, if_neg a1]
/-- the words from place lo on, up to len, each turned round -/
def own_all (f : Nat → Int32) (w lo len : Nat) : Nat → Int32 := fun j => if lo ≤ j ∧ j < len then f (j / w * w + (w - 1 - j % w)) else f j
theorem own_all0 {f : Nat → Int32} {w len : Nat} (j : Nat) : own_all f w len len j = f j := by
  unfold own_all
  rw [if_neg (by omega)]
theorem own_all1 {f : Nat → Int32} {w t len : Nat} (hw : w = 1 ∨ w = 2 ∨ w = 4 ∨ w = 8) (hl : w * t + w ≤ len) (j : Nat) : own_all (own_rv f (w * t) w 0) w (w * t + w) len j = own_all f w (w * t) len j := by
  unfold own_all own_rv
  try dsimp only
  by_cases h1 : w * t + w ≤ j ∧ j < len
  · have a1 : w * t ≤ j ∧ j < len := by omega
    have a2 : ¬ (w * t + 0 ≤ j / w * w + (w - 1 - j % w) ∧ j / w * w + (w - 1 - j % w) < w * t + w - 0) := by rcases hw with rfl | rfl | rfl | rfl <;> omega
    rw [if_pos h1, if_pos a1, if_neg a2]
  · rw [if_neg h1]
    by_cases h2 : w * t + 0 ≤ j ∧ j < w * t + w - 0
    · have a1 : w * t ≤ j ∧ j < len := by omega
      rw [if_pos h2, if_pos a1]
      congr 1
      rcases hw with rfl | rfl | rfl | rfl <;> omega
    · have a1 : ¬ (w * t ≤ j ∧ j < len) := by omega
      rw [if_neg h2, if_neg a1]
theorem own_fill {f : Nat → Int32} {k : Nat} {v : Int32} (hv : v = f k) (j : Nat) : (if j = k then Value.int v else Value.int (if j < k then f j else 0)) = Value.int (if j < k + 1 then f j else 0) := by
  by_cases h : j = k
  · rw [if_pos h, if_pos (by omega), h, hv]
  · rw [if_neg h]
    by_cases h2 : j < k
    · rw [if_pos h2, if_pos (by omega)]
    · rw [if_neg h2, if_neg (by omega)]
theorem own_st4 {v : Addr} {a b c x : Int32} {s4 s5 : Slot} (h : One s4) : storeLocals #[.val (.ref v), .val (.int a), .val (.int b), .val (.int c), s4, s5] 4 (.int x) = some #[.val (.ref v), .val (.int a), .val (.int b), .val (.int c), .val (.int x), s5] := by
  rcases h with rfl | ⟨w, rfl, hw⟩
  · rfl
  · cases w <;> first | rfl | (simp [Value.category] at hw)
theorem own_st5 {v : Addr} {a b c d x : Int32} {s5 : Slot} (h : One s5) : storeLocals #[.val (.ref v), .val (.int a), .val (.int b), .val (.int c), .val (.int d), s5] 5 (.int x) = some #[.val (.ref v), .val (.int a), .val (.int b), .val (.int c), .val (.int d), .val (.int x)] := by
  rcases h with rfl | ⟨w, rfl, hw⟩
  · rfl
  · cases w <;> first | rfl | (simp [Value.category] at hw)
theorem d1_0 : decode method_3_code 0 = .ok (.iload 4, 2) := by decide +kernel
theorem d1_2 : decode method_3_code 2 = .ok (.bipush 8, 2) := by decide +kernel
theorem d1_4 : decode method_3_code 4 = .ok (.if_icmp .ge 15, 3) := by decide +kernel
theorem d1_7 : decode method_3_code 7 = .ok (.lload_n 0, 1) := by decide +kernel
theorem d1_8 : decode method_3_code 8 = .ok (.bipush 8, 2) := by decide +kernel
theorem d1_10 : decode method_3_code 10 = .ok (.iload 4, 2) := by decide +kernel
theorem d1_12 : decode method_3_code 12 = .ok (.imul, 1) := by decide +kernel
theorem d1_13 : decode method_3_code 13 = .ok (.lushr, 1) := by decide +kernel
theorem d1_14 : decode method_3_code 14 = .ok (.l2i, 1) := by decide +kernel
theorem d1_15 : decode method_3_code 15 = .ok (.i2b, 1) := by decide +kernel
theorem d1_16 : decode method_3_code 16 = .ok (.goto 15, 3) := by decide +kernel
theorem d1_19 : decode method_3_code 19 = .ok (.lload_n 2, 1) := by decide +kernel
theorem d1_20 : decode method_3_code 20 = .ok (.bipush 8, 2) := by decide +kernel
theorem d1_22 : decode method_3_code 22 = .ok (.iload 4, 2) := by decide +kernel
theorem d1_24 : decode method_3_code 24 = .ok (.bipush 8, 2) := by decide +kernel
theorem d1_26 : decode method_3_code 26 = .ok (.isub, 1) := by decide +kernel
theorem d1_27 : decode method_3_code 27 = .ok (.imul, 1) := by decide +kernel
theorem d1_28 : decode method_3_code 28 = .ok (.lushr, 1) := by decide +kernel
theorem d1_29 : decode method_3_code 29 = .ok (.l2i, 1) := by decide +kernel
theorem d1_30 : decode method_3_code 30 = .ok (.i2b, 1) := by decide +kernel
theorem d1_31 : decode method_3_code 31 = .ok (.ireturn, 1) := by decide +kernel
theorem pn_1 : plainName "com/example/modalis/modalis/dicom/data/DataSetReaderToLittleEndianPinLaw" = true := by first | (simp [plainName, overriddenIn]; done) | decide +kernel
theorem ef_1 (m : MethodId) (x0 : Int64) (x1 : Int64) (x2 : Int32) : entryFrame m #[(.long x0), (.long x1), (.int x2)] 5 = mkF m 0 #[.val (.long x0), .second, .val (.long x1), .second, .val (.int x2)] [] := by first | (simp [entryFrame, mkF, argsToLocals, Value.category]; done) | rfl
def Q1 (Z : State) (q1 q3 : Int64) (p5 : Int32) (h0 : Heap) (n0 : Nat) (v : Option Value) (h : Heap) (L : List Loc) : Prop := v = some (.int (own_at q1 q3 p5)) ∧ Fr n0 L ∧ h = h0
set_option maxRecDepth 65536 in
set_option maxHeartbeats 40000000 in
theorem rm1 (l : Launch) (Z : State) (a0 : Array Value) (hw : ∀ d ∈ tables_1, d.before a0 Z = true) (ws : List Jvm.Cond) (q1 : Int64) (q3 : Int64) (p5 : Int32)  (h0 : Heap) (n0 : Nat) (Z0 : n0 ≤ h0.size)  :
    MetFree l (⟨"com/example/modalis/modalis/dicom/data/DataSetReaderToLittleEndianPinLaw", "at", "(JJI)B"⟩ : MethodName) (head1 (Jvm.Cond.code (⟨"com/example/modalis/modalis/dicom/data/DataSetReaderToLittleEndianPinLaw", "at", "(JJI)B"⟩ : MethodName) method_3_code 5 (some .byte) :: ws) ({ frames := 0, cells := 0, slots := 0, locals := 0 } : Room)) (fun a U => a = #[(.long q1), (.long q3), (.int p5)] ∧ Z.Warmed39 U.vm ∧ U.heap = h0) (fun _ _ _ _ _ => True) (fun _ U o U' => ∃ v L, o = .returned v ∧ Q1 Z q1 q3 p5 h0 n0 v U'.heap L ∧ FrameEnd U o U' L ({ frames := 0, cells := 0, slots := 0, locals := 0 } : Room).cells ({ frames := 0, cells := 0, slots := 0, locals := 0 } : Room).slots) := by
  refine MetFree.of_bodySF (plainFor_of_name pn_1) hisR ?_
  intro p e s m args below meth c s₁ Bd hml0 hP hK
  obtain ⟨rfl, hZ, hh⟩ := hP
  have hx := Bd.exec
  have hby := Bd.bytes
  have hml : c.maxLocals = 5 := hml0
  have hown : s.vm.findClass "com/example/modalis/modalis/dicom/data/DataSetReaderToLittleEndianPinLaw" = some m.cls := findClass_of_methodNamed Bd.named
  have hnm := (name_of_methodNamed Bd.named Bd.method).1
  have X0 : Stand p l e ({ frames := 0, cells := 0, slots := 0, locals := 0 } : Room) s m #[(.long q1), (.long q3), (.int p5)] below meth c s₁ [] 0 0 := Stand.of_body Bd
  have e0 : s₁.heap = h0 := by rw [← hh, Bd.state]; rfl
  have N0 := Fr.nil n0
  have pre0 : ∀ tg, Steps p.tables e below (s₁.setTop (mkF m 0 #[.val (.long q1), .second, .val (.long q3), .second, .val (.int p5)] [])) tg → Steps p.tables e below (s₁.setTop (entryFrame m #[(.long q1), (.long q3), (.int p5)] 5)) tg := fun tg kg => castTop (ef_1 m q1 q3 p5) kg
  have k1 : ∀ tg, Steps p.tables e below (s₁.setTop (mkF m 4 #[.val (.long q1), .second, .val (.long q3), .second, .val (.int p5)] [(.int (8 : Int32)), (.int p5)])) tg → Steps p.tables e below (s₁.setTop (entryFrame m #[(.long q1), (.long q3), (.int p5)] 5)) tg := fun tg kg => pre0 tg (by
      show Steps p.tables e below (s₁.setTop (mkF m 0 #[.val (.long q1), .second, .val (.long q3), .second, .val (.int p5)] [])) _
      refine XS.iload X0.here hx rfl (hb hby d1_0) rfl ?_
      show Steps p.tables e below (s₁.setTop (mkF m 2 #[.val (.long q1), .second, .val (.long q3), .second, .val (.int p5)] [(.int p5)])) _
      refine XS.bipush X0.here hx rfl (hb hby d1_2) ?_
      exact kg)
  by_cases hc2 : p5 < (8 : Int32)
  · have k3 : ∀ tg, Steps p.tables e below (s₁.setTop (mkF m 7 #[.val (.long q1), .second, .val (.long q3), .second, .val (.int p5)] [])) tg → Steps p.tables e below (s₁.setTop (entryFrame m #[(.long q1), (.long q3), (.int p5)] 5)) tg := fun tg kg => k1 tg (by
        show Steps p.tables e below (s₁.setTop (mkF m 4 #[.val (.long q1), .second, .val (.long q3), .second, .val (.int p5)] [(.int (8 : Int32)), (.int p5)])) _
        refine XS.icmpNo X0.here hx rfl (hb hby d1_4) rfl (tlt hc2).2.1 ?_
        exact kg)
    have k4 : ∀ tg, Steps p.tables e below (s₁.setTop (mkF m 31 #[.val (.long q1), .second, .val (.long q3), .second, .val (.int p5)] [(.int ((q1.toUInt64 >>> (((8 : Int32) * p5) &&& 0x3f).toInt64.toUInt64).toInt64).toInt32.toInt8.toInt32)])) tg → Steps p.tables e below (s₁.setTop (entryFrame m #[(.long q1), (.long q3), (.int p5)] 5)) tg := fun tg kg => k3 tg (by
        show Steps p.tables e below (s₁.setTop (mkF m 7 #[.val (.long q1), .second, .val (.long q3), .second, .val (.int p5)] [])) _
        refine XS.lloadN X0.here hx rfl (hb hby d1_7) rfl ?_
        show Steps p.tables e below (s₁.setTop (mkF m 8 #[.val (.long q1), .second, .val (.long q3), .second, .val (.int p5)] [(.long q1)])) _
        refine XS.bipush X0.here hx rfl (hb hby d1_8) ?_
        show Steps p.tables e below (s₁.setTop (mkF m 10 #[.val (.long q1), .second, .val (.long q3), .second, .val (.int p5)] [(.int (8 : Int32)), (.long q1)])) _
        refine XS.iload X0.here hx rfl (hb hby d1_10) rfl ?_
        show Steps p.tables e below (s₁.setTop (mkF m 12 #[.val (.long q1), .second, .val (.long q3), .second, .val (.int p5)] [(.int p5), (.int (8 : Int32)), (.long q1)])) _
        refine XS.imul X0.here hx rfl (hb hby d1_12) rfl ?_
        show Steps p.tables e below (s₁.setTop (mkF m 13 #[.val (.long q1), .second, .val (.long q3), .second, .val (.int p5)] [(.int ((8 : Int32) * p5)), (.long q1)])) _
        refine XS.lushr X0.here hx rfl (hb hby d1_13) rfl ?_
        show Steps p.tables e below (s₁.setTop (mkF m 14 #[.val (.long q1), .second, .val (.long q3), .second, .val (.int p5)] [(.long ((q1.toUInt64 >>> (((8 : Int32) * p5) &&& 0x3f).toInt64.toUInt64).toInt64))])) _
        refine XS.l2i X0.here hx rfl (hb hby d1_14) rfl ?_
        show Steps p.tables e below (s₁.setTop (mkF m 15 #[.val (.long q1), .second, .val (.long q3), .second, .val (.int p5)] [(.int ((q1.toUInt64 >>> (((8 : Int32) * p5) &&& 0x3f).toInt64.toUInt64).toInt64).toInt32)])) _
        refine XS.i2b X0.here hx rfl (hb hby d1_15) rfl ?_
        show Steps p.tables e below (s₁.setTop (mkF m 16 #[.val (.long q1), .second, .val (.long q3), .second, .val (.int p5)] [(.int ((q1.toUInt64 >>> (((8 : Int32) * p5) &&& 0x3f).toInt64.toUInt64).toInt64).toInt32.toInt8.toInt32)])) _
        refine XS.goto X0.here hx rfl (pc0 := 16) (pc' := 31) rfl (hb hby d1_16) (by decide) (by decide) ?_
        exact kg)
    obtain ⟨fs, hr, hrun, hended, hW, hsame⟩ := X0.leave (v := some (.int (nar .byte ((q1.toUInt64 >>> (((8 : Int32) * p5) &&& 0x3f).toInt64.toUInt64).toInt64).toInt32.toInt8.toInt32))) (fun h => by rw [Bd.returns] at h; cases h)
    refine ⟨_, _, k4 _ ?_, hrun, hended, _, _, rfl, ?_, ⟨_, rfl⟩, hW, hsame.mono (by decide) (by decide)⟩
    · show Steps p.tables e below (s₁.setTop (mkF m 31 #[.val (.long q1), .second, .val (.long q3), .second, .val (.int p5)] [(.int ((q1.toUInt64 >>> (((8 : Int32) * p5) &&& 0x3f).toInt64.toUInt64).toInt64).toInt32.toInt8.toInt32)])) _
      exact retN X0 hx (t := .byte) Bd.returns (by simp) (hb hby d1_31) hr
    · show Q1 _ _ _ _ _ _ _ s₁.heap _
      rw [e0]
      exact ⟨by rw [own_at, if_pos hc2, own_nn]; rfl, N0, rfl⟩
  · have k5 : ∀ tg, Steps p.tables e below (s₁.setTop (mkF m 19 #[.val (.long q1), .second, .val (.long q3), .second, .val (.int p5)] [])) tg → Steps p.tables e below (s₁.setTop (entryFrame m #[(.long q1), (.long q3), (.int p5)] 5)) tg := fun tg kg => k1 tg (by
        show Steps p.tables e below (s₁.setTop (mkF m 4 #[.val (.long q1), .second, .val (.long q3), .second, .val (.int p5)] [(.int (8 : Int32)), (.int p5)])) _
        refine XS.icmpYes X0.here hx rfl (pc0 := 4) (pc' := 19) rfl (hb hby d1_4) rfl (flt hc2).2.1 (by decide) (by decide) ?_
        exact kg)
    have k6 : ∀ tg, Steps p.tables e below (s₁.setTop (mkF m 31 #[.val (.long q1), .second, .val (.long q3), .second, .val (.int p5)] [(.int ((q3.toUInt64 >>> (((8 : Int32) * (p5 - (8 : Int32))) &&& 0x3f).toInt64.toUInt64).toInt64).toInt32.toInt8.toInt32)])) tg → Steps p.tables e below (s₁.setTop (entryFrame m #[(.long q1), (.long q3), (.int p5)] 5)) tg := fun tg kg => k5 tg (by
        show Steps p.tables e below (s₁.setTop (mkF m 19 #[.val (.long q1), .second, .val (.long q3), .second, .val (.int p5)] [])) _
        refine XS.lloadN X0.here hx rfl (hb hby d1_19) rfl ?_
        show Steps p.tables e below (s₁.setTop (mkF m 20 #[.val (.long q1), .second, .val (.long q3), .second, .val (.int p5)] [(.long q3)])) _
        refine XS.bipush X0.here hx rfl (hb hby d1_20) ?_
        show Steps p.tables e below (s₁.setTop (mkF m 22 #[.val (.long q1), .second, .val (.long q3), .second, .val (.int p5)] [(.int (8 : Int32)), (.long q3)])) _
        refine XS.iload X0.here hx rfl (hb hby d1_22) rfl ?_
        show Steps p.tables e below (s₁.setTop (mkF m 24 #[.val (.long q1), .second, .val (.long q3), .second, .val (.int p5)] [(.int p5), (.int (8 : Int32)), (.long q3)])) _
        refine XS.bipush X0.here hx rfl (hb hby d1_24) ?_
        show Steps p.tables e below (s₁.setTop (mkF m 26 #[.val (.long q1), .second, .val (.long q3), .second, .val (.int p5)] [(.int (8 : Int32)), (.int p5), (.int (8 : Int32)), (.long q3)])) _
        refine XS.isub X0.here hx rfl (hb hby d1_26) rfl ?_
        show Steps p.tables e below (s₁.setTop (mkF m 27 #[.val (.long q1), .second, .val (.long q3), .second, .val (.int p5)] [(.int (p5 - (8 : Int32))), (.int (8 : Int32)), (.long q3)])) _
        refine XS.imul X0.here hx rfl (hb hby d1_27) rfl ?_
        show Steps p.tables e below (s₁.setTop (mkF m 28 #[.val (.long q1), .second, .val (.long q3), .second, .val (.int p5)] [(.int ((8 : Int32) * (p5 - (8 : Int32)))), (.long q3)])) _
        refine XS.lushr X0.here hx rfl (hb hby d1_28) rfl ?_
        show Steps p.tables e below (s₁.setTop (mkF m 29 #[.val (.long q1), .second, .val (.long q3), .second, .val (.int p5)] [(.long ((q3.toUInt64 >>> (((8 : Int32) * (p5 - (8 : Int32))) &&& 0x3f).toInt64.toUInt64).toInt64))])) _
        refine XS.l2i X0.here hx rfl (hb hby d1_29) rfl ?_
        show Steps p.tables e below (s₁.setTop (mkF m 30 #[.val (.long q1), .second, .val (.long q3), .second, .val (.int p5)] [(.int ((q3.toUInt64 >>> (((8 : Int32) * (p5 - (8 : Int32))) &&& 0x3f).toInt64.toUInt64).toInt64).toInt32)])) _
        refine XS.i2b X0.here hx rfl (hb hby d1_30) rfl ?_
        exact kg)
    obtain ⟨fs, hr, hrun, hended, hW, hsame⟩ := X0.leave (v := some (.int (nar .byte ((q3.toUInt64 >>> (((8 : Int32) * (p5 - (8 : Int32))) &&& 0x3f).toInt64.toUInt64).toInt64).toInt32.toInt8.toInt32))) (fun h => by rw [Bd.returns] at h; cases h)
    refine ⟨_, _, k6 _ ?_, hrun, hended, _, _, rfl, ?_, ⟨_, rfl⟩, hW, hsame.mono (by decide) (by decide)⟩
    · show Steps p.tables e below (s₁.setTop (mkF m 31 #[.val (.long q1), .second, .val (.long q3), .second, .val (.int p5)] [(.int ((q3.toUInt64 >>> (((8 : Int32) * (p5 - (8 : Int32))) &&& 0x3f).toInt64.toUInt64).toInt64).toInt32.toInt8.toInt32)])) _
      exact retN X0 hx (t := .byte) Bd.returns (by simp) (hb hby d1_31) hr
    · show Q1 _ _ _ _ _ _ _ s₁.heap _
      rw [e0]
      exact ⟨by rw [own_at, if_neg hc2, own_nn]; rfl, N0, rfl⟩
theorem d2_0 : decode prog_6_method_8_code 0 = .ok (.iconst 0, 1) := by decide +kernel
theorem d2_1 : decode prog_6_method_8_code 1 = .ok (.istore_n 3, 1) := by decide +kernel
theorem d2_2 : decode prog_6_method_8_code 2 = .ok (.iload_n 3, 1) := by decide +kernel
theorem d2_3 : decode prog_6_method_8_code 3 = .ok (.iload_n 1, 1) := by decide +kernel
theorem d2_4 : decode prog_6_method_8_code 4 = .ok (.if_icmp .ge 63, 3) := by decide +kernel
theorem d2_7 : decode prog_6_method_8_code 7 = .ok (.iconst 0, 1) := by decide +kernel
theorem d2_8 : decode prog_6_method_8_code 8 = .ok (.istore 4, 2) := by decide +kernel
theorem d2_10 : decode prog_6_method_8_code 10 = .ok (.iload 4, 2) := by decide +kernel
theorem d2_12 : decode prog_6_method_8_code 12 = .ok (.iload_n 2, 1) := by decide +kernel
theorem d2_13 : decode prog_6_method_8_code 13 = .ok (.iconst 2, 1) := by decide +kernel
theorem d2_14 : decode prog_6_method_8_code 14 = .ok (.idiv, 1) := by decide +kernel
theorem d2_15 : decode prog_6_method_8_code 15 = .ok (.if_icmp .ge 45, 3) := by decide +kernel
theorem d2_18 : decode prog_6_method_8_code 18 = .ok (.aload_n 0, 1) := by decide +kernel
theorem d2_19 : decode prog_6_method_8_code 19 = .ok (.iload_n 3, 1) := by decide +kernel
theorem d2_20 : decode prog_6_method_8_code 20 = .ok (.iload 4, 2) := by decide +kernel
theorem d2_22 : decode prog_6_method_8_code 22 = .ok (.iadd, 1) := by decide +kernel
theorem d2_23 : decode prog_6_method_8_code 23 = .ok (.baload, 1) := by decide +kernel
theorem d2_24 : decode prog_6_method_8_code 24 = .ok (.istore 5, 2) := by decide +kernel
theorem d2_26 : decode prog_6_method_8_code 26 = .ok (.aload_n 0, 1) := by decide +kernel
theorem d2_27 : decode prog_6_method_8_code 27 = .ok (.iload_n 3, 1) := by decide +kernel
theorem d2_28 : decode prog_6_method_8_code 28 = .ok (.iload 4, 2) := by decide +kernel
theorem d2_30 : decode prog_6_method_8_code 30 = .ok (.iadd, 1) := by decide +kernel
theorem d2_31 : decode prog_6_method_8_code 31 = .ok (.aload_n 0, 1) := by decide +kernel
theorem d2_32 : decode prog_6_method_8_code 32 = .ok (.iload_n 3, 1) := by decide +kernel
theorem d2_33 : decode prog_6_method_8_code 33 = .ok (.iload_n 2, 1) := by decide +kernel
theorem d2_34 : decode prog_6_method_8_code 34 = .ok (.iadd, 1) := by decide +kernel
theorem d2_35 : decode prog_6_method_8_code 35 = .ok (.iconst 1, 1) := by decide +kernel
theorem d2_36 : decode prog_6_method_8_code 36 = .ok (.isub, 1) := by decide +kernel
theorem d2_37 : decode prog_6_method_8_code 37 = .ok (.iload 4, 2) := by decide +kernel
theorem d2_39 : decode prog_6_method_8_code 39 = .ok (.isub, 1) := by decide +kernel
theorem d2_40 : decode prog_6_method_8_code 40 = .ok (.baload, 1) := by decide +kernel
theorem d2_41 : decode prog_6_method_8_code 41 = .ok (.bastore, 1) := by decide +kernel
theorem d2_42 : decode prog_6_method_8_code 42 = .ok (.aload_n 0, 1) := by decide +kernel
theorem d2_43 : decode prog_6_method_8_code 43 = .ok (.iload_n 3, 1) := by decide +kernel
theorem d2_44 : decode prog_6_method_8_code 44 = .ok (.iload_n 2, 1) := by decide +kernel
theorem d2_45 : decode prog_6_method_8_code 45 = .ok (.iadd, 1) := by decide +kernel
theorem d2_46 : decode prog_6_method_8_code 46 = .ok (.iconst 1, 1) := by decide +kernel
theorem d2_47 : decode prog_6_method_8_code 47 = .ok (.isub, 1) := by decide +kernel
theorem d2_48 : decode prog_6_method_8_code 48 = .ok (.iload 4, 2) := by decide +kernel
theorem d2_50 : decode prog_6_method_8_code 50 = .ok (.isub, 1) := by decide +kernel
theorem d2_51 : decode prog_6_method_8_code 51 = .ok (.iload 5, 2) := by decide +kernel
theorem d2_53 : decode prog_6_method_8_code 53 = .ok (.bastore, 1) := by decide +kernel
theorem d2_54 : decode prog_6_method_8_code 54 = .ok (.iinc 4 1, 3) := by decide +kernel
theorem d2_57 : decode prog_6_method_8_code 57 = .ok (.goto (-47), 3) := by decide +kernel
theorem d2_60 : decode prog_6_method_8_code 60 = .ok (.iload_n 3, 1) := by decide +kernel
theorem d2_61 : decode prog_6_method_8_code 61 = .ok (.iload_n 2, 1) := by decide +kernel
theorem d2_62 : decode prog_6_method_8_code 62 = .ok (.iadd, 1) := by decide +kernel
theorem d2_63 : decode prog_6_method_8_code 63 = .ok (.istore_n 3, 1) := by decide +kernel
theorem d2_64 : decode prog_6_method_8_code 64 = .ok (.goto (-62), 3) := by decide +kernel
theorem d2_67 : decode prog_6_method_8_code 67 = .ok (.return_, 1) := by decide +kernel
theorem pn_2 : plainName "com/example/modalis/modalis/dicom/data/DataSetReader" = true := by first | (simp [plainName, overriddenIn]; done) | decide +kernel
set_option maxRecDepth 65536 in
set_option maxHeartbeats 40000000 in
theorem loopI {p : Program} {l : Launch} {e : Env} {R : Room} {s : State} {m : MethodId} {args : Array Value} {below : List Frame} {meth : Method} {c : Code} {cells slots : Nat} {Z : State} {a0 : Array Value} (hx : p.tables.exec = Jvm.exec) (hZ : Z.Warmed39 s.vm) (hw : ∀ d ∈ tables_1, d.before a0 Z = true) (hby : c.code = prog_6_method_8_code) (hml : c.maxLocals = 6) (hown : s.vm.findClass "com/example/modalis/modalis/dicom/data/DataSetReader" = some m.cls) (v : Addr) (xl xw xi : Int32) (i w n0 : Nat) (hxw : xw.toInt = w) (hxi : xi.toInt = i) (hiw : i + w ≤ 16) (hw1 : 1 ≤ w) (ge : n0 ≤ v) :
    ∀ (r k : Nat) (xk : Int32) (s5 : Slot) (f : Nat → Int32) (T0 : State) (h : Heap) (locs : List Loc), k + r = w / 2 → xk.toInt = k → One s5 → (∀ j, nar .byte (f j) = f j) → Stand p l e R s m args below meth c T0 locs cells slots → T0.heap = h → Fr n0 locs → Av Z h v .byte 16 (fun j => .int (f j)) →
      ∃ (xk' : Int32) (s5' : Slot) (T' : State) (h' : Heap) (locs' : List Loc) (f' : Nat → Int32), One s5' ∧ Stand p l e R s m args below meth c T' locs' cells slots ∧ T'.heap = h' ∧ Fr n0 locs' ∧ Keep h h' [v] ∧ (∀ j, f' j = own_rv f i w k j) ∧ (∀ j, nar .byte (f' j) = f' j) ∧ Av Z h' v .byte 16 (fun j => .int (f' j)) ∧ ∀ t, Steps p.tables e below (T'.setTop (mkF m 60 #[.val (.ref v), .val (.int xl), .val (.int xw), .val (.int xi), .val (.int xk'), s5'] [])) t → Steps p.tables e below (T0.setTop (mkF m 10 #[.val (.ref v), .val (.int xl), .val (.int xw), .val (.int xi), .val (.int xk), s5] [])) t := by
  intro r
  induction r with
  | zero =>
    intro k xk s5 f T0 h locs hk hxk o5 hn X0 e0 N0 V
    have kid : ∀ tg, Steps p.tables e below (T0.setTop (mkF m 10 #[.val (.ref v), .val (.int xl), .val (.int xw), .val (.int xi), .val (.int xk), s5] [])) tg → Steps p.tables e below (T0.setTop (mkF m 10 #[.val (.ref v), .val (.int xl), .val (.int xw), .val (.int xi), .val (.int xk), s5] [])) tg := fun _ kg => kg
    have hd2 := own_divN hxw (y := (2 : Int32)) (b := 2) (by decide) (by decide)
    have hc : ¬ xk < (xw / (2 : Int32)) := fun q => by rw [own_lt hxk hd2] at q; omega
    have k7 : ∀ tg, Steps p.tables e below (T0.setTop (mkF m 60 #[.val (.ref v), .val (.int xl), .val (.int xw), .val (.int xi), .val (.int xk), s5] [])) tg → Steps p.tables e below (T0.setTop (mkF m 10 #[.val (.ref v), .val (.int xl), .val (.int xw), .val (.int xi), .val (.int xk), s5] [])) tg := fun tg kg => kid tg (by
        show Steps p.tables e below (T0.setTop (mkF m 10 #[.val (.ref v), .val (.int xl), .val (.int xw), .val (.int xi), .val (.int xk), s5] [])) _
        refine XS.iload X0.here hx rfl (hb hby d2_10) rfl ?_
        show Steps p.tables e below (T0.setTop (mkF m 12 #[.val (.ref v), .val (.int xl), .val (.int xw), .val (.int xi), .val (.int xk), s5] [(.int xk)])) _
        refine XS.iloadN X0.here hx rfl (hb hby d2_12) rfl ?_
        show Steps p.tables e below (T0.setTop (mkF m 13 #[.val (.ref v), .val (.int xl), .val (.int xw), .val (.int xi), .val (.int xk), s5] [(.int xw), (.int xk)])) _
        refine XS.iconst X0.here hx rfl (hb hby d2_13) ?_
        show Steps p.tables e below (T0.setTop (mkF m 14 #[.val (.ref v), .val (.int xl), .val (.int xw), .val (.int xi), .val (.int xk), s5] [(.int (2 : Int32)), (.int xw), (.int xk)])) _
        refine XS.idiv X0.here hx rfl (hb hby d2_14) rfl (by decide) ?_
        show Steps p.tables e below (T0.setTop (mkF m 15 #[.val (.ref v), .val (.int xl), .val (.int xw), .val (.int xi), .val (.int xk), s5] [(.int (xw / (2 : Int32))), (.int xk)])) _
        refine XS.icmpYes X0.here hx rfl (pc0 := 15) (pc' := 60) rfl (hb hby d2_15) rfl (flt hc).2.1 (by decide) (by decide) ?_
        exact kg)
    exact ⟨xk, s5, T0, h, locs, f, o5, X0, e0, N0, Keep.refl h [v], fun j => (own_rv0 (by omega) j).symm, hn, V, k7⟩
  | succ r ih =>
    intro k xk s5 f T0 h locs hk hxk o5 hn X0 e0 N0 V
    have kid : ∀ tg, Steps p.tables e below (T0.setTop (mkF m 10 #[.val (.ref v), .val (.int xl), .val (.int xw), .val (.int xi), .val (.int xk), s5] [])) tg → Steps p.tables e below (T0.setTop (mkF m 10 #[.val (.ref v), .val (.int xl), .val (.int xw), .val (.int xi), .val (.int xk), s5] [])) tg := fun _ kg => kg
    have hd2 := own_divN hxw (y := (2 : Int32)) (b := 2) (by decide) (by decide)
    have hc : xk < (xw / (2 : Int32)) := (own_lt hxk hd2).mpr (by omega)
    have hp := own_addN hxi hxk (by omega)
    have hq := own_subN (own_subN (own_addN hxi hxw (by omega)) (y := (1 : Int32)) (b := 1) (by decide) (by omega)) hxk (by omega)
    obtain ⟨cl, Ar, S, G⟩ := V
    have k8 : ∀ tg, Steps p.tables e below (T0.setTop (mkF m 41 #[.val (.ref v), .val (.int xl), .val (.int xw), .val (.int xi), .val (.int xk), .val (.int (f (i + k)))] [(.int (f (i + w - 1 - k))), (.int (xi + xk)), (.ref v)])) tg → Steps p.tables e below (T0.setTop (mkF m 10 #[.val (.ref v), .val (.int xl), .val (.int xw), .val (.int xi), .val (.int xk), s5] [])) tg := fun tg kg => kid tg (by
        show Steps p.tables e below (T0.setTop (mkF m 10 #[.val (.ref v), .val (.int xl), .val (.int xw), .val (.int xi), .val (.int xk), s5] [])) _
        refine XS.iload X0.here hx rfl (hb hby d2_10) rfl ?_
        show Steps p.tables e below (T0.setTop (mkF m 12 #[.val (.ref v), .val (.int xl), .val (.int xw), .val (.int xi), .val (.int xk), s5] [(.int xk)])) _
        refine XS.iloadN X0.here hx rfl (hb hby d2_12) rfl ?_
        show Steps p.tables e below (T0.setTop (mkF m 13 #[.val (.ref v), .val (.int xl), .val (.int xw), .val (.int xi), .val (.int xk), s5] [(.int xw), (.int xk)])) _
        refine XS.iconst X0.here hx rfl (hb hby d2_13) ?_
        show Steps p.tables e below (T0.setTop (mkF m 14 #[.val (.ref v), .val (.int xl), .val (.int xw), .val (.int xi), .val (.int xk), s5] [(.int (2 : Int32)), (.int xw), (.int xk)])) _
        refine XS.idiv X0.here hx rfl (hb hby d2_14) rfl (by decide) ?_
        show Steps p.tables e below (T0.setTop (mkF m 15 #[.val (.ref v), .val (.int xl), .val (.int xw), .val (.int xi), .val (.int xk), s5] [(.int (xw / (2 : Int32))), (.int xk)])) _
        refine XS.icmpNo X0.here hx rfl (hb hby d2_15) rfl (tlt hc).2.1 ?_
        show Steps p.tables e below (T0.setTop (mkF m 18 #[.val (.ref v), .val (.int xl), .val (.int xw), .val (.int xi), .val (.int xk), s5] [])) _
        refine XS.aloadN X0.here hx rfl (hb hby d2_18) rfl rfl ?_
        show Steps p.tables e below (T0.setTop (mkF m 19 #[.val (.ref v), .val (.int xl), .val (.int xw), .val (.int xi), .val (.int xk), s5] [(.ref v)])) _
        refine XS.iloadN X0.here hx rfl (hb hby d2_19) rfl ?_
        show Steps p.tables e below (T0.setTop (mkF m 20 #[.val (.ref v), .val (.int xl), .val (.int xw), .val (.int xi), .val (.int xk), s5] [(.int xi), (.ref v)])) _
        refine XS.iload X0.here hx rfl (hb hby d2_20) rfl ?_
        show Steps p.tables e below (T0.setTop (mkF m 22 #[.val (.ref v), .val (.int xl), .val (.int xw), .val (.int xi), .val (.int xk), s5] [(.int xk), (.int xi), (.ref v)])) _
        refine XS.iadd X0.here hx rfl (hb hby d2_22) rfl ?_
        show Steps p.tables e below (T0.setTop (mkF m 23 #[.val (.ref v), .val (.int xl), .val (.int xw), .val (.int xi), .val (.int xk), s5] [(.int (xi + xk)), (.ref v)])) _
        refine X0.baloadBytes hx (j := (xi + xk)) (v := (.int (f (i + k)))) (by rw [e0]; exact Ar.1) (State.isArrayOf_alike hZ.alike Ar.2.1) Ar.2.2 (own_hin S hp (by omega)) (own_hat G hp (by omega)) (g := (mkF m 23 #[.val (.ref v), .val (.int xl), .val (.int xw), .val (.int xi), .val (.int xk), s5] [(.int (xi + xk)), (.ref v)])) rfl rfl (hb hby d2_23) _ ?_
        show Steps p.tables e below (T0.setTop (mkF m 24 #[.val (.ref v), .val (.int xl), .val (.int xw), .val (.int xi), .val (.int xk), s5] [(.int (f (i + k)))])) _
        refine XS.istore X0.here hx rfl (hb hby d2_24) rfl (l' := #[.val (.ref v), .val (.int xl), .val (.int xw), .val (.int xi), .val (.int xk), .val (.int (f (i + k)))]) (own_st5 o5) ?_
        show Steps p.tables e below (T0.setTop (mkF m 26 #[.val (.ref v), .val (.int xl), .val (.int xw), .val (.int xi), .val (.int xk), .val (.int (f (i + k)))] [])) _
        refine XS.aloadN X0.here hx rfl (hb hby d2_26) rfl rfl ?_
        show Steps p.tables e below (T0.setTop (mkF m 27 #[.val (.ref v), .val (.int xl), .val (.int xw), .val (.int xi), .val (.int xk), .val (.int (f (i + k)))] [(.ref v)])) _
        refine XS.iloadN X0.here hx rfl (hb hby d2_27) rfl ?_
        show Steps p.tables e below (T0.setTop (mkF m 28 #[.val (.ref v), .val (.int xl), .val (.int xw), .val (.int xi), .val (.int xk), .val (.int (f (i + k)))] [(.int xi), (.ref v)])) _
        refine XS.iload X0.here hx rfl (hb hby d2_28) rfl ?_
        show Steps p.tables e below (T0.setTop (mkF m 30 #[.val (.ref v), .val (.int xl), .val (.int xw), .val (.int xi), .val (.int xk), .val (.int (f (i + k)))] [(.int xk), (.int xi), (.ref v)])) _
        refine XS.iadd X0.here hx rfl (hb hby d2_30) rfl ?_
        show Steps p.tables e below (T0.setTop (mkF m 31 #[.val (.ref v), .val (.int xl), .val (.int xw), .val (.int xi), .val (.int xk), .val (.int (f (i + k)))] [(.int (xi + xk)), (.ref v)])) _
        refine XS.aloadN X0.here hx rfl (hb hby d2_31) rfl rfl ?_
        show Steps p.tables e below (T0.setTop (mkF m 32 #[.val (.ref v), .val (.int xl), .val (.int xw), .val (.int xi), .val (.int xk), .val (.int (f (i + k)))] [(.ref v), (.int (xi + xk)), (.ref v)])) _
        refine XS.iloadN X0.here hx rfl (hb hby d2_32) rfl ?_
        show Steps p.tables e below (T0.setTop (mkF m 33 #[.val (.ref v), .val (.int xl), .val (.int xw), .val (.int xi), .val (.int xk), .val (.int (f (i + k)))] [(.int xi), (.ref v), (.int (xi + xk)), (.ref v)])) _
        refine XS.iloadN X0.here hx rfl (hb hby d2_33) rfl ?_
        show Steps p.tables e below (T0.setTop (mkF m 34 #[.val (.ref v), .val (.int xl), .val (.int xw), .val (.int xi), .val (.int xk), .val (.int (f (i + k)))] [(.int xw), (.int xi), (.ref v), (.int (xi + xk)), (.ref v)])) _
        refine XS.iadd X0.here hx rfl (hb hby d2_34) rfl ?_
        show Steps p.tables e below (T0.setTop (mkF m 35 #[.val (.ref v), .val (.int xl), .val (.int xw), .val (.int xi), .val (.int xk), .val (.int (f (i + k)))] [(.int (xi + xw)), (.ref v), (.int (xi + xk)), (.ref v)])) _
        refine XS.iconst X0.here hx rfl (hb hby d2_35) ?_
        show Steps p.tables e below (T0.setTop (mkF m 36 #[.val (.ref v), .val (.int xl), .val (.int xw), .val (.int xi), .val (.int xk), .val (.int (f (i + k)))] [(.int (1 : Int32)), (.int (xi + xw)), (.ref v), (.int (xi + xk)), (.ref v)])) _
        refine XS.isub X0.here hx rfl (hb hby d2_36) rfl ?_
        show Steps p.tables e below (T0.setTop (mkF m 37 #[.val (.ref v), .val (.int xl), .val (.int xw), .val (.int xi), .val (.int xk), .val (.int (f (i + k)))] [(.int ((xi + xw) - (1 : Int32))), (.ref v), (.int (xi + xk)), (.ref v)])) _
        refine XS.iload X0.here hx rfl (hb hby d2_37) rfl ?_
        show Steps p.tables e below (T0.setTop (mkF m 39 #[.val (.ref v), .val (.int xl), .val (.int xw), .val (.int xi), .val (.int xk), .val (.int (f (i + k)))] [(.int xk), (.int ((xi + xw) - (1 : Int32))), (.ref v), (.int (xi + xk)), (.ref v)])) _
        refine XS.isub X0.here hx rfl (hb hby d2_39) rfl ?_
        show Steps p.tables e below (T0.setTop (mkF m 40 #[.val (.ref v), .val (.int xl), .val (.int xw), .val (.int xi), .val (.int xk), .val (.int (f (i + k)))] [(.int (((xi + xw) - (1 : Int32)) - xk)), (.ref v), (.int (xi + xk)), (.ref v)])) _
        refine X0.baloadBytes hx (j := (((xi + xw) - (1 : Int32)) - xk)) (v := (.int (f (i + w - 1 - k)))) (by rw [e0]; exact Ar.1) (State.isArrayOf_alike hZ.alike Ar.2.1) Ar.2.2 (own_hin S hq (by omega)) (own_hat G hq (by omega)) (g := (mkF m 40 #[.val (.ref v), .val (.int xl), .val (.int xw), .val (.int xi), .val (.int xk), .val (.int (f (i + k)))] [(.int (((xi + xw) - (1 : Int32)) - xk)), (.ref v), (.int (xi + xk)), (.ref v)])) rfl rfl (hb hby d2_40) _ ?_
        exact kg)
    obtain ⟨T9, h9, X9, e9, W9, st9⟩ := stB X0 hx hZ e0 Ar (j := (xi + xk)) (own_hin S hp (by omega)) (g := (mkF m 41 #[.val (.ref v), .val (.int xl), .val (.int xw), .val (.int xi), .val (.int xk), .val (.int (f (i + k)))] [(.int (f (i + w - 1 - k))), (.int (xi + xk)), (.ref v)])) rfl rfl (hb hby d2_41)
    have N9 := Fr.snoc X9 N0 ge
    have k10 : ∀ tg, Steps p.tables e below (T9.setTop (mkF m 42 #[.val (.ref v), .val (.int xl), .val (.int xw), .val (.int xi), .val (.int xk), .val (.int (f (i + k)))] [])) tg → Steps p.tables e below (T0.setTop (mkF m 10 #[.val (.ref v), .val (.int xl), .val (.int xw), .val (.int xi), .val (.int xk), s5] [])) tg := fun tg kg => k8 tg (st9 tg kg)
    have V1 := (Av.set Ar S G hp W9).congr (g' := fun j => .int (if j = i + k then f (i + w - 1 - k) else f j)) (fun j _ => by rw [hn]; (try dsimp only); split <;> rfl)
    obtain ⟨cl1, Ar1, S1, G1⟩ := V1
    have k11 : ∀ tg, Steps p.tables e below (T9.setTop (mkF m 53 #[.val (.ref v), .val (.int xl), .val (.int xw), .val (.int xi), .val (.int xk), .val (.int (f (i + k)))] [(.int (f (i + k))), (.int (((xi + xw) - (1 : Int32)) - xk)), (.ref v)])) tg → Steps p.tables e below (T0.setTop (mkF m 10 #[.val (.ref v), .val (.int xl), .val (.int xw), .val (.int xi), .val (.int xk), s5] [])) tg := fun tg kg => k10 tg (by
        show Steps p.tables e below (T9.setTop (mkF m 42 #[.val (.ref v), .val (.int xl), .val (.int xw), .val (.int xi), .val (.int xk), .val (.int (f (i + k)))] [])) _
        refine XS.aloadN X9.here hx rfl (hb hby d2_42) rfl rfl ?_
        show Steps p.tables e below (T9.setTop (mkF m 43 #[.val (.ref v), .val (.int xl), .val (.int xw), .val (.int xi), .val (.int xk), .val (.int (f (i + k)))] [(.ref v)])) _
        refine XS.iloadN X9.here hx rfl (hb hby d2_43) rfl ?_
        show Steps p.tables e below (T9.setTop (mkF m 44 #[.val (.ref v), .val (.int xl), .val (.int xw), .val (.int xi), .val (.int xk), .val (.int (f (i + k)))] [(.int xi), (.ref v)])) _
        refine XS.iloadN X9.here hx rfl (hb hby d2_44) rfl ?_
        show Steps p.tables e below (T9.setTop (mkF m 45 #[.val (.ref v), .val (.int xl), .val (.int xw), .val (.int xi), .val (.int xk), .val (.int (f (i + k)))] [(.int xw), (.int xi), (.ref v)])) _
        refine XS.iadd X9.here hx rfl (hb hby d2_45) rfl ?_
        show Steps p.tables e below (T9.setTop (mkF m 46 #[.val (.ref v), .val (.int xl), .val (.int xw), .val (.int xi), .val (.int xk), .val (.int (f (i + k)))] [(.int (xi + xw)), (.ref v)])) _
        refine XS.iconst X9.here hx rfl (hb hby d2_46) ?_
        show Steps p.tables e below (T9.setTop (mkF m 47 #[.val (.ref v), .val (.int xl), .val (.int xw), .val (.int xi), .val (.int xk), .val (.int (f (i + k)))] [(.int (1 : Int32)), (.int (xi + xw)), (.ref v)])) _
        refine XS.isub X9.here hx rfl (hb hby d2_47) rfl ?_
        show Steps p.tables e below (T9.setTop (mkF m 48 #[.val (.ref v), .val (.int xl), .val (.int xw), .val (.int xi), .val (.int xk), .val (.int (f (i + k)))] [(.int ((xi + xw) - (1 : Int32))), (.ref v)])) _
        refine XS.iload X9.here hx rfl (hb hby d2_48) rfl ?_
        show Steps p.tables e below (T9.setTop (mkF m 50 #[.val (.ref v), .val (.int xl), .val (.int xw), .val (.int xi), .val (.int xk), .val (.int (f (i + k)))] [(.int xk), (.int ((xi + xw) - (1 : Int32))), (.ref v)])) _
        refine XS.isub X9.here hx rfl (hb hby d2_50) rfl ?_
        show Steps p.tables e below (T9.setTop (mkF m 51 #[.val (.ref v), .val (.int xl), .val (.int xw), .val (.int xi), .val (.int xk), .val (.int (f (i + k)))] [(.int (((xi + xw) - (1 : Int32)) - xk)), (.ref v)])) _
        refine XS.iload X9.here hx rfl (hb hby d2_51) rfl ?_
        exact kg)
    obtain ⟨T12, h12, X12, e12, W12, st12⟩ := stB X9 hx hZ e9 Ar1 (j := (((xi + xw) - (1 : Int32)) - xk)) (own_hin S1 hq (by omega)) (g := (mkF m 53 #[.val (.ref v), .val (.int xl), .val (.int xw), .val (.int xi), .val (.int xk), .val (.int (f (i + k)))] [(.int (f (i + k))), (.int (((xi + xw) - (1 : Int32)) - xk)), (.ref v)])) rfl rfl (hb hby d2_53)
    have N12 := Fr.snoc X12 N9 ge
    have k13 : ∀ tg, Steps p.tables e below (T12.setTop (mkF m 54 #[.val (.ref v), .val (.int xl), .val (.int xw), .val (.int xi), .val (.int xk), .val (.int (f (i + k)))] [])) tg → Steps p.tables e below (T0.setTop (mkF m 10 #[.val (.ref v), .val (.int xl), .val (.int xw), .val (.int xi), .val (.int xk), s5] [])) tg := fun tg kg => k11 tg (st12 tg kg)
    have V2 := (Av.set Ar1 S1 G1 hq W12).congr (g' := fun j => .int (own_sw f (i + k) (i + w - 1 - k) j)) (fun j _ => by rw [hn]; unfold own_sw; (try dsimp only); split <;> rfl)
    have hn2 : ∀ j, nar .byte (own_sw f (i + k) (i + w - 1 - k) j) = own_sw f (i + k) (i + w - 1 - k) j := fun j => by
      unfold own_sw; split
      · exact hn _
      · split <;> exact hn _
    have k14 : ∀ tg, Steps p.tables e below (T12.setTop (mkF m 10 #[.val (.ref v), .val (.int xl), .val (.int xw), .val (.int xi), .val (.int (xk + (1 : Int32))), .val (.int (f (i + k)))] [])) tg → Steps p.tables e below (T0.setTop (mkF m 10 #[.val (.ref v), .val (.int xl), .val (.int xw), .val (.int xi), .val (.int xk), s5] [])) tg := fun tg kg => k13 tg (by
        show Steps p.tables e below (T12.setTop (mkF m 54 #[.val (.ref v), .val (.int xl), .val (.int xw), .val (.int xi), .val (.int xk), .val (.int (f (i + k)))] [])) _
        refine XS.iinc X12.here hx rfl (hb hby d2_54) rfl (l' := #[.val (.ref v), .val (.int xl), .val (.int xw), .val (.int xi), .val (.int (xk + (1 : Int32))), .val (.int (f (i + k)))]) rfl ?_
        show Steps p.tables e below (T12.setTop (mkF m 57 #[.val (.ref v), .val (.int xl), .val (.int xw), .val (.int xi), .val (.int (xk + (1 : Int32))), .val (.int (f (i + k)))] [])) _
        refine XS.goto X12.here hx rfl (pc0 := 57) (pc' := 10) rfl (hb hby d2_57) (by decide) (by decide) ?_
        exact kg)
    obtain ⟨xk', s5', T', h', locs', f', o5', X', e', N', K', hf', hn', V', kk⟩ := ih (k + 1) _ _ _ _ _ _ (by omega) (own_inc hxk (by omega)) (One.val (w := .int (f (i + k))) rfl) hn2 X12 e12 N12 V2
    exact ⟨xk', s5', T', h', locs', f', o5', X', e', N', ((Keep.of_wr W9).wr W12 (Or.inl (own_in0 _ _))).trans K' (fun x hx => Or.inl hx), fun j => (hf' j).trans (own_rv1 (by omega) j), hn', V', fun t k => k14 t (kk t k)⟩
set_option maxRecDepth 65536 in
set_option maxHeartbeats 40000000 in
theorem loopO {p : Program} {l : Launch} {e : Env} {R : Room} {s : State} {m : MethodId} {args : Array Value} {below : List Frame} {meth : Method} {c : Code} {cells slots : Nat} {Z : State} {a0 : Array Value} (hx : p.tables.exec = Jvm.exec) (hZ : Z.Warmed39 s.vm) (hw : ∀ d ∈ tables_1, d.before a0 Z = true) (hby : c.code = prog_6_method_8_code) (hml : c.maxLocals = 6) (hown : s.vm.findClass "com/example/modalis/modalis/dicom/data/DataSetReader" = some m.cls) (v : Addr) (xl xw : Int32) (w c0 n0 : Nat) (hxw : xw.toInt = w) (hxl : xl.toInt = ((w * c0 : Nat) : Int)) (hw4 : w = 1 ∨ w = 2 ∨ w = 4 ∨ w = 8) (hl : w * c0 ≤ 16) (ge : n0 ≤ v) :
    ∀ (r t0 : Nat) (xi : Int32) (s4 s5 : Slot) (f : Nat → Int32) (T0 : State) (h : Heap) (locs : List Loc), t0 + r = c0 → xi.toInt = ((w * t0 : Nat) : Int) → One s4 → One s5 → (∀ j, nar .byte (f j) = f j) → Stand p l e R s m args below meth c T0 locs cells slots → T0.heap = h → Fr n0 locs → Av Z h v .byte 16 (fun j => .int (f j)) →
      ∃ (xi' : Int32) (s4' s5' : Slot) (T' : State) (h' : Heap) (locs' : List Loc) (f' : Nat → Int32), Stand p l e R s m args below meth c T' locs' cells slots ∧ T'.heap = h' ∧ Fr n0 locs' ∧ Keep h h' [v] ∧ (∀ j, f' j = own_all f w (w * t0) (w * c0) j) ∧ Av Z h' v .byte 16 (fun j => .int (f' j)) ∧ ∀ t, Steps p.tables e below (T'.setTop (mkF m 67 #[.val (.ref v), .val (.int xl), .val (.int xw), .val (.int xi'), s4', s5'] [])) t → Steps p.tables e below (T0.setTop (mkF m 2 #[.val (.ref v), .val (.int xl), .val (.int xw), .val (.int xi), s4, s5] [])) t := by
  intro r
  induction r with
  | zero =>
    intro t0 xi s4 s5 f T0 h locs hk hxi o4 o5 hn X0 e0 N0 V
    have kid : ∀ tg, Steps p.tables e below (T0.setTop (mkF m 2 #[.val (.ref v), .val (.int xl), .val (.int xw), .val (.int xi), s4, s5] [])) tg → Steps p.tables e below (T0.setTop (mkF m 2 #[.val (.ref v), .val (.int xl), .val (.int xw), .val (.int xi), s4, s5] [])) tg := fun _ kg => kg
    obtain rfl : t0 = c0 := by omega
    have hc : ¬ xi < xl := fun q => by rw [own_lt hxi hxl] at q; omega
    have k15 : ∀ tg, Steps p.tables e below (T0.setTop (mkF m 67 #[.val (.ref v), .val (.int xl), .val (.int xw), .val (.int xi), s4, s5] [])) tg → Steps p.tables e below (T0.setTop (mkF m 2 #[.val (.ref v), .val (.int xl), .val (.int xw), .val (.int xi), s4, s5] [])) tg := fun tg kg => kid tg (by
        show Steps p.tables e below (T0.setTop (mkF m 2 #[.val (.ref v), .val (.int xl), .val (.int xw), .val (.int xi), s4, s5] [])) _
        refine XS.iloadN X0.here hx rfl (hb hby d2_2) rfl ?_
        show Steps p.tables e below (T0.setTop (mkF m 3 #[.val (.ref v), .val (.int xl), .val (.int xw), .val (.int xi), s4, s5] [(.int xi)])) _
        refine XS.iloadN X0.here hx rfl (hb hby d2_3) rfl ?_
        show Steps p.tables e below (T0.setTop (mkF m 4 #[.val (.ref v), .val (.int xl), .val (.int xw), .val (.int xi), s4, s5] [(.int xl), (.int xi)])) _
        refine XS.icmpYes X0.here hx rfl (pc0 := 4) (pc' := 67) rfl (hb hby d2_4) rfl (flt hc).2.1 (by decide) (by decide) ?_
        exact kg)
    exact ⟨xi, s4, s5, T0, h, locs, f, X0, e0, N0, Keep.refl h [v], fun j => (own_all0 j).symm, V, k15⟩
  | succ r ih =>
    intro t0 xi s4 s5 f T0 h locs hk hxi o4 o5 hn X0 e0 N0 V
    have kid : ∀ tg, Steps p.tables e below (T0.setTop (mkF m 2 #[.val (.ref v), .val (.int xl), .val (.int xw), .val (.int xi), s4, s5] [])) tg → Steps p.tables e below (T0.setTop (mkF m 2 #[.val (.ref v), .val (.int xl), .val (.int xw), .val (.int xi), s4, s5] [])) tg := fun _ kg => kg
    have hm : w * t0 + w ≤ w * c0 := by rw [← Nat.mul_succ]; exact Nat.mul_le_mul (Nat.le_refl _) (by omega)
    have hc : xi < xl := (own_lt hxi hxl).mpr (by omega)
    have k16 : ∀ tg, Steps p.tables e below (T0.setTop (mkF m 10 #[.val (.ref v), .val (.int xl), .val (.int xw), .val (.int xi), .val (.int (0 : Int32)), s5] [])) tg → Steps p.tables e below (T0.setTop (mkF m 2 #[.val (.ref v), .val (.int xl), .val (.int xw), .val (.int xi), s4, s5] [])) tg := fun tg kg => kid tg (by
        show Steps p.tables e below (T0.setTop (mkF m 2 #[.val (.ref v), .val (.int xl), .val (.int xw), .val (.int xi), s4, s5] [])) _
        refine XS.iloadN X0.here hx rfl (hb hby d2_2) rfl ?_
        show Steps p.tables e below (T0.setTop (mkF m 3 #[.val (.ref v), .val (.int xl), .val (.int xw), .val (.int xi), s4, s5] [(.int xi)])) _
        refine XS.iloadN X0.here hx rfl (hb hby d2_3) rfl ?_
        show Steps p.tables e below (T0.setTop (mkF m 4 #[.val (.ref v), .val (.int xl), .val (.int xw), .val (.int xi), s4, s5] [(.int xl), (.int xi)])) _
        refine XS.icmpNo X0.here hx rfl (hb hby d2_4) rfl (tlt hc).2.1 ?_
        show Steps p.tables e below (T0.setTop (mkF m 7 #[.val (.ref v), .val (.int xl), .val (.int xw), .val (.int xi), s4, s5] [])) _
        refine XS.iconst X0.here hx rfl (hb hby d2_7) ?_
        show Steps p.tables e below (T0.setTop (mkF m 8 #[.val (.ref v), .val (.int xl), .val (.int xw), .val (.int xi), s4, s5] [(.int (0 : Int32))])) _
        refine XS.istore X0.here hx rfl (hb hby d2_8) rfl (l' := #[.val (.ref v), .val (.int xl), .val (.int xw), .val (.int xi), .val (.int (0 : Int32)), s5]) (own_st4 o4) ?_
        exact kg)
    obtain ⟨xk17, s517, T17, h17, L17, f17, o517, X17, e17, N17, K17, hf17, hn17, V17, st17⟩ := loopI hx hZ hw hby hml hown v xl xw xi (w * t0) w n0 hxw hxi (by omega) (by omega) ge (w / 2) 0 (0 : Int32) _ f _ _ _ (by omega) (by decide) o5 hn X0 e0 N0 V
    have k18 : ∀ tg, Steps p.tables e below (T17.setTop (mkF m 60 #[.val (.ref v), .val (.int xl), .val (.int xw), .val (.int xi), .val (.int xk17), s517] [])) tg → Steps p.tables e below (T0.setTop (mkF m 2 #[.val (.ref v), .val (.int xl), .val (.int xw), .val (.int xi), s4, s5] [])) tg := fun tg kg => k16 tg (st17 tg kg)
    have k19 : ∀ tg, Steps p.tables e below (T17.setTop (mkF m 2 #[.val (.ref v), .val (.int xl), .val (.int xw), .val (.int (xi + xw)), .val (.int xk17), s517] [])) tg → Steps p.tables e below (T0.setTop (mkF m 2 #[.val (.ref v), .val (.int xl), .val (.int xw), .val (.int xi), s4, s5] [])) tg := fun tg kg => k18 tg (by
        show Steps p.tables e below (T17.setTop (mkF m 60 #[.val (.ref v), .val (.int xl), .val (.int xw), .val (.int xi), .val (.int xk17), s517] [])) _
        refine XS.iloadN X17.here hx rfl (hb hby d2_60) rfl ?_
        show Steps p.tables e below (T17.setTop (mkF m 61 #[.val (.ref v), .val (.int xl), .val (.int xw), .val (.int xi), .val (.int xk17), s517] [(.int xi)])) _
        refine XS.iloadN X17.here hx rfl (hb hby d2_61) rfl ?_
        show Steps p.tables e below (T17.setTop (mkF m 62 #[.val (.ref v), .val (.int xl), .val (.int xw), .val (.int xi), .val (.int xk17), s517] [(.int xw), (.int xi)])) _
        refine XS.iadd X17.here hx rfl (hb hby d2_62) rfl ?_
        show Steps p.tables e below (T17.setTop (mkF m 63 #[.val (.ref v), .val (.int xl), .val (.int xw), .val (.int xi), .val (.int xk17), s517] [(.int (xi + xw))])) _
        refine XS.istoreN X17.here hx rfl (hb hby d2_63) rfl (l' := #[.val (.ref v), .val (.int xl), .val (.int xw), .val (.int (xi + xw)), .val (.int xk17), s517]) rfl ?_
        show Steps p.tables e below (T17.setTop (mkF m 64 #[.val (.ref v), .val (.int xl), .val (.int xw), .val (.int (xi + xw)), .val (.int xk17), s517] [])) _
        refine XS.goto X17.here hx rfl (pc0 := 64) (pc' := 2) rfl (hb hby d2_64) (by decide) (by decide) ?_
        exact kg)
    obtain ⟨xi', s4', s5', T', h', locs', f', X', e', N', K', hf', V', kk⟩ := ih (t0 + 1) _ _ _ _ _ _ _ (by omega) (by rw [Nat.mul_succ]; exact own_addN hxi hxw (by omega)) (One.val (w := .int xk17) rfl) o517 hn17 X17 e17 N17 V17
    exact ⟨xi', s4', s5', T', h', locs', f', X', e', N', K17.trans K' (fun x hx => Or.inl hx), fun j => by rw [hf' j, ← own_all1 hw4 hm j, Nat.mul_succ]; unfold own_all; simp only [hf17], V', fun t k => k19 t (kk t k)⟩
theorem ef_2 (m : MethodId) (x0 : Addr) (x1 : Int32) (x2 : Int32) : entryFrame m #[(.ref x0), (.int x1), (.int x2)] 6 = mkF m 0 #[.val (.ref x0), .val (.int x1), .val (.int x2), .unset, .unset, .unset] [] := by first | (simp [entryFrame, mkF, argsToLocals, Value.category]; done) | rfl
def Q2 (Z : State) (v1 : Addr) (w c0 : Nat) (f : Nat → Int32) (h0 : Heap) (n0 : Nat) (v : Option Value) (h : Heap) (L : List Loc) : Prop := v = none ∧ Fr n0 L ∧ Keep h0 h [v1] ∧ ∃ f' : Nat → Int32, (∀ j, f' j = own_all f w 0 (w * c0) j) ∧ Av Z h v1 .byte 16 (fun j => .int (f' j))
set_option maxRecDepth 65536 in
set_option maxHeartbeats 40000000 in
theorem rm2 (l : Launch) (Z : State) (a0 : Array Value) (hw : ∀ d ∈ tables_1, d.before a0 Z = true) (ws : List Jvm.Cond) (v1 : Addr) (xl : Int32) (xw : Int32) (w c0 : Nat) (f : Nat → Int32) (h0 : Heap) (n0 : Nat) (Z0 : n0 ≤ h0.size) (hxw : xw.toInt = w) (hxl : xl.toInt = ((w * c0 : Nat) : Int)) (hw4 : w = 1 ∨ w = 2 ∨ w = 4 ∨ w = 8) (hl : w * c0 ≤ 16) (ge : n0 ≤ v1) (hn : ∀ j, nar .byte (f j) = f j) (V : Av Z h0 v1 .byte 16 (fun j => .int (f j))) :
    MetFree l (⟨"com/example/modalis/modalis/dicom/data/DataSetReader", "toLittleEndian", "([BII)V"⟩ : MethodName) (head1 (Jvm.Cond.code (⟨"com/example/modalis/modalis/dicom/data/DataSetReader", "toLittleEndian", "([BII)V"⟩ : MethodName) prog_6_method_8_code 6 none :: ws) ({ frames := 0, cells := 0, slots := 0, locals := 0 } : Room)) (fun a U => a = #[(.ref v1), (.int xl), (.int xw)] ∧ Z.Warmed39 U.vm ∧ U.heap = h0) (fun _ _ _ _ _ => True) (fun _ U o U' => ∃ v L, o = .returned v ∧ Q2 Z v1 w c0 f h0 n0 v U'.heap L ∧ FrameEnd U o U' L ({ frames := 0, cells := 0, slots := 0, locals := 0 } : Room).cells ({ frames := 0, cells := 0, slots := 0, locals := 0 } : Room).slots) := by
  refine MetFree.of_bodySF (plainFor_of_name pn_2) hisR ?_
  intro p e s m args below meth c s₁ Bd hml0 hP hK
  obtain ⟨rfl, hZ, hh⟩ := hP
  have hx := Bd.exec
  have hby := Bd.bytes
  have hml : c.maxLocals = 6 := hml0
  have hown : s.vm.findClass "com/example/modalis/modalis/dicom/data/DataSetReader" = some m.cls := findClass_of_methodNamed Bd.named
  have hnm := (name_of_methodNamed Bd.named Bd.method).1
  have X0 : Stand p l e ({ frames := 0, cells := 0, slots := 0, locals := 0 } : Room) s m #[(.ref v1), (.int xl), (.int xw)] below meth c s₁ [] 0 0 := Stand.of_body Bd
  have e0 : s₁.heap = h0 := by rw [← hh, Bd.state]; rfl
  have N0 := Fr.nil n0
  have pre0 : ∀ tg, Steps p.tables e below (s₁.setTop (mkF m 0 #[.val (.ref v1), .val (.int xl), .val (.int xw), .unset, .unset, .unset] [])) tg → Steps p.tables e below (s₁.setTop (entryFrame m #[(.ref v1), (.int xl), (.int xw)] 6)) tg := fun tg kg => castTop (ef_2 m v1 xl xw) kg
  have k20 : ∀ tg, Steps p.tables e below (s₁.setTop (mkF m 2 #[.val (.ref v1), .val (.int xl), .val (.int xw), .val (.int (0 : Int32)), .unset, .unset] [])) tg → Steps p.tables e below (s₁.setTop (entryFrame m #[(.ref v1), (.int xl), (.int xw)] 6)) tg := fun tg kg => pre0 tg (by
      show Steps p.tables e below (s₁.setTop (mkF m 0 #[.val (.ref v1), .val (.int xl), .val (.int xw), .unset, .unset, .unset] [])) _
      refine XS.iconst X0.here hx rfl (hb hby d2_0) ?_
      show Steps p.tables e below (s₁.setTop (mkF m 1 #[.val (.ref v1), .val (.int xl), .val (.int xw), .unset, .unset, .unset] [(.int (0 : Int32))])) _
      refine XS.istoreN X0.here hx rfl (hb hby d2_1) rfl (l' := #[.val (.ref v1), .val (.int xl), .val (.int xw), .val (.int (0 : Int32)), .unset, .unset]) rfl ?_
      exact kg)
  obtain ⟨xi21, s421, s521, T21, h21, L21, f21, X21, e21, N21, K21, hf21, V21, st21⟩ := loopO hx hZ hw hby hml hown v1 xl xw w c0 n0 hxw hxl hw4 hl ge c0 0 (0 : Int32) _ _ f _ _ _ (by omega) (by rw [Nat.mul_zero]; decide) One.u One.u hn X0 e0 N0 V
  have k22 : ∀ tg, Steps p.tables e below (T21.setTop (mkF m 67 #[.val (.ref v1), .val (.int xl), .val (.int xw), .val (.int xi21), s421, s521] [])) tg → Steps p.tables e below (s₁.setTop (entryFrame m #[(.ref v1), (.int xl), (.int xw)] 6)) tg := fun tg kg => k20 tg (st21 tg kg)
  rw [Nat.mul_zero] at hf21
  obtain ⟨fs, hr, hrun, hended, hW, hsame⟩ := X21.leave (v := none) (fun _ => rfl)
  refine ⟨_, _, k22 _ ?_, hrun, hended, _, _, rfl, ?_, ⟨_, rfl⟩, hW, hsame.mono (by decide) (by decide)⟩
  · show Steps p.tables e below (T21.setTop (mkF m 67 #[.val (.ref v1), .val (.int xl), .val (.int xw), .val (.int xi21), s421, s521] [])) _
    exact X21.returnOut hx Bd.returns (hb hby d2_67) hr
  · show Q2 _ _ _ _ _ _ _ _ T21.heap _
    rw [e21]
    exact ⟨rfl, N21, K21, f21, hf21, V21⟩
theorem d3_0 : decode method_4_code 0 = .ok (.iload 5, 2) := by decide +kernel
theorem d3_2 : decode method_4_code 2 = .ok (.iload 6, 2) := by decide +kernel
theorem d3_4 : decode method_4_code 4 = .ok (.if_icmp .ge 25, 3) := by decide +kernel
theorem d3_7 : decode method_4_code 7 = .ok (.iload 5, 2) := by decide +kernel
theorem d3_9 : decode method_4_code 9 = .ok (.iload 7, 2) := by decide +kernel
theorem d3_11 : decode method_4_code 11 = .ok (.idiv, 1) := by decide +kernel
theorem d3_12 : decode method_4_code 12 = .ok (.iload 7, 2) := by decide +kernel
theorem d3_14 : decode method_4_code 14 = .ok (.imul, 1) := by decide +kernel
theorem d3_15 : decode method_4_code 15 = .ok (.iload 7, 2) := by decide +kernel
theorem d3_17 : decode method_4_code 17 = .ok (.iconst 1, 1) := by decide +kernel
theorem d3_18 : decode method_4_code 18 = .ok (.isub, 1) := by decide +kernel
theorem d3_19 : decode method_4_code 19 = .ok (.iload 5, 2) := by decide +kernel
theorem d3_21 : decode method_4_code 21 = .ok (.iload 7, 2) := by decide +kernel
theorem d3_23 : decode method_4_code 23 = .ok (.irem, 1) := by decide +kernel
theorem d3_24 : decode method_4_code 24 = .ok (.isub, 1) := by decide +kernel
theorem d3_25 : decode method_4_code 25 = .ok (.iadd, 1) := by decide +kernel
theorem d3_26 : decode method_4_code 26 = .ok (.goto 5, 3) := by decide +kernel
theorem d3_29 : decode method_4_code 29 = .ok (.iload 5, 2) := by decide +kernel
theorem d3_31 : decode method_4_code 31 = .ok (.istore 8, 2) := by decide +kernel
theorem d3_33 : decode method_4_code 33 = .ok (.aload_n 0, 1) := by decide +kernel
theorem d3_34 : decode method_4_code 34 = .ok (.iload 5, 2) := by decide +kernel
theorem d3_36 : decode method_4_code 36 = .ok (.baload, 1) := by decide +kernel
theorem d3_37 : decode method_4_code 37 = .ok (.lload_n 1, 1) := by decide +kernel
theorem d3_38 : decode method_4_code 38 = .ok (.lload_n 3, 1) := by decide +kernel
theorem d3_39 : decode method_4_code 39 = .ok (.iload 8, 2) := by decide +kernel
theorem d3_41 : decode method_4_code 41 = .ok (.invokestatic 8, 3) := by decide +kernel
theorem d3_44 : decode method_4_code 44 = .ok (.if_icmp .ne 7, 3) := by decide +kernel
theorem d3_47 : decode method_4_code 47 = .ok (.iconst 1, 1) := by decide +kernel
theorem d3_48 : decode method_4_code 48 = .ok (.goto 4, 3) := by decide +kernel
theorem d3_51 : decode method_4_code 51 = .ok (.iconst 0, 1) := by decide +kernel
theorem d3_52 : decode method_4_code 52 = .ok (.ireturn, 1) := by decide +kernel
theorem pn_3 : plainName "com/example/modalis/modalis/dicom/data/DataSetReaderToLittleEndianPinLaw" = true := by first | (simp [plainName, overriddenIn]; done) | decide +kernel
theorem ef_3 (m : MethodId) (x0 : Addr) (x1 : Int64) (x2 : Int64) (x3 : Int32) (x4 : Int32) (x5 : Int32) : entryFrame m #[(.ref x0), (.long x1), (.long x2), (.int x3), (.int x4), (.int x5)] 9 = mkF m 0 #[.val (.ref x0), .val (.long x1), .second, .val (.long x2), .second, .val (.int x3), .val (.int x4), .val (.int x5), .unset] [] := by first | (simp [entryFrame, mkF, argsToLocals, Value.category]; done) | rfl
def Q3 (Z : State)  (h0 : Heap) (n0 : Nat) (v : Option Value) (h : Heap) (L : List Loc) : Prop := v = some (.int 1) ∧ Fr n0 L ∧ h = h0
set_option maxRecDepth 65536 in
set_option maxHeartbeats 40000000 in
theorem rm3 (l : Launch) (Z : State) (a0 : Array Value) (hw : ∀ d ∈ tables_1, d.before a0 Z = true) (ws : List Jvm.Cond) (v1 : Addr) (q2 : Int64) (q4 : Int64) (p6 : Int32) (p7 : Int32) (p8 : Int32) (j len w : Nat) (g : Nat → Int32) (h0 : Heap) (n0 : Nat) (Z0 : n0 ≤ h0.size) (hj : p6.toInt = j) (hl : p7.toInt = len) (hw8 : p8.toInt = w) (hw4 : w = 1 ∨ w = 2 ∨ w = 4 ∨ w = 8) (hj16 : j < 16) (hg : g j = own_at q2 q4 (Int32.ofInt (((if j < len then j / w * w + (w - 1 - j % w) else j) : Nat) : Int))) (V : Av Z h0 v1 .byte 16 (fun j => .int (g j))) :
    MetFree l (⟨"com/example/modalis/modalis/dicom/data/DataSetReaderToLittleEndianPinLaw", "ok", "([BJJIII)Z"⟩ : MethodName) (head1 (Jvm.Cond.code (⟨"com/example/modalis/modalis/dicom/data/DataSetReaderToLittleEndianPinLaw", "ok", "([BJJIII)Z"⟩ : MethodName) method_4_code 9 (some .boolean) :: ws) ({ frames := 1, cells := 0, slots := 0, locals := 17 } : Room)) (fun a U => a = #[(.ref v1), (.long q2), (.long q4), (.int p6), (.int p7), (.int p8)] ∧ Z.Warmed39 U.vm ∧ U.heap = h0) (fun _ _ _ _ _ => True) (fun _ U o U' => ∃ v L, o = .returned v ∧ Q3 Z  h0 n0 v U'.heap L ∧ FrameEnd U o U' L ({ frames := 1, cells := 0, slots := 0, locals := 17 } : Room).cells ({ frames := 1, cells := 0, slots := 0, locals := 17 } : Room).slots) := by
  refine MetFree.of_bodySF (plainFor_of_name pn_3) hisR ?_
  intro p e s m args below meth c s₁ Bd hml0 hP hK
  obtain ⟨rfl, hZ, hh⟩ := hP
  have hx := Bd.exec
  have hby := Bd.bytes
  have hml : c.maxLocals = 9 := hml0
  have hown : s.vm.findClass "com/example/modalis/modalis/dicom/data/DataSetReaderToLittleEndianPinLaw" = some m.cls := findClass_of_methodNamed Bd.named
  have hnm := (name_of_methodNamed Bd.named Bd.method).1
  have X0 : Stand p l e ({ frames := 1, cells := 0, slots := 0, locals := 17 } : Room) s m #[(.ref v1), (.long q2), (.long q4), (.int p6), (.int p7), (.int p8)] below meth c s₁ [] 0 0 := Stand.of_body Bd
  have e0 : s₁.heap = h0 := by rw [← hh, Bd.state]; rfl
  have N0 := Fr.nil n0
  have pre0 : ∀ tg, Steps p.tables e below (s₁.setTop (mkF m 0 #[.val (.ref v1), .val (.long q2), .second, .val (.long q4), .second, .val (.int p6), .val (.int p7), .val (.int p8), .unset] [])) tg → Steps p.tables e below (s₁.setTop (entryFrame m #[(.ref v1), (.long q2), (.long q4), (.int p6), (.int p7), (.int p8)] 9)) tg := fun tg kg => castTop (ef_3 m v1 q2 q4 p6 p7 p8) kg
  obtain ⟨cl, Ar, S, G⟩ := V
  have k23 : ∀ tg, Steps p.tables e below (s₁.setTop (mkF m 4 #[.val (.ref v1), .val (.long q2), .second, .val (.long q4), .second, .val (.int p6), .val (.int p7), .val (.int p8), .unset] [(.int p7), (.int p6)])) tg → Steps p.tables e below (s₁.setTop (entryFrame m #[(.ref v1), (.long q2), (.long q4), (.int p6), (.int p7), (.int p8)] 9)) tg := fun tg kg => pre0 tg (by
      show Steps p.tables e below (s₁.setTop (mkF m 0 #[.val (.ref v1), .val (.long q2), .second, .val (.long q4), .second, .val (.int p6), .val (.int p7), .val (.int p8), .unset] [])) _
      refine XS.iload X0.here hx rfl (hb hby d3_0) rfl ?_
      show Steps p.tables e below (s₁.setTop (mkF m 2 #[.val (.ref v1), .val (.long q2), .second, .val (.long q4), .second, .val (.int p6), .val (.int p7), .val (.int p8), .unset] [(.int p6)])) _
      refine XS.iload X0.here hx rfl (hb hby d3_2) rfl ?_
      exact kg)
  by_cases hc : p6 < p7
  · have hlt : j < len := (own_lt hj hl).mp hc
    have hw1 : 0 < w := by omega
    have hm := Nat.mod_lt j hw1
    have h1 := own_mulN (own_divN hj hw8 hw1) hw8 (Nat.lt_of_le_of_lt (Nat.div_mul_le_self j w) (by omega))
    have h2 := own_subN (own_subN hw8 (y := (1 : Int32)) (b := 1) (by decide) (by omega)) (own_rem hj hw8) (by omega)
    have h3 := own_addN h1 h2 (by have := Nat.div_mul_le_self j w; omega)
    have k24 : ∀ tg, Steps p.tables e below (s₁.setTop (mkF m 7 #[.val (.ref v1), .val (.long q2), .second, .val (.long q4), .second, .val (.int p6), .val (.int p7), .val (.int p8), .unset] [])) tg → Steps p.tables e below (s₁.setTop (entryFrame m #[(.ref v1), (.long q2), (.long q4), (.int p6), (.int p7), (.int p8)] 9)) tg := fun tg kg => k23 tg (by
        show Steps p.tables e below (s₁.setTop (mkF m 4 #[.val (.ref v1), .val (.long q2), .second, .val (.long q4), .second, .val (.int p6), .val (.int p7), .val (.int p8), .unset] [(.int p7), (.int p6)])) _
        refine XS.icmpNo X0.here hx rfl (hb hby d3_4) rfl (tlt hc).2.1 ?_
        exact kg)
    have k25 : ∀ tg, Steps p.tables e below (s₁.setTop (mkF m 31 #[.val (.ref v1), .val (.long q2), .second, .val (.long q4), .second, .val (.int p6), .val (.int p7), .val (.int p8), .unset] [(.int (((p6 / p8) * p8) + ((p8 - (1 : Int32)) - (p6 % p8))))])) tg → Steps p.tables e below (s₁.setTop (entryFrame m #[(.ref v1), (.long q2), (.long q4), (.int p6), (.int p7), (.int p8)] 9)) tg := fun tg kg => k24 tg (by
        show Steps p.tables e below (s₁.setTop (mkF m 7 #[.val (.ref v1), .val (.long q2), .second, .val (.long q4), .second, .val (.int p6), .val (.int p7), .val (.int p8), .unset] [])) _
        refine XS.iload X0.here hx rfl (hb hby d3_7) rfl ?_
        show Steps p.tables e below (s₁.setTop (mkF m 9 #[.val (.ref v1), .val (.long q2), .second, .val (.long q4), .second, .val (.int p6), .val (.int p7), .val (.int p8), .unset] [(.int p6)])) _
        refine XS.iload X0.here hx rfl (hb hby d3_9) rfl ?_
        show Steps p.tables e below (s₁.setTop (mkF m 11 #[.val (.ref v1), .val (.long q2), .second, .val (.long q4), .second, .val (.int p6), .val (.int p7), .val (.int p8), .unset] [(.int p8), (.int p6)])) _
        refine XS.idiv X0.here hx rfl (hb hby d3_11) rfl (own_ne0 hw8 hw1) ?_
        show Steps p.tables e below (s₁.setTop (mkF m 12 #[.val (.ref v1), .val (.long q2), .second, .val (.long q4), .second, .val (.int p6), .val (.int p7), .val (.int p8), .unset] [(.int (p6 / p8))])) _
        refine XS.iload X0.here hx rfl (hb hby d3_12) rfl ?_
        show Steps p.tables e below (s₁.setTop (mkF m 14 #[.val (.ref v1), .val (.long q2), .second, .val (.long q4), .second, .val (.int p6), .val (.int p7), .val (.int p8), .unset] [(.int p8), (.int (p6 / p8))])) _
        refine XS.imul X0.here hx rfl (hb hby d3_14) rfl ?_
        show Steps p.tables e below (s₁.setTop (mkF m 15 #[.val (.ref v1), .val (.long q2), .second, .val (.long q4), .second, .val (.int p6), .val (.int p7), .val (.int p8), .unset] [(.int ((p6 / p8) * p8))])) _
        refine XS.iload X0.here hx rfl (hb hby d3_15) rfl ?_
        show Steps p.tables e below (s₁.setTop (mkF m 17 #[.val (.ref v1), .val (.long q2), .second, .val (.long q4), .second, .val (.int p6), .val (.int p7), .val (.int p8), .unset] [(.int p8), (.int ((p6 / p8) * p8))])) _
        refine XS.iconst X0.here hx rfl (hb hby d3_17) ?_
        show Steps p.tables e below (s₁.setTop (mkF m 18 #[.val (.ref v1), .val (.long q2), .second, .val (.long q4), .second, .val (.int p6), .val (.int p7), .val (.int p8), .unset] [(.int (1 : Int32)), (.int p8), (.int ((p6 / p8) * p8))])) _
        refine XS.isub X0.here hx rfl (hb hby d3_18) rfl ?_
        show Steps p.tables e below (s₁.setTop (mkF m 19 #[.val (.ref v1), .val (.long q2), .second, .val (.long q4), .second, .val (.int p6), .val (.int p7), .val (.int p8), .unset] [(.int (p8 - (1 : Int32))), (.int ((p6 / p8) * p8))])) _
        refine XS.iload X0.here hx rfl (hb hby d3_19) rfl ?_
        show Steps p.tables e below (s₁.setTop (mkF m 21 #[.val (.ref v1), .val (.long q2), .second, .val (.long q4), .second, .val (.int p6), .val (.int p7), .val (.int p8), .unset] [(.int p6), (.int (p8 - (1 : Int32))), (.int ((p6 / p8) * p8))])) _
        refine XS.iload X0.here hx rfl (hb hby d3_21) rfl ?_
        show Steps p.tables e below (s₁.setTop (mkF m 23 #[.val (.ref v1), .val (.long q2), .second, .val (.long q4), .second, .val (.int p6), .val (.int p7), .val (.int p8), .unset] [(.int p8), (.int p6), (.int (p8 - (1 : Int32))), (.int ((p6 / p8) * p8))])) _
        refine iremM X0 hx rfl (hb hby d3_23) rfl (own_ne0 hw8 hw1) ?_
        show Steps p.tables e below (s₁.setTop (mkF m 24 #[.val (.ref v1), .val (.long q2), .second, .val (.long q4), .second, .val (.int p6), .val (.int p7), .val (.int p8), .unset] [(.int (p6 % p8)), (.int (p8 - (1 : Int32))), (.int ((p6 / p8) * p8))])) _
        refine XS.isub X0.here hx rfl (hb hby d3_24) rfl ?_
        show Steps p.tables e below (s₁.setTop (mkF m 25 #[.val (.ref v1), .val (.long q2), .second, .val (.long q4), .second, .val (.int p6), .val (.int p7), .val (.int p8), .unset] [(.int ((p8 - (1 : Int32)) - (p6 % p8))), (.int ((p6 / p8) * p8))])) _
        refine XS.iadd X0.here hx rfl (hb hby d3_25) rfl ?_
        show Steps p.tables e below (s₁.setTop (mkF m 26 #[.val (.ref v1), .val (.long q2), .second, .val (.long q4), .second, .val (.int p6), .val (.int p7), .val (.int p8), .unset] [(.int (((p6 / p8) * p8) + ((p8 - (1 : Int32)) - (p6 % p8))))])) _
        refine XS.goto X0.here hx rfl (pc0 := 26) (pc' := 31) rfl (hb hby d3_26) (by decide) (by decide) ?_
        exact kg)
    rw [if_pos hlt, ← own_of h3] at hg
    have k26 : ∀ tg, Steps p.tables e below (s₁.setTop (mkF m 41 #[.val (.ref v1), .val (.long q2), .second, .val (.long q4), .second, .val (.int p6), .val (.int p7), .val (.int p8), .val (.int (((p6 / p8) * p8) + ((p8 - (1 : Int32)) - (p6 % p8))))] [(.int (((p6 / p8) * p8) + ((p8 - (1 : Int32)) - (p6 % p8)))), (.long q4), (.long q2), (.int (g j))])) tg → Steps p.tables e below (s₁.setTop (entryFrame m #[(.ref v1), (.long q2), (.long q4), (.int p6), (.int p7), (.int p8)] 9)) tg := fun tg kg => k25 tg (by
        show Steps p.tables e below (s₁.setTop (mkF m 31 #[.val (.ref v1), .val (.long q2), .second, .val (.long q4), .second, .val (.int p6), .val (.int p7), .val (.int p8), .unset] [(.int (((p6 / p8) * p8) + ((p8 - (1 : Int32)) - (p6 % p8))))])) _
        refine XS.istore X0.here hx rfl (hb hby d3_31) rfl (l' := #[.val (.ref v1), .val (.long q2), .second, .val (.long q4), .second, .val (.int p6), .val (.int p7), .val (.int p8), .val (.int (((p6 / p8) * p8) + ((p8 - (1 : Int32)) - (p6 % p8))))]) rfl ?_
        show Steps p.tables e below (s₁.setTop (mkF m 33 #[.val (.ref v1), .val (.long q2), .second, .val (.long q4), .second, .val (.int p6), .val (.int p7), .val (.int p8), .val (.int (((p6 / p8) * p8) + ((p8 - (1 : Int32)) - (p6 % p8))))] [])) _
        refine XS.aloadN X0.here hx rfl (hb hby d3_33) rfl rfl ?_
        show Steps p.tables e below (s₁.setTop (mkF m 34 #[.val (.ref v1), .val (.long q2), .second, .val (.long q4), .second, .val (.int p6), .val (.int p7), .val (.int p8), .val (.int (((p6 / p8) * p8) + ((p8 - (1 : Int32)) - (p6 % p8))))] [(.ref v1)])) _
        refine XS.iload X0.here hx rfl (hb hby d3_34) rfl ?_
        show Steps p.tables e below (s₁.setTop (mkF m 36 #[.val (.ref v1), .val (.long q2), .second, .val (.long q4), .second, .val (.int p6), .val (.int p7), .val (.int p8), .val (.int (((p6 / p8) * p8) + ((p8 - (1 : Int32)) - (p6 % p8))))] [(.int p6), (.ref v1)])) _
        refine X0.baloadBytes hx (j := p6) (v := (.int (g j))) (by rw [e0]; exact Ar.1) (State.isArrayOf_alike hZ.alike Ar.2.1) Ar.2.2 (own_hin S hj hj16) (own_hat G hj hj16) (g := (mkF m 36 #[.val (.ref v1), .val (.long q2), .second, .val (.long q4), .second, .val (.int p6), .val (.int p7), .val (.int p8), .val (.int (((p6 / p8) * p8) + ((p8 - (1 : Int32)) - (p6 % p8))))] [(.int p6), (.ref v1)])) rfl rfl (hb hby d3_36) _ ?_
        show Steps p.tables e below (s₁.setTop (mkF m 37 #[.val (.ref v1), .val (.long q2), .second, .val (.long q4), .second, .val (.int p6), .val (.int p7), .val (.int p8), .val (.int (((p6 / p8) * p8) + ((p8 - (1 : Int32)) - (p6 % p8))))] [(.int (g j))])) _
        refine XS.lloadN X0.here hx rfl (hb hby d3_37) rfl ?_
        show Steps p.tables e below (s₁.setTop (mkF m 38 #[.val (.ref v1), .val (.long q2), .second, .val (.long q4), .second, .val (.int p6), .val (.int p7), .val (.int p8), .val (.int (((p6 / p8) * p8) + ((p8 - (1 : Int32)) - (p6 % p8))))] [(.long q2), (.int (g j))])) _
        refine XS.lloadN X0.here hx rfl (hb hby d3_38) rfl ?_
        show Steps p.tables e below (s₁.setTop (mkF m 39 #[.val (.ref v1), .val (.long q2), .second, .val (.long q4), .second, .val (.int p6), .val (.int p7), .val (.int p8), .val (.int (((p6 / p8) * p8) + ((p8 - (1 : Int32)) - (p6 % p8))))] [(.long q4), (.long q2), (.int (g j))])) _
        refine XS.iload X0.here hx rfl (hb hby d3_39) rfl ?_
        exact kg)
    obtain ⟨_, _, ⟨T27, L27, c27, n27⟩, -, X27, ⟨Lc27, hQ27, l27, y27, z27⟩, st27⟩ := Jvm.LawKit.callS X0 hx (y := (⟨"com/example/modalis/modalis/dicom/data/DataSetReaderToLittleEndianPinLaw", "at", "(JJI)B"⟩ : MethodName)) hown (mvT hZ (hw _ (List.mem_of_getElem? (i := 2) rfl))) (mvT hZ (hw _ (List.mem_of_getElem? (i := 3) rfl))) (mvT hZ (hw _ (List.mem_of_getElem? (i := 4) rfl))) (mvT hZ (hw _ (List.mem_of_getElem? (i := 5) rfl))) (by decide) (backOf (W := 1) (rm1 l Z a0 hw [] q2 q4 (((p6 / p8) * p8) + ((p8 - (1 : Int32)) - (p6 % p8))) h0 n0 Z0) hZ (hw _ (List.mem_of_getElem? (i := 5) rfl)) (hw _ (List.mem_of_getElem? (i := 4) rfl)) (by decide) (by decide)) (g := (mkF m 41 #[.val (.ref v1), .val (.long q2), .second, .val (.long q4), .second, .val (.int p6), .val (.int p7), .val (.int p8), .val (.int (((p6 / p8) * p8) + ((p8 - (1 : Int32)) - (p6 % p8))))] [(.int (((p6 / p8) * p8) + ((p8 - (1 : Int32)) - (p6 % p8)))), (.long q4), (.long q2), (.int (g j))])) rfl (by rw [hml]; rfl) (argsL := [(.long q2), (.long q4), (.int (((p6 / p8) * p8) + ((p8 - (1 : Int32)) - (p6 % p8))))]) (rest := [(.int (g j))]) (lenOf own_pd0 rfl) rfl (by show 2 * 0 + _ ≤ _; exact Nat.le_of_eq rfl) (hb hby d3_41) (fun _ _ => ⟨rfl, e0, (by decide : 0 + 0 ≤ _), (by decide : 0 + 0 ≤ _)⟩)
    dsimp only [Pt.U, Pt.locs, Pt.cells, Pt.slots] at X27 l27 y27 z27 st27 hQ27
    obtain rfl : c27 = 0 := y27
    obtain rfl : n27 = 0 := z27
    obtain ⟨rfl, N27q, e27⟩ := hQ27
    have N27 := own_frE l27 (Fr.app N0 N27q)
    have k28 : ∀ tg, Steps p.tables e below (T27.setTop (mkF m 44 #[.val (.ref v1), .val (.long q2), .second, .val (.long q4), .second, .val (.int p6), .val (.int p7), .val (.int p8), .val (.int (((p6 / p8) * p8) + ((p8 - (1 : Int32)) - (p6 % p8))))] [(.int (own_at q2 q4 (((p6 / p8) * p8) + ((p8 - (1 : Int32)) - (p6 % p8))))), (.int (g j))])) tg → Steps p.tables e below (s₁.setTop (entryFrame m #[(.ref v1), (.long q2), (.long q4), (.int p6), (.int p7), (.int p8)] 9)) tg := fun tg kg => k26 tg (st27 tg kg)
    have k29 : ∀ tg, Steps p.tables e below (T27.setTop (mkF m 52 #[.val (.ref v1), .val (.long q2), .second, .val (.long q4), .second, .val (.int p6), .val (.int p7), .val (.int p8), .val (.int (((p6 / p8) * p8) + ((p8 - (1 : Int32)) - (p6 % p8))))] [(.int (1 : Int32))])) tg → Steps p.tables e below (s₁.setTop (entryFrame m #[(.ref v1), (.long q2), (.long q4), (.int p6), (.int p7), (.int p8)] 9)) tg := fun tg kg => k28 tg (by
        show Steps p.tables e below (T27.setTop (mkF m 44 #[.val (.ref v1), .val (.long q2), .second, .val (.long q4), .second, .val (.int p6), .val (.int p7), .val (.int p8), .val (.int (((p6 / p8) * p8) + ((p8 - (1 : Int32)) - (p6 % p8))))] [(.int (own_at q2 q4 (((p6 / p8) * p8) + ((p8 - (1 : Int32)) - (p6 % p8))))), (.int (g j))])) _
        refine XS.icmpNo X27.here hx rfl (hb hby d3_44) rfl (teq hg).2 ?_
        show Steps p.tables e below (T27.setTop (mkF m 47 #[.val (.ref v1), .val (.long q2), .second, .val (.long q4), .second, .val (.int p6), .val (.int p7), .val (.int p8), .val (.int (((p6 / p8) * p8) + ((p8 - (1 : Int32)) - (p6 % p8))))] [])) _
        refine XS.iconst X27.here hx rfl (hb hby d3_47) ?_
        show Steps p.tables e below (T27.setTop (mkF m 48 #[.val (.ref v1), .val (.long q2), .second, .val (.long q4), .second, .val (.int p6), .val (.int p7), .val (.int p8), .val (.int (((p6 / p8) * p8) + ((p8 - (1 : Int32)) - (p6 % p8))))] [(.int (1 : Int32))])) _
        refine XS.goto X27.here hx rfl (pc0 := 48) (pc' := 52) rfl (hb hby d3_48) (by decide) (by decide) ?_
        exact kg)
    obtain ⟨fs, hr, hrun, hended, hW, hsame⟩ := X27.leave (v := some (.int (1 : Int32))) (fun h => by rw [Bd.returns] at h; cases h)
    refine ⟨_, _, k29 _ ?_, hrun, hended, _, _, rfl, ?_, ⟨_, rfl⟩, hW, hsame.mono (by decide) (by decide)⟩
    · show Steps p.tables e below (T27.setTop (mkF m 52 #[.val (.ref v1), .val (.long q2), .second, .val (.long q4), .second, .val (.int p6), .val (.int p7), .val (.int p8), .val (.int (((p6 / p8) * p8) + ((p8 - (1 : Int32)) - (p6 % p8))))] [(.int (1 : Int32))])) _
      exact retN X27 hx (t := .boolean) Bd.returns (by simp) (hb hby d3_52) hr
    · show Q3 _ _ _ _ T27.heap _
      rw [e27]
      exact ⟨rfl, N27, rfl⟩
  · have hlt : ¬ j < len := fun q => hc ((own_lt hj hl).mpr q)
    have k30 : ∀ tg, Steps p.tables e below (s₁.setTop (mkF m 29 #[.val (.ref v1), .val (.long q2), .second, .val (.long q4), .second, .val (.int p6), .val (.int p7), .val (.int p8), .unset] [])) tg → Steps p.tables e below (s₁.setTop (entryFrame m #[(.ref v1), (.long q2), (.long q4), (.int p6), (.int p7), (.int p8)] 9)) tg := fun tg kg => k23 tg (by
        show Steps p.tables e below (s₁.setTop (mkF m 4 #[.val (.ref v1), .val (.long q2), .second, .val (.long q4), .second, .val (.int p6), .val (.int p7), .val (.int p8), .unset] [(.int p7), (.int p6)])) _
        refine XS.icmpYes X0.here hx rfl (pc0 := 4) (pc' := 29) rfl (hb hby d3_4) rfl (flt hc).2.1 (by decide) (by decide) ?_
        exact kg)
    rw [if_neg hlt, ← own_of hj] at hg
    have k31 : ∀ tg, Steps p.tables e below (s₁.setTop (mkF m 41 #[.val (.ref v1), .val (.long q2), .second, .val (.long q4), .second, .val (.int p6), .val (.int p7), .val (.int p8), .val (.int p6)] [(.int p6), (.long q4), (.long q2), (.int (g j))])) tg → Steps p.tables e below (s₁.setTop (entryFrame m #[(.ref v1), (.long q2), (.long q4), (.int p6), (.int p7), (.int p8)] 9)) tg := fun tg kg => k30 tg (by
        show Steps p.tables e below (s₁.setTop (mkF m 29 #[.val (.ref v1), .val (.long q2), .second, .val (.long q4), .second, .val (.int p6), .val (.int p7), .val (.int p8), .unset] [])) _
        refine XS.iload X0.here hx rfl (hb hby d3_29) rfl ?_
        show Steps p.tables e below (s₁.setTop (mkF m 31 #[.val (.ref v1), .val (.long q2), .second, .val (.long q4), .second, .val (.int p6), .val (.int p7), .val (.int p8), .unset] [(.int p6)])) _
        refine XS.istore X0.here hx rfl (hb hby d3_31) rfl (l' := #[.val (.ref v1), .val (.long q2), .second, .val (.long q4), .second, .val (.int p6), .val (.int p7), .val (.int p8), .val (.int p6)]) rfl ?_
        show Steps p.tables e below (s₁.setTop (mkF m 33 #[.val (.ref v1), .val (.long q2), .second, .val (.long q4), .second, .val (.int p6), .val (.int p7), .val (.int p8), .val (.int p6)] [])) _
        refine XS.aloadN X0.here hx rfl (hb hby d3_33) rfl rfl ?_
        show Steps p.tables e below (s₁.setTop (mkF m 34 #[.val (.ref v1), .val (.long q2), .second, .val (.long q4), .second, .val (.int p6), .val (.int p7), .val (.int p8), .val (.int p6)] [(.ref v1)])) _
        refine XS.iload X0.here hx rfl (hb hby d3_34) rfl ?_
        show Steps p.tables e below (s₁.setTop (mkF m 36 #[.val (.ref v1), .val (.long q2), .second, .val (.long q4), .second, .val (.int p6), .val (.int p7), .val (.int p8), .val (.int p6)] [(.int p6), (.ref v1)])) _
        refine X0.baloadBytes hx (j := p6) (v := (.int (g j))) (by rw [e0]; exact Ar.1) (State.isArrayOf_alike hZ.alike Ar.2.1) Ar.2.2 (own_hin S hj hj16) (own_hat G hj hj16) (g := (mkF m 36 #[.val (.ref v1), .val (.long q2), .second, .val (.long q4), .second, .val (.int p6), .val (.int p7), .val (.int p8), .val (.int p6)] [(.int p6), (.ref v1)])) rfl rfl (hb hby d3_36) _ ?_
        show Steps p.tables e below (s₁.setTop (mkF m 37 #[.val (.ref v1), .val (.long q2), .second, .val (.long q4), .second, .val (.int p6), .val (.int p7), .val (.int p8), .val (.int p6)] [(.int (g j))])) _
        refine XS.lloadN X0.here hx rfl (hb hby d3_37) rfl ?_
        show Steps p.tables e below (s₁.setTop (mkF m 38 #[.val (.ref v1), .val (.long q2), .second, .val (.long q4), .second, .val (.int p6), .val (.int p7), .val (.int p8), .val (.int p6)] [(.long q2), (.int (g j))])) _
        refine XS.lloadN X0.here hx rfl (hb hby d3_38) rfl ?_
        show Steps p.tables e below (s₁.setTop (mkF m 39 #[.val (.ref v1), .val (.long q2), .second, .val (.long q4), .second, .val (.int p6), .val (.int p7), .val (.int p8), .val (.int p6)] [(.long q4), (.long q2), (.int (g j))])) _
        refine XS.iload X0.here hx rfl (hb hby d3_39) rfl ?_
        exact kg)
    obtain ⟨_, _, ⟨T32, L32, c32, n32⟩, -, X32, ⟨Lc32, hQ32, l32, y32, z32⟩, st32⟩ := Jvm.LawKit.callS X0 hx (y := (⟨"com/example/modalis/modalis/dicom/data/DataSetReaderToLittleEndianPinLaw", "at", "(JJI)B"⟩ : MethodName)) hown (mvT hZ (hw _ (List.mem_of_getElem? (i := 2) rfl))) (mvT hZ (hw _ (List.mem_of_getElem? (i := 3) rfl))) (mvT hZ (hw _ (List.mem_of_getElem? (i := 4) rfl))) (mvT hZ (hw _ (List.mem_of_getElem? (i := 5) rfl))) (by decide) (backOf (W := 1) (rm1 l Z a0 hw [] q2 q4 p6 h0 n0 Z0) hZ (hw _ (List.mem_of_getElem? (i := 5) rfl)) (hw _ (List.mem_of_getElem? (i := 4) rfl)) (by decide) (by decide)) (g := (mkF m 41 #[.val (.ref v1), .val (.long q2), .second, .val (.long q4), .second, .val (.int p6), .val (.int p7), .val (.int p8), .val (.int p6)] [(.int p6), (.long q4), (.long q2), (.int (g j))])) rfl (by rw [hml]; rfl) (argsL := [(.long q2), (.long q4), (.int p6)]) (rest := [(.int (g j))]) (lenOf own_pd0 rfl) rfl (by show 2 * 0 + _ ≤ _; exact Nat.le_of_eq rfl) (hb hby d3_41) (fun _ _ => ⟨rfl, e0, (by decide : 0 + 0 ≤ _), (by decide : 0 + 0 ≤ _)⟩)
    dsimp only [Pt.U, Pt.locs, Pt.cells, Pt.slots] at X32 l32 y32 z32 st32 hQ32
    obtain rfl : c32 = 0 := y32
    obtain rfl : n32 = 0 := z32
    obtain ⟨rfl, N32q, e32⟩ := hQ32
    have N32 := own_frE l32 (Fr.app N0 N32q)
    have k33 : ∀ tg, Steps p.tables e below (T32.setTop (mkF m 44 #[.val (.ref v1), .val (.long q2), .second, .val (.long q4), .second, .val (.int p6), .val (.int p7), .val (.int p8), .val (.int p6)] [(.int (own_at q2 q4 p6)), (.int (g j))])) tg → Steps p.tables e below (s₁.setTop (entryFrame m #[(.ref v1), (.long q2), (.long q4), (.int p6), (.int p7), (.int p8)] 9)) tg := fun tg kg => k31 tg (st32 tg kg)
    have k34 : ∀ tg, Steps p.tables e below (T32.setTop (mkF m 52 #[.val (.ref v1), .val (.long q2), .second, .val (.long q4), .second, .val (.int p6), .val (.int p7), .val (.int p8), .val (.int p6)] [(.int (1 : Int32))])) tg → Steps p.tables e below (s₁.setTop (entryFrame m #[(.ref v1), (.long q2), (.long q4), (.int p6), (.int p7), (.int p8)] 9)) tg := fun tg kg => k33 tg (by
        show Steps p.tables e below (T32.setTop (mkF m 44 #[.val (.ref v1), .val (.long q2), .second, .val (.long q4), .second, .val (.int p6), .val (.int p7), .val (.int p8), .val (.int p6)] [(.int (own_at q2 q4 p6)), (.int (g j))])) _
        refine XS.icmpNo X32.here hx rfl (hb hby d3_44) rfl (teq hg).2 ?_
        show Steps p.tables e below (T32.setTop (mkF m 47 #[.val (.ref v1), .val (.long q2), .second, .val (.long q4), .second, .val (.int p6), .val (.int p7), .val (.int p8), .val (.int p6)] [])) _
        refine XS.iconst X32.here hx rfl (hb hby d3_47) ?_
        show Steps p.tables e below (T32.setTop (mkF m 48 #[.val (.ref v1), .val (.long q2), .second, .val (.long q4), .second, .val (.int p6), .val (.int p7), .val (.int p8), .val (.int p6)] [(.int (1 : Int32))])) _
        refine XS.goto X32.here hx rfl (pc0 := 48) (pc' := 52) rfl (hb hby d3_48) (by decide) (by decide) ?_
        exact kg)
    obtain ⟨fs, hr, hrun, hended, hW, hsame⟩ := X32.leave (v := some (.int (1 : Int32))) (fun h => by rw [Bd.returns] at h; cases h)
    refine ⟨_, _, k34 _ ?_, hrun, hended, _, _, rfl, ?_, ⟨_, rfl⟩, hW, hsame.mono (by decide) (by decide)⟩
    · show Steps p.tables e below (T32.setTop (mkF m 52 #[.val (.ref v1), .val (.long q2), .second, .val (.long q4), .second, .val (.int p6), .val (.int p7), .val (.int p8), .val (.int p6)] [(.int (1 : Int32))])) _
      exact retN X32 hx (t := .boolean) Bd.returns (by simp) (hb hby d3_52) hr
    · show Q3 _ _ _ _ T32.heap _
      rw [e32]
      exact ⟨rfl, N32, rfl⟩
theorem pn_0 : plainName "com/example/modalis/modalis/dicom/data/DataSetReaderToLittleEndianPinLaw" = true := by first | (simp [plainName, overriddenIn]; done) | decide +kernel
theorem ef_0 (m : MethodId) (x0 : Int64) (x1 : Int64) (x2 : Int32) (x3 : Int32) : entryFrame m #[(.long x0), (.long x1), (.int x2), (.int x3)] maxLocals = mkF m 0 #[.val (.long x0), .second, .val (.long x1), .second, .val (.int x2), .val (.int x3), .unset, .unset, .unset, .unset] [] := by first | (simp [entryFrame, mkF, argsToLocals, Value.category, maxLocals]; done) | rfl
def Q0 (Z : State) (q1 q2 : Int64) (p3 p4 : Int32) (h0 : Heap) (n0 : Nat) (v : Option Value) (h : Heap) (L : List Loc) : Prop := v = some (.int 1) ∧ Fr n0 L
set_option maxRecDepth 65536 in
set_option maxHeartbeats 40000000 in
theorem rm0 (l : Launch) (Z : State) (a0 : Array Value) (hw : ∀ d ∈ tables_1, d.before a0 Z = true) (ws : List Jvm.Cond) (q1 : Int64) (q2 : Int64) (p3 : Int32) (p4 : Int32)  (h0 : Heap) (n0 : Nat) (Z0 : n0 ≤ h0.size)  :
    MetFree l x (head1 (Jvm.Cond.code x code maxLocals ret :: ws) room_1) (fun a U => a = #[(.long q1), (.long q2), (.int p3), (.int p4)] ∧ Z.Warmed39 U.vm ∧ U.heap = h0) (fun _ _ _ _ _ => True) (fun _ U o U' => ∃ v L, o = .returned v ∧ Q0 Z q1 q2 p3 p4 h0 n0 v U'.heap L ∧ FrameEnd U o U' L room_1.cells room_1.slots) := by
  refine MetFree.of_bodySF (plainFor_of_name pn_0) hisR ?_
  intro p e s m args below meth c s₁ Bd hml0 hP hK
  obtain ⟨rfl, hZ, hh⟩ := hP
  have hx := Bd.exec
  have hby := Bd.bytes
  have hml : c.maxLocals = 10 := hml0
  have hown : s.vm.findClass "com/example/modalis/modalis/dicom/data/DataSetReaderToLittleEndianPinLaw" = some m.cls := findClass_of_methodNamed Bd.named
  have hnm := (name_of_methodNamed Bd.named Bd.method).1
  have X0 : Stand p l e room_1 s m #[(.long q1), (.long q2), (.int p3), (.int p4)] below meth c s₁ [] 0 0 := Stand.of_body Bd
  have e0 : s₁.heap = h0 := by rw [← hh, Bd.state]; rfl
  have N0 := Fr.nil n0
  have pre0 : ∀ tg, Steps p.tables e below (s₁.setTop (mkF m 0 #[.val (.long q1), .second, .val (.long q2), .second, .val (.int p3), .val (.int p4), .unset, .unset, .unset, .unset] [])) tg → Steps p.tables e below (s₁.setTop (entryFrame m #[(.long q1), (.long q2), (.int p3), (.int p4)] maxLocals)) tg := fun tg kg => castTop (ef_0 m q1 q2 p3 p4) kg
  have k35 : ∀ tg, Steps p.tables e below (s₁.setTop (mkF m 8 #[.val (.long q1), .second, .val (.long q2), .second, .val (.int p3), .val (.int p4), .val (.int ((1 : Int32) <<< ((p3 &&& (3 : Int32)) &&& 31))), .unset, .unset, .unset] [])) tg → Steps p.tables e below (s₁.setTop (entryFrame m #[(.long q1), (.long q2), (.int p3), (.int p4)] maxLocals)) tg := fun tg kg => pre0 tg (by
      show Steps p.tables e below (s₁.setTop (mkF m 0 #[.val (.long q1), .second, .val (.long q2), .second, .val (.int p3), .val (.int p4), .unset, .unset, .unset, .unset] [])) _
      refine XS.iconst X0.here hx rfl (hb hby at_0) ?_
      show Steps p.tables e below (s₁.setTop (mkF m 1 #[.val (.long q1), .second, .val (.long q2), .second, .val (.int p3), .val (.int p4), .unset, .unset, .unset, .unset] [(.int (1 : Int32))])) _
      refine XS.iload X0.here hx rfl (hb hby at_1) rfl ?_
      show Steps p.tables e below (s₁.setTop (mkF m 3 #[.val (.long q1), .second, .val (.long q2), .second, .val (.int p3), .val (.int p4), .unset, .unset, .unset, .unset] [(.int p3), (.int (1 : Int32))])) _
      refine XS.iconst X0.here hx rfl (hb hby at_3) ?_
      show Steps p.tables e below (s₁.setTop (mkF m 4 #[.val (.long q1), .second, .val (.long q2), .second, .val (.int p3), .val (.int p4), .unset, .unset, .unset, .unset] [(.int (3 : Int32)), (.int p3), (.int (1 : Int32))])) _
      refine XS.iand X0.here hx rfl (hb hby at_4) rfl ?_
      show Steps p.tables e below (s₁.setTop (mkF m 5 #[.val (.long q1), .second, .val (.long q2), .second, .val (.int p3), .val (.int p4), .unset, .unset, .unset, .unset] [(.int (p3 &&& (3 : Int32))), (.int (1 : Int32))])) _
      refine XS.ishl X0.here hx rfl (hb hby at_5) rfl ?_
      show Steps p.tables e below (s₁.setTop (mkF m 6 #[.val (.long q1), .second, .val (.long q2), .second, .val (.int p3), .val (.int p4), .unset, .unset, .unset, .unset] [(.int ((1 : Int32) <<< ((p3 &&& (3 : Int32)) &&& 31)))])) _
      refine XS.istore X0.here hx rfl (hb hby at_6) rfl (l' := #[.val (.long q1), .second, .val (.long q2), .second, .val (.int p3), .val (.int p4), .val (.int ((1 : Int32) <<< ((p3 &&& (3 : Int32)) &&& 31))), .unset, .unset, .unset]) rfl ?_
      exact kg)
  obtain ⟨w1, hw4, hxw⟩ : ∃ w1 : Nat, (w1 = 1 ∨ w1 = 2 ∨ w1 = 4 ∨ w1 = 8) ∧ ((1 : Int32) <<< ((p3 &&& (3 : Int32)) &&& 31)).toInt = w1 := by
    have h := c_and p3 (3 : Int32) (by decide)
    rw [show (3 : Int32).toInt = 3 from by decide] at h
    have e : (p3 &&& (3 : Int32)) = 0 ∨ (p3 &&& (3 : Int32)) = 1 ∨ (p3 &&& (3 : Int32)) = 2 ∨ (p3 &&& (3 : Int32)) = 3 := by
      simp only [← Int32.toInt_inj, show (0 : Int32).toInt = 0 from by decide, show (1 : Int32).toInt = 1 from by decide, show (2 : Int32).toInt = 2 from by decide, show (3 : Int32).toInt = 3 from by decide]; omega
    rcases e with e | e | e | e <;> rw [e]
    · exact ⟨1, by omega, by decide +kernel⟩
    · exact ⟨2, by omega, by decide +kernel⟩
    · exact ⟨4, by omega, by decide +kernel⟩
    · exact ⟨8, by omega, by decide +kernel⟩
  obtain ⟨xw, exw⟩ : ∃ z, z = ((1 : Int32) <<< ((p3 &&& (3 : Int32)) &&& 31)) := ⟨_, rfl⟩
  rw [← exw] at k35
  rw [← exw] at hxw
  have hw1 : 0 < w1 := by omega
  have hd := own_inc (own_divN (x := (16 : Int32)) (a := 16) (by decide) hxw hw1) (by have := Nat.div_le_self 16 w1; omega)
  have k36 : ∀ tg, Steps p.tables e below (s₁.setTop (mkF m 23 #[.val (.long q1), .second, .val (.long q2), .second, .val (.int p3), .val (.int p4), .val (.int xw), .val (.int ((p4 &&& (2147483647 : Int32)) % (((16 : Int32) / xw) + (1 : Int32)))), .unset, .unset] [])) tg → Steps p.tables e below (s₁.setTop (entryFrame m #[(.long q1), (.long q2), (.int p3), (.int p4)] maxLocals)) tg := fun tg kg => k35 tg (by
      show Steps p.tables e below (s₁.setTop (mkF m 8 #[.val (.long q1), .second, .val (.long q2), .second, .val (.int p3), .val (.int p4), .val (.int xw), .unset, .unset, .unset] [])) _
      refine XS.iload X0.here hx rfl (hb hby at_8) rfl ?_
      show Steps p.tables e below (s₁.setTop (mkF m 10 #[.val (.long q1), .second, .val (.long q2), .second, .val (.int p3), .val (.int p4), .val (.int xw), .unset, .unset, .unset] [(.int p4)])) _
      refine X0.ldcInt hx hown (mvT hZ (hw _ (List.mem_of_getElem? (i := 0) rfl))) (g := (mkF m 10 #[.val (.long q1), .second, .val (.long q2), .second, .val (.int p3), .val (.int p4), .val (.int xw), .unset, .unset, .unset] [(.int p4)])) rfl (hb hby at_10) _ ?_
      show Steps p.tables e below (s₁.setTop (mkF m 12 #[.val (.long q1), .second, .val (.long q2), .second, .val (.int p3), .val (.int p4), .val (.int xw), .unset, .unset, .unset] [(.int (2147483647 : Int32)), (.int p4)])) _
      refine XS.iand X0.here hx rfl (hb hby at_12) rfl ?_
      show Steps p.tables e below (s₁.setTop (mkF m 13 #[.val (.long q1), .second, .val (.long q2), .second, .val (.int p3), .val (.int p4), .val (.int xw), .unset, .unset, .unset] [(.int (p4 &&& (2147483647 : Int32)))])) _
      refine XS.bipush X0.here hx rfl (hb hby at_13) ?_
      show Steps p.tables e below (s₁.setTop (mkF m 15 #[.val (.long q1), .second, .val (.long q2), .second, .val (.int p3), .val (.int p4), .val (.int xw), .unset, .unset, .unset] [(.int (16 : Int32)), (.int (p4 &&& (2147483647 : Int32)))])) _
      refine XS.iload X0.here hx rfl (hb hby at_15) rfl ?_
      show Steps p.tables e below (s₁.setTop (mkF m 17 #[.val (.long q1), .second, .val (.long q2), .second, .val (.int p3), .val (.int p4), .val (.int xw), .unset, .unset, .unset] [(.int xw), (.int (16 : Int32)), (.int (p4 &&& (2147483647 : Int32)))])) _
      refine XS.idiv X0.here hx rfl (hb hby at_17) rfl (own_ne0 hxw hw1) ?_
      show Steps p.tables e below (s₁.setTop (mkF m 18 #[.val (.long q1), .second, .val (.long q2), .second, .val (.int p3), .val (.int p4), .val (.int xw), .unset, .unset, .unset] [(.int ((16 : Int32) / xw)), (.int (p4 &&& (2147483647 : Int32)))])) _
      refine XS.iconst X0.here hx rfl (hb hby at_18) ?_
      show Steps p.tables e below (s₁.setTop (mkF m 19 #[.val (.long q1), .second, .val (.long q2), .second, .val (.int p3), .val (.int p4), .val (.int xw), .unset, .unset, .unset] [(.int (1 : Int32)), (.int ((16 : Int32) / xw)), (.int (p4 &&& (2147483647 : Int32)))])) _
      refine XS.iadd X0.here hx rfl (hb hby at_19) rfl ?_
      show Steps p.tables e below (s₁.setTop (mkF m 20 #[.val (.long q1), .second, .val (.long q2), .second, .val (.int p3), .val (.int p4), .val (.int xw), .unset, .unset, .unset] [(.int (((16 : Int32) / xw) + (1 : Int32))), (.int (p4 &&& (2147483647 : Int32)))])) _
      refine iremM X0 hx rfl (hb hby at_20) rfl (own_ne0 hd (Nat.succ_pos _)) ?_
      show Steps p.tables e below (s₁.setTop (mkF m 21 #[.val (.long q1), .second, .val (.long q2), .second, .val (.int p3), .val (.int p4), .val (.int xw), .unset, .unset, .unset] [(.int ((p4 &&& (2147483647 : Int32)) % (((16 : Int32) / xw) + (1 : Int32))))])) _
      refine XS.istore X0.here hx rfl (hb hby at_21) rfl (l' := #[.val (.long q1), .second, .val (.long q2), .second, .val (.int p3), .val (.int p4), .val (.int xw), .val (.int ((p4 &&& (2147483647 : Int32)) % (((16 : Int32) / xw) + (1 : Int32)))), .unset, .unset]) rfl ?_
      exact kg)
  obtain ⟨c0, hc0, hxc⟩ : ∃ c0 : Nat, w1 * c0 ≤ 16 ∧ ((p4 &&& (2147483647 : Int32)) % (((16 : Int32) / xw) + (1 : Int32))).toInt = c0 := by
    have h := c_and p4 (2147483647 : Int32) (by decide)
    have e := own_rem (x := (p4 &&& (2147483647 : Int32))) (a := (p4 &&& (2147483647 : Int32)).toInt.toNat) (by omega) hd
    have l := Nat.mod_lt ((p4 &&& (2147483647 : Int32)).toInt.toNat) (show 0 < 16 / w1 + 1 from Nat.succ_pos _)
    refine ⟨_, ?_, e⟩
    generalize (p4 &&& (2147483647 : Int32)).toInt.toNat % (16 / w1 + 1) = z at l
    rcases hw4 with rfl | rfl | rfl | rfl <;> omega
  obtain ⟨xc, exc⟩ : ∃ z, z = ((p4 &&& (2147483647 : Int32)) % (((16 : Int32) / xw) + (1 : Int32))) := ⟨_, rfl⟩
  rw [← exc] at k36
  rw [← exc] at hxc
  have hxl := own_mulN hxw hxc (by omega)
  have k37 : ∀ tg, Steps p.tables e below (s₁.setTop (mkF m 30 #[.val (.long q1), .second, .val (.long q2), .second, .val (.int p3), .val (.int p4), .val (.int xw), .val (.int xc), .val (.int (xw * xc)), .unset] [])) tg → Steps p.tables e below (s₁.setTop (entryFrame m #[(.long q1), (.long q2), (.int p3), (.int p4)] maxLocals)) tg := fun tg kg => k36 tg (by
      show Steps p.tables e below (s₁.setTop (mkF m 23 #[.val (.long q1), .second, .val (.long q2), .second, .val (.int p3), .val (.int p4), .val (.int xw), .val (.int xc), .unset, .unset] [])) _
      refine XS.iload X0.here hx rfl (hb hby at_23) rfl ?_
      show Steps p.tables e below (s₁.setTop (mkF m 25 #[.val (.long q1), .second, .val (.long q2), .second, .val (.int p3), .val (.int p4), .val (.int xw), .val (.int xc), .unset, .unset] [(.int xw)])) _
      refine XS.iload X0.here hx rfl (hb hby at_25) rfl ?_
      show Steps p.tables e below (s₁.setTop (mkF m 27 #[.val (.long q1), .second, .val (.long q2), .second, .val (.int p3), .val (.int p4), .val (.int xw), .val (.int xc), .unset, .unset] [(.int xc), (.int xw)])) _
      refine XS.imul X0.here hx rfl (hb hby at_27) rfl ?_
      show Steps p.tables e below (s₁.setTop (mkF m 28 #[.val (.long q1), .second, .val (.long q2), .second, .val (.int p3), .val (.int p4), .val (.int xw), .val (.int xc), .unset, .unset] [(.int (xw * xc))])) _
      refine XS.istore X0.here hx rfl (hb hby at_28) rfl (l' := #[.val (.long q1), .second, .val (.long q2), .second, .val (.int p3), .val (.int p4), .val (.int xw), .val (.int xc), .val (.int (xw * xc)), .unset]) rfl ?_
      exact kg)
  obtain ⟨xl, exl⟩ : ∃ z, z = (xw * xc) := ⟨_, rfl⟩
  rw [← exl] at k37
  rw [← exl] at hxl
  have k38 : ∀ tg, Steps p.tables e below (s₁.setTop (mkF m 32 #[.val (.long q1), .second, .val (.long q2), .second, .val (.int p3), .val (.int p4), .val (.int xw), .val (.int xc), .val (.int xl), .unset] [(.int (16 : Int32))])) tg → Steps p.tables e below (s₁.setTop (entryFrame m #[(.long q1), (.long q2), (.int p3), (.int p4)] maxLocals)) tg := fun tg kg => k37 tg (by
      show Steps p.tables e below (s₁.setTop (mkF m 30 #[.val (.long q1), .second, .val (.long q2), .second, .val (.int p3), .val (.int p4), .val (.int xw), .val (.int xc), .val (.int xl), .unset] [])) _
      refine XS.bipush X0.here hx rfl (hb hby at_30) ?_
      exact kg)
  obtain ⟨T39, h39, c39, X39, e39, E39, A39, st39⟩ := newP X0 hx hZ (hw _ (List.mem_of_getElem? (i := 1) rfl)) e0 (g := (mkF m 32 #[.val (.long q1), .second, .val (.long q2), .second, .val (.int p3), .val (.int p4), .val (.int xw), .val (.int xc), .val (.int xl), .unset] [(.int (16 : Int32))])) rfl (hb hby at_32) rfl (by decide) (cap := 16) (by decide) (by decide) (by decide) (by decide)
  obtain ⟨b39, g39⟩ : ∃ z, z = h0.size := ⟨_, rfl⟩
  rw [← g39] at A39 st39
  have k40 : ∀ tg, Steps p.tables e below (T39.setTop (mkF m 34 #[.val (.long q1), .second, .val (.long q2), .second, .val (.int p3), .val (.int p4), .val (.int xw), .val (.int xc), .val (.int xl), .unset] [(.ref b39)])) tg → Steps p.tables e below (s₁.setTop (entryFrame m #[(.long q1), (.long q2), (.int p3), (.int p4)] maxLocals)) tg := fun tg kg => k38 tg (st39 tg kg)
  have V0 := (Av.new A39 (N := 16) (by decide)).congr (g' := fun j => .int (if j < 0 then own_at q1 q2 (Int32.ofInt j) else 0)) (fun j _ => by rw [if_neg (Nat.not_lt_zero _)]; rfl)
  have gv : n0 ≤ b39 := Nat.le_trans Z0 (Nat.le_of_eq g39.symm)
  have Zv : n0 ≤ h39.size := Nat.le_trans Z0 E39.1
  have k41 : ∀ tg, Steps p.tables e below (T39.setTop (mkF m 42 #[.val (.long q1), .second, .val (.long q2), .second, .val (.int p3), .val (.int p4), .val (.int xw), .val (.int xc), .val (.int xl), .val (.ref b39)] [(.int (0 : Int32)), (.long q2), (.long q1), (.int (0 : Int32)), (.ref b39)])) tg → Steps p.tables e below (s₁.setTop (entryFrame m #[(.long q1), (.long q2), (.int p3), (.int p4)] maxLocals)) tg := fun tg kg => k40 tg (by
      show Steps p.tables e below (T39.setTop (mkF m 34 #[.val (.long q1), .second, .val (.long q2), .second, .val (.int p3), .val (.int p4), .val (.int xw), .val (.int xc), .val (.int xl), .unset] [(.ref b39)])) _
      refine XS.astore X39.here hx rfl (hb hby at_34) rfl rfl (l' := #[.val (.long q1), .second, .val (.long q2), .second, .val (.int p3), .val (.int p4), .val (.int xw), .val (.int xc), .val (.int xl), .val (.ref b39)]) rfl ?_
      show Steps p.tables e below (T39.setTop (mkF m 36 #[.val (.long q1), .second, .val (.long q2), .second, .val (.int p3), .val (.int p4), .val (.int xw), .val (.int xc), .val (.int xl), .val (.ref b39)] [])) _
      refine XS.aload X39.here hx rfl (hb hby at_36) rfl rfl ?_
      show Steps p.tables e below (T39.setTop (mkF m 38 #[.val (.long q1), .second, .val (.long q2), .second, .val (.int p3), .val (.int p4), .val (.int xw), .val (.int xc), .val (.int xl), .val (.ref b39)] [(.ref b39)])) _
      refine XS.iconst X39.here hx rfl (hb hby at_38) ?_
      show Steps p.tables e below (T39.setTop (mkF m 39 #[.val (.long q1), .second, .val (.long q2), .second, .val (.int p3), .val (.int p4), .val (.int xw), .val (.int xc), .val (.int xl), .val (.ref b39)] [(.int (0 : Int32)), (.ref b39)])) _
      refine XS.lloadN X39.here hx rfl (hb hby at_39) rfl ?_
      show Steps p.tables e below (T39.setTop (mkF m 40 #[.val (.long q1), .second, .val (.long q2), .second, .val (.int p3), .val (.int p4), .val (.int xw), .val (.int xc), .val (.int xl), .val (.ref b39)] [(.long q1), (.int (0 : Int32)), (.ref b39)])) _
      refine XS.lloadN X39.here hx rfl (hb hby at_40) rfl ?_
      show Steps p.tables e below (T39.setTop (mkF m 41 #[.val (.long q1), .second, .val (.long q2), .second, .val (.int p3), .val (.int p4), .val (.int xw), .val (.int xc), .val (.int xl), .val (.ref b39)] [(.long q2), (.long q1), (.int (0 : Int32)), (.ref b39)])) _
      refine XS.iconst X39.here hx rfl (hb hby at_41) ?_
      exact kg)
  obtain ⟨_, _, ⟨T42, L42, c42, n42⟩, -, X42, ⟨Lc42, hQ42, l42, y42, z42⟩, st42⟩ := Jvm.LawKit.callS X39 hx (y := (⟨"com/example/modalis/modalis/dicom/data/DataSetReaderToLittleEndianPinLaw", "at", "(JJI)B"⟩ : MethodName)) hown (mvT hZ (hw _ (List.mem_of_getElem? (i := 2) rfl))) (mvT hZ (hw _ (List.mem_of_getElem? (i := 3) rfl))) (mvT hZ (hw _ (List.mem_of_getElem? (i := 4) rfl))) (mvT hZ (hw _ (List.mem_of_getElem? (i := 5) rfl))) (by decide) (backOf (W := 2) (rm1 l Z a0 hw [] q1 q2 (0 : Int32) h39 n0 Zv) hZ (hw _ (List.mem_of_getElem? (i := 5) rfl)) (hw _ (List.mem_of_getElem? (i := 4) rfl)) (by decide) (by decide)) (g := (mkF m 42 #[.val (.long q1), .second, .val (.long q2), .second, .val (.int p3), .val (.int p4), .val (.int xw), .val (.int xc), .val (.int xl), .val (.ref b39)] [(.int (0 : Int32)), (.long q2), (.long q1), (.int (0 : Int32)), (.ref b39)])) rfl (by rw [hml]; rfl) (argsL := [(.long q1), (.long q2), (.int (0 : Int32))]) (rest := [(.int (0 : Int32)), (.ref b39)]) (lenOf own_pd0 rfl) rfl (by show 2 * 0 + _ ≤ _; exact Nat.le_of_eq rfl) (hb hby at_42) (fun _ _ => ⟨rfl, e39, (by decide : 1 + 0 ≤ _), (by decide : 16 + 0 ≤ _)⟩)
  dsimp only [Pt.U, Pt.locs, Pt.cells, Pt.slots] at X42 l42 y42 z42 st42 hQ42
  obtain rfl : c42 = 1 := y42
  obtain rfl : n42 = 16 := z42
  obtain ⟨rfl, N42q, e42⟩ := hQ42
  have N42 := own_frE l42 (Fr.app N0 N42q)
  have k43 : ∀ tg, Steps p.tables e below (T42.setTop (mkF m 45 #[.val (.long q1), .second, .val (.long q2), .second, .val (.int p3), .val (.int p4), .val (.int xw), .val (.int xc), .val (.int xl), .val (.ref b39)] [(.int (own_at q1 q2 (0 : Int32))), (.int (0 : Int32)), (.ref b39)])) tg → Steps p.tables e below (s₁.setTop (entryFrame m #[(.long q1), (.long q2), (.int p3), (.int p4)] maxLocals)) tg := fun tg kg => k41 tg (st42 tg kg)
  obtain ⟨cl0, Ar0, S0, G0⟩ := V0
  obtain ⟨T44, h44, X44, e44, W44, st44⟩ := stB X42 hx hZ e42 Ar0 (j := (0 : Int32)) (own_hin S0 (i := 0) (by decide) (by decide)) (g := (mkF m 45 #[.val (.long q1), .second, .val (.long q2), .second, .val (.int p3), .val (.int p4), .val (.int xw), .val (.int xc), .val (.int xl), .val (.ref b39)] [(.int (own_at q1 q2 (0 : Int32))), (.int (0 : Int32)), (.ref b39)])) rfl rfl (hb hby at_45)
  have N44 := Fr.snoc X44 N42 gv
  have k45 : ∀ tg, Steps p.tables e below (T44.setTop (mkF m 46 #[.val (.long q1), .second, .val (.long q2), .second, .val (.int p3), .val (.int p4), .val (.int xw), .val (.int xc), .val (.int xl), .val (.ref b39)] [])) tg → Steps p.tables e below (s₁.setTop (entryFrame m #[(.long q1), (.long q2), (.int p3), (.int p4)] maxLocals)) tg := fun tg kg => k43 tg (st44 tg kg)
  have V1 := (Av.set Ar0 S0 G0 (i := 0) (by decide) W44).congr (g' := fun j => .int (if j < 1 then own_at q1 q2 (Int32.ofInt j) else 0)) (fun j _ => own_fill (f := fun j : Nat => own_at q1 q2 (Int32.ofInt j)) (k := 0) ((own_nat _ _ _).trans (congrArg (own_at q1 q2) (by decide +kernel))) j)
  have Zv : n0 ≤ h44.size := Nat.le_trans Zv (Keep.of_wr W44).1
  have k46 : ∀ tg, Steps p.tables e below (T44.setTop (mkF m 52 #[.val (.long q1), .second, .val (.long q2), .second, .val (.int p3), .val (.int p4), .val (.int xw), .val (.int xc), .val (.int xl), .val (.ref b39)] [(.int (1 : Int32)), (.long q2), (.long q1), (.int (1 : Int32)), (.ref b39)])) tg → Steps p.tables e below (s₁.setTop (entryFrame m #[(.long q1), (.long q2), (.int p3), (.int p4)] maxLocals)) tg := fun tg kg => k45 tg (by
      show Steps p.tables e below (T44.setTop (mkF m 46 #[.val (.long q1), .second, .val (.long q2), .second, .val (.int p3), .val (.int p4), .val (.int xw), .val (.int xc), .val (.int xl), .val (.ref b39)] [])) _
      refine XS.aload X44.here hx rfl (hb hby at_46) rfl rfl ?_
      show Steps p.tables e below (T44.setTop (mkF m 48 #[.val (.long q1), .second, .val (.long q2), .second, .val (.int p3), .val (.int p4), .val (.int xw), .val (.int xc), .val (.int xl), .val (.ref b39)] [(.ref b39)])) _
      refine XS.iconst X44.here hx rfl (hb hby at_48) ?_
      show Steps p.tables e below (T44.setTop (mkF m 49 #[.val (.long q1), .second, .val (.long q2), .second, .val (.int p3), .val (.int p4), .val (.int xw), .val (.int xc), .val (.int xl), .val (.ref b39)] [(.int (1 : Int32)), (.ref b39)])) _
      refine XS.lloadN X44.here hx rfl (hb hby at_49) rfl ?_
      show Steps p.tables e below (T44.setTop (mkF m 50 #[.val (.long q1), .second, .val (.long q2), .second, .val (.int p3), .val (.int p4), .val (.int xw), .val (.int xc), .val (.int xl), .val (.ref b39)] [(.long q1), (.int (1 : Int32)), (.ref b39)])) _
      refine XS.lloadN X44.here hx rfl (hb hby at_50) rfl ?_
      show Steps p.tables e below (T44.setTop (mkF m 51 #[.val (.long q1), .second, .val (.long q2), .second, .val (.int p3), .val (.int p4), .val (.int xw), .val (.int xc), .val (.int xl), .val (.ref b39)] [(.long q2), (.long q1), (.int (1 : Int32)), (.ref b39)])) _
      refine XS.iconst X44.here hx rfl (hb hby at_51) ?_
      exact kg)
  obtain ⟨_, _, ⟨T47, L47, c47, n47⟩, -, X47, ⟨Lc47, hQ47, l47, y47, z47⟩, st47⟩ := Jvm.LawKit.callS X44 hx (y := (⟨"com/example/modalis/modalis/dicom/data/DataSetReaderToLittleEndianPinLaw", "at", "(JJI)B"⟩ : MethodName)) hown (mvT hZ (hw _ (List.mem_of_getElem? (i := 2) rfl))) (mvT hZ (hw _ (List.mem_of_getElem? (i := 3) rfl))) (mvT hZ (hw _ (List.mem_of_getElem? (i := 4) rfl))) (mvT hZ (hw _ (List.mem_of_getElem? (i := 5) rfl))) (by decide) (backOf (W := 2) (rm1 l Z a0 hw [] q1 q2 (1 : Int32) h44 n0 Zv) hZ (hw _ (List.mem_of_getElem? (i := 5) rfl)) (hw _ (List.mem_of_getElem? (i := 4) rfl)) (by decide) (by decide)) (g := (mkF m 52 #[.val (.long q1), .second, .val (.long q2), .second, .val (.int p3), .val (.int p4), .val (.int xw), .val (.int xc), .val (.int xl), .val (.ref b39)] [(.int (1 : Int32)), (.long q2), (.long q1), (.int (1 : Int32)), (.ref b39)])) rfl (by rw [hml]; rfl) (argsL := [(.long q1), (.long q2), (.int (1 : Int32))]) (rest := [(.int (1 : Int32)), (.ref b39)]) (lenOf own_pd0 rfl) rfl (by show 2 * 0 + _ ≤ _; exact Nat.le_of_eq rfl) (hb hby at_52) (fun _ _ => ⟨rfl, e44, (by decide : 1 + 0 ≤ _), (by decide : 16 + 0 ≤ _)⟩)
  dsimp only [Pt.U, Pt.locs, Pt.cells, Pt.slots] at X47 l47 y47 z47 st47 hQ47
  obtain rfl : c47 = 1 := y47
  obtain rfl : n47 = 16 := z47
  obtain ⟨rfl, N47q, e47⟩ := hQ47
  have N47 := own_frE l47 (Fr.app N44 N47q)
  have k48 : ∀ tg, Steps p.tables e below (T47.setTop (mkF m 55 #[.val (.long q1), .second, .val (.long q2), .second, .val (.int p3), .val (.int p4), .val (.int xw), .val (.int xc), .val (.int xl), .val (.ref b39)] [(.int (own_at q1 q2 (1 : Int32))), (.int (1 : Int32)), (.ref b39)])) tg → Steps p.tables e below (s₁.setTop (entryFrame m #[(.long q1), (.long q2), (.int p3), (.int p4)] maxLocals)) tg := fun tg kg => k46 tg (st47 tg kg)
  obtain ⟨cl1, Ar1, S1, G1⟩ := V1
  obtain ⟨T49, h49, X49, e49, W49, st49⟩ := stB X47 hx hZ e47 Ar1 (j := (1 : Int32)) (own_hin S1 (i := 1) (by decide) (by decide)) (g := (mkF m 55 #[.val (.long q1), .second, .val (.long q2), .second, .val (.int p3), .val (.int p4), .val (.int xw), .val (.int xc), .val (.int xl), .val (.ref b39)] [(.int (own_at q1 q2 (1 : Int32))), (.int (1 : Int32)), (.ref b39)])) rfl rfl (hb hby at_55)
  have N49 := Fr.snoc X49 N47 gv
  have k50 : ∀ tg, Steps p.tables e below (T49.setTop (mkF m 56 #[.val (.long q1), .second, .val (.long q2), .second, .val (.int p3), .val (.int p4), .val (.int xw), .val (.int xc), .val (.int xl), .val (.ref b39)] [])) tg → Steps p.tables e below (s₁.setTop (entryFrame m #[(.long q1), (.long q2), (.int p3), (.int p4)] maxLocals)) tg := fun tg kg => k48 tg (st49 tg kg)
  have V2 := (Av.set Ar1 S1 G1 (i := 1) (by decide) W49).congr (g' := fun j => .int (if j < 2 then own_at q1 q2 (Int32.ofInt j) else 0)) (fun j _ => own_fill (f := fun j : Nat => own_at q1 q2 (Int32.ofInt j)) (k := 1) ((own_nat _ _ _).trans (congrArg (own_at q1 q2) (by decide +kernel))) j)
  have Zv : n0 ≤ h49.size := Nat.le_trans Zv (Keep.of_wr W49).1
  have k51 : ∀ tg, Steps p.tables e below (T49.setTop (mkF m 62 #[.val (.long q1), .second, .val (.long q2), .second, .val (.int p3), .val (.int p4), .val (.int xw), .val (.int xc), .val (.int xl), .val (.ref b39)] [(.int (2 : Int32)), (.long q2), (.long q1), (.int (2 : Int32)), (.ref b39)])) tg → Steps p.tables e below (s₁.setTop (entryFrame m #[(.long q1), (.long q2), (.int p3), (.int p4)] maxLocals)) tg := fun tg kg => k50 tg (by
      show Steps p.tables e below (T49.setTop (mkF m 56 #[.val (.long q1), .second, .val (.long q2), .second, .val (.int p3), .val (.int p4), .val (.int xw), .val (.int xc), .val (.int xl), .val (.ref b39)] [])) _
      refine XS.aload X49.here hx rfl (hb hby at_56) rfl rfl ?_
      show Steps p.tables e below (T49.setTop (mkF m 58 #[.val (.long q1), .second, .val (.long q2), .second, .val (.int p3), .val (.int p4), .val (.int xw), .val (.int xc), .val (.int xl), .val (.ref b39)] [(.ref b39)])) _
      refine XS.iconst X49.here hx rfl (hb hby at_58) ?_
      show Steps p.tables e below (T49.setTop (mkF m 59 #[.val (.long q1), .second, .val (.long q2), .second, .val (.int p3), .val (.int p4), .val (.int xw), .val (.int xc), .val (.int xl), .val (.ref b39)] [(.int (2 : Int32)), (.ref b39)])) _
      refine XS.lloadN X49.here hx rfl (hb hby at_59) rfl ?_
      show Steps p.tables e below (T49.setTop (mkF m 60 #[.val (.long q1), .second, .val (.long q2), .second, .val (.int p3), .val (.int p4), .val (.int xw), .val (.int xc), .val (.int xl), .val (.ref b39)] [(.long q1), (.int (2 : Int32)), (.ref b39)])) _
      refine XS.lloadN X49.here hx rfl (hb hby at_60) rfl ?_
      show Steps p.tables e below (T49.setTop (mkF m 61 #[.val (.long q1), .second, .val (.long q2), .second, .val (.int p3), .val (.int p4), .val (.int xw), .val (.int xc), .val (.int xl), .val (.ref b39)] [(.long q2), (.long q1), (.int (2 : Int32)), (.ref b39)])) _
      refine XS.iconst X49.here hx rfl (hb hby at_61) ?_
      exact kg)
  obtain ⟨_, _, ⟨T52, L52, c52, n52⟩, -, X52, ⟨Lc52, hQ52, l52, y52, z52⟩, st52⟩ := Jvm.LawKit.callS X49 hx (y := (⟨"com/example/modalis/modalis/dicom/data/DataSetReaderToLittleEndianPinLaw", "at", "(JJI)B"⟩ : MethodName)) hown (mvT hZ (hw _ (List.mem_of_getElem? (i := 2) rfl))) (mvT hZ (hw _ (List.mem_of_getElem? (i := 3) rfl))) (mvT hZ (hw _ (List.mem_of_getElem? (i := 4) rfl))) (mvT hZ (hw _ (List.mem_of_getElem? (i := 5) rfl))) (by decide) (backOf (W := 2) (rm1 l Z a0 hw [] q1 q2 (2 : Int32) h49 n0 Zv) hZ (hw _ (List.mem_of_getElem? (i := 5) rfl)) (hw _ (List.mem_of_getElem? (i := 4) rfl)) (by decide) (by decide)) (g := (mkF m 62 #[.val (.long q1), .second, .val (.long q2), .second, .val (.int p3), .val (.int p4), .val (.int xw), .val (.int xc), .val (.int xl), .val (.ref b39)] [(.int (2 : Int32)), (.long q2), (.long q1), (.int (2 : Int32)), (.ref b39)])) rfl (by rw [hml]; rfl) (argsL := [(.long q1), (.long q2), (.int (2 : Int32))]) (rest := [(.int (2 : Int32)), (.ref b39)]) (lenOf own_pd0 rfl) rfl (by show 2 * 0 + _ ≤ _; exact Nat.le_of_eq rfl) (hb hby at_62) (fun _ _ => ⟨rfl, e49, (by decide : 1 + 0 ≤ _), (by decide : 16 + 0 ≤ _)⟩)
  dsimp only [Pt.U, Pt.locs, Pt.cells, Pt.slots] at X52 l52 y52 z52 st52 hQ52
  obtain rfl : c52 = 1 := y52
  obtain rfl : n52 = 16 := z52
  obtain ⟨rfl, N52q, e52⟩ := hQ52
  have N52 := own_frE l52 (Fr.app N49 N52q)
  have k53 : ∀ tg, Steps p.tables e below (T52.setTop (mkF m 65 #[.val (.long q1), .second, .val (.long q2), .second, .val (.int p3), .val (.int p4), .val (.int xw), .val (.int xc), .val (.int xl), .val (.ref b39)] [(.int (own_at q1 q2 (2 : Int32))), (.int (2 : Int32)), (.ref b39)])) tg → Steps p.tables e below (s₁.setTop (entryFrame m #[(.long q1), (.long q2), (.int p3), (.int p4)] maxLocals)) tg := fun tg kg => k51 tg (st52 tg kg)
  obtain ⟨cl2, Ar2, S2, G2⟩ := V2
  obtain ⟨T54, h54, X54, e54, W54, st54⟩ := stB X52 hx hZ e52 Ar2 (j := (2 : Int32)) (own_hin S2 (i := 2) (by decide) (by decide)) (g := (mkF m 65 #[.val (.long q1), .second, .val (.long q2), .second, .val (.int p3), .val (.int p4), .val (.int xw), .val (.int xc), .val (.int xl), .val (.ref b39)] [(.int (own_at q1 q2 (2 : Int32))), (.int (2 : Int32)), (.ref b39)])) rfl rfl (hb hby at_65)
  have N54 := Fr.snoc X54 N52 gv
  have k55 : ∀ tg, Steps p.tables e below (T54.setTop (mkF m 66 #[.val (.long q1), .second, .val (.long q2), .second, .val (.int p3), .val (.int p4), .val (.int xw), .val (.int xc), .val (.int xl), .val (.ref b39)] [])) tg → Steps p.tables e below (s₁.setTop (entryFrame m #[(.long q1), (.long q2), (.int p3), (.int p4)] maxLocals)) tg := fun tg kg => k53 tg (st54 tg kg)
  have V3 := (Av.set Ar2 S2 G2 (i := 2) (by decide) W54).congr (g' := fun j => .int (if j < 3 then own_at q1 q2 (Int32.ofInt j) else 0)) (fun j _ => own_fill (f := fun j : Nat => own_at q1 q2 (Int32.ofInt j)) (k := 2) ((own_nat _ _ _).trans (congrArg (own_at q1 q2) (by decide +kernel))) j)
  have Zv : n0 ≤ h54.size := Nat.le_trans Zv (Keep.of_wr W54).1
  have k56 : ∀ tg, Steps p.tables e below (T54.setTop (mkF m 72 #[.val (.long q1), .second, .val (.long q2), .second, .val (.int p3), .val (.int p4), .val (.int xw), .val (.int xc), .val (.int xl), .val (.ref b39)] [(.int (3 : Int32)), (.long q2), (.long q1), (.int (3 : Int32)), (.ref b39)])) tg → Steps p.tables e below (s₁.setTop (entryFrame m #[(.long q1), (.long q2), (.int p3), (.int p4)] maxLocals)) tg := fun tg kg => k55 tg (by
      show Steps p.tables e below (T54.setTop (mkF m 66 #[.val (.long q1), .second, .val (.long q2), .second, .val (.int p3), .val (.int p4), .val (.int xw), .val (.int xc), .val (.int xl), .val (.ref b39)] [])) _
      refine XS.aload X54.here hx rfl (hb hby at_66) rfl rfl ?_
      show Steps p.tables e below (T54.setTop (mkF m 68 #[.val (.long q1), .second, .val (.long q2), .second, .val (.int p3), .val (.int p4), .val (.int xw), .val (.int xc), .val (.int xl), .val (.ref b39)] [(.ref b39)])) _
      refine XS.iconst X54.here hx rfl (hb hby at_68) ?_
      show Steps p.tables e below (T54.setTop (mkF m 69 #[.val (.long q1), .second, .val (.long q2), .second, .val (.int p3), .val (.int p4), .val (.int xw), .val (.int xc), .val (.int xl), .val (.ref b39)] [(.int (3 : Int32)), (.ref b39)])) _
      refine XS.lloadN X54.here hx rfl (hb hby at_69) rfl ?_
      show Steps p.tables e below (T54.setTop (mkF m 70 #[.val (.long q1), .second, .val (.long q2), .second, .val (.int p3), .val (.int p4), .val (.int xw), .val (.int xc), .val (.int xl), .val (.ref b39)] [(.long q1), (.int (3 : Int32)), (.ref b39)])) _
      refine XS.lloadN X54.here hx rfl (hb hby at_70) rfl ?_
      show Steps p.tables e below (T54.setTop (mkF m 71 #[.val (.long q1), .second, .val (.long q2), .second, .val (.int p3), .val (.int p4), .val (.int xw), .val (.int xc), .val (.int xl), .val (.ref b39)] [(.long q2), (.long q1), (.int (3 : Int32)), (.ref b39)])) _
      refine XS.iconst X54.here hx rfl (hb hby at_71) ?_
      exact kg)
  obtain ⟨_, _, ⟨T57, L57, c57, n57⟩, -, X57, ⟨Lc57, hQ57, l57, y57, z57⟩, st57⟩ := Jvm.LawKit.callS X54 hx (y := (⟨"com/example/modalis/modalis/dicom/data/DataSetReaderToLittleEndianPinLaw", "at", "(JJI)B"⟩ : MethodName)) hown (mvT hZ (hw _ (List.mem_of_getElem? (i := 2) rfl))) (mvT hZ (hw _ (List.mem_of_getElem? (i := 3) rfl))) (mvT hZ (hw _ (List.mem_of_getElem? (i := 4) rfl))) (mvT hZ (hw _ (List.mem_of_getElem? (i := 5) rfl))) (by decide) (backOf (W := 2) (rm1 l Z a0 hw [] q1 q2 (3 : Int32) h54 n0 Zv) hZ (hw _ (List.mem_of_getElem? (i := 5) rfl)) (hw _ (List.mem_of_getElem? (i := 4) rfl)) (by decide) (by decide)) (g := (mkF m 72 #[.val (.long q1), .second, .val (.long q2), .second, .val (.int p3), .val (.int p4), .val (.int xw), .val (.int xc), .val (.int xl), .val (.ref b39)] [(.int (3 : Int32)), (.long q2), (.long q1), (.int (3 : Int32)), (.ref b39)])) rfl (by rw [hml]; rfl) (argsL := [(.long q1), (.long q2), (.int (3 : Int32))]) (rest := [(.int (3 : Int32)), (.ref b39)]) (lenOf own_pd0 rfl) rfl (by show 2 * 0 + _ ≤ _; exact Nat.le_of_eq rfl) (hb hby at_72) (fun _ _ => ⟨rfl, e54, (by decide : 1 + 0 ≤ _), (by decide : 16 + 0 ≤ _)⟩)
  dsimp only [Pt.U, Pt.locs, Pt.cells, Pt.slots] at X57 l57 y57 z57 st57 hQ57
  obtain rfl : c57 = 1 := y57
  obtain rfl : n57 = 16 := z57
  obtain ⟨rfl, N57q, e57⟩ := hQ57
  have N57 := own_frE l57 (Fr.app N54 N57q)
  have k58 : ∀ tg, Steps p.tables e below (T57.setTop (mkF m 75 #[.val (.long q1), .second, .val (.long q2), .second, .val (.int p3), .val (.int p4), .val (.int xw), .val (.int xc), .val (.int xl), .val (.ref b39)] [(.int (own_at q1 q2 (3 : Int32))), (.int (3 : Int32)), (.ref b39)])) tg → Steps p.tables e below (s₁.setTop (entryFrame m #[(.long q1), (.long q2), (.int p3), (.int p4)] maxLocals)) tg := fun tg kg => k56 tg (st57 tg kg)
  obtain ⟨cl3, Ar3, S3, G3⟩ := V3
  obtain ⟨T59, h59, X59, e59, W59, st59⟩ := stB X57 hx hZ e57 Ar3 (j := (3 : Int32)) (own_hin S3 (i := 3) (by decide) (by decide)) (g := (mkF m 75 #[.val (.long q1), .second, .val (.long q2), .second, .val (.int p3), .val (.int p4), .val (.int xw), .val (.int xc), .val (.int xl), .val (.ref b39)] [(.int (own_at q1 q2 (3 : Int32))), (.int (3 : Int32)), (.ref b39)])) rfl rfl (hb hby at_75)
  have N59 := Fr.snoc X59 N57 gv
  have k60 : ∀ tg, Steps p.tables e below (T59.setTop (mkF m 76 #[.val (.long q1), .second, .val (.long q2), .second, .val (.int p3), .val (.int p4), .val (.int xw), .val (.int xc), .val (.int xl), .val (.ref b39)] [])) tg → Steps p.tables e below (s₁.setTop (entryFrame m #[(.long q1), (.long q2), (.int p3), (.int p4)] maxLocals)) tg := fun tg kg => k58 tg (st59 tg kg)
  have V4 := (Av.set Ar3 S3 G3 (i := 3) (by decide) W59).congr (g' := fun j => .int (if j < 4 then own_at q1 q2 (Int32.ofInt j) else 0)) (fun j _ => own_fill (f := fun j : Nat => own_at q1 q2 (Int32.ofInt j)) (k := 3) ((own_nat _ _ _).trans (congrArg (own_at q1 q2) (by decide +kernel))) j)
  have Zv : n0 ≤ h59.size := Nat.le_trans Zv (Keep.of_wr W59).1
  have k61 : ∀ tg, Steps p.tables e below (T59.setTop (mkF m 82 #[.val (.long q1), .second, .val (.long q2), .second, .val (.int p3), .val (.int p4), .val (.int xw), .val (.int xc), .val (.int xl), .val (.ref b39)] [(.int (4 : Int32)), (.long q2), (.long q1), (.int (4 : Int32)), (.ref b39)])) tg → Steps p.tables e below (s₁.setTop (entryFrame m #[(.long q1), (.long q2), (.int p3), (.int p4)] maxLocals)) tg := fun tg kg => k60 tg (by
      show Steps p.tables e below (T59.setTop (mkF m 76 #[.val (.long q1), .second, .val (.long q2), .second, .val (.int p3), .val (.int p4), .val (.int xw), .val (.int xc), .val (.int xl), .val (.ref b39)] [])) _
      refine XS.aload X59.here hx rfl (hb hby at_76) rfl rfl ?_
      show Steps p.tables e below (T59.setTop (mkF m 78 #[.val (.long q1), .second, .val (.long q2), .second, .val (.int p3), .val (.int p4), .val (.int xw), .val (.int xc), .val (.int xl), .val (.ref b39)] [(.ref b39)])) _
      refine XS.iconst X59.here hx rfl (hb hby at_78) ?_
      show Steps p.tables e below (T59.setTop (mkF m 79 #[.val (.long q1), .second, .val (.long q2), .second, .val (.int p3), .val (.int p4), .val (.int xw), .val (.int xc), .val (.int xl), .val (.ref b39)] [(.int (4 : Int32)), (.ref b39)])) _
      refine XS.lloadN X59.here hx rfl (hb hby at_79) rfl ?_
      show Steps p.tables e below (T59.setTop (mkF m 80 #[.val (.long q1), .second, .val (.long q2), .second, .val (.int p3), .val (.int p4), .val (.int xw), .val (.int xc), .val (.int xl), .val (.ref b39)] [(.long q1), (.int (4 : Int32)), (.ref b39)])) _
      refine XS.lloadN X59.here hx rfl (hb hby at_80) rfl ?_
      show Steps p.tables e below (T59.setTop (mkF m 81 #[.val (.long q1), .second, .val (.long q2), .second, .val (.int p3), .val (.int p4), .val (.int xw), .val (.int xc), .val (.int xl), .val (.ref b39)] [(.long q2), (.long q1), (.int (4 : Int32)), (.ref b39)])) _
      refine XS.iconst X59.here hx rfl (hb hby at_81) ?_
      exact kg)
  obtain ⟨_, _, ⟨T62, L62, c62, n62⟩, -, X62, ⟨Lc62, hQ62, l62, y62, z62⟩, st62⟩ := Jvm.LawKit.callS X59 hx (y := (⟨"com/example/modalis/modalis/dicom/data/DataSetReaderToLittleEndianPinLaw", "at", "(JJI)B"⟩ : MethodName)) hown (mvT hZ (hw _ (List.mem_of_getElem? (i := 2) rfl))) (mvT hZ (hw _ (List.mem_of_getElem? (i := 3) rfl))) (mvT hZ (hw _ (List.mem_of_getElem? (i := 4) rfl))) (mvT hZ (hw _ (List.mem_of_getElem? (i := 5) rfl))) (by decide) (backOf (W := 2) (rm1 l Z a0 hw [] q1 q2 (4 : Int32) h59 n0 Zv) hZ (hw _ (List.mem_of_getElem? (i := 5) rfl)) (hw _ (List.mem_of_getElem? (i := 4) rfl)) (by decide) (by decide)) (g := (mkF m 82 #[.val (.long q1), .second, .val (.long q2), .second, .val (.int p3), .val (.int p4), .val (.int xw), .val (.int xc), .val (.int xl), .val (.ref b39)] [(.int (4 : Int32)), (.long q2), (.long q1), (.int (4 : Int32)), (.ref b39)])) rfl (by rw [hml]; rfl) (argsL := [(.long q1), (.long q2), (.int (4 : Int32))]) (rest := [(.int (4 : Int32)), (.ref b39)]) (lenOf own_pd0 rfl) rfl (by show 2 * 0 + _ ≤ _; exact Nat.le_of_eq rfl) (hb hby at_82) (fun _ _ => ⟨rfl, e59, (by decide : 1 + 0 ≤ _), (by decide : 16 + 0 ≤ _)⟩)
  dsimp only [Pt.U, Pt.locs, Pt.cells, Pt.slots] at X62 l62 y62 z62 st62 hQ62
  obtain rfl : c62 = 1 := y62
  obtain rfl : n62 = 16 := z62
  obtain ⟨rfl, N62q, e62⟩ := hQ62
  have N62 := own_frE l62 (Fr.app N59 N62q)
  have k63 : ∀ tg, Steps p.tables e below (T62.setTop (mkF m 85 #[.val (.long q1), .second, .val (.long q2), .second, .val (.int p3), .val (.int p4), .val (.int xw), .val (.int xc), .val (.int xl), .val (.ref b39)] [(.int (own_at q1 q2 (4 : Int32))), (.int (4 : Int32)), (.ref b39)])) tg → Steps p.tables e below (s₁.setTop (entryFrame m #[(.long q1), (.long q2), (.int p3), (.int p4)] maxLocals)) tg := fun tg kg => k61 tg (st62 tg kg)
  obtain ⟨cl4, Ar4, S4, G4⟩ := V4
  obtain ⟨T64, h64, X64, e64, W64, st64⟩ := stB X62 hx hZ e62 Ar4 (j := (4 : Int32)) (own_hin S4 (i := 4) (by decide) (by decide)) (g := (mkF m 85 #[.val (.long q1), .second, .val (.long q2), .second, .val (.int p3), .val (.int p4), .val (.int xw), .val (.int xc), .val (.int xl), .val (.ref b39)] [(.int (own_at q1 q2 (4 : Int32))), (.int (4 : Int32)), (.ref b39)])) rfl rfl (hb hby at_85)
  have N64 := Fr.snoc X64 N62 gv
  have k65 : ∀ tg, Steps p.tables e below (T64.setTop (mkF m 86 #[.val (.long q1), .second, .val (.long q2), .second, .val (.int p3), .val (.int p4), .val (.int xw), .val (.int xc), .val (.int xl), .val (.ref b39)] [])) tg → Steps p.tables e below (s₁.setTop (entryFrame m #[(.long q1), (.long q2), (.int p3), (.int p4)] maxLocals)) tg := fun tg kg => k63 tg (st64 tg kg)
  have V5 := (Av.set Ar4 S4 G4 (i := 4) (by decide) W64).congr (g' := fun j => .int (if j < 5 then own_at q1 q2 (Int32.ofInt j) else 0)) (fun j _ => own_fill (f := fun j : Nat => own_at q1 q2 (Int32.ofInt j)) (k := 4) ((own_nat _ _ _).trans (congrArg (own_at q1 q2) (by decide +kernel))) j)
  have Zv : n0 ≤ h64.size := Nat.le_trans Zv (Keep.of_wr W64).1
  have k66 : ∀ tg, Steps p.tables e below (T64.setTop (mkF m 92 #[.val (.long q1), .second, .val (.long q2), .second, .val (.int p3), .val (.int p4), .val (.int xw), .val (.int xc), .val (.int xl), .val (.ref b39)] [(.int (5 : Int32)), (.long q2), (.long q1), (.int (5 : Int32)), (.ref b39)])) tg → Steps p.tables e below (s₁.setTop (entryFrame m #[(.long q1), (.long q2), (.int p3), (.int p4)] maxLocals)) tg := fun tg kg => k65 tg (by
      show Steps p.tables e below (T64.setTop (mkF m 86 #[.val (.long q1), .second, .val (.long q2), .second, .val (.int p3), .val (.int p4), .val (.int xw), .val (.int xc), .val (.int xl), .val (.ref b39)] [])) _
      refine XS.aload X64.here hx rfl (hb hby at_86) rfl rfl ?_
      show Steps p.tables e below (T64.setTop (mkF m 88 #[.val (.long q1), .second, .val (.long q2), .second, .val (.int p3), .val (.int p4), .val (.int xw), .val (.int xc), .val (.int xl), .val (.ref b39)] [(.ref b39)])) _
      refine XS.iconst X64.here hx rfl (hb hby at_88) ?_
      show Steps p.tables e below (T64.setTop (mkF m 89 #[.val (.long q1), .second, .val (.long q2), .second, .val (.int p3), .val (.int p4), .val (.int xw), .val (.int xc), .val (.int xl), .val (.ref b39)] [(.int (5 : Int32)), (.ref b39)])) _
      refine XS.lloadN X64.here hx rfl (hb hby at_89) rfl ?_
      show Steps p.tables e below (T64.setTop (mkF m 90 #[.val (.long q1), .second, .val (.long q2), .second, .val (.int p3), .val (.int p4), .val (.int xw), .val (.int xc), .val (.int xl), .val (.ref b39)] [(.long q1), (.int (5 : Int32)), (.ref b39)])) _
      refine XS.lloadN X64.here hx rfl (hb hby at_90) rfl ?_
      show Steps p.tables e below (T64.setTop (mkF m 91 #[.val (.long q1), .second, .val (.long q2), .second, .val (.int p3), .val (.int p4), .val (.int xw), .val (.int xc), .val (.int xl), .val (.ref b39)] [(.long q2), (.long q1), (.int (5 : Int32)), (.ref b39)])) _
      refine XS.iconst X64.here hx rfl (hb hby at_91) ?_
      exact kg)
  obtain ⟨_, _, ⟨T67, L67, c67, n67⟩, -, X67, ⟨Lc67, hQ67, l67, y67, z67⟩, st67⟩ := Jvm.LawKit.callS X64 hx (y := (⟨"com/example/modalis/modalis/dicom/data/DataSetReaderToLittleEndianPinLaw", "at", "(JJI)B"⟩ : MethodName)) hown (mvT hZ (hw _ (List.mem_of_getElem? (i := 2) rfl))) (mvT hZ (hw _ (List.mem_of_getElem? (i := 3) rfl))) (mvT hZ (hw _ (List.mem_of_getElem? (i := 4) rfl))) (mvT hZ (hw _ (List.mem_of_getElem? (i := 5) rfl))) (by decide) (backOf (W := 2) (rm1 l Z a0 hw [] q1 q2 (5 : Int32) h64 n0 Zv) hZ (hw _ (List.mem_of_getElem? (i := 5) rfl)) (hw _ (List.mem_of_getElem? (i := 4) rfl)) (by decide) (by decide)) (g := (mkF m 92 #[.val (.long q1), .second, .val (.long q2), .second, .val (.int p3), .val (.int p4), .val (.int xw), .val (.int xc), .val (.int xl), .val (.ref b39)] [(.int (5 : Int32)), (.long q2), (.long q1), (.int (5 : Int32)), (.ref b39)])) rfl (by rw [hml]; rfl) (argsL := [(.long q1), (.long q2), (.int (5 : Int32))]) (rest := [(.int (5 : Int32)), (.ref b39)]) (lenOf own_pd0 rfl) rfl (by show 2 * 0 + _ ≤ _; exact Nat.le_of_eq rfl) (hb hby at_92) (fun _ _ => ⟨rfl, e64, (by decide : 1 + 0 ≤ _), (by decide : 16 + 0 ≤ _)⟩)
  dsimp only [Pt.U, Pt.locs, Pt.cells, Pt.slots] at X67 l67 y67 z67 st67 hQ67
  obtain rfl : c67 = 1 := y67
  obtain rfl : n67 = 16 := z67
  obtain ⟨rfl, N67q, e67⟩ := hQ67
  have N67 := own_frE l67 (Fr.app N64 N67q)
  have k68 : ∀ tg, Steps p.tables e below (T67.setTop (mkF m 95 #[.val (.long q1), .second, .val (.long q2), .second, .val (.int p3), .val (.int p4), .val (.int xw), .val (.int xc), .val (.int xl), .val (.ref b39)] [(.int (own_at q1 q2 (5 : Int32))), (.int (5 : Int32)), (.ref b39)])) tg → Steps p.tables e below (s₁.setTop (entryFrame m #[(.long q1), (.long q2), (.int p3), (.int p4)] maxLocals)) tg := fun tg kg => k66 tg (st67 tg kg)
  obtain ⟨cl5, Ar5, S5, G5⟩ := V5
  obtain ⟨T69, h69, X69, e69, W69, st69⟩ := stB X67 hx hZ e67 Ar5 (j := (5 : Int32)) (own_hin S5 (i := 5) (by decide) (by decide)) (g := (mkF m 95 #[.val (.long q1), .second, .val (.long q2), .second, .val (.int p3), .val (.int p4), .val (.int xw), .val (.int xc), .val (.int xl), .val (.ref b39)] [(.int (own_at q1 q2 (5 : Int32))), (.int (5 : Int32)), (.ref b39)])) rfl rfl (hb hby at_95)
  have N69 := Fr.snoc X69 N67 gv
  have k70 : ∀ tg, Steps p.tables e below (T69.setTop (mkF m 96 #[.val (.long q1), .second, .val (.long q2), .second, .val (.int p3), .val (.int p4), .val (.int xw), .val (.int xc), .val (.int xl), .val (.ref b39)] [])) tg → Steps p.tables e below (s₁.setTop (entryFrame m #[(.long q1), (.long q2), (.int p3), (.int p4)] maxLocals)) tg := fun tg kg => k68 tg (st69 tg kg)
  have V6 := (Av.set Ar5 S5 G5 (i := 5) (by decide) W69).congr (g' := fun j => .int (if j < 6 then own_at q1 q2 (Int32.ofInt j) else 0)) (fun j _ => own_fill (f := fun j : Nat => own_at q1 q2 (Int32.ofInt j)) (k := 5) ((own_nat _ _ _).trans (congrArg (own_at q1 q2) (by decide +kernel))) j)
  have Zv : n0 ≤ h69.size := Nat.le_trans Zv (Keep.of_wr W69).1
  have k71 : ∀ tg, Steps p.tables e below (T69.setTop (mkF m 104 #[.val (.long q1), .second, .val (.long q2), .second, .val (.int p3), .val (.int p4), .val (.int xw), .val (.int xc), .val (.int xl), .val (.ref b39)] [(.int (6 : Int32)), (.long q2), (.long q1), (.int (6 : Int32)), (.ref b39)])) tg → Steps p.tables e below (s₁.setTop (entryFrame m #[(.long q1), (.long q2), (.int p3), (.int p4)] maxLocals)) tg := fun tg kg => k70 tg (by
      show Steps p.tables e below (T69.setTop (mkF m 96 #[.val (.long q1), .second, .val (.long q2), .second, .val (.int p3), .val (.int p4), .val (.int xw), .val (.int xc), .val (.int xl), .val (.ref b39)] [])) _
      refine XS.aload X69.here hx rfl (hb hby at_96) rfl rfl ?_
      show Steps p.tables e below (T69.setTop (mkF m 98 #[.val (.long q1), .second, .val (.long q2), .second, .val (.int p3), .val (.int p4), .val (.int xw), .val (.int xc), .val (.int xl), .val (.ref b39)] [(.ref b39)])) _
      refine XS.bipush X69.here hx rfl (hb hby at_98) ?_
      show Steps p.tables e below (T69.setTop (mkF m 100 #[.val (.long q1), .second, .val (.long q2), .second, .val (.int p3), .val (.int p4), .val (.int xw), .val (.int xc), .val (.int xl), .val (.ref b39)] [(.int (6 : Int32)), (.ref b39)])) _
      refine XS.lloadN X69.here hx rfl (hb hby at_100) rfl ?_
      show Steps p.tables e below (T69.setTop (mkF m 101 #[.val (.long q1), .second, .val (.long q2), .second, .val (.int p3), .val (.int p4), .val (.int xw), .val (.int xc), .val (.int xl), .val (.ref b39)] [(.long q1), (.int (6 : Int32)), (.ref b39)])) _
      refine XS.lloadN X69.here hx rfl (hb hby at_101) rfl ?_
      show Steps p.tables e below (T69.setTop (mkF m 102 #[.val (.long q1), .second, .val (.long q2), .second, .val (.int p3), .val (.int p4), .val (.int xw), .val (.int xc), .val (.int xl), .val (.ref b39)] [(.long q2), (.long q1), (.int (6 : Int32)), (.ref b39)])) _
      refine XS.bipush X69.here hx rfl (hb hby at_102) ?_
      exact kg)
  obtain ⟨_, _, ⟨T72, L72, c72, n72⟩, -, X72, ⟨Lc72, hQ72, l72, y72, z72⟩, st72⟩ := Jvm.LawKit.callS X69 hx (y := (⟨"com/example/modalis/modalis/dicom/data/DataSetReaderToLittleEndianPinLaw", "at", "(JJI)B"⟩ : MethodName)) hown (mvT hZ (hw _ (List.mem_of_getElem? (i := 2) rfl))) (mvT hZ (hw _ (List.mem_of_getElem? (i := 3) rfl))) (mvT hZ (hw _ (List.mem_of_getElem? (i := 4) rfl))) (mvT hZ (hw _ (List.mem_of_getElem? (i := 5) rfl))) (by decide) (backOf (W := 2) (rm1 l Z a0 hw [] q1 q2 (6 : Int32) h69 n0 Zv) hZ (hw _ (List.mem_of_getElem? (i := 5) rfl)) (hw _ (List.mem_of_getElem? (i := 4) rfl)) (by decide) (by decide)) (g := (mkF m 104 #[.val (.long q1), .second, .val (.long q2), .second, .val (.int p3), .val (.int p4), .val (.int xw), .val (.int xc), .val (.int xl), .val (.ref b39)] [(.int (6 : Int32)), (.long q2), (.long q1), (.int (6 : Int32)), (.ref b39)])) rfl (by rw [hml]; rfl) (argsL := [(.long q1), (.long q2), (.int (6 : Int32))]) (rest := [(.int (6 : Int32)), (.ref b39)]) (lenOf own_pd0 rfl) rfl (by show 2 * 0 + _ ≤ _; exact Nat.le_of_eq rfl) (hb hby at_104) (fun _ _ => ⟨rfl, e69, (by decide : 1 + 0 ≤ _), (by decide : 16 + 0 ≤ _)⟩)
  dsimp only [Pt.U, Pt.locs, Pt.cells, Pt.slots] at X72 l72 y72 z72 st72 hQ72
  obtain rfl : c72 = 1 := y72
  obtain rfl : n72 = 16 := z72
  obtain ⟨rfl, N72q, e72⟩ := hQ72
  have N72 := own_frE l72 (Fr.app N69 N72q)
  have k73 : ∀ tg, Steps p.tables e below (T72.setTop (mkF m 107 #[.val (.long q1), .second, .val (.long q2), .second, .val (.int p3), .val (.int p4), .val (.int xw), .val (.int xc), .val (.int xl), .val (.ref b39)] [(.int (own_at q1 q2 (6 : Int32))), (.int (6 : Int32)), (.ref b39)])) tg → Steps p.tables e below (s₁.setTop (entryFrame m #[(.long q1), (.long q2), (.int p3), (.int p4)] maxLocals)) tg := fun tg kg => k71 tg (st72 tg kg)
  obtain ⟨cl6, Ar6, S6, G6⟩ := V6
  obtain ⟨T74, h74, X74, e74, W74, st74⟩ := stB X72 hx hZ e72 Ar6 (j := (6 : Int32)) (own_hin S6 (i := 6) (by decide) (by decide)) (g := (mkF m 107 #[.val (.long q1), .second, .val (.long q2), .second, .val (.int p3), .val (.int p4), .val (.int xw), .val (.int xc), .val (.int xl), .val (.ref b39)] [(.int (own_at q1 q2 (6 : Int32))), (.int (6 : Int32)), (.ref b39)])) rfl rfl (hb hby at_107)
  have N74 := Fr.snoc X74 N72 gv
  have k75 : ∀ tg, Steps p.tables e below (T74.setTop (mkF m 108 #[.val (.long q1), .second, .val (.long q2), .second, .val (.int p3), .val (.int p4), .val (.int xw), .val (.int xc), .val (.int xl), .val (.ref b39)] [])) tg → Steps p.tables e below (s₁.setTop (entryFrame m #[(.long q1), (.long q2), (.int p3), (.int p4)] maxLocals)) tg := fun tg kg => k73 tg (st74 tg kg)
  have V7 := (Av.set Ar6 S6 G6 (i := 6) (by decide) W74).congr (g' := fun j => .int (if j < 7 then own_at q1 q2 (Int32.ofInt j) else 0)) (fun j _ => own_fill (f := fun j : Nat => own_at q1 q2 (Int32.ofInt j)) (k := 6) ((own_nat _ _ _).trans (congrArg (own_at q1 q2) (by decide +kernel))) j)
  have Zv : n0 ≤ h74.size := Nat.le_trans Zv (Keep.of_wr W74).1
  have k76 : ∀ tg, Steps p.tables e below (T74.setTop (mkF m 116 #[.val (.long q1), .second, .val (.long q2), .second, .val (.int p3), .val (.int p4), .val (.int xw), .val (.int xc), .val (.int xl), .val (.ref b39)] [(.int (7 : Int32)), (.long q2), (.long q1), (.int (7 : Int32)), (.ref b39)])) tg → Steps p.tables e below (s₁.setTop (entryFrame m #[(.long q1), (.long q2), (.int p3), (.int p4)] maxLocals)) tg := fun tg kg => k75 tg (by
      show Steps p.tables e below (T74.setTop (mkF m 108 #[.val (.long q1), .second, .val (.long q2), .second, .val (.int p3), .val (.int p4), .val (.int xw), .val (.int xc), .val (.int xl), .val (.ref b39)] [])) _
      refine XS.aload X74.here hx rfl (hb hby at_108) rfl rfl ?_
      show Steps p.tables e below (T74.setTop (mkF m 110 #[.val (.long q1), .second, .val (.long q2), .second, .val (.int p3), .val (.int p4), .val (.int xw), .val (.int xc), .val (.int xl), .val (.ref b39)] [(.ref b39)])) _
      refine XS.bipush X74.here hx rfl (hb hby at_110) ?_
      show Steps p.tables e below (T74.setTop (mkF m 112 #[.val (.long q1), .second, .val (.long q2), .second, .val (.int p3), .val (.int p4), .val (.int xw), .val (.int xc), .val (.int xl), .val (.ref b39)] [(.int (7 : Int32)), (.ref b39)])) _
      refine XS.lloadN X74.here hx rfl (hb hby at_112) rfl ?_
      show Steps p.tables e below (T74.setTop (mkF m 113 #[.val (.long q1), .second, .val (.long q2), .second, .val (.int p3), .val (.int p4), .val (.int xw), .val (.int xc), .val (.int xl), .val (.ref b39)] [(.long q1), (.int (7 : Int32)), (.ref b39)])) _
      refine XS.lloadN X74.here hx rfl (hb hby at_113) rfl ?_
      show Steps p.tables e below (T74.setTop (mkF m 114 #[.val (.long q1), .second, .val (.long q2), .second, .val (.int p3), .val (.int p4), .val (.int xw), .val (.int xc), .val (.int xl), .val (.ref b39)] [(.long q2), (.long q1), (.int (7 : Int32)), (.ref b39)])) _
      refine XS.bipush X74.here hx rfl (hb hby at_114) ?_
      exact kg)
  obtain ⟨_, _, ⟨T77, L77, c77, n77⟩, -, X77, ⟨Lc77, hQ77, l77, y77, z77⟩, st77⟩ := Jvm.LawKit.callS X74 hx (y := (⟨"com/example/modalis/modalis/dicom/data/DataSetReaderToLittleEndianPinLaw", "at", "(JJI)B"⟩ : MethodName)) hown (mvT hZ (hw _ (List.mem_of_getElem? (i := 2) rfl))) (mvT hZ (hw _ (List.mem_of_getElem? (i := 3) rfl))) (mvT hZ (hw _ (List.mem_of_getElem? (i := 4) rfl))) (mvT hZ (hw _ (List.mem_of_getElem? (i := 5) rfl))) (by decide) (backOf (W := 2) (rm1 l Z a0 hw [] q1 q2 (7 : Int32) h74 n0 Zv) hZ (hw _ (List.mem_of_getElem? (i := 5) rfl)) (hw _ (List.mem_of_getElem? (i := 4) rfl)) (by decide) (by decide)) (g := (mkF m 116 #[.val (.long q1), .second, .val (.long q2), .second, .val (.int p3), .val (.int p4), .val (.int xw), .val (.int xc), .val (.int xl), .val (.ref b39)] [(.int (7 : Int32)), (.long q2), (.long q1), (.int (7 : Int32)), (.ref b39)])) rfl (by rw [hml]; rfl) (argsL := [(.long q1), (.long q2), (.int (7 : Int32))]) (rest := [(.int (7 : Int32)), (.ref b39)]) (lenOf own_pd0 rfl) rfl (by show 2 * 0 + _ ≤ _; exact Nat.le_of_eq rfl) (hb hby at_116) (fun _ _ => ⟨rfl, e74, (by decide : 1 + 0 ≤ _), (by decide : 16 + 0 ≤ _)⟩)
  dsimp only [Pt.U, Pt.locs, Pt.cells, Pt.slots] at X77 l77 y77 z77 st77 hQ77
  obtain rfl : c77 = 1 := y77
  obtain rfl : n77 = 16 := z77
  obtain ⟨rfl, N77q, e77⟩ := hQ77
  have N77 := own_frE l77 (Fr.app N74 N77q)
  have k78 : ∀ tg, Steps p.tables e below (T77.setTop (mkF m 119 #[.val (.long q1), .second, .val (.long q2), .second, .val (.int p3), .val (.int p4), .val (.int xw), .val (.int xc), .val (.int xl), .val (.ref b39)] [(.int (own_at q1 q2 (7 : Int32))), (.int (7 : Int32)), (.ref b39)])) tg → Steps p.tables e below (s₁.setTop (entryFrame m #[(.long q1), (.long q2), (.int p3), (.int p4)] maxLocals)) tg := fun tg kg => k76 tg (st77 tg kg)
  obtain ⟨cl7, Ar7, S7, G7⟩ := V7
  obtain ⟨T79, h79, X79, e79, W79, st79⟩ := stB X77 hx hZ e77 Ar7 (j := (7 : Int32)) (own_hin S7 (i := 7) (by decide) (by decide)) (g := (mkF m 119 #[.val (.long q1), .second, .val (.long q2), .second, .val (.int p3), .val (.int p4), .val (.int xw), .val (.int xc), .val (.int xl), .val (.ref b39)] [(.int (own_at q1 q2 (7 : Int32))), (.int (7 : Int32)), (.ref b39)])) rfl rfl (hb hby at_119)
  have N79 := Fr.snoc X79 N77 gv
  have k80 : ∀ tg, Steps p.tables e below (T79.setTop (mkF m 120 #[.val (.long q1), .second, .val (.long q2), .second, .val (.int p3), .val (.int p4), .val (.int xw), .val (.int xc), .val (.int xl), .val (.ref b39)] [])) tg → Steps p.tables e below (s₁.setTop (entryFrame m #[(.long q1), (.long q2), (.int p3), (.int p4)] maxLocals)) tg := fun tg kg => k78 tg (st79 tg kg)
  have V8 := (Av.set Ar7 S7 G7 (i := 7) (by decide) W79).congr (g' := fun j => .int (if j < 8 then own_at q1 q2 (Int32.ofInt j) else 0)) (fun j _ => own_fill (f := fun j : Nat => own_at q1 q2 (Int32.ofInt j)) (k := 7) ((own_nat _ _ _).trans (congrArg (own_at q1 q2) (by decide +kernel))) j)
  have Zv : n0 ≤ h79.size := Nat.le_trans Zv (Keep.of_wr W79).1
  have k81 : ∀ tg, Steps p.tables e below (T79.setTop (mkF m 128 #[.val (.long q1), .second, .val (.long q2), .second, .val (.int p3), .val (.int p4), .val (.int xw), .val (.int xc), .val (.int xl), .val (.ref b39)] [(.int (8 : Int32)), (.long q2), (.long q1), (.int (8 : Int32)), (.ref b39)])) tg → Steps p.tables e below (s₁.setTop (entryFrame m #[(.long q1), (.long q2), (.int p3), (.int p4)] maxLocals)) tg := fun tg kg => k80 tg (by
      show Steps p.tables e below (T79.setTop (mkF m 120 #[.val (.long q1), .second, .val (.long q2), .second, .val (.int p3), .val (.int p4), .val (.int xw), .val (.int xc), .val (.int xl), .val (.ref b39)] [])) _
      refine XS.aload X79.here hx rfl (hb hby at_120) rfl rfl ?_
      show Steps p.tables e below (T79.setTop (mkF m 122 #[.val (.long q1), .second, .val (.long q2), .second, .val (.int p3), .val (.int p4), .val (.int xw), .val (.int xc), .val (.int xl), .val (.ref b39)] [(.ref b39)])) _
      refine XS.bipush X79.here hx rfl (hb hby at_122) ?_
      show Steps p.tables e below (T79.setTop (mkF m 124 #[.val (.long q1), .second, .val (.long q2), .second, .val (.int p3), .val (.int p4), .val (.int xw), .val (.int xc), .val (.int xl), .val (.ref b39)] [(.int (8 : Int32)), (.ref b39)])) _
      refine XS.lloadN X79.here hx rfl (hb hby at_124) rfl ?_
      show Steps p.tables e below (T79.setTop (mkF m 125 #[.val (.long q1), .second, .val (.long q2), .second, .val (.int p3), .val (.int p4), .val (.int xw), .val (.int xc), .val (.int xl), .val (.ref b39)] [(.long q1), (.int (8 : Int32)), (.ref b39)])) _
      refine XS.lloadN X79.here hx rfl (hb hby at_125) rfl ?_
      show Steps p.tables e below (T79.setTop (mkF m 126 #[.val (.long q1), .second, .val (.long q2), .second, .val (.int p3), .val (.int p4), .val (.int xw), .val (.int xc), .val (.int xl), .val (.ref b39)] [(.long q2), (.long q1), (.int (8 : Int32)), (.ref b39)])) _
      refine XS.bipush X79.here hx rfl (hb hby at_126) ?_
      exact kg)
  obtain ⟨_, _, ⟨T82, L82, c82, n82⟩, -, X82, ⟨Lc82, hQ82, l82, y82, z82⟩, st82⟩ := Jvm.LawKit.callS X79 hx (y := (⟨"com/example/modalis/modalis/dicom/data/DataSetReaderToLittleEndianPinLaw", "at", "(JJI)B"⟩ : MethodName)) hown (mvT hZ (hw _ (List.mem_of_getElem? (i := 2) rfl))) (mvT hZ (hw _ (List.mem_of_getElem? (i := 3) rfl))) (mvT hZ (hw _ (List.mem_of_getElem? (i := 4) rfl))) (mvT hZ (hw _ (List.mem_of_getElem? (i := 5) rfl))) (by decide) (backOf (W := 2) (rm1 l Z a0 hw [] q1 q2 (8 : Int32) h79 n0 Zv) hZ (hw _ (List.mem_of_getElem? (i := 5) rfl)) (hw _ (List.mem_of_getElem? (i := 4) rfl)) (by decide) (by decide)) (g := (mkF m 128 #[.val (.long q1), .second, .val (.long q2), .second, .val (.int p3), .val (.int p4), .val (.int xw), .val (.int xc), .val (.int xl), .val (.ref b39)] [(.int (8 : Int32)), (.long q2), (.long q1), (.int (8 : Int32)), (.ref b39)])) rfl (by rw [hml]; rfl) (argsL := [(.long q1), (.long q2), (.int (8 : Int32))]) (rest := [(.int (8 : Int32)), (.ref b39)]) (lenOf own_pd0 rfl) rfl (by show 2 * 0 + _ ≤ _; exact Nat.le_of_eq rfl) (hb hby at_128) (fun _ _ => ⟨rfl, e79, (by decide : 1 + 0 ≤ _), (by decide : 16 + 0 ≤ _)⟩)
  dsimp only [Pt.U, Pt.locs, Pt.cells, Pt.slots] at X82 l82 y82 z82 st82 hQ82
  obtain rfl : c82 = 1 := y82
  obtain rfl : n82 = 16 := z82
  obtain ⟨rfl, N82q, e82⟩ := hQ82
  have N82 := own_frE l82 (Fr.app N79 N82q)
  have k83 : ∀ tg, Steps p.tables e below (T82.setTop (mkF m 131 #[.val (.long q1), .second, .val (.long q2), .second, .val (.int p3), .val (.int p4), .val (.int xw), .val (.int xc), .val (.int xl), .val (.ref b39)] [(.int (own_at q1 q2 (8 : Int32))), (.int (8 : Int32)), (.ref b39)])) tg → Steps p.tables e below (s₁.setTop (entryFrame m #[(.long q1), (.long q2), (.int p3), (.int p4)] maxLocals)) tg := fun tg kg => k81 tg (st82 tg kg)
  obtain ⟨cl8, Ar8, S8, G8⟩ := V8
  obtain ⟨T84, h84, X84, e84, W84, st84⟩ := stB X82 hx hZ e82 Ar8 (j := (8 : Int32)) (own_hin S8 (i := 8) (by decide) (by decide)) (g := (mkF m 131 #[.val (.long q1), .second, .val (.long q2), .second, .val (.int p3), .val (.int p4), .val (.int xw), .val (.int xc), .val (.int xl), .val (.ref b39)] [(.int (own_at q1 q2 (8 : Int32))), (.int (8 : Int32)), (.ref b39)])) rfl rfl (hb hby at_131)
  have N84 := Fr.snoc X84 N82 gv
  have k85 : ∀ tg, Steps p.tables e below (T84.setTop (mkF m 132 #[.val (.long q1), .second, .val (.long q2), .second, .val (.int p3), .val (.int p4), .val (.int xw), .val (.int xc), .val (.int xl), .val (.ref b39)] [])) tg → Steps p.tables e below (s₁.setTop (entryFrame m #[(.long q1), (.long q2), (.int p3), (.int p4)] maxLocals)) tg := fun tg kg => k83 tg (st84 tg kg)
  have V9 := (Av.set Ar8 S8 G8 (i := 8) (by decide) W84).congr (g' := fun j => .int (if j < 9 then own_at q1 q2 (Int32.ofInt j) else 0)) (fun j _ => own_fill (f := fun j : Nat => own_at q1 q2 (Int32.ofInt j)) (k := 8) ((own_nat _ _ _).trans (congrArg (own_at q1 q2) (by decide +kernel))) j)
  have Zv : n0 ≤ h84.size := Nat.le_trans Zv (Keep.of_wr W84).1
  have k86 : ∀ tg, Steps p.tables e below (T84.setTop (mkF m 140 #[.val (.long q1), .second, .val (.long q2), .second, .val (.int p3), .val (.int p4), .val (.int xw), .val (.int xc), .val (.int xl), .val (.ref b39)] [(.int (9 : Int32)), (.long q2), (.long q1), (.int (9 : Int32)), (.ref b39)])) tg → Steps p.tables e below (s₁.setTop (entryFrame m #[(.long q1), (.long q2), (.int p3), (.int p4)] maxLocals)) tg := fun tg kg => k85 tg (by
      show Steps p.tables e below (T84.setTop (mkF m 132 #[.val (.long q1), .second, .val (.long q2), .second, .val (.int p3), .val (.int p4), .val (.int xw), .val (.int xc), .val (.int xl), .val (.ref b39)] [])) _
      refine XS.aload X84.here hx rfl (hb hby at_132) rfl rfl ?_
      show Steps p.tables e below (T84.setTop (mkF m 134 #[.val (.long q1), .second, .val (.long q2), .second, .val (.int p3), .val (.int p4), .val (.int xw), .val (.int xc), .val (.int xl), .val (.ref b39)] [(.ref b39)])) _
      refine XS.bipush X84.here hx rfl (hb hby at_134) ?_
      show Steps p.tables e below (T84.setTop (mkF m 136 #[.val (.long q1), .second, .val (.long q2), .second, .val (.int p3), .val (.int p4), .val (.int xw), .val (.int xc), .val (.int xl), .val (.ref b39)] [(.int (9 : Int32)), (.ref b39)])) _
      refine XS.lloadN X84.here hx rfl (hb hby at_136) rfl ?_
      show Steps p.tables e below (T84.setTop (mkF m 137 #[.val (.long q1), .second, .val (.long q2), .second, .val (.int p3), .val (.int p4), .val (.int xw), .val (.int xc), .val (.int xl), .val (.ref b39)] [(.long q1), (.int (9 : Int32)), (.ref b39)])) _
      refine XS.lloadN X84.here hx rfl (hb hby at_137) rfl ?_
      show Steps p.tables e below (T84.setTop (mkF m 138 #[.val (.long q1), .second, .val (.long q2), .second, .val (.int p3), .val (.int p4), .val (.int xw), .val (.int xc), .val (.int xl), .val (.ref b39)] [(.long q2), (.long q1), (.int (9 : Int32)), (.ref b39)])) _
      refine XS.bipush X84.here hx rfl (hb hby at_138) ?_
      exact kg)
  obtain ⟨_, _, ⟨T87, L87, c87, n87⟩, -, X87, ⟨Lc87, hQ87, l87, y87, z87⟩, st87⟩ := Jvm.LawKit.callS X84 hx (y := (⟨"com/example/modalis/modalis/dicom/data/DataSetReaderToLittleEndianPinLaw", "at", "(JJI)B"⟩ : MethodName)) hown (mvT hZ (hw _ (List.mem_of_getElem? (i := 2) rfl))) (mvT hZ (hw _ (List.mem_of_getElem? (i := 3) rfl))) (mvT hZ (hw _ (List.mem_of_getElem? (i := 4) rfl))) (mvT hZ (hw _ (List.mem_of_getElem? (i := 5) rfl))) (by decide) (backOf (W := 2) (rm1 l Z a0 hw [] q1 q2 (9 : Int32) h84 n0 Zv) hZ (hw _ (List.mem_of_getElem? (i := 5) rfl)) (hw _ (List.mem_of_getElem? (i := 4) rfl)) (by decide) (by decide)) (g := (mkF m 140 #[.val (.long q1), .second, .val (.long q2), .second, .val (.int p3), .val (.int p4), .val (.int xw), .val (.int xc), .val (.int xl), .val (.ref b39)] [(.int (9 : Int32)), (.long q2), (.long q1), (.int (9 : Int32)), (.ref b39)])) rfl (by rw [hml]; rfl) (argsL := [(.long q1), (.long q2), (.int (9 : Int32))]) (rest := [(.int (9 : Int32)), (.ref b39)]) (lenOf own_pd0 rfl) rfl (by show 2 * 0 + _ ≤ _; exact Nat.le_of_eq rfl) (hb hby at_140) (fun _ _ => ⟨rfl, e84, (by decide : 1 + 0 ≤ _), (by decide : 16 + 0 ≤ _)⟩)
  dsimp only [Pt.U, Pt.locs, Pt.cells, Pt.slots] at X87 l87 y87 z87 st87 hQ87
  obtain rfl : c87 = 1 := y87
  obtain rfl : n87 = 16 := z87
  obtain ⟨rfl, N87q, e87⟩ := hQ87
  have N87 := own_frE l87 (Fr.app N84 N87q)
  have k88 : ∀ tg, Steps p.tables e below (T87.setTop (mkF m 143 #[.val (.long q1), .second, .val (.long q2), .second, .val (.int p3), .val (.int p4), .val (.int xw), .val (.int xc), .val (.int xl), .val (.ref b39)] [(.int (own_at q1 q2 (9 : Int32))), (.int (9 : Int32)), (.ref b39)])) tg → Steps p.tables e below (s₁.setTop (entryFrame m #[(.long q1), (.long q2), (.int p3), (.int p4)] maxLocals)) tg := fun tg kg => k86 tg (st87 tg kg)
  obtain ⟨cl9, Ar9, S9, G9⟩ := V9
  obtain ⟨T89, h89, X89, e89, W89, st89⟩ := stB X87 hx hZ e87 Ar9 (j := (9 : Int32)) (own_hin S9 (i := 9) (by decide) (by decide)) (g := (mkF m 143 #[.val (.long q1), .second, .val (.long q2), .second, .val (.int p3), .val (.int p4), .val (.int xw), .val (.int xc), .val (.int xl), .val (.ref b39)] [(.int (own_at q1 q2 (9 : Int32))), (.int (9 : Int32)), (.ref b39)])) rfl rfl (hb hby at_143)
  have N89 := Fr.snoc X89 N87 gv
  have k90 : ∀ tg, Steps p.tables e below (T89.setTop (mkF m 144 #[.val (.long q1), .second, .val (.long q2), .second, .val (.int p3), .val (.int p4), .val (.int xw), .val (.int xc), .val (.int xl), .val (.ref b39)] [])) tg → Steps p.tables e below (s₁.setTop (entryFrame m #[(.long q1), (.long q2), (.int p3), (.int p4)] maxLocals)) tg := fun tg kg => k88 tg (st89 tg kg)
  have V10 := (Av.set Ar9 S9 G9 (i := 9) (by decide) W89).congr (g' := fun j => .int (if j < 10 then own_at q1 q2 (Int32.ofInt j) else 0)) (fun j _ => own_fill (f := fun j : Nat => own_at q1 q2 (Int32.ofInt j)) (k := 9) ((own_nat _ _ _).trans (congrArg (own_at q1 q2) (by decide +kernel))) j)
  have Zv : n0 ≤ h89.size := Nat.le_trans Zv (Keep.of_wr W89).1
  have k91 : ∀ tg, Steps p.tables e below (T89.setTop (mkF m 152 #[.val (.long q1), .second, .val (.long q2), .second, .val (.int p3), .val (.int p4), .val (.int xw), .val (.int xc), .val (.int xl), .val (.ref b39)] [(.int (10 : Int32)), (.long q2), (.long q1), (.int (10 : Int32)), (.ref b39)])) tg → Steps p.tables e below (s₁.setTop (entryFrame m #[(.long q1), (.long q2), (.int p3), (.int p4)] maxLocals)) tg := fun tg kg => k90 tg (by
      show Steps p.tables e below (T89.setTop (mkF m 144 #[.val (.long q1), .second, .val (.long q2), .second, .val (.int p3), .val (.int p4), .val (.int xw), .val (.int xc), .val (.int xl), .val (.ref b39)] [])) _
      refine XS.aload X89.here hx rfl (hb hby at_144) rfl rfl ?_
      show Steps p.tables e below (T89.setTop (mkF m 146 #[.val (.long q1), .second, .val (.long q2), .second, .val (.int p3), .val (.int p4), .val (.int xw), .val (.int xc), .val (.int xl), .val (.ref b39)] [(.ref b39)])) _
      refine XS.bipush X89.here hx rfl (hb hby at_146) ?_
      show Steps p.tables e below (T89.setTop (mkF m 148 #[.val (.long q1), .second, .val (.long q2), .second, .val (.int p3), .val (.int p4), .val (.int xw), .val (.int xc), .val (.int xl), .val (.ref b39)] [(.int (10 : Int32)), (.ref b39)])) _
      refine XS.lloadN X89.here hx rfl (hb hby at_148) rfl ?_
      show Steps p.tables e below (T89.setTop (mkF m 149 #[.val (.long q1), .second, .val (.long q2), .second, .val (.int p3), .val (.int p4), .val (.int xw), .val (.int xc), .val (.int xl), .val (.ref b39)] [(.long q1), (.int (10 : Int32)), (.ref b39)])) _
      refine XS.lloadN X89.here hx rfl (hb hby at_149) rfl ?_
      show Steps p.tables e below (T89.setTop (mkF m 150 #[.val (.long q1), .second, .val (.long q2), .second, .val (.int p3), .val (.int p4), .val (.int xw), .val (.int xc), .val (.int xl), .val (.ref b39)] [(.long q2), (.long q1), (.int (10 : Int32)), (.ref b39)])) _
      refine XS.bipush X89.here hx rfl (hb hby at_150) ?_
      exact kg)
  obtain ⟨_, _, ⟨T92, L92, c92, n92⟩, -, X92, ⟨Lc92, hQ92, l92, y92, z92⟩, st92⟩ := Jvm.LawKit.callS X89 hx (y := (⟨"com/example/modalis/modalis/dicom/data/DataSetReaderToLittleEndianPinLaw", "at", "(JJI)B"⟩ : MethodName)) hown (mvT hZ (hw _ (List.mem_of_getElem? (i := 2) rfl))) (mvT hZ (hw _ (List.mem_of_getElem? (i := 3) rfl))) (mvT hZ (hw _ (List.mem_of_getElem? (i := 4) rfl))) (mvT hZ (hw _ (List.mem_of_getElem? (i := 5) rfl))) (by decide) (backOf (W := 2) (rm1 l Z a0 hw [] q1 q2 (10 : Int32) h89 n0 Zv) hZ (hw _ (List.mem_of_getElem? (i := 5) rfl)) (hw _ (List.mem_of_getElem? (i := 4) rfl)) (by decide) (by decide)) (g := (mkF m 152 #[.val (.long q1), .second, .val (.long q2), .second, .val (.int p3), .val (.int p4), .val (.int xw), .val (.int xc), .val (.int xl), .val (.ref b39)] [(.int (10 : Int32)), (.long q2), (.long q1), (.int (10 : Int32)), (.ref b39)])) rfl (by rw [hml]; rfl) (argsL := [(.long q1), (.long q2), (.int (10 : Int32))]) (rest := [(.int (10 : Int32)), (.ref b39)]) (lenOf own_pd0 rfl) rfl (by show 2 * 0 + _ ≤ _; exact Nat.le_of_eq rfl) (hb hby at_152) (fun _ _ => ⟨rfl, e89, (by decide : 1 + 0 ≤ _), (by decide : 16 + 0 ≤ _)⟩)
  dsimp only [Pt.U, Pt.locs, Pt.cells, Pt.slots] at X92 l92 y92 z92 st92 hQ92
  obtain rfl : c92 = 1 := y92
  obtain rfl : n92 = 16 := z92
  obtain ⟨rfl, N92q, e92⟩ := hQ92
  have N92 := own_frE l92 (Fr.app N89 N92q)
  have k93 : ∀ tg, Steps p.tables e below (T92.setTop (mkF m 155 #[.val (.long q1), .second, .val (.long q2), .second, .val (.int p3), .val (.int p4), .val (.int xw), .val (.int xc), .val (.int xl), .val (.ref b39)] [(.int (own_at q1 q2 (10 : Int32))), (.int (10 : Int32)), (.ref b39)])) tg → Steps p.tables e below (s₁.setTop (entryFrame m #[(.long q1), (.long q2), (.int p3), (.int p4)] maxLocals)) tg := fun tg kg => k91 tg (st92 tg kg)
  obtain ⟨cl10, Ar10, S10, G10⟩ := V10
  obtain ⟨T94, h94, X94, e94, W94, st94⟩ := stB X92 hx hZ e92 Ar10 (j := (10 : Int32)) (own_hin S10 (i := 10) (by decide) (by decide)) (g := (mkF m 155 #[.val (.long q1), .second, .val (.long q2), .second, .val (.int p3), .val (.int p4), .val (.int xw), .val (.int xc), .val (.int xl), .val (.ref b39)] [(.int (own_at q1 q2 (10 : Int32))), (.int (10 : Int32)), (.ref b39)])) rfl rfl (hb hby at_155)
  have N94 := Fr.snoc X94 N92 gv
  have k95 : ∀ tg, Steps p.tables e below (T94.setTop (mkF m 156 #[.val (.long q1), .second, .val (.long q2), .second, .val (.int p3), .val (.int p4), .val (.int xw), .val (.int xc), .val (.int xl), .val (.ref b39)] [])) tg → Steps p.tables e below (s₁.setTop (entryFrame m #[(.long q1), (.long q2), (.int p3), (.int p4)] maxLocals)) tg := fun tg kg => k93 tg (st94 tg kg)
  have V11 := (Av.set Ar10 S10 G10 (i := 10) (by decide) W94).congr (g' := fun j => .int (if j < 11 then own_at q1 q2 (Int32.ofInt j) else 0)) (fun j _ => own_fill (f := fun j : Nat => own_at q1 q2 (Int32.ofInt j)) (k := 10) ((own_nat _ _ _).trans (congrArg (own_at q1 q2) (by decide +kernel))) j)
  have Zv : n0 ≤ h94.size := Nat.le_trans Zv (Keep.of_wr W94).1
  have k96 : ∀ tg, Steps p.tables e below (T94.setTop (mkF m 164 #[.val (.long q1), .second, .val (.long q2), .second, .val (.int p3), .val (.int p4), .val (.int xw), .val (.int xc), .val (.int xl), .val (.ref b39)] [(.int (11 : Int32)), (.long q2), (.long q1), (.int (11 : Int32)), (.ref b39)])) tg → Steps p.tables e below (s₁.setTop (entryFrame m #[(.long q1), (.long q2), (.int p3), (.int p4)] maxLocals)) tg := fun tg kg => k95 tg (by
      show Steps p.tables e below (T94.setTop (mkF m 156 #[.val (.long q1), .second, .val (.long q2), .second, .val (.int p3), .val (.int p4), .val (.int xw), .val (.int xc), .val (.int xl), .val (.ref b39)] [])) _
      refine XS.aload X94.here hx rfl (hb hby at_156) rfl rfl ?_
      show Steps p.tables e below (T94.setTop (mkF m 158 #[.val (.long q1), .second, .val (.long q2), .second, .val (.int p3), .val (.int p4), .val (.int xw), .val (.int xc), .val (.int xl), .val (.ref b39)] [(.ref b39)])) _
      refine XS.bipush X94.here hx rfl (hb hby at_158) ?_
      show Steps p.tables e below (T94.setTop (mkF m 160 #[.val (.long q1), .second, .val (.long q2), .second, .val (.int p3), .val (.int p4), .val (.int xw), .val (.int xc), .val (.int xl), .val (.ref b39)] [(.int (11 : Int32)), (.ref b39)])) _
      refine XS.lloadN X94.here hx rfl (hb hby at_160) rfl ?_
      show Steps p.tables e below (T94.setTop (mkF m 161 #[.val (.long q1), .second, .val (.long q2), .second, .val (.int p3), .val (.int p4), .val (.int xw), .val (.int xc), .val (.int xl), .val (.ref b39)] [(.long q1), (.int (11 : Int32)), (.ref b39)])) _
      refine XS.lloadN X94.here hx rfl (hb hby at_161) rfl ?_
      show Steps p.tables e below (T94.setTop (mkF m 162 #[.val (.long q1), .second, .val (.long q2), .second, .val (.int p3), .val (.int p4), .val (.int xw), .val (.int xc), .val (.int xl), .val (.ref b39)] [(.long q2), (.long q1), (.int (11 : Int32)), (.ref b39)])) _
      refine XS.bipush X94.here hx rfl (hb hby at_162) ?_
      exact kg)
  obtain ⟨_, _, ⟨T97, L97, c97, n97⟩, -, X97, ⟨Lc97, hQ97, l97, y97, z97⟩, st97⟩ := Jvm.LawKit.callS X94 hx (y := (⟨"com/example/modalis/modalis/dicom/data/DataSetReaderToLittleEndianPinLaw", "at", "(JJI)B"⟩ : MethodName)) hown (mvT hZ (hw _ (List.mem_of_getElem? (i := 2) rfl))) (mvT hZ (hw _ (List.mem_of_getElem? (i := 3) rfl))) (mvT hZ (hw _ (List.mem_of_getElem? (i := 4) rfl))) (mvT hZ (hw _ (List.mem_of_getElem? (i := 5) rfl))) (by decide) (backOf (W := 2) (rm1 l Z a0 hw [] q1 q2 (11 : Int32) h94 n0 Zv) hZ (hw _ (List.mem_of_getElem? (i := 5) rfl)) (hw _ (List.mem_of_getElem? (i := 4) rfl)) (by decide) (by decide)) (g := (mkF m 164 #[.val (.long q1), .second, .val (.long q2), .second, .val (.int p3), .val (.int p4), .val (.int xw), .val (.int xc), .val (.int xl), .val (.ref b39)] [(.int (11 : Int32)), (.long q2), (.long q1), (.int (11 : Int32)), (.ref b39)])) rfl (by rw [hml]; rfl) (argsL := [(.long q1), (.long q2), (.int (11 : Int32))]) (rest := [(.int (11 : Int32)), (.ref b39)]) (lenOf own_pd0 rfl) rfl (by show 2 * 0 + _ ≤ _; exact Nat.le_of_eq rfl) (hb hby at_164) (fun _ _ => ⟨rfl, e94, (by decide : 1 + 0 ≤ _), (by decide : 16 + 0 ≤ _)⟩)
  dsimp only [Pt.U, Pt.locs, Pt.cells, Pt.slots] at X97 l97 y97 z97 st97 hQ97
  obtain rfl : c97 = 1 := y97
  obtain rfl : n97 = 16 := z97
  obtain ⟨rfl, N97q, e97⟩ := hQ97
  have N97 := own_frE l97 (Fr.app N94 N97q)
  have k98 : ∀ tg, Steps p.tables e below (T97.setTop (mkF m 167 #[.val (.long q1), .second, .val (.long q2), .second, .val (.int p3), .val (.int p4), .val (.int xw), .val (.int xc), .val (.int xl), .val (.ref b39)] [(.int (own_at q1 q2 (11 : Int32))), (.int (11 : Int32)), (.ref b39)])) tg → Steps p.tables e below (s₁.setTop (entryFrame m #[(.long q1), (.long q2), (.int p3), (.int p4)] maxLocals)) tg := fun tg kg => k96 tg (st97 tg kg)
  obtain ⟨cl11, Ar11, S11, G11⟩ := V11
  obtain ⟨T99, h99, X99, e99, W99, st99⟩ := stB X97 hx hZ e97 Ar11 (j := (11 : Int32)) (own_hin S11 (i := 11) (by decide) (by decide)) (g := (mkF m 167 #[.val (.long q1), .second, .val (.long q2), .second, .val (.int p3), .val (.int p4), .val (.int xw), .val (.int xc), .val (.int xl), .val (.ref b39)] [(.int (own_at q1 q2 (11 : Int32))), (.int (11 : Int32)), (.ref b39)])) rfl rfl (hb hby at_167)
  have N99 := Fr.snoc X99 N97 gv
  have k100 : ∀ tg, Steps p.tables e below (T99.setTop (mkF m 168 #[.val (.long q1), .second, .val (.long q2), .second, .val (.int p3), .val (.int p4), .val (.int xw), .val (.int xc), .val (.int xl), .val (.ref b39)] [])) tg → Steps p.tables e below (s₁.setTop (entryFrame m #[(.long q1), (.long q2), (.int p3), (.int p4)] maxLocals)) tg := fun tg kg => k98 tg (st99 tg kg)
  have V12 := (Av.set Ar11 S11 G11 (i := 11) (by decide) W99).congr (g' := fun j => .int (if j < 12 then own_at q1 q2 (Int32.ofInt j) else 0)) (fun j _ => own_fill (f := fun j : Nat => own_at q1 q2 (Int32.ofInt j)) (k := 11) ((own_nat _ _ _).trans (congrArg (own_at q1 q2) (by decide +kernel))) j)
  have Zv : n0 ≤ h99.size := Nat.le_trans Zv (Keep.of_wr W99).1
  have k101 : ∀ tg, Steps p.tables e below (T99.setTop (mkF m 176 #[.val (.long q1), .second, .val (.long q2), .second, .val (.int p3), .val (.int p4), .val (.int xw), .val (.int xc), .val (.int xl), .val (.ref b39)] [(.int (12 : Int32)), (.long q2), (.long q1), (.int (12 : Int32)), (.ref b39)])) tg → Steps p.tables e below (s₁.setTop (entryFrame m #[(.long q1), (.long q2), (.int p3), (.int p4)] maxLocals)) tg := fun tg kg => k100 tg (by
      show Steps p.tables e below (T99.setTop (mkF m 168 #[.val (.long q1), .second, .val (.long q2), .second, .val (.int p3), .val (.int p4), .val (.int xw), .val (.int xc), .val (.int xl), .val (.ref b39)] [])) _
      refine XS.aload X99.here hx rfl (hb hby at_168) rfl rfl ?_
      show Steps p.tables e below (T99.setTop (mkF m 170 #[.val (.long q1), .second, .val (.long q2), .second, .val (.int p3), .val (.int p4), .val (.int xw), .val (.int xc), .val (.int xl), .val (.ref b39)] [(.ref b39)])) _
      refine XS.bipush X99.here hx rfl (hb hby at_170) ?_
      show Steps p.tables e below (T99.setTop (mkF m 172 #[.val (.long q1), .second, .val (.long q2), .second, .val (.int p3), .val (.int p4), .val (.int xw), .val (.int xc), .val (.int xl), .val (.ref b39)] [(.int (12 : Int32)), (.ref b39)])) _
      refine XS.lloadN X99.here hx rfl (hb hby at_172) rfl ?_
      show Steps p.tables e below (T99.setTop (mkF m 173 #[.val (.long q1), .second, .val (.long q2), .second, .val (.int p3), .val (.int p4), .val (.int xw), .val (.int xc), .val (.int xl), .val (.ref b39)] [(.long q1), (.int (12 : Int32)), (.ref b39)])) _
      refine XS.lloadN X99.here hx rfl (hb hby at_173) rfl ?_
      show Steps p.tables e below (T99.setTop (mkF m 174 #[.val (.long q1), .second, .val (.long q2), .second, .val (.int p3), .val (.int p4), .val (.int xw), .val (.int xc), .val (.int xl), .val (.ref b39)] [(.long q2), (.long q1), (.int (12 : Int32)), (.ref b39)])) _
      refine XS.bipush X99.here hx rfl (hb hby at_174) ?_
      exact kg)
  obtain ⟨_, _, ⟨T102, L102, c102, n102⟩, -, X102, ⟨Lc102, hQ102, l102, y102, z102⟩, st102⟩ := Jvm.LawKit.callS X99 hx (y := (⟨"com/example/modalis/modalis/dicom/data/DataSetReaderToLittleEndianPinLaw", "at", "(JJI)B"⟩ : MethodName)) hown (mvT hZ (hw _ (List.mem_of_getElem? (i := 2) rfl))) (mvT hZ (hw _ (List.mem_of_getElem? (i := 3) rfl))) (mvT hZ (hw _ (List.mem_of_getElem? (i := 4) rfl))) (mvT hZ (hw _ (List.mem_of_getElem? (i := 5) rfl))) (by decide) (backOf (W := 2) (rm1 l Z a0 hw [] q1 q2 (12 : Int32) h99 n0 Zv) hZ (hw _ (List.mem_of_getElem? (i := 5) rfl)) (hw _ (List.mem_of_getElem? (i := 4) rfl)) (by decide) (by decide)) (g := (mkF m 176 #[.val (.long q1), .second, .val (.long q2), .second, .val (.int p3), .val (.int p4), .val (.int xw), .val (.int xc), .val (.int xl), .val (.ref b39)] [(.int (12 : Int32)), (.long q2), (.long q1), (.int (12 : Int32)), (.ref b39)])) rfl (by rw [hml]; rfl) (argsL := [(.long q1), (.long q2), (.int (12 : Int32))]) (rest := [(.int (12 : Int32)), (.ref b39)]) (lenOf own_pd0 rfl) rfl (by show 2 * 0 + _ ≤ _; exact Nat.le_of_eq rfl) (hb hby at_176) (fun _ _ => ⟨rfl, e99, (by decide : 1 + 0 ≤ _), (by decide : 16 + 0 ≤ _)⟩)
  dsimp only [Pt.U, Pt.locs, Pt.cells, Pt.slots] at X102 l102 y102 z102 st102 hQ102
  obtain rfl : c102 = 1 := y102
  obtain rfl : n102 = 16 := z102
  obtain ⟨rfl, N102q, e102⟩ := hQ102
  have N102 := own_frE l102 (Fr.app N99 N102q)
  have k103 : ∀ tg, Steps p.tables e below (T102.setTop (mkF m 179 #[.val (.long q1), .second, .val (.long q2), .second, .val (.int p3), .val (.int p4), .val (.int xw), .val (.int xc), .val (.int xl), .val (.ref b39)] [(.int (own_at q1 q2 (12 : Int32))), (.int (12 : Int32)), (.ref b39)])) tg → Steps p.tables e below (s₁.setTop (entryFrame m #[(.long q1), (.long q2), (.int p3), (.int p4)] maxLocals)) tg := fun tg kg => k101 tg (st102 tg kg)
  obtain ⟨cl12, Ar12, S12, G12⟩ := V12
  obtain ⟨T104, h104, X104, e104, W104, st104⟩ := stB X102 hx hZ e102 Ar12 (j := (12 : Int32)) (own_hin S12 (i := 12) (by decide) (by decide)) (g := (mkF m 179 #[.val (.long q1), .second, .val (.long q2), .second, .val (.int p3), .val (.int p4), .val (.int xw), .val (.int xc), .val (.int xl), .val (.ref b39)] [(.int (own_at q1 q2 (12 : Int32))), (.int (12 : Int32)), (.ref b39)])) rfl rfl (hb hby at_179)
  have N104 := Fr.snoc X104 N102 gv
  have k105 : ∀ tg, Steps p.tables e below (T104.setTop (mkF m 180 #[.val (.long q1), .second, .val (.long q2), .second, .val (.int p3), .val (.int p4), .val (.int xw), .val (.int xc), .val (.int xl), .val (.ref b39)] [])) tg → Steps p.tables e below (s₁.setTop (entryFrame m #[(.long q1), (.long q2), (.int p3), (.int p4)] maxLocals)) tg := fun tg kg => k103 tg (st104 tg kg)
  have V13 := (Av.set Ar12 S12 G12 (i := 12) (by decide) W104).congr (g' := fun j => .int (if j < 13 then own_at q1 q2 (Int32.ofInt j) else 0)) (fun j _ => own_fill (f := fun j : Nat => own_at q1 q2 (Int32.ofInt j)) (k := 12) ((own_nat _ _ _).trans (congrArg (own_at q1 q2) (by decide +kernel))) j)
  have Zv : n0 ≤ h104.size := Nat.le_trans Zv (Keep.of_wr W104).1
  have k106 : ∀ tg, Steps p.tables e below (T104.setTop (mkF m 188 #[.val (.long q1), .second, .val (.long q2), .second, .val (.int p3), .val (.int p4), .val (.int xw), .val (.int xc), .val (.int xl), .val (.ref b39)] [(.int (13 : Int32)), (.long q2), (.long q1), (.int (13 : Int32)), (.ref b39)])) tg → Steps p.tables e below (s₁.setTop (entryFrame m #[(.long q1), (.long q2), (.int p3), (.int p4)] maxLocals)) tg := fun tg kg => k105 tg (by
      show Steps p.tables e below (T104.setTop (mkF m 180 #[.val (.long q1), .second, .val (.long q2), .second, .val (.int p3), .val (.int p4), .val (.int xw), .val (.int xc), .val (.int xl), .val (.ref b39)] [])) _
      refine XS.aload X104.here hx rfl (hb hby at_180) rfl rfl ?_
      show Steps p.tables e below (T104.setTop (mkF m 182 #[.val (.long q1), .second, .val (.long q2), .second, .val (.int p3), .val (.int p4), .val (.int xw), .val (.int xc), .val (.int xl), .val (.ref b39)] [(.ref b39)])) _
      refine XS.bipush X104.here hx rfl (hb hby at_182) ?_
      show Steps p.tables e below (T104.setTop (mkF m 184 #[.val (.long q1), .second, .val (.long q2), .second, .val (.int p3), .val (.int p4), .val (.int xw), .val (.int xc), .val (.int xl), .val (.ref b39)] [(.int (13 : Int32)), (.ref b39)])) _
      refine XS.lloadN X104.here hx rfl (hb hby at_184) rfl ?_
      show Steps p.tables e below (T104.setTop (mkF m 185 #[.val (.long q1), .second, .val (.long q2), .second, .val (.int p3), .val (.int p4), .val (.int xw), .val (.int xc), .val (.int xl), .val (.ref b39)] [(.long q1), (.int (13 : Int32)), (.ref b39)])) _
      refine XS.lloadN X104.here hx rfl (hb hby at_185) rfl ?_
      show Steps p.tables e below (T104.setTop (mkF m 186 #[.val (.long q1), .second, .val (.long q2), .second, .val (.int p3), .val (.int p4), .val (.int xw), .val (.int xc), .val (.int xl), .val (.ref b39)] [(.long q2), (.long q1), (.int (13 : Int32)), (.ref b39)])) _
      refine XS.bipush X104.here hx rfl (hb hby at_186) ?_
      exact kg)
  obtain ⟨_, _, ⟨T107, L107, c107, n107⟩, -, X107, ⟨Lc107, hQ107, l107, y107, z107⟩, st107⟩ := Jvm.LawKit.callS X104 hx (y := (⟨"com/example/modalis/modalis/dicom/data/DataSetReaderToLittleEndianPinLaw", "at", "(JJI)B"⟩ : MethodName)) hown (mvT hZ (hw _ (List.mem_of_getElem? (i := 2) rfl))) (mvT hZ (hw _ (List.mem_of_getElem? (i := 3) rfl))) (mvT hZ (hw _ (List.mem_of_getElem? (i := 4) rfl))) (mvT hZ (hw _ (List.mem_of_getElem? (i := 5) rfl))) (by decide) (backOf (W := 2) (rm1 l Z a0 hw [] q1 q2 (13 : Int32) h104 n0 Zv) hZ (hw _ (List.mem_of_getElem? (i := 5) rfl)) (hw _ (List.mem_of_getElem? (i := 4) rfl)) (by decide) (by decide)) (g := (mkF m 188 #[.val (.long q1), .second, .val (.long q2), .second, .val (.int p3), .val (.int p4), .val (.int xw), .val (.int xc), .val (.int xl), .val (.ref b39)] [(.int (13 : Int32)), (.long q2), (.long q1), (.int (13 : Int32)), (.ref b39)])) rfl (by rw [hml]; rfl) (argsL := [(.long q1), (.long q2), (.int (13 : Int32))]) (rest := [(.int (13 : Int32)), (.ref b39)]) (lenOf own_pd0 rfl) rfl (by show 2 * 0 + _ ≤ _; exact Nat.le_of_eq rfl) (hb hby at_188) (fun _ _ => ⟨rfl, e104, (by decide : 1 + 0 ≤ _), (by decide : 16 + 0 ≤ _)⟩)
  dsimp only [Pt.U, Pt.locs, Pt.cells, Pt.slots] at X107 l107 y107 z107 st107 hQ107
  obtain rfl : c107 = 1 := y107
  obtain rfl : n107 = 16 := z107
  obtain ⟨rfl, N107q, e107⟩ := hQ107
  have N107 := own_frE l107 (Fr.app N104 N107q)
  have k108 : ∀ tg, Steps p.tables e below (T107.setTop (mkF m 191 #[.val (.long q1), .second, .val (.long q2), .second, .val (.int p3), .val (.int p4), .val (.int xw), .val (.int xc), .val (.int xl), .val (.ref b39)] [(.int (own_at q1 q2 (13 : Int32))), (.int (13 : Int32)), (.ref b39)])) tg → Steps p.tables e below (s₁.setTop (entryFrame m #[(.long q1), (.long q2), (.int p3), (.int p4)] maxLocals)) tg := fun tg kg => k106 tg (st107 tg kg)
  obtain ⟨cl13, Ar13, S13, G13⟩ := V13
  obtain ⟨T109, h109, X109, e109, W109, st109⟩ := stB X107 hx hZ e107 Ar13 (j := (13 : Int32)) (own_hin S13 (i := 13) (by decide) (by decide)) (g := (mkF m 191 #[.val (.long q1), .second, .val (.long q2), .second, .val (.int p3), .val (.int p4), .val (.int xw), .val (.int xc), .val (.int xl), .val (.ref b39)] [(.int (own_at q1 q2 (13 : Int32))), (.int (13 : Int32)), (.ref b39)])) rfl rfl (hb hby at_191)
  have N109 := Fr.snoc X109 N107 gv
  have k110 : ∀ tg, Steps p.tables e below (T109.setTop (mkF m 192 #[.val (.long q1), .second, .val (.long q2), .second, .val (.int p3), .val (.int p4), .val (.int xw), .val (.int xc), .val (.int xl), .val (.ref b39)] [])) tg → Steps p.tables e below (s₁.setTop (entryFrame m #[(.long q1), (.long q2), (.int p3), (.int p4)] maxLocals)) tg := fun tg kg => k108 tg (st109 tg kg)
  have V14 := (Av.set Ar13 S13 G13 (i := 13) (by decide) W109).congr (g' := fun j => .int (if j < 14 then own_at q1 q2 (Int32.ofInt j) else 0)) (fun j _ => own_fill (f := fun j : Nat => own_at q1 q2 (Int32.ofInt j)) (k := 13) ((own_nat _ _ _).trans (congrArg (own_at q1 q2) (by decide +kernel))) j)
  have Zv : n0 ≤ h109.size := Nat.le_trans Zv (Keep.of_wr W109).1
  have k111 : ∀ tg, Steps p.tables e below (T109.setTop (mkF m 200 #[.val (.long q1), .second, .val (.long q2), .second, .val (.int p3), .val (.int p4), .val (.int xw), .val (.int xc), .val (.int xl), .val (.ref b39)] [(.int (14 : Int32)), (.long q2), (.long q1), (.int (14 : Int32)), (.ref b39)])) tg → Steps p.tables e below (s₁.setTop (entryFrame m #[(.long q1), (.long q2), (.int p3), (.int p4)] maxLocals)) tg := fun tg kg => k110 tg (by
      show Steps p.tables e below (T109.setTop (mkF m 192 #[.val (.long q1), .second, .val (.long q2), .second, .val (.int p3), .val (.int p4), .val (.int xw), .val (.int xc), .val (.int xl), .val (.ref b39)] [])) _
      refine XS.aload X109.here hx rfl (hb hby at_192) rfl rfl ?_
      show Steps p.tables e below (T109.setTop (mkF m 194 #[.val (.long q1), .second, .val (.long q2), .second, .val (.int p3), .val (.int p4), .val (.int xw), .val (.int xc), .val (.int xl), .val (.ref b39)] [(.ref b39)])) _
      refine XS.bipush X109.here hx rfl (hb hby at_194) ?_
      show Steps p.tables e below (T109.setTop (mkF m 196 #[.val (.long q1), .second, .val (.long q2), .second, .val (.int p3), .val (.int p4), .val (.int xw), .val (.int xc), .val (.int xl), .val (.ref b39)] [(.int (14 : Int32)), (.ref b39)])) _
      refine XS.lloadN X109.here hx rfl (hb hby at_196) rfl ?_
      show Steps p.tables e below (T109.setTop (mkF m 197 #[.val (.long q1), .second, .val (.long q2), .second, .val (.int p3), .val (.int p4), .val (.int xw), .val (.int xc), .val (.int xl), .val (.ref b39)] [(.long q1), (.int (14 : Int32)), (.ref b39)])) _
      refine XS.lloadN X109.here hx rfl (hb hby at_197) rfl ?_
      show Steps p.tables e below (T109.setTop (mkF m 198 #[.val (.long q1), .second, .val (.long q2), .second, .val (.int p3), .val (.int p4), .val (.int xw), .val (.int xc), .val (.int xl), .val (.ref b39)] [(.long q2), (.long q1), (.int (14 : Int32)), (.ref b39)])) _
      refine XS.bipush X109.here hx rfl (hb hby at_198) ?_
      exact kg)
  obtain ⟨_, _, ⟨T112, L112, c112, n112⟩, -, X112, ⟨Lc112, hQ112, l112, y112, z112⟩, st112⟩ := Jvm.LawKit.callS X109 hx (y := (⟨"com/example/modalis/modalis/dicom/data/DataSetReaderToLittleEndianPinLaw", "at", "(JJI)B"⟩ : MethodName)) hown (mvT hZ (hw _ (List.mem_of_getElem? (i := 2) rfl))) (mvT hZ (hw _ (List.mem_of_getElem? (i := 3) rfl))) (mvT hZ (hw _ (List.mem_of_getElem? (i := 4) rfl))) (mvT hZ (hw _ (List.mem_of_getElem? (i := 5) rfl))) (by decide) (backOf (W := 2) (rm1 l Z a0 hw [] q1 q2 (14 : Int32) h109 n0 Zv) hZ (hw _ (List.mem_of_getElem? (i := 5) rfl)) (hw _ (List.mem_of_getElem? (i := 4) rfl)) (by decide) (by decide)) (g := (mkF m 200 #[.val (.long q1), .second, .val (.long q2), .second, .val (.int p3), .val (.int p4), .val (.int xw), .val (.int xc), .val (.int xl), .val (.ref b39)] [(.int (14 : Int32)), (.long q2), (.long q1), (.int (14 : Int32)), (.ref b39)])) rfl (by rw [hml]; rfl) (argsL := [(.long q1), (.long q2), (.int (14 : Int32))]) (rest := [(.int (14 : Int32)), (.ref b39)]) (lenOf own_pd0 rfl) rfl (by show 2 * 0 + _ ≤ _; exact Nat.le_of_eq rfl) (hb hby at_200) (fun _ _ => ⟨rfl, e109, (by decide : 1 + 0 ≤ _), (by decide : 16 + 0 ≤ _)⟩)
  dsimp only [Pt.U, Pt.locs, Pt.cells, Pt.slots] at X112 l112 y112 z112 st112 hQ112
  obtain rfl : c112 = 1 := y112
  obtain rfl : n112 = 16 := z112
  obtain ⟨rfl, N112q, e112⟩ := hQ112
  have N112 := own_frE l112 (Fr.app N109 N112q)
  have k113 : ∀ tg, Steps p.tables e below (T112.setTop (mkF m 203 #[.val (.long q1), .second, .val (.long q2), .second, .val (.int p3), .val (.int p4), .val (.int xw), .val (.int xc), .val (.int xl), .val (.ref b39)] [(.int (own_at q1 q2 (14 : Int32))), (.int (14 : Int32)), (.ref b39)])) tg → Steps p.tables e below (s₁.setTop (entryFrame m #[(.long q1), (.long q2), (.int p3), (.int p4)] maxLocals)) tg := fun tg kg => k111 tg (st112 tg kg)
  obtain ⟨cl14, Ar14, S14, G14⟩ := V14
  obtain ⟨T114, h114, X114, e114, W114, st114⟩ := stB X112 hx hZ e112 Ar14 (j := (14 : Int32)) (own_hin S14 (i := 14) (by decide) (by decide)) (g := (mkF m 203 #[.val (.long q1), .second, .val (.long q2), .second, .val (.int p3), .val (.int p4), .val (.int xw), .val (.int xc), .val (.int xl), .val (.ref b39)] [(.int (own_at q1 q2 (14 : Int32))), (.int (14 : Int32)), (.ref b39)])) rfl rfl (hb hby at_203)
  have N114 := Fr.snoc X114 N112 gv
  have k115 : ∀ tg, Steps p.tables e below (T114.setTop (mkF m 204 #[.val (.long q1), .second, .val (.long q2), .second, .val (.int p3), .val (.int p4), .val (.int xw), .val (.int xc), .val (.int xl), .val (.ref b39)] [])) tg → Steps p.tables e below (s₁.setTop (entryFrame m #[(.long q1), (.long q2), (.int p3), (.int p4)] maxLocals)) tg := fun tg kg => k113 tg (st114 tg kg)
  have V15 := (Av.set Ar14 S14 G14 (i := 14) (by decide) W114).congr (g' := fun j => .int (if j < 15 then own_at q1 q2 (Int32.ofInt j) else 0)) (fun j _ => own_fill (f := fun j : Nat => own_at q1 q2 (Int32.ofInt j)) (k := 14) ((own_nat _ _ _).trans (congrArg (own_at q1 q2) (by decide +kernel))) j)
  have Zv : n0 ≤ h114.size := Nat.le_trans Zv (Keep.of_wr W114).1
  have k116 : ∀ tg, Steps p.tables e below (T114.setTop (mkF m 212 #[.val (.long q1), .second, .val (.long q2), .second, .val (.int p3), .val (.int p4), .val (.int xw), .val (.int xc), .val (.int xl), .val (.ref b39)] [(.int (15 : Int32)), (.long q2), (.long q1), (.int (15 : Int32)), (.ref b39)])) tg → Steps p.tables e below (s₁.setTop (entryFrame m #[(.long q1), (.long q2), (.int p3), (.int p4)] maxLocals)) tg := fun tg kg => k115 tg (by
      show Steps p.tables e below (T114.setTop (mkF m 204 #[.val (.long q1), .second, .val (.long q2), .second, .val (.int p3), .val (.int p4), .val (.int xw), .val (.int xc), .val (.int xl), .val (.ref b39)] [])) _
      refine XS.aload X114.here hx rfl (hb hby at_204) rfl rfl ?_
      show Steps p.tables e below (T114.setTop (mkF m 206 #[.val (.long q1), .second, .val (.long q2), .second, .val (.int p3), .val (.int p4), .val (.int xw), .val (.int xc), .val (.int xl), .val (.ref b39)] [(.ref b39)])) _
      refine XS.bipush X114.here hx rfl (hb hby at_206) ?_
      show Steps p.tables e below (T114.setTop (mkF m 208 #[.val (.long q1), .second, .val (.long q2), .second, .val (.int p3), .val (.int p4), .val (.int xw), .val (.int xc), .val (.int xl), .val (.ref b39)] [(.int (15 : Int32)), (.ref b39)])) _
      refine XS.lloadN X114.here hx rfl (hb hby at_208) rfl ?_
      show Steps p.tables e below (T114.setTop (mkF m 209 #[.val (.long q1), .second, .val (.long q2), .second, .val (.int p3), .val (.int p4), .val (.int xw), .val (.int xc), .val (.int xl), .val (.ref b39)] [(.long q1), (.int (15 : Int32)), (.ref b39)])) _
      refine XS.lloadN X114.here hx rfl (hb hby at_209) rfl ?_
      show Steps p.tables e below (T114.setTop (mkF m 210 #[.val (.long q1), .second, .val (.long q2), .second, .val (.int p3), .val (.int p4), .val (.int xw), .val (.int xc), .val (.int xl), .val (.ref b39)] [(.long q2), (.long q1), (.int (15 : Int32)), (.ref b39)])) _
      refine XS.bipush X114.here hx rfl (hb hby at_210) ?_
      exact kg)
  obtain ⟨_, _, ⟨T117, L117, c117, n117⟩, -, X117, ⟨Lc117, hQ117, l117, y117, z117⟩, st117⟩ := Jvm.LawKit.callS X114 hx (y := (⟨"com/example/modalis/modalis/dicom/data/DataSetReaderToLittleEndianPinLaw", "at", "(JJI)B"⟩ : MethodName)) hown (mvT hZ (hw _ (List.mem_of_getElem? (i := 2) rfl))) (mvT hZ (hw _ (List.mem_of_getElem? (i := 3) rfl))) (mvT hZ (hw _ (List.mem_of_getElem? (i := 4) rfl))) (mvT hZ (hw _ (List.mem_of_getElem? (i := 5) rfl))) (by decide) (backOf (W := 2) (rm1 l Z a0 hw [] q1 q2 (15 : Int32) h114 n0 Zv) hZ (hw _ (List.mem_of_getElem? (i := 5) rfl)) (hw _ (List.mem_of_getElem? (i := 4) rfl)) (by decide) (by decide)) (g := (mkF m 212 #[.val (.long q1), .second, .val (.long q2), .second, .val (.int p3), .val (.int p4), .val (.int xw), .val (.int xc), .val (.int xl), .val (.ref b39)] [(.int (15 : Int32)), (.long q2), (.long q1), (.int (15 : Int32)), (.ref b39)])) rfl (by rw [hml]; rfl) (argsL := [(.long q1), (.long q2), (.int (15 : Int32))]) (rest := [(.int (15 : Int32)), (.ref b39)]) (lenOf own_pd0 rfl) rfl (by show 2 * 0 + _ ≤ _; exact Nat.le_of_eq rfl) (hb hby at_212) (fun _ _ => ⟨rfl, e114, (by decide : 1 + 0 ≤ _), (by decide : 16 + 0 ≤ _)⟩)
  dsimp only [Pt.U, Pt.locs, Pt.cells, Pt.slots] at X117 l117 y117 z117 st117 hQ117
  obtain rfl : c117 = 1 := y117
  obtain rfl : n117 = 16 := z117
  obtain ⟨rfl, N117q, e117⟩ := hQ117
  have N117 := own_frE l117 (Fr.app N114 N117q)
  have k118 : ∀ tg, Steps p.tables e below (T117.setTop (mkF m 215 #[.val (.long q1), .second, .val (.long q2), .second, .val (.int p3), .val (.int p4), .val (.int xw), .val (.int xc), .val (.int xl), .val (.ref b39)] [(.int (own_at q1 q2 (15 : Int32))), (.int (15 : Int32)), (.ref b39)])) tg → Steps p.tables e below (s₁.setTop (entryFrame m #[(.long q1), (.long q2), (.int p3), (.int p4)] maxLocals)) tg := fun tg kg => k116 tg (st117 tg kg)
  obtain ⟨cl15, Ar15, S15, G15⟩ := V15
  obtain ⟨T119, h119, X119, e119, W119, st119⟩ := stB X117 hx hZ e117 Ar15 (j := (15 : Int32)) (own_hin S15 (i := 15) (by decide) (by decide)) (g := (mkF m 215 #[.val (.long q1), .second, .val (.long q2), .second, .val (.int p3), .val (.int p4), .val (.int xw), .val (.int xc), .val (.int xl), .val (.ref b39)] [(.int (own_at q1 q2 (15 : Int32))), (.int (15 : Int32)), (.ref b39)])) rfl rfl (hb hby at_215)
  have N119 := Fr.snoc X119 N117 gv
  have k120 : ∀ tg, Steps p.tables e below (T119.setTop (mkF m 216 #[.val (.long q1), .second, .val (.long q2), .second, .val (.int p3), .val (.int p4), .val (.int xw), .val (.int xc), .val (.int xl), .val (.ref b39)] [])) tg → Steps p.tables e below (s₁.setTop (entryFrame m #[(.long q1), (.long q2), (.int p3), (.int p4)] maxLocals)) tg := fun tg kg => k118 tg (st119 tg kg)
  have V16 := (Av.set Ar15 S15 G15 (i := 15) (by decide) W119).congr (g' := fun j => .int (if j < 16 then own_at q1 q2 (Int32.ofInt j) else 0)) (fun j _ => own_fill (f := fun j : Nat => own_at q1 q2 (Int32.ofInt j)) (k := 15) ((own_nat _ _ _).trans (congrArg (own_at q1 q2) (by decide +kernel))) j)
  have Zv : n0 ≤ h119.size := Nat.le_trans Zv (Keep.of_wr W119).1
  have V := V16.congr (g' := fun j => .int ((fun j : Nat => own_at q1 q2 (Int32.ofInt j)) j)) (fun j hj => by rw [if_pos hj])
  have k121 : ∀ tg, Steps p.tables e below (T119.setTop (mkF m 222 #[.val (.long q1), .second, .val (.long q2), .second, .val (.int p3), .val (.int p4), .val (.int xw), .val (.int xc), .val (.int xl), .val (.ref b39)] [(.int xw), (.int xl), (.ref b39)])) tg → Steps p.tables e below (s₁.setTop (entryFrame m #[(.long q1), (.long q2), (.int p3), (.int p4)] maxLocals)) tg := fun tg kg => k120 tg (by
      show Steps p.tables e below (T119.setTop (mkF m 216 #[.val (.long q1), .second, .val (.long q2), .second, .val (.int p3), .val (.int p4), .val (.int xw), .val (.int xc), .val (.int xl), .val (.ref b39)] [])) _
      refine XS.aload X119.here hx rfl (hb hby at_216) rfl rfl ?_
      show Steps p.tables e below (T119.setTop (mkF m 218 #[.val (.long q1), .second, .val (.long q2), .second, .val (.int p3), .val (.int p4), .val (.int xw), .val (.int xc), .val (.int xl), .val (.ref b39)] [(.ref b39)])) _
      refine XS.iload X119.here hx rfl (hb hby at_218) rfl ?_
      show Steps p.tables e below (T119.setTop (mkF m 220 #[.val (.long q1), .second, .val (.long q2), .second, .val (.int p3), .val (.int p4), .val (.int xw), .val (.int xc), .val (.int xl), .val (.ref b39)] [(.int xl), (.ref b39)])) _
      refine XS.iload X119.here hx rfl (hb hby at_220) rfl ?_
      exact kg)
  obtain ⟨_, _, ⟨T122, L122, c122, n122⟩, -, X122, ⟨Lc122, hQ122, l122, y122, z122⟩, st122⟩ := Jvm.LawKit.callS X119 hx (y := (⟨"com/example/modalis/modalis/dicom/data/DataSetReader", "toLittleEndian", "([BII)V"⟩ : MethodName)) hown (mvT hZ (hw _ (List.mem_of_getElem? (i := 6) rfl))) (mvT hZ (hw _ (List.mem_of_getElem? (i := 7) rfl))) (mvT hZ (hw _ (List.mem_of_getElem? (i := 8) rfl))) (mvT hZ (hw _ (List.mem_of_getElem? (i := 9) rfl))) (by decide) (backOf (W := 0) (rm2 l Z a0 hw [] b39 xl xw w1 c0 (fun j : Nat => own_at q1 q2 (Int32.ofInt j)) h119 n0 Zv hxw hxl hw4 hc0 gv (fun j => own_nat _ _ _) V) hZ (hw _ (List.mem_of_getElem? (i := 9) rfl)) (hw _ (List.mem_of_getElem? (i := 8) rfl)) (by decide) (by decide)) (g := (mkF m 222 #[.val (.long q1), .second, .val (.long q2), .second, .val (.int p3), .val (.int p4), .val (.int xw), .val (.int xc), .val (.int xl), .val (.ref b39)] [(.int xw), (.int xl), (.ref b39)])) rfl (by rw [hml]; rfl) (argsL := [(.ref b39), (.int xl), (.int xw)]) (rest := []) (lenOf own_pd1 rfl) rfl (by show 2 * 0 + _ ≤ _; exact Nat.le_of_eq rfl) (hb hby at_222) (fun _ _ => ⟨rfl, e119, (by decide : 1 + 0 ≤ _), (by decide : 16 + 0 ≤ _)⟩)
  dsimp only [Pt.U, Pt.locs, Pt.cells, Pt.slots] at X122 l122 y122 z122 st122 hQ122
  obtain rfl : c122 = 1 := y122
  obtain rfl : n122 = 16 := z122
  obtain ⟨rfl, N122q, Kt, g, hg, Vg⟩ := hQ122
  have N122 := own_frE l122 (Fr.app N119 N122q)
  have k123 : ∀ tg, Steps p.tables e below (T122.setTop (mkF m 225 #[.val (.long q1), .second, .val (.long q2), .second, .val (.int p3), .val (.int p4), .val (.int xw), .val (.int xc), .val (.int xl), .val (.ref b39)] [])) tg → Steps p.tables e below (s₁.setTop (entryFrame m #[(.long q1), (.long q2), (.int p3), (.int p4)] maxLocals)) tg := fun tg kg => k121 tg (st122 tg kg)
  have Zt : n0 ≤ T122.heap.size := Nat.le_trans Zv Kt.1
  have hg2 : ∀ j, g j = own_at q1 q2 (Int32.ofInt ((if j < w1 * c0 then j / w1 * w1 + (w1 - 1 - j % w1) else j : Nat) : Int)) := fun j => by
    rw [hg j, own_all]
    by_cases q : j < w1 * c0
    · rw [if_pos ⟨Nat.zero_le _, q⟩, if_pos q]
    · rw [if_neg (fun z => q z.2), if_neg q]
  have k124 : ∀ tg, Steps p.tables e below (T122.setTop (mkF m 234 #[.val (.long q1), .second, .val (.long q2), .second, .val (.int p3), .val (.int p4), .val (.int xw), .val (.int xc), .val (.int xl), .val (.ref b39)] [(.int xw), (.int xl), (.int (0 : Int32)), (.long q2), (.long q1), (.ref b39)])) tg → Steps p.tables e below (s₁.setTop (entryFrame m #[(.long q1), (.long q2), (.int p3), (.int p4)] maxLocals)) tg := fun tg kg => k123 tg (by
      show Steps p.tables e below (T122.setTop (mkF m 225 #[.val (.long q1), .second, .val (.long q2), .second, .val (.int p3), .val (.int p4), .val (.int xw), .val (.int xc), .val (.int xl), .val (.ref b39)] [])) _
      refine XS.aload X122.here hx rfl (hb hby at_225) rfl rfl ?_
      show Steps p.tables e below (T122.setTop (mkF m 227 #[.val (.long q1), .second, .val (.long q2), .second, .val (.int p3), .val (.int p4), .val (.int xw), .val (.int xc), .val (.int xl), .val (.ref b39)] [(.ref b39)])) _
      refine XS.lloadN X122.here hx rfl (hb hby at_227) rfl ?_
      show Steps p.tables e below (T122.setTop (mkF m 228 #[.val (.long q1), .second, .val (.long q2), .second, .val (.int p3), .val (.int p4), .val (.int xw), .val (.int xc), .val (.int xl), .val (.ref b39)] [(.long q1), (.ref b39)])) _
      refine XS.lloadN X122.here hx rfl (hb hby at_228) rfl ?_
      show Steps p.tables e below (T122.setTop (mkF m 229 #[.val (.long q1), .second, .val (.long q2), .second, .val (.int p3), .val (.int p4), .val (.int xw), .val (.int xc), .val (.int xl), .val (.ref b39)] [(.long q2), (.long q1), (.ref b39)])) _
      refine XS.iconst X122.here hx rfl (hb hby at_229) ?_
      show Steps p.tables e below (T122.setTop (mkF m 230 #[.val (.long q1), .second, .val (.long q2), .second, .val (.int p3), .val (.int p4), .val (.int xw), .val (.int xc), .val (.int xl), .val (.ref b39)] [(.int (0 : Int32)), (.long q2), (.long q1), (.ref b39)])) _
      refine XS.iload X122.here hx rfl (hb hby at_230) rfl ?_
      show Steps p.tables e below (T122.setTop (mkF m 232 #[.val (.long q1), .second, .val (.long q2), .second, .val (.int p3), .val (.int p4), .val (.int xw), .val (.int xc), .val (.int xl), .val (.ref b39)] [(.int xl), (.int (0 : Int32)), (.long q2), (.long q1), (.ref b39)])) _
      refine XS.iload X122.here hx rfl (hb hby at_232) rfl ?_
      exact kg)
  obtain ⟨_, _, ⟨T125, L125, c125, n125⟩, -, X125, ⟨Lc125, hQ125, l125, y125, z125⟩, st125⟩ := Jvm.LawKit.callS X122 hx (y := (⟨"com/example/modalis/modalis/dicom/data/DataSetReaderToLittleEndianPinLaw", "ok", "([BJJIII)Z"⟩ : MethodName)) hown (mvT hZ (hw _ (List.mem_of_getElem? (i := 10) rfl))) (mvT hZ (hw _ (List.mem_of_getElem? (i := 11) rfl))) (mvT hZ (hw _ (List.mem_of_getElem? (i := 4) rfl))) (mvT hZ (hw _ (List.mem_of_getElem? (i := 12) rfl))) (by decide) (backOf (W := 0) (rm3 l Z a0 hw [] b39 q1 q2 (0 : Int32) xl xw 0 (w1 * c0) w1 g T122.heap n0 Zt (by decide) hxl hxw hw4 (by decide) (hg2 0) Vg) hZ (hw _ (List.mem_of_getElem? (i := 12) rfl)) (hw _ (List.mem_of_getElem? (i := 4) rfl)) (by decide) (by decide)) (g := (mkF m 234 #[.val (.long q1), .second, .val (.long q2), .second, .val (.int p3), .val (.int p4), .val (.int xw), .val (.int xc), .val (.int xl), .val (.ref b39)] [(.int xw), (.int xl), (.int (0 : Int32)), (.long q2), (.long q1), (.ref b39)])) rfl (by rw [hml]; rfl) (argsL := [(.ref b39), (.long q1), (.long q2), (.int (0 : Int32)), (.int xl), (.int xw)]) (rest := []) (lenOf own_pd2 rfl) rfl (by show 2 * 0 + _ ≤ _; exact Nat.le_of_eq rfl) (hb hby at_234) (fun _ _ => ⟨rfl, rfl, (by decide : 1 + 0 ≤ _), (by decide : 16 + 0 ≤ _)⟩)
  dsimp only [Pt.U, Pt.locs, Pt.cells, Pt.slots] at X125 l125 y125 z125 st125 hQ125
  obtain rfl : c125 = 1 := y125
  obtain rfl : n125 = 16 := z125
  obtain ⟨rfl, N125q, e125⟩ := hQ125
  have N125 := own_frE l125 (Fr.app N122 N125q)
  have k126 : ∀ tg, Steps p.tables e below (T125.setTop (mkF m 237 #[.val (.long q1), .second, .val (.long q2), .second, .val (.int p3), .val (.int p4), .val (.int xw), .val (.int xc), .val (.int xl), .val (.ref b39)] [(.int (1 : Int32))])) tg → Steps p.tables e below (s₁.setTop (entryFrame m #[(.long q1), (.long q2), (.int p3), (.int p4)] maxLocals)) tg := fun tg kg => k124 tg (st125 tg kg)
  have k127 : ∀ tg, Steps p.tables e below (T125.setTop (mkF m 240 #[.val (.long q1), .second, .val (.long q2), .second, .val (.int p3), .val (.int p4), .val (.int xw), .val (.int xc), .val (.int xl), .val (.ref b39)] [])) tg → Steps p.tables e below (s₁.setTop (entryFrame m #[(.long q1), (.long q2), (.int p3), (.int p4)] maxLocals)) tg := fun tg kg => k126 tg (by
      show Steps p.tables e below (T125.setTop (mkF m 237 #[.val (.long q1), .second, .val (.long q2), .second, .val (.int p3), .val (.int p4), .val (.int xw), .val (.int xc), .val (.int xl), .val (.ref b39)] [(.int (1 : Int32))])) _
      refine XS.ifNo X125.here hx rfl (hb hby at_237) rfl ((if0 _ _).trans (feq (by decide)).1) ?_
      exact kg)
  have k128 : ∀ tg, Steps p.tables e below (T125.setTop (mkF m 249 #[.val (.long q1), .second, .val (.long q2), .second, .val (.int p3), .val (.int p4), .val (.int xw), .val (.int xc), .val (.int xl), .val (.ref b39)] [(.int xw), (.int xl), (.int (1 : Int32)), (.long q2), (.long q1), (.ref b39)])) tg → Steps p.tables e below (s₁.setTop (entryFrame m #[(.long q1), (.long q2), (.int p3), (.int p4)] maxLocals)) tg := fun tg kg => k127 tg (by
      show Steps p.tables e below (T125.setTop (mkF m 240 #[.val (.long q1), .second, .val (.long q2), .second, .val (.int p3), .val (.int p4), .val (.int xw), .val (.int xc), .val (.int xl), .val (.ref b39)] [])) _
      refine XS.aload X125.here hx rfl (hb hby at_240) rfl rfl ?_
      show Steps p.tables e below (T125.setTop (mkF m 242 #[.val (.long q1), .second, .val (.long q2), .second, .val (.int p3), .val (.int p4), .val (.int xw), .val (.int xc), .val (.int xl), .val (.ref b39)] [(.ref b39)])) _
      refine XS.lloadN X125.here hx rfl (hb hby at_242) rfl ?_
      show Steps p.tables e below (T125.setTop (mkF m 243 #[.val (.long q1), .second, .val (.long q2), .second, .val (.int p3), .val (.int p4), .val (.int xw), .val (.int xc), .val (.int xl), .val (.ref b39)] [(.long q1), (.ref b39)])) _
      refine XS.lloadN X125.here hx rfl (hb hby at_243) rfl ?_
      show Steps p.tables e below (T125.setTop (mkF m 244 #[.val (.long q1), .second, .val (.long q2), .second, .val (.int p3), .val (.int p4), .val (.int xw), .val (.int xc), .val (.int xl), .val (.ref b39)] [(.long q2), (.long q1), (.ref b39)])) _
      refine XS.iconst X125.here hx rfl (hb hby at_244) ?_
      show Steps p.tables e below (T125.setTop (mkF m 245 #[.val (.long q1), .second, .val (.long q2), .second, .val (.int p3), .val (.int p4), .val (.int xw), .val (.int xc), .val (.int xl), .val (.ref b39)] [(.int (1 : Int32)), (.long q2), (.long q1), (.ref b39)])) _
      refine XS.iload X125.here hx rfl (hb hby at_245) rfl ?_
      show Steps p.tables e below (T125.setTop (mkF m 247 #[.val (.long q1), .second, .val (.long q2), .second, .val (.int p3), .val (.int p4), .val (.int xw), .val (.int xc), .val (.int xl), .val (.ref b39)] [(.int xl), (.int (1 : Int32)), (.long q2), (.long q1), (.ref b39)])) _
      refine XS.iload X125.here hx rfl (hb hby at_247) rfl ?_
      exact kg)
  obtain ⟨_, _, ⟨T129, L129, c129, n129⟩, -, X129, ⟨Lc129, hQ129, l129, y129, z129⟩, st129⟩ := Jvm.LawKit.callS X125 hx (y := (⟨"com/example/modalis/modalis/dicom/data/DataSetReaderToLittleEndianPinLaw", "ok", "([BJJIII)Z"⟩ : MethodName)) hown (mvT hZ (hw _ (List.mem_of_getElem? (i := 10) rfl))) (mvT hZ (hw _ (List.mem_of_getElem? (i := 11) rfl))) (mvT hZ (hw _ (List.mem_of_getElem? (i := 4) rfl))) (mvT hZ (hw _ (List.mem_of_getElem? (i := 12) rfl))) (by decide) (backOf (W := 0) (rm3 l Z a0 hw [] b39 q1 q2 (1 : Int32) xl xw 1 (w1 * c0) w1 g T122.heap n0 Zt (by decide) hxl hxw hw4 (by decide) (hg2 1) Vg) hZ (hw _ (List.mem_of_getElem? (i := 12) rfl)) (hw _ (List.mem_of_getElem? (i := 4) rfl)) (by decide) (by decide)) (g := (mkF m 249 #[.val (.long q1), .second, .val (.long q2), .second, .val (.int p3), .val (.int p4), .val (.int xw), .val (.int xc), .val (.int xl), .val (.ref b39)] [(.int xw), (.int xl), (.int (1 : Int32)), (.long q2), (.long q1), (.ref b39)])) rfl (by rw [hml]; rfl) (argsL := [(.ref b39), (.long q1), (.long q2), (.int (1 : Int32)), (.int xl), (.int xw)]) (rest := []) (lenOf own_pd2 rfl) rfl (by show 2 * 0 + _ ≤ _; exact Nat.le_of_eq rfl) (hb hby at_249) (fun _ _ => ⟨rfl, e125, (by decide : 1 + 0 ≤ _), (by decide : 16 + 0 ≤ _)⟩)
  dsimp only [Pt.U, Pt.locs, Pt.cells, Pt.slots] at X129 l129 y129 z129 st129 hQ129
  obtain rfl : c129 = 1 := y129
  obtain rfl : n129 = 16 := z129
  obtain ⟨rfl, N129q, e129⟩ := hQ129
  have N129 := own_frE l129 (Fr.app N125 N129q)
  have k130 : ∀ tg, Steps p.tables e below (T129.setTop (mkF m 252 #[.val (.long q1), .second, .val (.long q2), .second, .val (.int p3), .val (.int p4), .val (.int xw), .val (.int xc), .val (.int xl), .val (.ref b39)] [(.int (1 : Int32))])) tg → Steps p.tables e below (s₁.setTop (entryFrame m #[(.long q1), (.long q2), (.int p3), (.int p4)] maxLocals)) tg := fun tg kg => k128 tg (st129 tg kg)
  have k131 : ∀ tg, Steps p.tables e below (T129.setTop (mkF m 255 #[.val (.long q1), .second, .val (.long q2), .second, .val (.int p3), .val (.int p4), .val (.int xw), .val (.int xc), .val (.int xl), .val (.ref b39)] [])) tg → Steps p.tables e below (s₁.setTop (entryFrame m #[(.long q1), (.long q2), (.int p3), (.int p4)] maxLocals)) tg := fun tg kg => k130 tg (by
      show Steps p.tables e below (T129.setTop (mkF m 252 #[.val (.long q1), .second, .val (.long q2), .second, .val (.int p3), .val (.int p4), .val (.int xw), .val (.int xc), .val (.int xl), .val (.ref b39)] [(.int (1 : Int32))])) _
      refine XS.ifNo X129.here hx rfl (hb hby at_252) rfl ((if0 _ _).trans (feq (by decide)).1) ?_
      exact kg)
  have k132 : ∀ tg, Steps p.tables e below (T129.setTop (mkF m 264 #[.val (.long q1), .second, .val (.long q2), .second, .val (.int p3), .val (.int p4), .val (.int xw), .val (.int xc), .val (.int xl), .val (.ref b39)] [(.int xw), (.int xl), (.int (2 : Int32)), (.long q2), (.long q1), (.ref b39)])) tg → Steps p.tables e below (s₁.setTop (entryFrame m #[(.long q1), (.long q2), (.int p3), (.int p4)] maxLocals)) tg := fun tg kg => k131 tg (by
      show Steps p.tables e below (T129.setTop (mkF m 255 #[.val (.long q1), .second, .val (.long q2), .second, .val (.int p3), .val (.int p4), .val (.int xw), .val (.int xc), .val (.int xl), .val (.ref b39)] [])) _
      refine XS.aload X129.here hx rfl (hb hby at_255) rfl rfl ?_
      show Steps p.tables e below (T129.setTop (mkF m 257 #[.val (.long q1), .second, .val (.long q2), .second, .val (.int p3), .val (.int p4), .val (.int xw), .val (.int xc), .val (.int xl), .val (.ref b39)] [(.ref b39)])) _
      refine XS.lloadN X129.here hx rfl (hb hby at_257) rfl ?_
      show Steps p.tables e below (T129.setTop (mkF m 258 #[.val (.long q1), .second, .val (.long q2), .second, .val (.int p3), .val (.int p4), .val (.int xw), .val (.int xc), .val (.int xl), .val (.ref b39)] [(.long q1), (.ref b39)])) _
      refine XS.lloadN X129.here hx rfl (hb hby at_258) rfl ?_
      show Steps p.tables e below (T129.setTop (mkF m 259 #[.val (.long q1), .second, .val (.long q2), .second, .val (.int p3), .val (.int p4), .val (.int xw), .val (.int xc), .val (.int xl), .val (.ref b39)] [(.long q2), (.long q1), (.ref b39)])) _
      refine XS.iconst X129.here hx rfl (hb hby at_259) ?_
      show Steps p.tables e below (T129.setTop (mkF m 260 #[.val (.long q1), .second, .val (.long q2), .second, .val (.int p3), .val (.int p4), .val (.int xw), .val (.int xc), .val (.int xl), .val (.ref b39)] [(.int (2 : Int32)), (.long q2), (.long q1), (.ref b39)])) _
      refine XS.iload X129.here hx rfl (hb hby at_260) rfl ?_
      show Steps p.tables e below (T129.setTop (mkF m 262 #[.val (.long q1), .second, .val (.long q2), .second, .val (.int p3), .val (.int p4), .val (.int xw), .val (.int xc), .val (.int xl), .val (.ref b39)] [(.int xl), (.int (2 : Int32)), (.long q2), (.long q1), (.ref b39)])) _
      refine XS.iload X129.here hx rfl (hb hby at_262) rfl ?_
      exact kg)
  obtain ⟨_, _, ⟨T133, L133, c133, n133⟩, -, X133, ⟨Lc133, hQ133, l133, y133, z133⟩, st133⟩ := Jvm.LawKit.callS X129 hx (y := (⟨"com/example/modalis/modalis/dicom/data/DataSetReaderToLittleEndianPinLaw", "ok", "([BJJIII)Z"⟩ : MethodName)) hown (mvT hZ (hw _ (List.mem_of_getElem? (i := 10) rfl))) (mvT hZ (hw _ (List.mem_of_getElem? (i := 11) rfl))) (mvT hZ (hw _ (List.mem_of_getElem? (i := 4) rfl))) (mvT hZ (hw _ (List.mem_of_getElem? (i := 12) rfl))) (by decide) (backOf (W := 0) (rm3 l Z a0 hw [] b39 q1 q2 (2 : Int32) xl xw 2 (w1 * c0) w1 g T122.heap n0 Zt (by decide) hxl hxw hw4 (by decide) (hg2 2) Vg) hZ (hw _ (List.mem_of_getElem? (i := 12) rfl)) (hw _ (List.mem_of_getElem? (i := 4) rfl)) (by decide) (by decide)) (g := (mkF m 264 #[.val (.long q1), .second, .val (.long q2), .second, .val (.int p3), .val (.int p4), .val (.int xw), .val (.int xc), .val (.int xl), .val (.ref b39)] [(.int xw), (.int xl), (.int (2 : Int32)), (.long q2), (.long q1), (.ref b39)])) rfl (by rw [hml]; rfl) (argsL := [(.ref b39), (.long q1), (.long q2), (.int (2 : Int32)), (.int xl), (.int xw)]) (rest := []) (lenOf own_pd2 rfl) rfl (by show 2 * 0 + _ ≤ _; exact Nat.le_of_eq rfl) (hb hby at_264) (fun _ _ => ⟨rfl, e129, (by decide : 1 + 0 ≤ _), (by decide : 16 + 0 ≤ _)⟩)
  dsimp only [Pt.U, Pt.locs, Pt.cells, Pt.slots] at X133 l133 y133 z133 st133 hQ133
  obtain rfl : c133 = 1 := y133
  obtain rfl : n133 = 16 := z133
  obtain ⟨rfl, N133q, e133⟩ := hQ133
  have N133 := own_frE l133 (Fr.app N129 N133q)
  have k134 : ∀ tg, Steps p.tables e below (T133.setTop (mkF m 267 #[.val (.long q1), .second, .val (.long q2), .second, .val (.int p3), .val (.int p4), .val (.int xw), .val (.int xc), .val (.int xl), .val (.ref b39)] [(.int (1 : Int32))])) tg → Steps p.tables e below (s₁.setTop (entryFrame m #[(.long q1), (.long q2), (.int p3), (.int p4)] maxLocals)) tg := fun tg kg => k132 tg (st133 tg kg)
  have k135 : ∀ tg, Steps p.tables e below (T133.setTop (mkF m 270 #[.val (.long q1), .second, .val (.long q2), .second, .val (.int p3), .val (.int p4), .val (.int xw), .val (.int xc), .val (.int xl), .val (.ref b39)] [])) tg → Steps p.tables e below (s₁.setTop (entryFrame m #[(.long q1), (.long q2), (.int p3), (.int p4)] maxLocals)) tg := fun tg kg => k134 tg (by
      show Steps p.tables e below (T133.setTop (mkF m 267 #[.val (.long q1), .second, .val (.long q2), .second, .val (.int p3), .val (.int p4), .val (.int xw), .val (.int xc), .val (.int xl), .val (.ref b39)] [(.int (1 : Int32))])) _
      refine XS.ifNo X133.here hx rfl (hb hby at_267) rfl ((if0 _ _).trans (feq (by decide)).1) ?_
      exact kg)
  have k136 : ∀ tg, Steps p.tables e below (T133.setTop (mkF m 279 #[.val (.long q1), .second, .val (.long q2), .second, .val (.int p3), .val (.int p4), .val (.int xw), .val (.int xc), .val (.int xl), .val (.ref b39)] [(.int xw), (.int xl), (.int (3 : Int32)), (.long q2), (.long q1), (.ref b39)])) tg → Steps p.tables e below (s₁.setTop (entryFrame m #[(.long q1), (.long q2), (.int p3), (.int p4)] maxLocals)) tg := fun tg kg => k135 tg (by
      show Steps p.tables e below (T133.setTop (mkF m 270 #[.val (.long q1), .second, .val (.long q2), .second, .val (.int p3), .val (.int p4), .val (.int xw), .val (.int xc), .val (.int xl), .val (.ref b39)] [])) _
      refine XS.aload X133.here hx rfl (hb hby at_270) rfl rfl ?_
      show Steps p.tables e below (T133.setTop (mkF m 272 #[.val (.long q1), .second, .val (.long q2), .second, .val (.int p3), .val (.int p4), .val (.int xw), .val (.int xc), .val (.int xl), .val (.ref b39)] [(.ref b39)])) _
      refine XS.lloadN X133.here hx rfl (hb hby at_272) rfl ?_
      show Steps p.tables e below (T133.setTop (mkF m 273 #[.val (.long q1), .second, .val (.long q2), .second, .val (.int p3), .val (.int p4), .val (.int xw), .val (.int xc), .val (.int xl), .val (.ref b39)] [(.long q1), (.ref b39)])) _
      refine XS.lloadN X133.here hx rfl (hb hby at_273) rfl ?_
      show Steps p.tables e below (T133.setTop (mkF m 274 #[.val (.long q1), .second, .val (.long q2), .second, .val (.int p3), .val (.int p4), .val (.int xw), .val (.int xc), .val (.int xl), .val (.ref b39)] [(.long q2), (.long q1), (.ref b39)])) _
      refine XS.iconst X133.here hx rfl (hb hby at_274) ?_
      show Steps p.tables e below (T133.setTop (mkF m 275 #[.val (.long q1), .second, .val (.long q2), .second, .val (.int p3), .val (.int p4), .val (.int xw), .val (.int xc), .val (.int xl), .val (.ref b39)] [(.int (3 : Int32)), (.long q2), (.long q1), (.ref b39)])) _
      refine XS.iload X133.here hx rfl (hb hby at_275) rfl ?_
      show Steps p.tables e below (T133.setTop (mkF m 277 #[.val (.long q1), .second, .val (.long q2), .second, .val (.int p3), .val (.int p4), .val (.int xw), .val (.int xc), .val (.int xl), .val (.ref b39)] [(.int xl), (.int (3 : Int32)), (.long q2), (.long q1), (.ref b39)])) _
      refine XS.iload X133.here hx rfl (hb hby at_277) rfl ?_
      exact kg)
  obtain ⟨_, _, ⟨T137, L137, c137, n137⟩, -, X137, ⟨Lc137, hQ137, l137, y137, z137⟩, st137⟩ := Jvm.LawKit.callS X133 hx (y := (⟨"com/example/modalis/modalis/dicom/data/DataSetReaderToLittleEndianPinLaw", "ok", "([BJJIII)Z"⟩ : MethodName)) hown (mvT hZ (hw _ (List.mem_of_getElem? (i := 10) rfl))) (mvT hZ (hw _ (List.mem_of_getElem? (i := 11) rfl))) (mvT hZ (hw _ (List.mem_of_getElem? (i := 4) rfl))) (mvT hZ (hw _ (List.mem_of_getElem? (i := 12) rfl))) (by decide) (backOf (W := 0) (rm3 l Z a0 hw [] b39 q1 q2 (3 : Int32) xl xw 3 (w1 * c0) w1 g T122.heap n0 Zt (by decide) hxl hxw hw4 (by decide) (hg2 3) Vg) hZ (hw _ (List.mem_of_getElem? (i := 12) rfl)) (hw _ (List.mem_of_getElem? (i := 4) rfl)) (by decide) (by decide)) (g := (mkF m 279 #[.val (.long q1), .second, .val (.long q2), .second, .val (.int p3), .val (.int p4), .val (.int xw), .val (.int xc), .val (.int xl), .val (.ref b39)] [(.int xw), (.int xl), (.int (3 : Int32)), (.long q2), (.long q1), (.ref b39)])) rfl (by rw [hml]; rfl) (argsL := [(.ref b39), (.long q1), (.long q2), (.int (3 : Int32)), (.int xl), (.int xw)]) (rest := []) (lenOf own_pd2 rfl) rfl (by show 2 * 0 + _ ≤ _; exact Nat.le_of_eq rfl) (hb hby at_279) (fun _ _ => ⟨rfl, e133, (by decide : 1 + 0 ≤ _), (by decide : 16 + 0 ≤ _)⟩)
  dsimp only [Pt.U, Pt.locs, Pt.cells, Pt.slots] at X137 l137 y137 z137 st137 hQ137
  obtain rfl : c137 = 1 := y137
  obtain rfl : n137 = 16 := z137
  obtain ⟨rfl, N137q, e137⟩ := hQ137
  have N137 := own_frE l137 (Fr.app N133 N137q)
  have k138 : ∀ tg, Steps p.tables e below (T137.setTop (mkF m 282 #[.val (.long q1), .second, .val (.long q2), .second, .val (.int p3), .val (.int p4), .val (.int xw), .val (.int xc), .val (.int xl), .val (.ref b39)] [(.int (1 : Int32))])) tg → Steps p.tables e below (s₁.setTop (entryFrame m #[(.long q1), (.long q2), (.int p3), (.int p4)] maxLocals)) tg := fun tg kg => k136 tg (st137 tg kg)
  have k139 : ∀ tg, Steps p.tables e below (T137.setTop (mkF m 285 #[.val (.long q1), .second, .val (.long q2), .second, .val (.int p3), .val (.int p4), .val (.int xw), .val (.int xc), .val (.int xl), .val (.ref b39)] [])) tg → Steps p.tables e below (s₁.setTop (entryFrame m #[(.long q1), (.long q2), (.int p3), (.int p4)] maxLocals)) tg := fun tg kg => k138 tg (by
      show Steps p.tables e below (T137.setTop (mkF m 282 #[.val (.long q1), .second, .val (.long q2), .second, .val (.int p3), .val (.int p4), .val (.int xw), .val (.int xc), .val (.int xl), .val (.ref b39)] [(.int (1 : Int32))])) _
      refine XS.ifNo X137.here hx rfl (hb hby at_282) rfl ((if0 _ _).trans (feq (by decide)).1) ?_
      exact kg)
  have k140 : ∀ tg, Steps p.tables e below (T137.setTop (mkF m 294 #[.val (.long q1), .second, .val (.long q2), .second, .val (.int p3), .val (.int p4), .val (.int xw), .val (.int xc), .val (.int xl), .val (.ref b39)] [(.int xw), (.int xl), (.int (4 : Int32)), (.long q2), (.long q1), (.ref b39)])) tg → Steps p.tables e below (s₁.setTop (entryFrame m #[(.long q1), (.long q2), (.int p3), (.int p4)] maxLocals)) tg := fun tg kg => k139 tg (by
      show Steps p.tables e below (T137.setTop (mkF m 285 #[.val (.long q1), .second, .val (.long q2), .second, .val (.int p3), .val (.int p4), .val (.int xw), .val (.int xc), .val (.int xl), .val (.ref b39)] [])) _
      refine XS.aload X137.here hx rfl (hb hby at_285) rfl rfl ?_
      show Steps p.tables e below (T137.setTop (mkF m 287 #[.val (.long q1), .second, .val (.long q2), .second, .val (.int p3), .val (.int p4), .val (.int xw), .val (.int xc), .val (.int xl), .val (.ref b39)] [(.ref b39)])) _
      refine XS.lloadN X137.here hx rfl (hb hby at_287) rfl ?_
      show Steps p.tables e below (T137.setTop (mkF m 288 #[.val (.long q1), .second, .val (.long q2), .second, .val (.int p3), .val (.int p4), .val (.int xw), .val (.int xc), .val (.int xl), .val (.ref b39)] [(.long q1), (.ref b39)])) _
      refine XS.lloadN X137.here hx rfl (hb hby at_288) rfl ?_
      show Steps p.tables e below (T137.setTop (mkF m 289 #[.val (.long q1), .second, .val (.long q2), .second, .val (.int p3), .val (.int p4), .val (.int xw), .val (.int xc), .val (.int xl), .val (.ref b39)] [(.long q2), (.long q1), (.ref b39)])) _
      refine XS.iconst X137.here hx rfl (hb hby at_289) ?_
      show Steps p.tables e below (T137.setTop (mkF m 290 #[.val (.long q1), .second, .val (.long q2), .second, .val (.int p3), .val (.int p4), .val (.int xw), .val (.int xc), .val (.int xl), .val (.ref b39)] [(.int (4 : Int32)), (.long q2), (.long q1), (.ref b39)])) _
      refine XS.iload X137.here hx rfl (hb hby at_290) rfl ?_
      show Steps p.tables e below (T137.setTop (mkF m 292 #[.val (.long q1), .second, .val (.long q2), .second, .val (.int p3), .val (.int p4), .val (.int xw), .val (.int xc), .val (.int xl), .val (.ref b39)] [(.int xl), (.int (4 : Int32)), (.long q2), (.long q1), (.ref b39)])) _
      refine XS.iload X137.here hx rfl (hb hby at_292) rfl ?_
      exact kg)
  obtain ⟨_, _, ⟨T141, L141, c141, n141⟩, -, X141, ⟨Lc141, hQ141, l141, y141, z141⟩, st141⟩ := Jvm.LawKit.callS X137 hx (y := (⟨"com/example/modalis/modalis/dicom/data/DataSetReaderToLittleEndianPinLaw", "ok", "([BJJIII)Z"⟩ : MethodName)) hown (mvT hZ (hw _ (List.mem_of_getElem? (i := 10) rfl))) (mvT hZ (hw _ (List.mem_of_getElem? (i := 11) rfl))) (mvT hZ (hw _ (List.mem_of_getElem? (i := 4) rfl))) (mvT hZ (hw _ (List.mem_of_getElem? (i := 12) rfl))) (by decide) (backOf (W := 0) (rm3 l Z a0 hw [] b39 q1 q2 (4 : Int32) xl xw 4 (w1 * c0) w1 g T122.heap n0 Zt (by decide) hxl hxw hw4 (by decide) (hg2 4) Vg) hZ (hw _ (List.mem_of_getElem? (i := 12) rfl)) (hw _ (List.mem_of_getElem? (i := 4) rfl)) (by decide) (by decide)) (g := (mkF m 294 #[.val (.long q1), .second, .val (.long q2), .second, .val (.int p3), .val (.int p4), .val (.int xw), .val (.int xc), .val (.int xl), .val (.ref b39)] [(.int xw), (.int xl), (.int (4 : Int32)), (.long q2), (.long q1), (.ref b39)])) rfl (by rw [hml]; rfl) (argsL := [(.ref b39), (.long q1), (.long q2), (.int (4 : Int32)), (.int xl), (.int xw)]) (rest := []) (lenOf own_pd2 rfl) rfl (by show 2 * 0 + _ ≤ _; exact Nat.le_of_eq rfl) (hb hby at_294) (fun _ _ => ⟨rfl, e137, (by decide : 1 + 0 ≤ _), (by decide : 16 + 0 ≤ _)⟩)
  dsimp only [Pt.U, Pt.locs, Pt.cells, Pt.slots] at X141 l141 y141 z141 st141 hQ141
  obtain rfl : c141 = 1 := y141
  obtain rfl : n141 = 16 := z141
  obtain ⟨rfl, N141q, e141⟩ := hQ141
  have N141 := own_frE l141 (Fr.app N137 N141q)
  have k142 : ∀ tg, Steps p.tables e below (T141.setTop (mkF m 297 #[.val (.long q1), .second, .val (.long q2), .second, .val (.int p3), .val (.int p4), .val (.int xw), .val (.int xc), .val (.int xl), .val (.ref b39)] [(.int (1 : Int32))])) tg → Steps p.tables e below (s₁.setTop (entryFrame m #[(.long q1), (.long q2), (.int p3), (.int p4)] maxLocals)) tg := fun tg kg => k140 tg (st141 tg kg)
  have k143 : ∀ tg, Steps p.tables e below (T141.setTop (mkF m 300 #[.val (.long q1), .second, .val (.long q2), .second, .val (.int p3), .val (.int p4), .val (.int xw), .val (.int xc), .val (.int xl), .val (.ref b39)] [])) tg → Steps p.tables e below (s₁.setTop (entryFrame m #[(.long q1), (.long q2), (.int p3), (.int p4)] maxLocals)) tg := fun tg kg => k142 tg (by
      show Steps p.tables e below (T141.setTop (mkF m 297 #[.val (.long q1), .second, .val (.long q2), .second, .val (.int p3), .val (.int p4), .val (.int xw), .val (.int xc), .val (.int xl), .val (.ref b39)] [(.int (1 : Int32))])) _
      refine XS.ifNo X141.here hx rfl (hb hby at_297) rfl ((if0 _ _).trans (feq (by decide)).1) ?_
      exact kg)
  have k144 : ∀ tg, Steps p.tables e below (T141.setTop (mkF m 309 #[.val (.long q1), .second, .val (.long q2), .second, .val (.int p3), .val (.int p4), .val (.int xw), .val (.int xc), .val (.int xl), .val (.ref b39)] [(.int xw), (.int xl), (.int (5 : Int32)), (.long q2), (.long q1), (.ref b39)])) tg → Steps p.tables e below (s₁.setTop (entryFrame m #[(.long q1), (.long q2), (.int p3), (.int p4)] maxLocals)) tg := fun tg kg => k143 tg (by
      show Steps p.tables e below (T141.setTop (mkF m 300 #[.val (.long q1), .second, .val (.long q2), .second, .val (.int p3), .val (.int p4), .val (.int xw), .val (.int xc), .val (.int xl), .val (.ref b39)] [])) _
      refine XS.aload X141.here hx rfl (hb hby at_300) rfl rfl ?_
      show Steps p.tables e below (T141.setTop (mkF m 302 #[.val (.long q1), .second, .val (.long q2), .second, .val (.int p3), .val (.int p4), .val (.int xw), .val (.int xc), .val (.int xl), .val (.ref b39)] [(.ref b39)])) _
      refine XS.lloadN X141.here hx rfl (hb hby at_302) rfl ?_
      show Steps p.tables e below (T141.setTop (mkF m 303 #[.val (.long q1), .second, .val (.long q2), .second, .val (.int p3), .val (.int p4), .val (.int xw), .val (.int xc), .val (.int xl), .val (.ref b39)] [(.long q1), (.ref b39)])) _
      refine XS.lloadN X141.here hx rfl (hb hby at_303) rfl ?_
      show Steps p.tables e below (T141.setTop (mkF m 304 #[.val (.long q1), .second, .val (.long q2), .second, .val (.int p3), .val (.int p4), .val (.int xw), .val (.int xc), .val (.int xl), .val (.ref b39)] [(.long q2), (.long q1), (.ref b39)])) _
      refine XS.iconst X141.here hx rfl (hb hby at_304) ?_
      show Steps p.tables e below (T141.setTop (mkF m 305 #[.val (.long q1), .second, .val (.long q2), .second, .val (.int p3), .val (.int p4), .val (.int xw), .val (.int xc), .val (.int xl), .val (.ref b39)] [(.int (5 : Int32)), (.long q2), (.long q1), (.ref b39)])) _
      refine XS.iload X141.here hx rfl (hb hby at_305) rfl ?_
      show Steps p.tables e below (T141.setTop (mkF m 307 #[.val (.long q1), .second, .val (.long q2), .second, .val (.int p3), .val (.int p4), .val (.int xw), .val (.int xc), .val (.int xl), .val (.ref b39)] [(.int xl), (.int (5 : Int32)), (.long q2), (.long q1), (.ref b39)])) _
      refine XS.iload X141.here hx rfl (hb hby at_307) rfl ?_
      exact kg)
  obtain ⟨_, _, ⟨T145, L145, c145, n145⟩, -, X145, ⟨Lc145, hQ145, l145, y145, z145⟩, st145⟩ := Jvm.LawKit.callS X141 hx (y := (⟨"com/example/modalis/modalis/dicom/data/DataSetReaderToLittleEndianPinLaw", "ok", "([BJJIII)Z"⟩ : MethodName)) hown (mvT hZ (hw _ (List.mem_of_getElem? (i := 10) rfl))) (mvT hZ (hw _ (List.mem_of_getElem? (i := 11) rfl))) (mvT hZ (hw _ (List.mem_of_getElem? (i := 4) rfl))) (mvT hZ (hw _ (List.mem_of_getElem? (i := 12) rfl))) (by decide) (backOf (W := 0) (rm3 l Z a0 hw [] b39 q1 q2 (5 : Int32) xl xw 5 (w1 * c0) w1 g T122.heap n0 Zt (by decide) hxl hxw hw4 (by decide) (hg2 5) Vg) hZ (hw _ (List.mem_of_getElem? (i := 12) rfl)) (hw _ (List.mem_of_getElem? (i := 4) rfl)) (by decide) (by decide)) (g := (mkF m 309 #[.val (.long q1), .second, .val (.long q2), .second, .val (.int p3), .val (.int p4), .val (.int xw), .val (.int xc), .val (.int xl), .val (.ref b39)] [(.int xw), (.int xl), (.int (5 : Int32)), (.long q2), (.long q1), (.ref b39)])) rfl (by rw [hml]; rfl) (argsL := [(.ref b39), (.long q1), (.long q2), (.int (5 : Int32)), (.int xl), (.int xw)]) (rest := []) (lenOf own_pd2 rfl) rfl (by show 2 * 0 + _ ≤ _; exact Nat.le_of_eq rfl) (hb hby at_309) (fun _ _ => ⟨rfl, e141, (by decide : 1 + 0 ≤ _), (by decide : 16 + 0 ≤ _)⟩)
  dsimp only [Pt.U, Pt.locs, Pt.cells, Pt.slots] at X145 l145 y145 z145 st145 hQ145
  obtain rfl : c145 = 1 := y145
  obtain rfl : n145 = 16 := z145
  obtain ⟨rfl, N145q, e145⟩ := hQ145
  have N145 := own_frE l145 (Fr.app N141 N145q)
  have k146 : ∀ tg, Steps p.tables e below (T145.setTop (mkF m 312 #[.val (.long q1), .second, .val (.long q2), .second, .val (.int p3), .val (.int p4), .val (.int xw), .val (.int xc), .val (.int xl), .val (.ref b39)] [(.int (1 : Int32))])) tg → Steps p.tables e below (s₁.setTop (entryFrame m #[(.long q1), (.long q2), (.int p3), (.int p4)] maxLocals)) tg := fun tg kg => k144 tg (st145 tg kg)
  have k147 : ∀ tg, Steps p.tables e below (T145.setTop (mkF m 315 #[.val (.long q1), .second, .val (.long q2), .second, .val (.int p3), .val (.int p4), .val (.int xw), .val (.int xc), .val (.int xl), .val (.ref b39)] [])) tg → Steps p.tables e below (s₁.setTop (entryFrame m #[(.long q1), (.long q2), (.int p3), (.int p4)] maxLocals)) tg := fun tg kg => k146 tg (by
      show Steps p.tables e below (T145.setTop (mkF m 312 #[.val (.long q1), .second, .val (.long q2), .second, .val (.int p3), .val (.int p4), .val (.int xw), .val (.int xc), .val (.int xl), .val (.ref b39)] [(.int (1 : Int32))])) _
      refine XS.ifNo X145.here hx rfl (hb hby at_312) rfl ((if0 _ _).trans (feq (by decide)).1) ?_
      exact kg)
  have k148 : ∀ tg, Steps p.tables e below (T145.setTop (mkF m 325 #[.val (.long q1), .second, .val (.long q2), .second, .val (.int p3), .val (.int p4), .val (.int xw), .val (.int xc), .val (.int xl), .val (.ref b39)] [(.int xw), (.int xl), (.int (6 : Int32)), (.long q2), (.long q1), (.ref b39)])) tg → Steps p.tables e below (s₁.setTop (entryFrame m #[(.long q1), (.long q2), (.int p3), (.int p4)] maxLocals)) tg := fun tg kg => k147 tg (by
      show Steps p.tables e below (T145.setTop (mkF m 315 #[.val (.long q1), .second, .val (.long q2), .second, .val (.int p3), .val (.int p4), .val (.int xw), .val (.int xc), .val (.int xl), .val (.ref b39)] [])) _
      refine XS.aload X145.here hx rfl (hb hby at_315) rfl rfl ?_
      show Steps p.tables e below (T145.setTop (mkF m 317 #[.val (.long q1), .second, .val (.long q2), .second, .val (.int p3), .val (.int p4), .val (.int xw), .val (.int xc), .val (.int xl), .val (.ref b39)] [(.ref b39)])) _
      refine XS.lloadN X145.here hx rfl (hb hby at_317) rfl ?_
      show Steps p.tables e below (T145.setTop (mkF m 318 #[.val (.long q1), .second, .val (.long q2), .second, .val (.int p3), .val (.int p4), .val (.int xw), .val (.int xc), .val (.int xl), .val (.ref b39)] [(.long q1), (.ref b39)])) _
      refine XS.lloadN X145.here hx rfl (hb hby at_318) rfl ?_
      show Steps p.tables e below (T145.setTop (mkF m 319 #[.val (.long q1), .second, .val (.long q2), .second, .val (.int p3), .val (.int p4), .val (.int xw), .val (.int xc), .val (.int xl), .val (.ref b39)] [(.long q2), (.long q1), (.ref b39)])) _
      refine XS.bipush X145.here hx rfl (hb hby at_319) ?_
      show Steps p.tables e below (T145.setTop (mkF m 321 #[.val (.long q1), .second, .val (.long q2), .second, .val (.int p3), .val (.int p4), .val (.int xw), .val (.int xc), .val (.int xl), .val (.ref b39)] [(.int (6 : Int32)), (.long q2), (.long q1), (.ref b39)])) _
      refine XS.iload X145.here hx rfl (hb hby at_321) rfl ?_
      show Steps p.tables e below (T145.setTop (mkF m 323 #[.val (.long q1), .second, .val (.long q2), .second, .val (.int p3), .val (.int p4), .val (.int xw), .val (.int xc), .val (.int xl), .val (.ref b39)] [(.int xl), (.int (6 : Int32)), (.long q2), (.long q1), (.ref b39)])) _
      refine XS.iload X145.here hx rfl (hb hby at_323) rfl ?_
      exact kg)
  obtain ⟨_, _, ⟨T149, L149, c149, n149⟩, -, X149, ⟨Lc149, hQ149, l149, y149, z149⟩, st149⟩ := Jvm.LawKit.callS X145 hx (y := (⟨"com/example/modalis/modalis/dicom/data/DataSetReaderToLittleEndianPinLaw", "ok", "([BJJIII)Z"⟩ : MethodName)) hown (mvT hZ (hw _ (List.mem_of_getElem? (i := 10) rfl))) (mvT hZ (hw _ (List.mem_of_getElem? (i := 11) rfl))) (mvT hZ (hw _ (List.mem_of_getElem? (i := 4) rfl))) (mvT hZ (hw _ (List.mem_of_getElem? (i := 12) rfl))) (by decide) (backOf (W := 0) (rm3 l Z a0 hw [] b39 q1 q2 (6 : Int32) xl xw 6 (w1 * c0) w1 g T122.heap n0 Zt (by decide) hxl hxw hw4 (by decide) (hg2 6) Vg) hZ (hw _ (List.mem_of_getElem? (i := 12) rfl)) (hw _ (List.mem_of_getElem? (i := 4) rfl)) (by decide) (by decide)) (g := (mkF m 325 #[.val (.long q1), .second, .val (.long q2), .second, .val (.int p3), .val (.int p4), .val (.int xw), .val (.int xc), .val (.int xl), .val (.ref b39)] [(.int xw), (.int xl), (.int (6 : Int32)), (.long q2), (.long q1), (.ref b39)])) rfl (by rw [hml]; rfl) (argsL := [(.ref b39), (.long q1), (.long q2), (.int (6 : Int32)), (.int xl), (.int xw)]) (rest := []) (lenOf own_pd2 rfl) rfl (by show 2 * 0 + _ ≤ _; exact Nat.le_of_eq rfl) (hb hby at_325) (fun _ _ => ⟨rfl, e145, (by decide : 1 + 0 ≤ _), (by decide : 16 + 0 ≤ _)⟩)
  dsimp only [Pt.U, Pt.locs, Pt.cells, Pt.slots] at X149 l149 y149 z149 st149 hQ149
  obtain rfl : c149 = 1 := y149
  obtain rfl : n149 = 16 := z149
  obtain ⟨rfl, N149q, e149⟩ := hQ149
  have N149 := own_frE l149 (Fr.app N145 N149q)
  have k150 : ∀ tg, Steps p.tables e below (T149.setTop (mkF m 328 #[.val (.long q1), .second, .val (.long q2), .second, .val (.int p3), .val (.int p4), .val (.int xw), .val (.int xc), .val (.int xl), .val (.ref b39)] [(.int (1 : Int32))])) tg → Steps p.tables e below (s₁.setTop (entryFrame m #[(.long q1), (.long q2), (.int p3), (.int p4)] maxLocals)) tg := fun tg kg => k148 tg (st149 tg kg)
  have k151 : ∀ tg, Steps p.tables e below (T149.setTop (mkF m 331 #[.val (.long q1), .second, .val (.long q2), .second, .val (.int p3), .val (.int p4), .val (.int xw), .val (.int xc), .val (.int xl), .val (.ref b39)] [])) tg → Steps p.tables e below (s₁.setTop (entryFrame m #[(.long q1), (.long q2), (.int p3), (.int p4)] maxLocals)) tg := fun tg kg => k150 tg (by
      show Steps p.tables e below (T149.setTop (mkF m 328 #[.val (.long q1), .second, .val (.long q2), .second, .val (.int p3), .val (.int p4), .val (.int xw), .val (.int xc), .val (.int xl), .val (.ref b39)] [(.int (1 : Int32))])) _
      refine XS.ifNo X149.here hx rfl (hb hby at_328) rfl ((if0 _ _).trans (feq (by decide)).1) ?_
      exact kg)
  have k152 : ∀ tg, Steps p.tables e below (T149.setTop (mkF m 341 #[.val (.long q1), .second, .val (.long q2), .second, .val (.int p3), .val (.int p4), .val (.int xw), .val (.int xc), .val (.int xl), .val (.ref b39)] [(.int xw), (.int xl), (.int (7 : Int32)), (.long q2), (.long q1), (.ref b39)])) tg → Steps p.tables e below (s₁.setTop (entryFrame m #[(.long q1), (.long q2), (.int p3), (.int p4)] maxLocals)) tg := fun tg kg => k151 tg (by
      show Steps p.tables e below (T149.setTop (mkF m 331 #[.val (.long q1), .second, .val (.long q2), .second, .val (.int p3), .val (.int p4), .val (.int xw), .val (.int xc), .val (.int xl), .val (.ref b39)] [])) _
      refine XS.aload X149.here hx rfl (hb hby at_331) rfl rfl ?_
      show Steps p.tables e below (T149.setTop (mkF m 333 #[.val (.long q1), .second, .val (.long q2), .second, .val (.int p3), .val (.int p4), .val (.int xw), .val (.int xc), .val (.int xl), .val (.ref b39)] [(.ref b39)])) _
      refine XS.lloadN X149.here hx rfl (hb hby at_333) rfl ?_
      show Steps p.tables e below (T149.setTop (mkF m 334 #[.val (.long q1), .second, .val (.long q2), .second, .val (.int p3), .val (.int p4), .val (.int xw), .val (.int xc), .val (.int xl), .val (.ref b39)] [(.long q1), (.ref b39)])) _
      refine XS.lloadN X149.here hx rfl (hb hby at_334) rfl ?_
      show Steps p.tables e below (T149.setTop (mkF m 335 #[.val (.long q1), .second, .val (.long q2), .second, .val (.int p3), .val (.int p4), .val (.int xw), .val (.int xc), .val (.int xl), .val (.ref b39)] [(.long q2), (.long q1), (.ref b39)])) _
      refine XS.bipush X149.here hx rfl (hb hby at_335) ?_
      show Steps p.tables e below (T149.setTop (mkF m 337 #[.val (.long q1), .second, .val (.long q2), .second, .val (.int p3), .val (.int p4), .val (.int xw), .val (.int xc), .val (.int xl), .val (.ref b39)] [(.int (7 : Int32)), (.long q2), (.long q1), (.ref b39)])) _
      refine XS.iload X149.here hx rfl (hb hby at_337) rfl ?_
      show Steps p.tables e below (T149.setTop (mkF m 339 #[.val (.long q1), .second, .val (.long q2), .second, .val (.int p3), .val (.int p4), .val (.int xw), .val (.int xc), .val (.int xl), .val (.ref b39)] [(.int xl), (.int (7 : Int32)), (.long q2), (.long q1), (.ref b39)])) _
      refine XS.iload X149.here hx rfl (hb hby at_339) rfl ?_
      exact kg)
  obtain ⟨_, _, ⟨T153, L153, c153, n153⟩, -, X153, ⟨Lc153, hQ153, l153, y153, z153⟩, st153⟩ := Jvm.LawKit.callS X149 hx (y := (⟨"com/example/modalis/modalis/dicom/data/DataSetReaderToLittleEndianPinLaw", "ok", "([BJJIII)Z"⟩ : MethodName)) hown (mvT hZ (hw _ (List.mem_of_getElem? (i := 10) rfl))) (mvT hZ (hw _ (List.mem_of_getElem? (i := 11) rfl))) (mvT hZ (hw _ (List.mem_of_getElem? (i := 4) rfl))) (mvT hZ (hw _ (List.mem_of_getElem? (i := 12) rfl))) (by decide) (backOf (W := 0) (rm3 l Z a0 hw [] b39 q1 q2 (7 : Int32) xl xw 7 (w1 * c0) w1 g T122.heap n0 Zt (by decide) hxl hxw hw4 (by decide) (hg2 7) Vg) hZ (hw _ (List.mem_of_getElem? (i := 12) rfl)) (hw _ (List.mem_of_getElem? (i := 4) rfl)) (by decide) (by decide)) (g := (mkF m 341 #[.val (.long q1), .second, .val (.long q2), .second, .val (.int p3), .val (.int p4), .val (.int xw), .val (.int xc), .val (.int xl), .val (.ref b39)] [(.int xw), (.int xl), (.int (7 : Int32)), (.long q2), (.long q1), (.ref b39)])) rfl (by rw [hml]; rfl) (argsL := [(.ref b39), (.long q1), (.long q2), (.int (7 : Int32)), (.int xl), (.int xw)]) (rest := []) (lenOf own_pd2 rfl) rfl (by show 2 * 0 + _ ≤ _; exact Nat.le_of_eq rfl) (hb hby at_341) (fun _ _ => ⟨rfl, e149, (by decide : 1 + 0 ≤ _), (by decide : 16 + 0 ≤ _)⟩)
  dsimp only [Pt.U, Pt.locs, Pt.cells, Pt.slots] at X153 l153 y153 z153 st153 hQ153
  obtain rfl : c153 = 1 := y153
  obtain rfl : n153 = 16 := z153
  obtain ⟨rfl, N153q, e153⟩ := hQ153
  have N153 := own_frE l153 (Fr.app N149 N153q)
  have k154 : ∀ tg, Steps p.tables e below (T153.setTop (mkF m 344 #[.val (.long q1), .second, .val (.long q2), .second, .val (.int p3), .val (.int p4), .val (.int xw), .val (.int xc), .val (.int xl), .val (.ref b39)] [(.int (1 : Int32))])) tg → Steps p.tables e below (s₁.setTop (entryFrame m #[(.long q1), (.long q2), (.int p3), (.int p4)] maxLocals)) tg := fun tg kg => k152 tg (st153 tg kg)
  have k155 : ∀ tg, Steps p.tables e below (T153.setTop (mkF m 347 #[.val (.long q1), .second, .val (.long q2), .second, .val (.int p3), .val (.int p4), .val (.int xw), .val (.int xc), .val (.int xl), .val (.ref b39)] [])) tg → Steps p.tables e below (s₁.setTop (entryFrame m #[(.long q1), (.long q2), (.int p3), (.int p4)] maxLocals)) tg := fun tg kg => k154 tg (by
      show Steps p.tables e below (T153.setTop (mkF m 344 #[.val (.long q1), .second, .val (.long q2), .second, .val (.int p3), .val (.int p4), .val (.int xw), .val (.int xc), .val (.int xl), .val (.ref b39)] [(.int (1 : Int32))])) _
      refine XS.ifNo X153.here hx rfl (hb hby at_344) rfl ((if0 _ _).trans (feq (by decide)).1) ?_
      exact kg)
  have k156 : ∀ tg, Steps p.tables e below (T153.setTop (mkF m 357 #[.val (.long q1), .second, .val (.long q2), .second, .val (.int p3), .val (.int p4), .val (.int xw), .val (.int xc), .val (.int xl), .val (.ref b39)] [(.int xw), (.int xl), (.int (8 : Int32)), (.long q2), (.long q1), (.ref b39)])) tg → Steps p.tables e below (s₁.setTop (entryFrame m #[(.long q1), (.long q2), (.int p3), (.int p4)] maxLocals)) tg := fun tg kg => k155 tg (by
      show Steps p.tables e below (T153.setTop (mkF m 347 #[.val (.long q1), .second, .val (.long q2), .second, .val (.int p3), .val (.int p4), .val (.int xw), .val (.int xc), .val (.int xl), .val (.ref b39)] [])) _
      refine XS.aload X153.here hx rfl (hb hby at_347) rfl rfl ?_
      show Steps p.tables e below (T153.setTop (mkF m 349 #[.val (.long q1), .second, .val (.long q2), .second, .val (.int p3), .val (.int p4), .val (.int xw), .val (.int xc), .val (.int xl), .val (.ref b39)] [(.ref b39)])) _
      refine XS.lloadN X153.here hx rfl (hb hby at_349) rfl ?_
      show Steps p.tables e below (T153.setTop (mkF m 350 #[.val (.long q1), .second, .val (.long q2), .second, .val (.int p3), .val (.int p4), .val (.int xw), .val (.int xc), .val (.int xl), .val (.ref b39)] [(.long q1), (.ref b39)])) _
      refine XS.lloadN X153.here hx rfl (hb hby at_350) rfl ?_
      show Steps p.tables e below (T153.setTop (mkF m 351 #[.val (.long q1), .second, .val (.long q2), .second, .val (.int p3), .val (.int p4), .val (.int xw), .val (.int xc), .val (.int xl), .val (.ref b39)] [(.long q2), (.long q1), (.ref b39)])) _
      refine XS.bipush X153.here hx rfl (hb hby at_351) ?_
      show Steps p.tables e below (T153.setTop (mkF m 353 #[.val (.long q1), .second, .val (.long q2), .second, .val (.int p3), .val (.int p4), .val (.int xw), .val (.int xc), .val (.int xl), .val (.ref b39)] [(.int (8 : Int32)), (.long q2), (.long q1), (.ref b39)])) _
      refine XS.iload X153.here hx rfl (hb hby at_353) rfl ?_
      show Steps p.tables e below (T153.setTop (mkF m 355 #[.val (.long q1), .second, .val (.long q2), .second, .val (.int p3), .val (.int p4), .val (.int xw), .val (.int xc), .val (.int xl), .val (.ref b39)] [(.int xl), (.int (8 : Int32)), (.long q2), (.long q1), (.ref b39)])) _
      refine XS.iload X153.here hx rfl (hb hby at_355) rfl ?_
      exact kg)
  obtain ⟨_, _, ⟨T157, L157, c157, n157⟩, -, X157, ⟨Lc157, hQ157, l157, y157, z157⟩, st157⟩ := Jvm.LawKit.callS X153 hx (y := (⟨"com/example/modalis/modalis/dicom/data/DataSetReaderToLittleEndianPinLaw", "ok", "([BJJIII)Z"⟩ : MethodName)) hown (mvT hZ (hw _ (List.mem_of_getElem? (i := 10) rfl))) (mvT hZ (hw _ (List.mem_of_getElem? (i := 11) rfl))) (mvT hZ (hw _ (List.mem_of_getElem? (i := 4) rfl))) (mvT hZ (hw _ (List.mem_of_getElem? (i := 12) rfl))) (by decide) (backOf (W := 0) (rm3 l Z a0 hw [] b39 q1 q2 (8 : Int32) xl xw 8 (w1 * c0) w1 g T122.heap n0 Zt (by decide) hxl hxw hw4 (by decide) (hg2 8) Vg) hZ (hw _ (List.mem_of_getElem? (i := 12) rfl)) (hw _ (List.mem_of_getElem? (i := 4) rfl)) (by decide) (by decide)) (g := (mkF m 357 #[.val (.long q1), .second, .val (.long q2), .second, .val (.int p3), .val (.int p4), .val (.int xw), .val (.int xc), .val (.int xl), .val (.ref b39)] [(.int xw), (.int xl), (.int (8 : Int32)), (.long q2), (.long q1), (.ref b39)])) rfl (by rw [hml]; rfl) (argsL := [(.ref b39), (.long q1), (.long q2), (.int (8 : Int32)), (.int xl), (.int xw)]) (rest := []) (lenOf own_pd2 rfl) rfl (by show 2 * 0 + _ ≤ _; exact Nat.le_of_eq rfl) (hb hby at_357) (fun _ _ => ⟨rfl, e153, (by decide : 1 + 0 ≤ _), (by decide : 16 + 0 ≤ _)⟩)
  dsimp only [Pt.U, Pt.locs, Pt.cells, Pt.slots] at X157 l157 y157 z157 st157 hQ157
  obtain rfl : c157 = 1 := y157
  obtain rfl : n157 = 16 := z157
  obtain ⟨rfl, N157q, e157⟩ := hQ157
  have N157 := own_frE l157 (Fr.app N153 N157q)
  have k158 : ∀ tg, Steps p.tables e below (T157.setTop (mkF m 360 #[.val (.long q1), .second, .val (.long q2), .second, .val (.int p3), .val (.int p4), .val (.int xw), .val (.int xc), .val (.int xl), .val (.ref b39)] [(.int (1 : Int32))])) tg → Steps p.tables e below (s₁.setTop (entryFrame m #[(.long q1), (.long q2), (.int p3), (.int p4)] maxLocals)) tg := fun tg kg => k156 tg (st157 tg kg)
  have k159 : ∀ tg, Steps p.tables e below (T157.setTop (mkF m 363 #[.val (.long q1), .second, .val (.long q2), .second, .val (.int p3), .val (.int p4), .val (.int xw), .val (.int xc), .val (.int xl), .val (.ref b39)] [])) tg → Steps p.tables e below (s₁.setTop (entryFrame m #[(.long q1), (.long q2), (.int p3), (.int p4)] maxLocals)) tg := fun tg kg => k158 tg (by
      show Steps p.tables e below (T157.setTop (mkF m 360 #[.val (.long q1), .second, .val (.long q2), .second, .val (.int p3), .val (.int p4), .val (.int xw), .val (.int xc), .val (.int xl), .val (.ref b39)] [(.int (1 : Int32))])) _
      refine XS.ifNo X157.here hx rfl (hb hby at_360) rfl ((if0 _ _).trans (feq (by decide)).1) ?_
      exact kg)
  have k160 : ∀ tg, Steps p.tables e below (T157.setTop (mkF m 373 #[.val (.long q1), .second, .val (.long q2), .second, .val (.int p3), .val (.int p4), .val (.int xw), .val (.int xc), .val (.int xl), .val (.ref b39)] [(.int xw), (.int xl), (.int (9 : Int32)), (.long q2), (.long q1), (.ref b39)])) tg → Steps p.tables e below (s₁.setTop (entryFrame m #[(.long q1), (.long q2), (.int p3), (.int p4)] maxLocals)) tg := fun tg kg => k159 tg (by
      show Steps p.tables e below (T157.setTop (mkF m 363 #[.val (.long q1), .second, .val (.long q2), .second, .val (.int p3), .val (.int p4), .val (.int xw), .val (.int xc), .val (.int xl), .val (.ref b39)] [])) _
      refine XS.aload X157.here hx rfl (hb hby at_363) rfl rfl ?_
      show Steps p.tables e below (T157.setTop (mkF m 365 #[.val (.long q1), .second, .val (.long q2), .second, .val (.int p3), .val (.int p4), .val (.int xw), .val (.int xc), .val (.int xl), .val (.ref b39)] [(.ref b39)])) _
      refine XS.lloadN X157.here hx rfl (hb hby at_365) rfl ?_
      show Steps p.tables e below (T157.setTop (mkF m 366 #[.val (.long q1), .second, .val (.long q2), .second, .val (.int p3), .val (.int p4), .val (.int xw), .val (.int xc), .val (.int xl), .val (.ref b39)] [(.long q1), (.ref b39)])) _
      refine XS.lloadN X157.here hx rfl (hb hby at_366) rfl ?_
      show Steps p.tables e below (T157.setTop (mkF m 367 #[.val (.long q1), .second, .val (.long q2), .second, .val (.int p3), .val (.int p4), .val (.int xw), .val (.int xc), .val (.int xl), .val (.ref b39)] [(.long q2), (.long q1), (.ref b39)])) _
      refine XS.bipush X157.here hx rfl (hb hby at_367) ?_
      show Steps p.tables e below (T157.setTop (mkF m 369 #[.val (.long q1), .second, .val (.long q2), .second, .val (.int p3), .val (.int p4), .val (.int xw), .val (.int xc), .val (.int xl), .val (.ref b39)] [(.int (9 : Int32)), (.long q2), (.long q1), (.ref b39)])) _
      refine XS.iload X157.here hx rfl (hb hby at_369) rfl ?_
      show Steps p.tables e below (T157.setTop (mkF m 371 #[.val (.long q1), .second, .val (.long q2), .second, .val (.int p3), .val (.int p4), .val (.int xw), .val (.int xc), .val (.int xl), .val (.ref b39)] [(.int xl), (.int (9 : Int32)), (.long q2), (.long q1), (.ref b39)])) _
      refine XS.iload X157.here hx rfl (hb hby at_371) rfl ?_
      exact kg)
  obtain ⟨_, _, ⟨T161, L161, c161, n161⟩, -, X161, ⟨Lc161, hQ161, l161, y161, z161⟩, st161⟩ := Jvm.LawKit.callS X157 hx (y := (⟨"com/example/modalis/modalis/dicom/data/DataSetReaderToLittleEndianPinLaw", "ok", "([BJJIII)Z"⟩ : MethodName)) hown (mvT hZ (hw _ (List.mem_of_getElem? (i := 10) rfl))) (mvT hZ (hw _ (List.mem_of_getElem? (i := 11) rfl))) (mvT hZ (hw _ (List.mem_of_getElem? (i := 4) rfl))) (mvT hZ (hw _ (List.mem_of_getElem? (i := 12) rfl))) (by decide) (backOf (W := 0) (rm3 l Z a0 hw [] b39 q1 q2 (9 : Int32) xl xw 9 (w1 * c0) w1 g T122.heap n0 Zt (by decide) hxl hxw hw4 (by decide) (hg2 9) Vg) hZ (hw _ (List.mem_of_getElem? (i := 12) rfl)) (hw _ (List.mem_of_getElem? (i := 4) rfl)) (by decide) (by decide)) (g := (mkF m 373 #[.val (.long q1), .second, .val (.long q2), .second, .val (.int p3), .val (.int p4), .val (.int xw), .val (.int xc), .val (.int xl), .val (.ref b39)] [(.int xw), (.int xl), (.int (9 : Int32)), (.long q2), (.long q1), (.ref b39)])) rfl (by rw [hml]; rfl) (argsL := [(.ref b39), (.long q1), (.long q2), (.int (9 : Int32)), (.int xl), (.int xw)]) (rest := []) (lenOf own_pd2 rfl) rfl (by show 2 * 0 + _ ≤ _; exact Nat.le_of_eq rfl) (hb hby at_373) (fun _ _ => ⟨rfl, e157, (by decide : 1 + 0 ≤ _), (by decide : 16 + 0 ≤ _)⟩)
  dsimp only [Pt.U, Pt.locs, Pt.cells, Pt.slots] at X161 l161 y161 z161 st161 hQ161
  obtain rfl : c161 = 1 := y161
  obtain rfl : n161 = 16 := z161
  obtain ⟨rfl, N161q, e161⟩ := hQ161
  have N161 := own_frE l161 (Fr.app N157 N161q)
  have k162 : ∀ tg, Steps p.tables e below (T161.setTop (mkF m 376 #[.val (.long q1), .second, .val (.long q2), .second, .val (.int p3), .val (.int p4), .val (.int xw), .val (.int xc), .val (.int xl), .val (.ref b39)] [(.int (1 : Int32))])) tg → Steps p.tables e below (s₁.setTop (entryFrame m #[(.long q1), (.long q2), (.int p3), (.int p4)] maxLocals)) tg := fun tg kg => k160 tg (st161 tg kg)
  have k163 : ∀ tg, Steps p.tables e below (T161.setTop (mkF m 379 #[.val (.long q1), .second, .val (.long q2), .second, .val (.int p3), .val (.int p4), .val (.int xw), .val (.int xc), .val (.int xl), .val (.ref b39)] [])) tg → Steps p.tables e below (s₁.setTop (entryFrame m #[(.long q1), (.long q2), (.int p3), (.int p4)] maxLocals)) tg := fun tg kg => k162 tg (by
      show Steps p.tables e below (T161.setTop (mkF m 376 #[.val (.long q1), .second, .val (.long q2), .second, .val (.int p3), .val (.int p4), .val (.int xw), .val (.int xc), .val (.int xl), .val (.ref b39)] [(.int (1 : Int32))])) _
      refine XS.ifNo X161.here hx rfl (hb hby at_376) rfl ((if0 _ _).trans (feq (by decide)).1) ?_
      exact kg)
  have k164 : ∀ tg, Steps p.tables e below (T161.setTop (mkF m 389 #[.val (.long q1), .second, .val (.long q2), .second, .val (.int p3), .val (.int p4), .val (.int xw), .val (.int xc), .val (.int xl), .val (.ref b39)] [(.int xw), (.int xl), (.int (10 : Int32)), (.long q2), (.long q1), (.ref b39)])) tg → Steps p.tables e below (s₁.setTop (entryFrame m #[(.long q1), (.long q2), (.int p3), (.int p4)] maxLocals)) tg := fun tg kg => k163 tg (by
      show Steps p.tables e below (T161.setTop (mkF m 379 #[.val (.long q1), .second, .val (.long q2), .second, .val (.int p3), .val (.int p4), .val (.int xw), .val (.int xc), .val (.int xl), .val (.ref b39)] [])) _
      refine XS.aload X161.here hx rfl (hb hby at_379) rfl rfl ?_
      show Steps p.tables e below (T161.setTop (mkF m 381 #[.val (.long q1), .second, .val (.long q2), .second, .val (.int p3), .val (.int p4), .val (.int xw), .val (.int xc), .val (.int xl), .val (.ref b39)] [(.ref b39)])) _
      refine XS.lloadN X161.here hx rfl (hb hby at_381) rfl ?_
      show Steps p.tables e below (T161.setTop (mkF m 382 #[.val (.long q1), .second, .val (.long q2), .second, .val (.int p3), .val (.int p4), .val (.int xw), .val (.int xc), .val (.int xl), .val (.ref b39)] [(.long q1), (.ref b39)])) _
      refine XS.lloadN X161.here hx rfl (hb hby at_382) rfl ?_
      show Steps p.tables e below (T161.setTop (mkF m 383 #[.val (.long q1), .second, .val (.long q2), .second, .val (.int p3), .val (.int p4), .val (.int xw), .val (.int xc), .val (.int xl), .val (.ref b39)] [(.long q2), (.long q1), (.ref b39)])) _
      refine XS.bipush X161.here hx rfl (hb hby at_383) ?_
      show Steps p.tables e below (T161.setTop (mkF m 385 #[.val (.long q1), .second, .val (.long q2), .second, .val (.int p3), .val (.int p4), .val (.int xw), .val (.int xc), .val (.int xl), .val (.ref b39)] [(.int (10 : Int32)), (.long q2), (.long q1), (.ref b39)])) _
      refine XS.iload X161.here hx rfl (hb hby at_385) rfl ?_
      show Steps p.tables e below (T161.setTop (mkF m 387 #[.val (.long q1), .second, .val (.long q2), .second, .val (.int p3), .val (.int p4), .val (.int xw), .val (.int xc), .val (.int xl), .val (.ref b39)] [(.int xl), (.int (10 : Int32)), (.long q2), (.long q1), (.ref b39)])) _
      refine XS.iload X161.here hx rfl (hb hby at_387) rfl ?_
      exact kg)
  obtain ⟨_, _, ⟨T165, L165, c165, n165⟩, -, X165, ⟨Lc165, hQ165, l165, y165, z165⟩, st165⟩ := Jvm.LawKit.callS X161 hx (y := (⟨"com/example/modalis/modalis/dicom/data/DataSetReaderToLittleEndianPinLaw", "ok", "([BJJIII)Z"⟩ : MethodName)) hown (mvT hZ (hw _ (List.mem_of_getElem? (i := 10) rfl))) (mvT hZ (hw _ (List.mem_of_getElem? (i := 11) rfl))) (mvT hZ (hw _ (List.mem_of_getElem? (i := 4) rfl))) (mvT hZ (hw _ (List.mem_of_getElem? (i := 12) rfl))) (by decide) (backOf (W := 0) (rm3 l Z a0 hw [] b39 q1 q2 (10 : Int32) xl xw 10 (w1 * c0) w1 g T122.heap n0 Zt (by decide) hxl hxw hw4 (by decide) (hg2 10) Vg) hZ (hw _ (List.mem_of_getElem? (i := 12) rfl)) (hw _ (List.mem_of_getElem? (i := 4) rfl)) (by decide) (by decide)) (g := (mkF m 389 #[.val (.long q1), .second, .val (.long q2), .second, .val (.int p3), .val (.int p4), .val (.int xw), .val (.int xc), .val (.int xl), .val (.ref b39)] [(.int xw), (.int xl), (.int (10 : Int32)), (.long q2), (.long q1), (.ref b39)])) rfl (by rw [hml]; rfl) (argsL := [(.ref b39), (.long q1), (.long q2), (.int (10 : Int32)), (.int xl), (.int xw)]) (rest := []) (lenOf own_pd2 rfl) rfl (by show 2 * 0 + _ ≤ _; exact Nat.le_of_eq rfl) (hb hby at_389) (fun _ _ => ⟨rfl, e161, (by decide : 1 + 0 ≤ _), (by decide : 16 + 0 ≤ _)⟩)
  dsimp only [Pt.U, Pt.locs, Pt.cells, Pt.slots] at X165 l165 y165 z165 st165 hQ165
  obtain rfl : c165 = 1 := y165
  obtain rfl : n165 = 16 := z165
  obtain ⟨rfl, N165q, e165⟩ := hQ165
  have N165 := own_frE l165 (Fr.app N161 N165q)
  have k166 : ∀ tg, Steps p.tables e below (T165.setTop (mkF m 392 #[.val (.long q1), .second, .val (.long q2), .second, .val (.int p3), .val (.int p4), .val (.int xw), .val (.int xc), .val (.int xl), .val (.ref b39)] [(.int (1 : Int32))])) tg → Steps p.tables e below (s₁.setTop (entryFrame m #[(.long q1), (.long q2), (.int p3), (.int p4)] maxLocals)) tg := fun tg kg => k164 tg (st165 tg kg)
  have k167 : ∀ tg, Steps p.tables e below (T165.setTop (mkF m 395 #[.val (.long q1), .second, .val (.long q2), .second, .val (.int p3), .val (.int p4), .val (.int xw), .val (.int xc), .val (.int xl), .val (.ref b39)] [])) tg → Steps p.tables e below (s₁.setTop (entryFrame m #[(.long q1), (.long q2), (.int p3), (.int p4)] maxLocals)) tg := fun tg kg => k166 tg (by
      show Steps p.tables e below (T165.setTop (mkF m 392 #[.val (.long q1), .second, .val (.long q2), .second, .val (.int p3), .val (.int p4), .val (.int xw), .val (.int xc), .val (.int xl), .val (.ref b39)] [(.int (1 : Int32))])) _
      refine XS.ifNo X165.here hx rfl (hb hby at_392) rfl ((if0 _ _).trans (feq (by decide)).1) ?_
      exact kg)
  have k168 : ∀ tg, Steps p.tables e below (T165.setTop (mkF m 405 #[.val (.long q1), .second, .val (.long q2), .second, .val (.int p3), .val (.int p4), .val (.int xw), .val (.int xc), .val (.int xl), .val (.ref b39)] [(.int xw), (.int xl), (.int (11 : Int32)), (.long q2), (.long q1), (.ref b39)])) tg → Steps p.tables e below (s₁.setTop (entryFrame m #[(.long q1), (.long q2), (.int p3), (.int p4)] maxLocals)) tg := fun tg kg => k167 tg (by
      show Steps p.tables e below (T165.setTop (mkF m 395 #[.val (.long q1), .second, .val (.long q2), .second, .val (.int p3), .val (.int p4), .val (.int xw), .val (.int xc), .val (.int xl), .val (.ref b39)] [])) _
      refine XS.aload X165.here hx rfl (hb hby at_395) rfl rfl ?_
      show Steps p.tables e below (T165.setTop (mkF m 397 #[.val (.long q1), .second, .val (.long q2), .second, .val (.int p3), .val (.int p4), .val (.int xw), .val (.int xc), .val (.int xl), .val (.ref b39)] [(.ref b39)])) _
      refine XS.lloadN X165.here hx rfl (hb hby at_397) rfl ?_
      show Steps p.tables e below (T165.setTop (mkF m 398 #[.val (.long q1), .second, .val (.long q2), .second, .val (.int p3), .val (.int p4), .val (.int xw), .val (.int xc), .val (.int xl), .val (.ref b39)] [(.long q1), (.ref b39)])) _
      refine XS.lloadN X165.here hx rfl (hb hby at_398) rfl ?_
      show Steps p.tables e below (T165.setTop (mkF m 399 #[.val (.long q1), .second, .val (.long q2), .second, .val (.int p3), .val (.int p4), .val (.int xw), .val (.int xc), .val (.int xl), .val (.ref b39)] [(.long q2), (.long q1), (.ref b39)])) _
      refine XS.bipush X165.here hx rfl (hb hby at_399) ?_
      show Steps p.tables e below (T165.setTop (mkF m 401 #[.val (.long q1), .second, .val (.long q2), .second, .val (.int p3), .val (.int p4), .val (.int xw), .val (.int xc), .val (.int xl), .val (.ref b39)] [(.int (11 : Int32)), (.long q2), (.long q1), (.ref b39)])) _
      refine XS.iload X165.here hx rfl (hb hby at_401) rfl ?_
      show Steps p.tables e below (T165.setTop (mkF m 403 #[.val (.long q1), .second, .val (.long q2), .second, .val (.int p3), .val (.int p4), .val (.int xw), .val (.int xc), .val (.int xl), .val (.ref b39)] [(.int xl), (.int (11 : Int32)), (.long q2), (.long q1), (.ref b39)])) _
      refine XS.iload X165.here hx rfl (hb hby at_403) rfl ?_
      exact kg)
  obtain ⟨_, _, ⟨T169, L169, c169, n169⟩, -, X169, ⟨Lc169, hQ169, l169, y169, z169⟩, st169⟩ := Jvm.LawKit.callS X165 hx (y := (⟨"com/example/modalis/modalis/dicom/data/DataSetReaderToLittleEndianPinLaw", "ok", "([BJJIII)Z"⟩ : MethodName)) hown (mvT hZ (hw _ (List.mem_of_getElem? (i := 10) rfl))) (mvT hZ (hw _ (List.mem_of_getElem? (i := 11) rfl))) (mvT hZ (hw _ (List.mem_of_getElem? (i := 4) rfl))) (mvT hZ (hw _ (List.mem_of_getElem? (i := 12) rfl))) (by decide) (backOf (W := 0) (rm3 l Z a0 hw [] b39 q1 q2 (11 : Int32) xl xw 11 (w1 * c0) w1 g T122.heap n0 Zt (by decide) hxl hxw hw4 (by decide) (hg2 11) Vg) hZ (hw _ (List.mem_of_getElem? (i := 12) rfl)) (hw _ (List.mem_of_getElem? (i := 4) rfl)) (by decide) (by decide)) (g := (mkF m 405 #[.val (.long q1), .second, .val (.long q2), .second, .val (.int p3), .val (.int p4), .val (.int xw), .val (.int xc), .val (.int xl), .val (.ref b39)] [(.int xw), (.int xl), (.int (11 : Int32)), (.long q2), (.long q1), (.ref b39)])) rfl (by rw [hml]; rfl) (argsL := [(.ref b39), (.long q1), (.long q2), (.int (11 : Int32)), (.int xl), (.int xw)]) (rest := []) (lenOf own_pd2 rfl) rfl (by show 2 * 0 + _ ≤ _; exact Nat.le_of_eq rfl) (hb hby at_405) (fun _ _ => ⟨rfl, e165, (by decide : 1 + 0 ≤ _), (by decide : 16 + 0 ≤ _)⟩)
  dsimp only [Pt.U, Pt.locs, Pt.cells, Pt.slots] at X169 l169 y169 z169 st169 hQ169
  obtain rfl : c169 = 1 := y169
  obtain rfl : n169 = 16 := z169
  obtain ⟨rfl, N169q, e169⟩ := hQ169
  have N169 := own_frE l169 (Fr.app N165 N169q)
  have k170 : ∀ tg, Steps p.tables e below (T169.setTop (mkF m 408 #[.val (.long q1), .second, .val (.long q2), .second, .val (.int p3), .val (.int p4), .val (.int xw), .val (.int xc), .val (.int xl), .val (.ref b39)] [(.int (1 : Int32))])) tg → Steps p.tables e below (s₁.setTop (entryFrame m #[(.long q1), (.long q2), (.int p3), (.int p4)] maxLocals)) tg := fun tg kg => k168 tg (st169 tg kg)
  have k171 : ∀ tg, Steps p.tables e below (T169.setTop (mkF m 411 #[.val (.long q1), .second, .val (.long q2), .second, .val (.int p3), .val (.int p4), .val (.int xw), .val (.int xc), .val (.int xl), .val (.ref b39)] [])) tg → Steps p.tables e below (s₁.setTop (entryFrame m #[(.long q1), (.long q2), (.int p3), (.int p4)] maxLocals)) tg := fun tg kg => k170 tg (by
      show Steps p.tables e below (T169.setTop (mkF m 408 #[.val (.long q1), .second, .val (.long q2), .second, .val (.int p3), .val (.int p4), .val (.int xw), .val (.int xc), .val (.int xl), .val (.ref b39)] [(.int (1 : Int32))])) _
      refine XS.ifNo X169.here hx rfl (hb hby at_408) rfl ((if0 _ _).trans (feq (by decide)).1) ?_
      exact kg)
  have k172 : ∀ tg, Steps p.tables e below (T169.setTop (mkF m 421 #[.val (.long q1), .second, .val (.long q2), .second, .val (.int p3), .val (.int p4), .val (.int xw), .val (.int xc), .val (.int xl), .val (.ref b39)] [(.int xw), (.int xl), (.int (12 : Int32)), (.long q2), (.long q1), (.ref b39)])) tg → Steps p.tables e below (s₁.setTop (entryFrame m #[(.long q1), (.long q2), (.int p3), (.int p4)] maxLocals)) tg := fun tg kg => k171 tg (by
      show Steps p.tables e below (T169.setTop (mkF m 411 #[.val (.long q1), .second, .val (.long q2), .second, .val (.int p3), .val (.int p4), .val (.int xw), .val (.int xc), .val (.int xl), .val (.ref b39)] [])) _
      refine XS.aload X169.here hx rfl (hb hby at_411) rfl rfl ?_
      show Steps p.tables e below (T169.setTop (mkF m 413 #[.val (.long q1), .second, .val (.long q2), .second, .val (.int p3), .val (.int p4), .val (.int xw), .val (.int xc), .val (.int xl), .val (.ref b39)] [(.ref b39)])) _
      refine XS.lloadN X169.here hx rfl (hb hby at_413) rfl ?_
      show Steps p.tables e below (T169.setTop (mkF m 414 #[.val (.long q1), .second, .val (.long q2), .second, .val (.int p3), .val (.int p4), .val (.int xw), .val (.int xc), .val (.int xl), .val (.ref b39)] [(.long q1), (.ref b39)])) _
      refine XS.lloadN X169.here hx rfl (hb hby at_414) rfl ?_
      show Steps p.tables e below (T169.setTop (mkF m 415 #[.val (.long q1), .second, .val (.long q2), .second, .val (.int p3), .val (.int p4), .val (.int xw), .val (.int xc), .val (.int xl), .val (.ref b39)] [(.long q2), (.long q1), (.ref b39)])) _
      refine XS.bipush X169.here hx rfl (hb hby at_415) ?_
      show Steps p.tables e below (T169.setTop (mkF m 417 #[.val (.long q1), .second, .val (.long q2), .second, .val (.int p3), .val (.int p4), .val (.int xw), .val (.int xc), .val (.int xl), .val (.ref b39)] [(.int (12 : Int32)), (.long q2), (.long q1), (.ref b39)])) _
      refine XS.iload X169.here hx rfl (hb hby at_417) rfl ?_
      show Steps p.tables e below (T169.setTop (mkF m 419 #[.val (.long q1), .second, .val (.long q2), .second, .val (.int p3), .val (.int p4), .val (.int xw), .val (.int xc), .val (.int xl), .val (.ref b39)] [(.int xl), (.int (12 : Int32)), (.long q2), (.long q1), (.ref b39)])) _
      refine XS.iload X169.here hx rfl (hb hby at_419) rfl ?_
      exact kg)
  obtain ⟨_, _, ⟨T173, L173, c173, n173⟩, -, X173, ⟨Lc173, hQ173, l173, y173, z173⟩, st173⟩ := Jvm.LawKit.callS X169 hx (y := (⟨"com/example/modalis/modalis/dicom/data/DataSetReaderToLittleEndianPinLaw", "ok", "([BJJIII)Z"⟩ : MethodName)) hown (mvT hZ (hw _ (List.mem_of_getElem? (i := 10) rfl))) (mvT hZ (hw _ (List.mem_of_getElem? (i := 11) rfl))) (mvT hZ (hw _ (List.mem_of_getElem? (i := 4) rfl))) (mvT hZ (hw _ (List.mem_of_getElem? (i := 12) rfl))) (by decide) (backOf (W := 0) (rm3 l Z a0 hw [] b39 q1 q2 (12 : Int32) xl xw 12 (w1 * c0) w1 g T122.heap n0 Zt (by decide) hxl hxw hw4 (by decide) (hg2 12) Vg) hZ (hw _ (List.mem_of_getElem? (i := 12) rfl)) (hw _ (List.mem_of_getElem? (i := 4) rfl)) (by decide) (by decide)) (g := (mkF m 421 #[.val (.long q1), .second, .val (.long q2), .second, .val (.int p3), .val (.int p4), .val (.int xw), .val (.int xc), .val (.int xl), .val (.ref b39)] [(.int xw), (.int xl), (.int (12 : Int32)), (.long q2), (.long q1), (.ref b39)])) rfl (by rw [hml]; rfl) (argsL := [(.ref b39), (.long q1), (.long q2), (.int (12 : Int32)), (.int xl), (.int xw)]) (rest := []) (lenOf own_pd2 rfl) rfl (by show 2 * 0 + _ ≤ _; exact Nat.le_of_eq rfl) (hb hby at_421) (fun _ _ => ⟨rfl, e169, (by decide : 1 + 0 ≤ _), (by decide : 16 + 0 ≤ _)⟩)
  dsimp only [Pt.U, Pt.locs, Pt.cells, Pt.slots] at X173 l173 y173 z173 st173 hQ173
  obtain rfl : c173 = 1 := y173
  obtain rfl : n173 = 16 := z173
  obtain ⟨rfl, N173q, e173⟩ := hQ173
  have N173 := own_frE l173 (Fr.app N169 N173q)
  have k174 : ∀ tg, Steps p.tables e below (T173.setTop (mkF m 424 #[.val (.long q1), .second, .val (.long q2), .second, .val (.int p3), .val (.int p4), .val (.int xw), .val (.int xc), .val (.int xl), .val (.ref b39)] [(.int (1 : Int32))])) tg → Steps p.tables e below (s₁.setTop (entryFrame m #[(.long q1), (.long q2), (.int p3), (.int p4)] maxLocals)) tg := fun tg kg => k172 tg (st173 tg kg)
  have k175 : ∀ tg, Steps p.tables e below (T173.setTop (mkF m 427 #[.val (.long q1), .second, .val (.long q2), .second, .val (.int p3), .val (.int p4), .val (.int xw), .val (.int xc), .val (.int xl), .val (.ref b39)] [])) tg → Steps p.tables e below (s₁.setTop (entryFrame m #[(.long q1), (.long q2), (.int p3), (.int p4)] maxLocals)) tg := fun tg kg => k174 tg (by
      show Steps p.tables e below (T173.setTop (mkF m 424 #[.val (.long q1), .second, .val (.long q2), .second, .val (.int p3), .val (.int p4), .val (.int xw), .val (.int xc), .val (.int xl), .val (.ref b39)] [(.int (1 : Int32))])) _
      refine XS.ifNo X173.here hx rfl (hb hby at_424) rfl ((if0 _ _).trans (feq (by decide)).1) ?_
      exact kg)
  have k176 : ∀ tg, Steps p.tables e below (T173.setTop (mkF m 437 #[.val (.long q1), .second, .val (.long q2), .second, .val (.int p3), .val (.int p4), .val (.int xw), .val (.int xc), .val (.int xl), .val (.ref b39)] [(.int xw), (.int xl), (.int (13 : Int32)), (.long q2), (.long q1), (.ref b39)])) tg → Steps p.tables e below (s₁.setTop (entryFrame m #[(.long q1), (.long q2), (.int p3), (.int p4)] maxLocals)) tg := fun tg kg => k175 tg (by
      show Steps p.tables e below (T173.setTop (mkF m 427 #[.val (.long q1), .second, .val (.long q2), .second, .val (.int p3), .val (.int p4), .val (.int xw), .val (.int xc), .val (.int xl), .val (.ref b39)] [])) _
      refine XS.aload X173.here hx rfl (hb hby at_427) rfl rfl ?_
      show Steps p.tables e below (T173.setTop (mkF m 429 #[.val (.long q1), .second, .val (.long q2), .second, .val (.int p3), .val (.int p4), .val (.int xw), .val (.int xc), .val (.int xl), .val (.ref b39)] [(.ref b39)])) _
      refine XS.lloadN X173.here hx rfl (hb hby at_429) rfl ?_
      show Steps p.tables e below (T173.setTop (mkF m 430 #[.val (.long q1), .second, .val (.long q2), .second, .val (.int p3), .val (.int p4), .val (.int xw), .val (.int xc), .val (.int xl), .val (.ref b39)] [(.long q1), (.ref b39)])) _
      refine XS.lloadN X173.here hx rfl (hb hby at_430) rfl ?_
      show Steps p.tables e below (T173.setTop (mkF m 431 #[.val (.long q1), .second, .val (.long q2), .second, .val (.int p3), .val (.int p4), .val (.int xw), .val (.int xc), .val (.int xl), .val (.ref b39)] [(.long q2), (.long q1), (.ref b39)])) _
      refine XS.bipush X173.here hx rfl (hb hby at_431) ?_
      show Steps p.tables e below (T173.setTop (mkF m 433 #[.val (.long q1), .second, .val (.long q2), .second, .val (.int p3), .val (.int p4), .val (.int xw), .val (.int xc), .val (.int xl), .val (.ref b39)] [(.int (13 : Int32)), (.long q2), (.long q1), (.ref b39)])) _
      refine XS.iload X173.here hx rfl (hb hby at_433) rfl ?_
      show Steps p.tables e below (T173.setTop (mkF m 435 #[.val (.long q1), .second, .val (.long q2), .second, .val (.int p3), .val (.int p4), .val (.int xw), .val (.int xc), .val (.int xl), .val (.ref b39)] [(.int xl), (.int (13 : Int32)), (.long q2), (.long q1), (.ref b39)])) _
      refine XS.iload X173.here hx rfl (hb hby at_435) rfl ?_
      exact kg)
  obtain ⟨_, _, ⟨T177, L177, c177, n177⟩, -, X177, ⟨Lc177, hQ177, l177, y177, z177⟩, st177⟩ := Jvm.LawKit.callS X173 hx (y := (⟨"com/example/modalis/modalis/dicom/data/DataSetReaderToLittleEndianPinLaw", "ok", "([BJJIII)Z"⟩ : MethodName)) hown (mvT hZ (hw _ (List.mem_of_getElem? (i := 10) rfl))) (mvT hZ (hw _ (List.mem_of_getElem? (i := 11) rfl))) (mvT hZ (hw _ (List.mem_of_getElem? (i := 4) rfl))) (mvT hZ (hw _ (List.mem_of_getElem? (i := 12) rfl))) (by decide) (backOf (W := 0) (rm3 l Z a0 hw [] b39 q1 q2 (13 : Int32) xl xw 13 (w1 * c0) w1 g T122.heap n0 Zt (by decide) hxl hxw hw4 (by decide) (hg2 13) Vg) hZ (hw _ (List.mem_of_getElem? (i := 12) rfl)) (hw _ (List.mem_of_getElem? (i := 4) rfl)) (by decide) (by decide)) (g := (mkF m 437 #[.val (.long q1), .second, .val (.long q2), .second, .val (.int p3), .val (.int p4), .val (.int xw), .val (.int xc), .val (.int xl), .val (.ref b39)] [(.int xw), (.int xl), (.int (13 : Int32)), (.long q2), (.long q1), (.ref b39)])) rfl (by rw [hml]; rfl) (argsL := [(.ref b39), (.long q1), (.long q2), (.int (13 : Int32)), (.int xl), (.int xw)]) (rest := []) (lenOf own_pd2 rfl) rfl (by show 2 * 0 + _ ≤ _; exact Nat.le_of_eq rfl) (hb hby at_437) (fun _ _ => ⟨rfl, e173, (by decide : 1 + 0 ≤ _), (by decide : 16 + 0 ≤ _)⟩)
  dsimp only [Pt.U, Pt.locs, Pt.cells, Pt.slots] at X177 l177 y177 z177 st177 hQ177
  obtain rfl : c177 = 1 := y177
  obtain rfl : n177 = 16 := z177
  obtain ⟨rfl, N177q, e177⟩ := hQ177
  have N177 := own_frE l177 (Fr.app N173 N177q)
  have k178 : ∀ tg, Steps p.tables e below (T177.setTop (mkF m 440 #[.val (.long q1), .second, .val (.long q2), .second, .val (.int p3), .val (.int p4), .val (.int xw), .val (.int xc), .val (.int xl), .val (.ref b39)] [(.int (1 : Int32))])) tg → Steps p.tables e below (s₁.setTop (entryFrame m #[(.long q1), (.long q2), (.int p3), (.int p4)] maxLocals)) tg := fun tg kg => k176 tg (st177 tg kg)
  have k179 : ∀ tg, Steps p.tables e below (T177.setTop (mkF m 443 #[.val (.long q1), .second, .val (.long q2), .second, .val (.int p3), .val (.int p4), .val (.int xw), .val (.int xc), .val (.int xl), .val (.ref b39)] [])) tg → Steps p.tables e below (s₁.setTop (entryFrame m #[(.long q1), (.long q2), (.int p3), (.int p4)] maxLocals)) tg := fun tg kg => k178 tg (by
      show Steps p.tables e below (T177.setTop (mkF m 440 #[.val (.long q1), .second, .val (.long q2), .second, .val (.int p3), .val (.int p4), .val (.int xw), .val (.int xc), .val (.int xl), .val (.ref b39)] [(.int (1 : Int32))])) _
      refine XS.ifNo X177.here hx rfl (hb hby at_440) rfl ((if0 _ _).trans (feq (by decide)).1) ?_
      exact kg)
  have k180 : ∀ tg, Steps p.tables e below (T177.setTop (mkF m 453 #[.val (.long q1), .second, .val (.long q2), .second, .val (.int p3), .val (.int p4), .val (.int xw), .val (.int xc), .val (.int xl), .val (.ref b39)] [(.int xw), (.int xl), (.int (14 : Int32)), (.long q2), (.long q1), (.ref b39)])) tg → Steps p.tables e below (s₁.setTop (entryFrame m #[(.long q1), (.long q2), (.int p3), (.int p4)] maxLocals)) tg := fun tg kg => k179 tg (by
      show Steps p.tables e below (T177.setTop (mkF m 443 #[.val (.long q1), .second, .val (.long q2), .second, .val (.int p3), .val (.int p4), .val (.int xw), .val (.int xc), .val (.int xl), .val (.ref b39)] [])) _
      refine XS.aload X177.here hx rfl (hb hby at_443) rfl rfl ?_
      show Steps p.tables e below (T177.setTop (mkF m 445 #[.val (.long q1), .second, .val (.long q2), .second, .val (.int p3), .val (.int p4), .val (.int xw), .val (.int xc), .val (.int xl), .val (.ref b39)] [(.ref b39)])) _
      refine XS.lloadN X177.here hx rfl (hb hby at_445) rfl ?_
      show Steps p.tables e below (T177.setTop (mkF m 446 #[.val (.long q1), .second, .val (.long q2), .second, .val (.int p3), .val (.int p4), .val (.int xw), .val (.int xc), .val (.int xl), .val (.ref b39)] [(.long q1), (.ref b39)])) _
      refine XS.lloadN X177.here hx rfl (hb hby at_446) rfl ?_
      show Steps p.tables e below (T177.setTop (mkF m 447 #[.val (.long q1), .second, .val (.long q2), .second, .val (.int p3), .val (.int p4), .val (.int xw), .val (.int xc), .val (.int xl), .val (.ref b39)] [(.long q2), (.long q1), (.ref b39)])) _
      refine XS.bipush X177.here hx rfl (hb hby at_447) ?_
      show Steps p.tables e below (T177.setTop (mkF m 449 #[.val (.long q1), .second, .val (.long q2), .second, .val (.int p3), .val (.int p4), .val (.int xw), .val (.int xc), .val (.int xl), .val (.ref b39)] [(.int (14 : Int32)), (.long q2), (.long q1), (.ref b39)])) _
      refine XS.iload X177.here hx rfl (hb hby at_449) rfl ?_
      show Steps p.tables e below (T177.setTop (mkF m 451 #[.val (.long q1), .second, .val (.long q2), .second, .val (.int p3), .val (.int p4), .val (.int xw), .val (.int xc), .val (.int xl), .val (.ref b39)] [(.int xl), (.int (14 : Int32)), (.long q2), (.long q1), (.ref b39)])) _
      refine XS.iload X177.here hx rfl (hb hby at_451) rfl ?_
      exact kg)
  obtain ⟨_, _, ⟨T181, L181, c181, n181⟩, -, X181, ⟨Lc181, hQ181, l181, y181, z181⟩, st181⟩ := Jvm.LawKit.callS X177 hx (y := (⟨"com/example/modalis/modalis/dicom/data/DataSetReaderToLittleEndianPinLaw", "ok", "([BJJIII)Z"⟩ : MethodName)) hown (mvT hZ (hw _ (List.mem_of_getElem? (i := 10) rfl))) (mvT hZ (hw _ (List.mem_of_getElem? (i := 11) rfl))) (mvT hZ (hw _ (List.mem_of_getElem? (i := 4) rfl))) (mvT hZ (hw _ (List.mem_of_getElem? (i := 12) rfl))) (by decide) (backOf (W := 0) (rm3 l Z a0 hw [] b39 q1 q2 (14 : Int32) xl xw 14 (w1 * c0) w1 g T122.heap n0 Zt (by decide) hxl hxw hw4 (by decide) (hg2 14) Vg) hZ (hw _ (List.mem_of_getElem? (i := 12) rfl)) (hw _ (List.mem_of_getElem? (i := 4) rfl)) (by decide) (by decide)) (g := (mkF m 453 #[.val (.long q1), .second, .val (.long q2), .second, .val (.int p3), .val (.int p4), .val (.int xw), .val (.int xc), .val (.int xl), .val (.ref b39)] [(.int xw), (.int xl), (.int (14 : Int32)), (.long q2), (.long q1), (.ref b39)])) rfl (by rw [hml]; rfl) (argsL := [(.ref b39), (.long q1), (.long q2), (.int (14 : Int32)), (.int xl), (.int xw)]) (rest := []) (lenOf own_pd2 rfl) rfl (by show 2 * 0 + _ ≤ _; exact Nat.le_of_eq rfl) (hb hby at_453) (fun _ _ => ⟨rfl, e177, (by decide : 1 + 0 ≤ _), (by decide : 16 + 0 ≤ _)⟩)
  dsimp only [Pt.U, Pt.locs, Pt.cells, Pt.slots] at X181 l181 y181 z181 st181 hQ181
  obtain rfl : c181 = 1 := y181
  obtain rfl : n181 = 16 := z181
  obtain ⟨rfl, N181q, e181⟩ := hQ181
  have N181 := own_frE l181 (Fr.app N177 N181q)
  have k182 : ∀ tg, Steps p.tables e below (T181.setTop (mkF m 456 #[.val (.long q1), .second, .val (.long q2), .second, .val (.int p3), .val (.int p4), .val (.int xw), .val (.int xc), .val (.int xl), .val (.ref b39)] [(.int (1 : Int32))])) tg → Steps p.tables e below (s₁.setTop (entryFrame m #[(.long q1), (.long q2), (.int p3), (.int p4)] maxLocals)) tg := fun tg kg => k180 tg (st181 tg kg)
  have k183 : ∀ tg, Steps p.tables e below (T181.setTop (mkF m 459 #[.val (.long q1), .second, .val (.long q2), .second, .val (.int p3), .val (.int p4), .val (.int xw), .val (.int xc), .val (.int xl), .val (.ref b39)] [])) tg → Steps p.tables e below (s₁.setTop (entryFrame m #[(.long q1), (.long q2), (.int p3), (.int p4)] maxLocals)) tg := fun tg kg => k182 tg (by
      show Steps p.tables e below (T181.setTop (mkF m 456 #[.val (.long q1), .second, .val (.long q2), .second, .val (.int p3), .val (.int p4), .val (.int xw), .val (.int xc), .val (.int xl), .val (.ref b39)] [(.int (1 : Int32))])) _
      refine XS.ifNo X181.here hx rfl (hb hby at_456) rfl ((if0 _ _).trans (feq (by decide)).1) ?_
      exact kg)
  have k184 : ∀ tg, Steps p.tables e below (T181.setTop (mkF m 469 #[.val (.long q1), .second, .val (.long q2), .second, .val (.int p3), .val (.int p4), .val (.int xw), .val (.int xc), .val (.int xl), .val (.ref b39)] [(.int xw), (.int xl), (.int (15 : Int32)), (.long q2), (.long q1), (.ref b39)])) tg → Steps p.tables e below (s₁.setTop (entryFrame m #[(.long q1), (.long q2), (.int p3), (.int p4)] maxLocals)) tg := fun tg kg => k183 tg (by
      show Steps p.tables e below (T181.setTop (mkF m 459 #[.val (.long q1), .second, .val (.long q2), .second, .val (.int p3), .val (.int p4), .val (.int xw), .val (.int xc), .val (.int xl), .val (.ref b39)] [])) _
      refine XS.aload X181.here hx rfl (hb hby at_459) rfl rfl ?_
      show Steps p.tables e below (T181.setTop (mkF m 461 #[.val (.long q1), .second, .val (.long q2), .second, .val (.int p3), .val (.int p4), .val (.int xw), .val (.int xc), .val (.int xl), .val (.ref b39)] [(.ref b39)])) _
      refine XS.lloadN X181.here hx rfl (hb hby at_461) rfl ?_
      show Steps p.tables e below (T181.setTop (mkF m 462 #[.val (.long q1), .second, .val (.long q2), .second, .val (.int p3), .val (.int p4), .val (.int xw), .val (.int xc), .val (.int xl), .val (.ref b39)] [(.long q1), (.ref b39)])) _
      refine XS.lloadN X181.here hx rfl (hb hby at_462) rfl ?_
      show Steps p.tables e below (T181.setTop (mkF m 463 #[.val (.long q1), .second, .val (.long q2), .second, .val (.int p3), .val (.int p4), .val (.int xw), .val (.int xc), .val (.int xl), .val (.ref b39)] [(.long q2), (.long q1), (.ref b39)])) _
      refine XS.bipush X181.here hx rfl (hb hby at_463) ?_
      show Steps p.tables e below (T181.setTop (mkF m 465 #[.val (.long q1), .second, .val (.long q2), .second, .val (.int p3), .val (.int p4), .val (.int xw), .val (.int xc), .val (.int xl), .val (.ref b39)] [(.int (15 : Int32)), (.long q2), (.long q1), (.ref b39)])) _
      refine XS.iload X181.here hx rfl (hb hby at_465) rfl ?_
      show Steps p.tables e below (T181.setTop (mkF m 467 #[.val (.long q1), .second, .val (.long q2), .second, .val (.int p3), .val (.int p4), .val (.int xw), .val (.int xc), .val (.int xl), .val (.ref b39)] [(.int xl), (.int (15 : Int32)), (.long q2), (.long q1), (.ref b39)])) _
      refine XS.iload X181.here hx rfl (hb hby at_467) rfl ?_
      exact kg)
  obtain ⟨_, _, ⟨T185, L185, c185, n185⟩, -, X185, ⟨Lc185, hQ185, l185, y185, z185⟩, st185⟩ := Jvm.LawKit.callS X181 hx (y := (⟨"com/example/modalis/modalis/dicom/data/DataSetReaderToLittleEndianPinLaw", "ok", "([BJJIII)Z"⟩ : MethodName)) hown (mvT hZ (hw _ (List.mem_of_getElem? (i := 10) rfl))) (mvT hZ (hw _ (List.mem_of_getElem? (i := 11) rfl))) (mvT hZ (hw _ (List.mem_of_getElem? (i := 4) rfl))) (mvT hZ (hw _ (List.mem_of_getElem? (i := 12) rfl))) (by decide) (backOf (W := 0) (rm3 l Z a0 hw [] b39 q1 q2 (15 : Int32) xl xw 15 (w1 * c0) w1 g T122.heap n0 Zt (by decide) hxl hxw hw4 (by decide) (hg2 15) Vg) hZ (hw _ (List.mem_of_getElem? (i := 12) rfl)) (hw _ (List.mem_of_getElem? (i := 4) rfl)) (by decide) (by decide)) (g := (mkF m 469 #[.val (.long q1), .second, .val (.long q2), .second, .val (.int p3), .val (.int p4), .val (.int xw), .val (.int xc), .val (.int xl), .val (.ref b39)] [(.int xw), (.int xl), (.int (15 : Int32)), (.long q2), (.long q1), (.ref b39)])) rfl (by rw [hml]; rfl) (argsL := [(.ref b39), (.long q1), (.long q2), (.int (15 : Int32)), (.int xl), (.int xw)]) (rest := []) (lenOf own_pd2 rfl) rfl (by show 2 * 0 + _ ≤ _; exact Nat.le_of_eq rfl) (hb hby at_469) (fun _ _ => ⟨rfl, e181, (by decide : 1 + 0 ≤ _), (by decide : 16 + 0 ≤ _)⟩)
  dsimp only [Pt.U, Pt.locs, Pt.cells, Pt.slots] at X185 l185 y185 z185 st185 hQ185
  obtain rfl : c185 = 1 := y185
  obtain rfl : n185 = 16 := z185
  obtain ⟨rfl, N185q, e185⟩ := hQ185
  have N185 := own_frE l185 (Fr.app N181 N185q)
  have k186 : ∀ tg, Steps p.tables e below (T185.setTop (mkF m 472 #[.val (.long q1), .second, .val (.long q2), .second, .val (.int p3), .val (.int p4), .val (.int xw), .val (.int xc), .val (.int xl), .val (.ref b39)] [(.int (1 : Int32))])) tg → Steps p.tables e below (s₁.setTop (entryFrame m #[(.long q1), (.long q2), (.int p3), (.int p4)] maxLocals)) tg := fun tg kg => k184 tg (st185 tg kg)
  have k187 : ∀ tg, Steps p.tables e below (T185.setTop (mkF m 475 #[.val (.long q1), .second, .val (.long q2), .second, .val (.int p3), .val (.int p4), .val (.int xw), .val (.int xc), .val (.int xl), .val (.ref b39)] [])) tg → Steps p.tables e below (s₁.setTop (entryFrame m #[(.long q1), (.long q2), (.int p3), (.int p4)] maxLocals)) tg := fun tg kg => k186 tg (by
      show Steps p.tables e below (T185.setTop (mkF m 472 #[.val (.long q1), .second, .val (.long q2), .second, .val (.int p3), .val (.int p4), .val (.int xw), .val (.int xc), .val (.int xl), .val (.ref b39)] [(.int (1 : Int32))])) _
      refine XS.ifNo X185.here hx rfl (hb hby at_472) rfl ((if0 _ _).trans (feq (by decide)).1) ?_
      exact kg)
  have k188 : ∀ tg, Steps p.tables e below (T185.setTop (mkF m 480 #[.val (.long q1), .second, .val (.long q2), .second, .val (.int p3), .val (.int p4), .val (.int xw), .val (.int xc), .val (.int xl), .val (.ref b39)] [(.int (1 : Int32))])) tg → Steps p.tables e below (s₁.setTop (entryFrame m #[(.long q1), (.long q2), (.int p3), (.int p4)] maxLocals)) tg := fun tg kg => k187 tg (by
      show Steps p.tables e below (T185.setTop (mkF m 475 #[.val (.long q1), .second, .val (.long q2), .second, .val (.int p3), .val (.int p4), .val (.int xw), .val (.int xc), .val (.int xl), .val (.ref b39)] [])) _
      refine XS.iconst X185.here hx rfl (hb hby at_475) ?_
      show Steps p.tables e below (T185.setTop (mkF m 476 #[.val (.long q1), .second, .val (.long q2), .second, .val (.int p3), .val (.int p4), .val (.int xw), .val (.int xc), .val (.int xl), .val (.ref b39)] [(.int (1 : Int32))])) _
      refine XS.goto X185.here hx rfl (pc0 := 476) (pc' := 480) rfl (hb hby at_476) (by decide) (by decide) ?_
      exact kg)
  obtain ⟨fs, hr, hrun, hended, hW, hsame⟩ := X185.leave (v := some (.int (1 : Int32))) (fun h => by rw [Bd.returns] at h; cases h)
  refine ⟨_, _, k188 _ ?_, hrun, hended, _, _, rfl, ?_, ⟨_, rfl⟩, hW, hsame.mono (by decide) (by decide)⟩
  · show Steps p.tables e below (T185.setTop (mkF m 480 #[.val (.long q1), .second, .val (.long q2), .second, .val (.int p3), .val (.int p4), .val (.int xw), .val (.int xc), .val (.int xl), .val (.ref b39)] [(.int (1 : Int32))])) _
    exact retN X185 hx (t := .boolean) Bd.returns (by simp) (hb hby at_480) hr
  · show Q0 _ _ _ _ _ _ _ _ T185.heap _
    rw [e185]
    exact ⟨rfl, N185⟩
set_option maxRecDepth 65536 in
set_option maxHeartbeats 40000000 in
theorem comes_1 {Post : Tables → Env → Array Value → State → Outcome → State → Prop} (hpost : ∀ tb e args s v u, (limb_1_1.after args s (.returned v) u = true ∧ limb_1_2.after args s (.returned v) u = true ∧ True) → FrameEnd s (.returned v) u (Jvm.fieldLocs frame_1_writes args s ++ Jvm.arrayLocs frame_1_arrays args s ++ Jvm.staticLocs frame_1_statics s) 16 128 → Post tb e args s (.returned v) u) :
    ArmFor flags0 classFile x code maxLocals ret World_1 tables_1 room_1 Calls_1 rest_1 Pre_1 Post := by
  intro l hfl _ _ p e ha hc hk s m args below hf hA hF happ hP
  obtain ⟨hcalls, hrest, hpre⟩ := hP
  obtain ⟨-, -, -, hnamed, -, -, -, hat⟩ := (Spec.applies_iff hf).mp happ
  obtain ⟨hg, hn⟩ := and_e (Cond.before_iff.mp (show (Jvm.Cond.and given_1 narrow_1).before args s = true from hpre))
  obtain ⟨g1a, g1b⟩ := and_e hg
  obtain ⟨g2a, g2b⟩ := and_e g1b
  obtain ⟨g3a, g3b⟩ := and_e g2b
  obtain ⟨g4a, g4b⟩ := and_e g3b
  obtain ⟨w0, w1, w2, w3, rfl⟩ : ∃ w0 w1 w2 w3 : Value, args = #[w0, w1, w2, w3] := by
    have hs : args.size = 4 := by simpa [Cond.value, given_1] using g1a
    obtain ⟨L⟩ := args
    match L, hs with
    | [w0, w1, w2, w3], _ => exact ⟨w0, w1, w2, w3, rfl⟩
  have hw := fun d (hd : d ∈ tables_1) => atoms_spec (ws := Jvm.Cond.code x code maxLocals ret :: tables_1) hat d (List.mem_cons_of_mem _ hd)
  obtain ⟨i0, ei0⟩ := isL_v g2a
  obtain rfl : w0 = (.long i0) := Option.some.inj ei0
  obtain ⟨i1, ei1⟩ := isL_v g3a
  obtain rfl : w1 = (.long i1) := Option.some.inj ei1
  obtain ⟨i2, ei2⟩ := is_v g4a
  obtain rfl : w2 = (.int i2) := Option.some.inj ei2
  obtain ⟨i3, ei3⟩ := is_v g4b
  obtain rfl : w3 = (.int i3) := Option.some.inj ei3
  obtain ⟨n, o, h1, h2, h3, _, L, rfl, ⟨rfl, N⟩, hq⟩ := rm0 l s _ hw tables_1 i0 i1 i2 i3  s.heap s.heap.size (Nat.le_refl _)  p e ha hc hk s m _ below hf ((Spec.applies_iff_loose hf).mp happ).1 ⟨rfl, State.Warmed39.refl s, rfl⟩ trivial
  refine ⟨n, _, h1, h2, h3, hpost _ _ _ _ _ _ ⟨Cond.after_iff.mpr rfl, Cond.after_iff.mpr (eq_i res_at (Term.int_eval (1)) rfl), trivial⟩ ⟨hq.1, hq.2.1, (hq.2.2.sift fun y hy => Or.inr (N y hy)).mono (by decide) (by decide)⟩⟩
theorem main_1_1 : Claimed_1_1 := comes_1 fun _ _ _ _ _ _ h hF => ⟨h.1, hF⟩
theorem main_1_2 : Claimed_1_2 := comes_1 fun _ _ _ _ _ _ h hF => ⟨h.2.1, hF⟩
end Jvm.Pilot.@@N@@
namespace Jvm.Pilot.@@N@@
open Jvm Jvm.ClassFile Sem Op Lib Jvm.Free Jvm.Stand Jvm.Pilot.@@N@@.Jvm.D
/-! MADE BY PROGRAM (witnessworld.py) out of the Statement's table words and the real class files: 9 classes; the members and pool entries that the words name. The judged class is class 1, her method 1. -/
namespace start1
open Jvm.ClassFile
def u (s : String) : CpInfo := .utf8 (stringToUtf16 s)
/-- a pool by its gaps: so many unusable entries, then the entry; so many at the end -/
def gap : Nat → List CpInfo → List CpInfo
  | 0, r => r
  | n + 1, r => .unusable :: gap n r
def poolList (es : List (Nat × CpInfo)) (last : Nat) : List CpInfo := es.foldr (fun e r => gap e.1 (e.2 :: r)) (gap last [])
def pool (es : List (Nat × CpInfo)) (last : Nat) : Array CpInfo := ⟨poolList es last⟩
def fileOf (pool : Array CpInfo) (this : Nat) (attrs : Array Attribute := #[]) (ms : Array MethodInfo := #[]) (fl : Nat := 33) (sup : Nat := 0) (ifs : Array Nat := #[]) (fds : Array FieldInfo := #[]) : ClassFile where
  minorVersion := 0
  majorVersion := 65
  constantPool := pool
  accessFlags := fl
  thisClass := this
  superClass := sup
  interfaces := ifs
  fields := fds
  methods := ms
  attributes := attrs
def plain (name : String) (sup : Option ClassId) : Class where
  name := name
  kind := .ordinary
  loader := none
  accessFlags := 33
  super := sup
  interfaces := #[]
  cf := none
  fields := #[]
  methods := #[]
  instanceTypes := #[]
  staticTypes := #[]
  resolved := #[]
  callSites := []
  init := .initialized
  statics := none
  mirror := none

def pool0 : Array CpInfo := pool [(5, u "<init>"), (0, u "()V"), (1, .class_ 10), (1, u "java/lang/Object")] 113

def k0m0 : Method := { name := "<init>", desc := "()V", sig := { parameters := [], returnType := none }, accessFlags := 1, code := none }
/-- java/lang/Object -/
def k0 : Class := { plain "java/lang/Object" none with
  accessFlags := 33
  interfaces := #[]
  cf := some (fileOf pool0 8 #[] #[{ accessFlags := 1, nameIndex := 5, descriptorIndex := 6, attributes := #[] }] 33 0 #[] #[])
  fields := #[]
  methods := #[k0m0]
  instanceTypes := #[]
  staticTypes := #[]
  resolved := Array.replicate 124 none
  statics := none }

def pool1 : Array CpInfo := pool [(2, .class_ 4), (1, u "java/lang/Object"), (0, u "<init>"), (0, u "()V"), (0, .integer 2147483647), (0, .methodref 9 10), (0, .class_ 11), (0, .nameAndType 12 13), (0, u "com/example/modalis/modalis/dicom/data/DataSetReaderToLittleEndianPinLaw"), (0, u "at"), (0, u "(JJI)B"), (0, .methodref 15 16), (0, .class_ 17), (0, .nameAndType 18 19), (0, u "com/example/modalis/modalis/dicom/data/DataSetReader"), (0, u "toLittleEndian"), (0, u "([BII)V"), (0, .methodref 9 21), (0, .nameAndType 22 23), (0, u "ok"), (0, u "([BJJIII)Z"), (2, u "law"), (0, u "(JJII)Z")] 5

def k1m0 : Method := { name := "<init>", desc := "()V", sig := { parameters := [], returnType := none }, accessFlags := 2, code := none }
def k1c1 : Code := { maxStack := 8, maxLocals := 10, code := code, exceptionTable := #[], attributes := #[] }
def k1m1 : Method := { name := "law", desc := "(JJII)Z", sig := { parameters := [.long, .long, .int, .int], returnType := some .boolean }, accessFlags := 9, code := some k1c1 }
def k1c2 : Code := { maxStack := 5, maxLocals := 5, code := method_3_code, exceptionTable := #[], attributes := #[] }
def k1m2 : Method := { name := "at", desc := "(JJI)B", sig := { parameters := [.long, .long, .int], returnType := some .byte }, accessFlags := 10, code := some k1c2 }
def k1c3 : Code := { maxStack := 6, maxLocals := 9, code := method_4_code, exceptionTable := #[], attributes := #[] }
def k1m3 : Method := { name := "ok", desc := "([BJJIII)Z", sig := { parameters := [(.array .byte), .long, .long, .int, .int, .int], returnType := some .boolean }, accessFlags := 10, code := some k1c3 }
/-- com/example/modalis/modalis/dicom/data/DataSetReaderToLittleEndianPinLaw -/
def k1 : Class := { plain "com/example/modalis/modalis/dicom/data/DataSetReaderToLittleEndianPinLaw" (some 0) with
  accessFlags := 49
  interfaces := #[]
  cf := some (fileOf pool1 9 #[] #[{ accessFlags := 2, nameIndex := 5, descriptorIndex := 6, attributes := #[] }, { accessFlags := 9, nameIndex := 26, descriptorIndex := 27, attributes := #[] }, { accessFlags := 10, nameIndex := 12, descriptorIndex := 13, attributes := #[] }, { accessFlags := 10, nameIndex := 22, descriptorIndex := 23, attributes := #[] }] 49 2 #[] #[])
  fields := #[]
  methods := #[k1m0, k1m1, k1m2, k1m3]
  instanceTypes := #[]
  staticTypes := #[]
  resolved := Array.replicate 33 none
  statics := none }

def pool2 : Array CpInfo := pool [(2, .class_ 4), (1, u "com/example/modalis/modalis/dicom/data/DataSetReader"), (13, .class_ 20), (1, u "java/lang/Object"), (1, .class_ 23), (0, u "com/example/modalis/modalis/dicom/data/DataSetReader$Building"), (11, u "building"), (0, u "Lcom/example/modalis/modalis/dicom/data/DataSetReader$Building;"), (19, u "walk"), (0, u "Lcom/example/modalis/modalis/dicom/data/DataSetWalker;"), (63, u "toLittleEndian"), (0, u "([BII)V"), (3, .class_ 127), (0, u "com/example/modalis/modalis/dicom/data/DataSetReader$Building$Level")] 28

def k2c0 : Code := { maxStack := 5, maxLocals := 6, code := prog_6_method_8_code, exceptionTable := #[], attributes := #[] }
def k2m0 : Method := { name := "toLittleEndian", desc := "([BII)V", sig := { parameters := [(.array .byte), .int, .int], returnType := none }, accessFlags := 8, code := some k2c0 }
/-- com/example/modalis/modalis/dicom/data/DataSetReader -/
def k2 : Class := { plain "com/example/modalis/modalis/dicom/data/DataSetReader" (some 0) with
  accessFlags := 49
  interfaces := #[]
  cf := some (fileOf pool2 2 #[.nestMembers #[22, 126]] #[{ accessFlags := 8, nameIndex := 121, descriptorIndex := 122, attributes := #[] }] 49 18 #[] #[{ accessFlags := 18, nameIndex := 35, descriptorIndex := 36, attributes := #[] }, { accessFlags := 18, nameIndex := 56, descriptorIndex := 57, attributes := #[] }])
  fields := #[{ name := "building", type := (.object "com/example/modalis/modalis/dicom/data/DataSetReader$Building"), accessFlags := 18, slot := 0, constantValue := 0 }, { name := "walk", type := (.object "com/example/modalis/modalis/dicom/data/DataSetWalker"), accessFlags := 18, slot := 1, constantValue := 0 }]
  methods := #[k2m0]
  instanceTypes := #[(.object "com/example/modalis/modalis/dicom/data/DataSetReader$Building"), (.object "com/example/modalis/modalis/dicom/data/DataSetWalker")]
  staticTypes := #[]
  resolved := Array.replicate 156 none
  statics := none }

def pool3 : Array CpInfo := pool [(1, u "java/lang/Cloneable"), (0, .class_ 1), (0, u "java/lang/Object"), (0, .class_ 3)] 3

/-- java/lang/Cloneable -/
def k3 : Class := { plain "java/lang/Cloneable" (some 0) with
  accessFlags := 1537
  interfaces := #[]
  cf := some (fileOf pool3 2 #[] #[] 1537 4 #[] #[])
  fields := #[]
  methods := #[]
  instanceTypes := #[]
  staticTypes := #[]
  resolved := Array.replicate 8 none
  statics := none }

def pool4 : Array CpInfo := pool [(1, u "java/io/Serializable"), (0, .class_ 1), (0, u "java/lang/Object"), (0, .class_ 3)] 3

/-- java/io/Serializable -/
def k4 : Class := { plain "java/io/Serializable" (some 0) with
  accessFlags := 1537
  interfaces := #[]
  cf := some (fileOf pool4 2 #[] #[] 1537 4 #[] #[])
  fields := #[]
  methods := #[]
  instanceTypes := #[]
  staticTypes := #[]
  resolved := Array.replicate 8 none
  statics := none }

/-- the primitive byte -/
def k5 : Class := { plain "byte" none with kind := .primitive 'B', accessFlags := 0x411 }
/-- [B -/
def k6 : Class := { plain "[B" (some 0) with kind := .array 5 .byte, interfaces := #[3, 4], accessFlags := 1041 }

/-- the primitive int -/
def k7 : Class := { plain "int" none with kind := .primitive 'I', accessFlags := 0x411 }
/-- [I -/
def k8 : Class := { plain "[I" (some 0) with kind := .array 7 .int, interfaces := #[3, 4], accessFlags := 1041 }

def heap : Heap := #[]
def classes : Array Class := #[k0, k1, k2, k3, k4, k5, k6, k7, k8]
def interned : List (Array UInt16 × Addr) := []
def slotsUsed : Nat := 0
def theMethod : MethodId := ⟨1, 1⟩
def args0 : Array Value := #[.long 5, .long 7, .int 2, .int 3]
def aboutOver (below : List Frame) : State where
  vm := { classes := classes, interned := interned.toArray }
  heap := heap
  slotsUsed := slotsUsed
  threads := #[{ frames := .invoking theMethod args0 :: below }]
def below0 : List Frame := [.native { method := ⟨0, 0⟩, args := #[] }]
def about1 : State := aboutOver below0
def p0 : Program := .bare "" "" ""
def e0 : Env := launch0.env 0 0 0
theorem w_frames : about1.frames = Frame.invoking theMethod args0 :: below0 := rfl
set_option maxRecDepth 65536 in
theorem w_args : argsFit about1.vm theMethod args0 = true := by decide +kernel
set_option maxRecDepth 65536 in
theorem w_heap : heapFits about1 = true := by decide +kernel
set_option maxRecDepth 65536 in
theorem w_runnable : about1.curStatus? = some .runnable := by decide +kernel
set_option maxRecDepth 65536 in
theorem w_alone : about1.alone = true := by decide +kernel
set_option maxRecDepth 65536 in
theorem w_named : about1.methodNamed? x = some theMethod := by decide +kernel
set_option maxRecDepth 65536 in
theorem w_hears : about1.hears theMethod below0 = true := by decide +kernel
set_option maxRecDepth 65536 in
theorem w_ripe : about1.ripe theMethod args0 below0 = true := by decide +kernel
theorem w_running : about1.status = .running := rfl
set_option maxRecDepth 65536 in
theorem w_room : about1.hasRoom e0.platform room_1 = true :=
  launch0.hasRoom_least _ room_1 (by decide +kernel) (by decide +kernel) (by decide +kernel) (by decide +kernel) (by decide +kernel) (by decide +kernel)
theorem allAtoms_all (ts : List Jvm.Cond) (a : Array Jvm.Value) (st : Jvm.State) : (allAtoms ts).before a st = ts.all (fun c => c.before a st) := by
  induction ts with
  | nil => rfl
  | cons c t ih =>
    show (Jvm.Cond.and c (allAtoms t)).before a st = _
    rw [Jvm.Cond.before_and, ih, List.all_cons]
def words1 : List Jvm.Cond := Jvm.Cond.code x code maxLocals ret :: tables_1
/-- a 'code' word, met by the world's own term for the bytes: nothing is compared byte by byte -/
theorem code_word {y : MethodName} {bytes : ByteArray} {mx : Nat} {rt : Option FieldType} {a : Array Value} {s : State} {m : MethodId} {meth : Method} {c : Code} (h1 : s.methodNamed? y = some m) (h2 : s.vm.method? m = some meth) (h3 : meth.code = some c) (h4 : c.code = bytes)
    (h5 : (c.maxLocals == mx && c.exceptionTable.isEmpty && decide (c.maxStack ≤ mostOperands) && decide (meth.sig.returnType = rt) && !meth.locks && decide (parseMethodDescriptor y.desc = some meth.sig)) = true) : (Jvm.Cond.code y bytes mx rt).before a s = true := by
  simp only [Bool.and_eq_true, beq_iff_eq, Bool.not_eq_true', decide_eq_true_eq] at h5
  obtain ⟨⟨⟨⟨⟨g1, g2⟩, g3⟩, g4⟩, g5⟩, g6⟩ := h5
  simp [Cond.before, Cond.holds, Cond.value, h1, h2, h3, h4, g1, g2, g3, g4, g5, g6]
def isCode : Jvm.Cond → Bool
  | .code _ _ _ _ => true
  | _ => false
theorem all_split {L : List Jvm.Cond} {P : Jvm.Cond → Bool} (h1 : L.all (fun c => isCode c || P c) = true) (h2 : ∀ c ∈ L.filter isCode, P c = true) : L.all P = true := by
  refine List.all_eq_true.mpr fun c hc => ?_
  have h := List.all_eq_true.mp h1 c hc
  rcases Bool.eq_false_or_eq_true (isCode c) with hi | hi
  · exact h2 c (List.mem_filter.mpr ⟨hc, hi⟩)
  · simpa [hi] using h
set_option maxRecDepth 65536 in
theorem w_c0 : (Jvm.Cond.code x code maxLocals ret).before args0 about1 = true := code_word (m := ⟨1, 1⟩) (meth := k1m1) (c := k1c1) (by decide +kernel) rfl rfl rfl (by decide +kernel)
set_option maxRecDepth 65536 in
theorem w_c1 : (Jvm.Cond.code ({ cls := "com/example/modalis/modalis/dicom/data/DataSetReaderToLittleEndianPinLaw", name := "at", desc := "(JJI)B" } : Jvm.MethodName) method_3_code (5 : Nat) (Option.some Jvm.ClassFile.FieldType.byte)).before args0 about1 = true := code_word (m := ⟨1, 2⟩) (meth := k1m2) (c := k1c2) (by decide +kernel) rfl rfl rfl (by decide +kernel)
set_option maxRecDepth 65536 in
theorem w_c2 : (Jvm.Cond.code ({ cls := "com/example/modalis/modalis/dicom/data/DataSetReader", name := "toLittleEndian", desc := "([BII)V" } : Jvm.MethodName) prog_6_method_8_code (6 : Nat) (Option.none : Option Jvm.ClassFile.FieldType)).before args0 about1 = true := code_word (m := ⟨2, 0⟩) (meth := k2m0) (c := k2c0) (by decide +kernel) rfl rfl rfl (by decide +kernel)
set_option maxRecDepth 65536 in
theorem w_c3 : (Jvm.Cond.code ({ cls := "com/example/modalis/modalis/dicom/data/DataSetReaderToLittleEndianPinLaw", name := "ok", desc := "([BJJIII)Z" } : Jvm.MethodName) method_4_code (9 : Nat) (Option.some Jvm.ClassFile.FieldType.boolean)).before args0 about1 = true := code_word (m := ⟨1, 3⟩) (meth := k1m3) (c := k1c3) (by decide +kernel) rfl rfl rfl (by decide +kernel)
def codes1 : List Jvm.Cond := [Jvm.Cond.code x code maxLocals ret, Jvm.Cond.code ({ cls := "com/example/modalis/modalis/dicom/data/DataSetReaderToLittleEndianPinLaw", name := "at", desc := "(JJI)B" } : Jvm.MethodName) method_3_code (5 : Nat) (Option.some Jvm.ClassFile.FieldType.byte), Jvm.Cond.code ({ cls := "com/example/modalis/modalis/dicom/data/DataSetReader", name := "toLittleEndian", desc := "([BII)V" } : Jvm.MethodName) prog_6_method_8_code (6 : Nat) (Option.none : Option Jvm.ClassFile.FieldType), Jvm.Cond.code ({ cls := "com/example/modalis/modalis/dicom/data/DataSetReaderToLittleEndianPinLaw", name := "ok", desc := "([BJJIII)Z" } : Jvm.MethodName) method_4_code (9 : Nat) (Option.some Jvm.ClassFile.FieldType.boolean)]
set_option maxRecDepth 65536 in
theorem codes_eq : words1.filter isCode = codes1 := rfl
theorem w_codes : ∀ c ∈ words1.filter isCode, c.before args0 about1 = true := by
  rw [codes_eq]
  intro c hc
  simp only [codes1, List.mem_cons, List.not_mem_nil, or_false] at hc
  rcases hc with rfl | rfl | rfl | rfl
  · exact w_c0
  · exact w_c1
  · exact w_c2
  · exact w_c3
set_option maxRecDepth 65536 in
theorem w_t1 : words1.all (fun c => isCode c || c.before args0 about1) = true := by decide +kernel
theorem w_tables : (allAtoms (Jvm.Cond.code x code maxLocals ret :: tables_1)).before args0 about1 = true := by
  rw [allAtoms_all]
  show words1.all (fun c => c.before args0 about1) = true
  refine all_split ?_ w_codes
  rw [w_t1]
set_option maxRecDepth 65536 in
theorem w_case : (Jvm.Cond.and given_1 narrow_1).before args0 about1 = true := by decide +kernel
theorem w_applies : (headSpec (Jvm.Cond.code x code maxLocals ret :: tables_1) room_1).applies x e0.platform about1 = true :=
  (Spec.applies_iff w_frames).mpr ⟨w_running, w_runnable, w_alone, w_named, w_hears, w_ripe, w_room, w_tables⟩
theorem atStart : AtStart classFile x code maxLocals ret World_1 tables_1 room_1 Calls_1 rest_1 Pre_1 launch0 p0 e0 about1 theMethod args0 below0 :=
  ⟨lists_1, trivial, launch0.admits_env _ _ _, launch0.least_env, fairChoices_fair.cas, fairChoices_fair.clock, w_frames, w_args, w_heap, w_applies, trivial, trivial, w_case⟩
end start1
theorem witness_1 : WitnessClaimed_1 := ⟨start1.p0, start1.e0, start1.about1, start1.theMethod, start1.args0, start1.below0, start1.atStart⟩
end Jvm.Pilot.@@N@@
