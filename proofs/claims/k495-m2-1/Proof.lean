import JvmDerived
import JvmDerived.Pilot.@@N@@Statement
import JvmDerived.Pilot.@@N@@Code
set_option linter.unusedVariables false
set_option linter.unusedSimpArgs false
namespace Jvm.RoadKit
open Sem ClassFile Op Lib Jvm.Stand Jvm.Free Jvm.LawKit
section New
variable {p : Program} {l : Launch} {e : Env} {R : Room} {s : State} {m : MethodId} {args : Array Value} {below : List Frame} {meth : Method} {c : Code} {T : State} {locs : List Loc} {cells slots : Nat}
theorem retI (X : Stand p l e R s m args below meth c T locs cells slots) (hx : p.tables.exec = Jvm.exec) {pc : Nat} {Ls : Array Slot} {z : Int32} {rest : List Value} (hret : meth.sig.returnType = some .int) (hd : decode c.code pc = .ok (.ireturn, 1)) {fs : List Frame}
    (hl : ∀ (f : JFrame) (acts : List Action), f.method = m → f.locked = none → f.entered = [] → (doReturn e (T.setTop f) acts (some (.int z))).1 = T.setFrames fs) : Steps p.tables e below (T.setTop (mkF m pc Ls (.int z :: rest))) (T.setFrames fs) := by
  have hm' : T.vm.method? m = some meth := X.method'
  have hn : narrow .int (.int z) = .int z := rfl
  show Steps p.tables e below (T.setTop { method := m, pc := pc, locals := Ls, stack := _ :: rest, locked := none }) _
  jvm_step X.here [X.here.top, hx, hd, hm', hret, hn]
  first | (intro acts; rw [hl _ acts rfl rfl rfl]) | rw [hl _ _ rfl rfl rfl]
  exact Steps.refl _
end New
end Jvm.RoadKit
namespace Jvm.Pilot.@@N@@
open Jvm Jvm.ClassFile Sem Op Lib Jvm.Free Jvm.Stand Jvm.LawKit Jvm.RoadKit Bundle Jvm.Pilot.@@N@@.Jvm.D
theorem own_pd0 : parseMethodDescriptor "(I)V" = some ⟨[.int], none⟩ := by decide +kernel
theorem own_pd1 : parseMethodDescriptor "()V" = some ⟨[], none⟩ := by decide +kernel
theorem own_pd2 : parseMethodDescriptor "(II)V" = some ⟨[.int, .int], none⟩ := by decide +kernel
theorem own_pd3 : parseMethodDescriptor "(Lcom/example/opword/opword/dex/TakenBytes;IIIII)Z" = some ⟨[(.object "com/example/opword/opword/dex/TakenBytes"), .int, .int, .int, .int, .int], some .boolean⟩ := by decide +kernel
theorem own_pd4 : parseMethodDescriptor "(II)Z" = some ⟨[.int, .int], some .boolean⟩ := by decide +kernel
theorem own_pd5 : parseMethodDescriptor "(IIIII)Z" = some ⟨[.int, .int, .int, .int, .int], some .boolean⟩ := by decide +kernel
theorem own_ni {a b : Addr} {n : Nat} (h : a < n) (g : b = n) : a ∉ [b] := fun q => absurd (List.mem_singleton.mp q) (Nat.ne_of_lt (g ▸ h))
theorem own_in0 (a : Addr) (l : List Addr) : a ∈ a :: l := List.mem_cons_self ..
/-- an array: its kind, its length, what each place holds -/
def Av (Z : State) (h : Heap) (a : Addr) (ty : FieldType) (N : Nat) (g : Nat → Value) : Prop := ∃ c : Cell, Arr Z h a c ty ∧ c.slots.size = N ∧ ∀ j, j < N → c.slots[j]? = some (g j)
theorem Av.lt {Z : State} {h : Heap} {a : Addr} {ty : FieldType} {N : Nat} {g : Nat → Value} (V : Av Z h a ty N g) : a < h.size := by obtain ⟨c, A, -⟩ := V; exact A.lt
theorem Av.ext {Z : State} {h h' : Heap} {a : Addr} {ty : FieldType} {N : Nat} {g : Nat → Value} (V : Av Z h a ty N g) (E : Ext h h') : Av Z h' a ty N g := by obtain ⟨c, A, r⟩ := V; exact ⟨c, A.ext E, r⟩
theorem Av.other {Z : State} {h h' : Heap} {a b : Addr} {ty : FieldType} {N sl : Nat} {v : Value} {g : Nat → Value} (V : Av Z h b ty N g) (W : Wr h h' a sl v) (q : b ≠ a) : Av Z h' b ty N g := by obtain ⟨c, A, r⟩ := V; exact ⟨c, A.other W q, r⟩
theorem Av.keep {Z : State} {h h' : Heap} {a : Addr} {ty : FieldType} {N : Nat} {g : Nat → Value} {ws : List Addr} (V : Av Z h a ty N g) (K : Keep h h' ws) (q : a ∉ ws) : Av Z h' a ty N g := by obtain ⟨c, A, r⟩ := V; exact ⟨c, ⟨K.2.1 a c A.1 q, A.2⟩, r⟩
theorem Av.congr {Z : State} {h : Heap} {a : Addr} {ty : FieldType} {N : Nat} {g g' : Nat → Value} (V : Av Z h a ty N g) (q : ∀ j, j < N → g j = g' j) : Av Z h a ty N g' := by obtain ⟨c, A, S, G⟩ := V; exact ⟨c, A, S, fun j hj => (G j hj).trans (congrArg some (q j hj))⟩
theorem Av.new {Z : State} {h : Heap} {a : Addr} {cA : ClassId} {ty : FieldType} {n : Int32} (A : Arr Z h a (newA cA ty n) ty) {N : Nat} (hN : n.toInt = N) : Av Z h a ty N (fun _ => defaultValue ty) := by
  have e : n.toNatClampNeg = N := by rw [Int32.toNatClampNeg, hN]; rfl
  refine ⟨_, A, (sz_new _ _ _).trans e, fun j hj => ?_⟩
  simp [newA, e, hj]
theorem own_tn {j : Int32} {i : Nat} (hj : j.toInt = i) : j.toNatClampNeg = i := by rw [Int32.toNatClampNeg, hj]; rfl
theorem own_hin {cl : Cell} {N i : Nat} {j : Int32} (S : cl.slots.size = N) (hj : j.toInt = i) (hi : i < N) : ¬ (j < 0 ∨ cl.slots.size ≤ j.toNatClampNeg) := by
  rw [S, own_tn hj, Int32.lt_iff_toInt_lt, hj, show (0 : Int32).toInt = 0 from rfl]
  omega
theorem own_hat {cl : Cell} {N i : Nat} {j : Int32} {g : Nat → Value} (G : ∀ j, j < N → cl.slots[j]? = some (g j)) (hj : j.toInt = i) (hi : i < N) : cl.slots[j.toNatClampNeg]? = some (g i) := by
  rw [own_tn hj]; exact G i hi
theorem Av.set {Z : State} {h h' : Heap} {a : Addr} {ty : FieldType} {N i : Nat} {g : Nat → Value} {v : Value} {c : Cell} {j : Int32} (A : Arr Z h a c ty) (S : c.slots.size = N) (G : ∀ j, j < N → c.slots[j]? = some (g j)) (hj : j.toInt = i) (W : Wr h h' a j.toNatClampNeg v) : Av Z h' a ty N (fun k => if k = i then v else g k) := by
  refine ⟨_, A.same W, (sz_set _ _ _).trans S, fun k hk => ?_⟩
  show (c.slots.setIfInBounds j.toNatClampNeg v)[k]? = some (if k = i then v else g k)
  rw [own_tn hj, Array.getElem?_setIfInBounds]
  by_cases q : i = k
  · subst q; simp [S, hk]
  · rw [if_neg q, if_neg (fun z => q z.symm)]; exact G k hk
theorem own_nneg {j : Int32} {i : Nat} (hj : j.toInt = i) : ¬ j < 0 := by
  rw [Int32.lt_iff_toInt_lt, hj, show (0 : Int32).toInt = 0 from rfl]; omega
theorem own_sz {cl : Cell} {N : Nat} {j : Int32} (S : cl.slots.size = N) (hj : j.toInt = N) : cl.slots.size = j.toNatClampNeg := by rw [S, own_tn hj]
theorem own_ni1 {a b : Addr} (h : a ≠ b) : a ∉ [b] := fun q => h (List.mem_singleton.mp q)
theorem own_nat {x : Int32} {n : Nat} (hx : x.toInt = n) : x.toBitVec.toNat = n := by
  have e : x.toInt = x.toBitVec.toInt := rfl
  rw [e, BitVec.toInt_eq_toNat_cond] at hx
  have := x.toBitVec.isLt
  split at hx <;> omega
theorem own_inc {x : Int32} {i : Nat} (hx : x.toInt = i) (hi : i < 2147483647) : (x + (1 : Int32)).toInt = ((i + 1 : Nat) : Int) := by
  have h := c_iadd x (1 : Int32)
  have := rng32 (x + (1 : Int32))
  rw [show (1 : Int32).toInt = 1 from by decide] at h
  omega
theorem own_lt {x y : Int32} {i j : Nat} (hx : x.toInt = i) (hy : y.toInt = j) : x < y ↔ i < j := by
  rw [Int32.lt_iff_toInt_lt, hx, hy]; omega
theorem own_eqi {x y : Int32} {i j : Nat} (hx : x.toInt = i) (hy : y.toInt = j) : x = y ↔ i = j := by
  rw [← Int32.toInt_inj, hx, hy]; omega
/-- the bit x of the words f -/
def own_bit (f : Nat → Int64) (x : Nat) : Bool := (f (x / 64)).toBitVec.getLsbD (x % 64)
def own_fm (x : Int32) : Int64 := (-1 : Int64) <<< (x &&& 0x3f).toInt64
def own_lm (x : Int32) : Int64 := (((-1 : Int64).toUInt64 >>> ((-x) &&& 0x3f).toInt64.toUInt64).toInt64)
theorem own_ones {i : Nat} (hi : i < 64) : (-1 : Int64).toBitVec.getLsbD i = true := by
  rw [show (-1 : Int64).toBitVec = BitVec.allOnes 64 from by decide, BitVec.getLsbD_allOnes]; exact decide_eq_true hi
theorem own_fmb {x : Int32} {n : Nat} (hx : x.toInt = n) {i : Nat} (hi : i < 64) : (own_fm x).toBitVec.getLsbD i = decide (n % 64 ≤ i) := by
  obtain ⟨e, l⟩ := sm64 x (n % 64) (by rw [own_nat hx])
  show ((-1 : Int64).toBitVec <<< ((x &&& 0x3f).toInt64.toBitVec.smod 64)).getLsbD i = _
  rw [BitVec.shiftLeft_eq', e, smod64 _ l, show (-1 : Int64).toBitVec = BitVec.allOnes 64 from by decide, BitVec.getLsbD_shiftLeft, BitVec.getLsbD_allOnes, decide_eq_true hi, decide_eq_true (show i - n % 64 < 64 by omega)]
  by_cases q : n % 64 ≤ i
  · simp [q, Nat.not_lt.mpr q]
  · simp [q, Nat.lt_of_not_le q]
theorem own_lmb {x : Int32} {n : Nat} (hx : x.toInt = n) (hn : 0 < n) {i : Nat} (hi : i < 64) : (own_lm x).toBitVec.getLsbD i = decide (i ≤ (n - 1) % 64) := by
  have r := rng32 x
  have hN : (-x).toBitVec.toNat % 64 = (64 - n % 64) % 64 := by
    show (-x.toBitVec).toNat % 64 = _
    rw [BitVec.toNat_neg, own_nat hx]
    omega
  obtain ⟨e, l⟩ := sm64 (-x) _ hN
  show ((-1 : Int64).toBitVec >>> (((-x) &&& 0x3f).toInt64.toBitVec % 64)).getLsbD i = _
  rw [BitVec.ushiftRight_eq', e, show (-1 : Int64).toBitVec = BitVec.allOnes 64 from by decide, BitVec.getLsbD_ushiftRight, BitVec.getLsbD_allOnes, BitVec.toNat_umod, BitVec.toNat_ofNat]
  apply decide_eq_decide.mpr
  rw [show (64 : BitVec 64).toNat = 64 from by decide]
  omega
/-- one word with a mask laid over it -/
def own_f1 (f : Nat → Int64) (q : Nat) (w : Int64) : Nat → Int64 := fun j => if j = q then (f q ||| w) else f j
/-- the words from i to l all ones -/
def own_f2 (f : Nat → Int64) (i l : Nat) : Nat → Int64 := fun j => if i ≤ j ∧ j < l then (-1 : Int64) else f j
theorem own_f2a {f : Nat → Int64} {i : Nat} (j : Nat) : (if j = i then Value.long (-1 : Int64) else Value.long (f j)) = Value.long (own_f2 f i (i + 1) j) := by
  unfold own_f2
  by_cases h : j = i
  · rw [if_pos h, if_pos (by omega)]
  · rw [if_neg h, if_neg (by omega)]
theorem own_f2s {f : Nat → Int64} {i l : Nat} (h : i < l) (j : Nat) : own_f2 (own_f2 f i (i + 1)) (i + 1) l j = own_f2 f i l j := by
  unfold own_f2
  by_cases h1 : i + 1 ≤ j ∧ j < l
  · rw [if_pos h1, if_pos (by omega)]
  · rw [if_neg h1]
    by_cases h2 : i ≤ j ∧ j < i + 1
    · rw [if_pos h2, if_pos (by omega)]
    · rw [if_neg h2, if_neg (by omega)]
theorem own_t1 {x y : Int32} {a b : Nat} (hx : x.toInt = a) (hy : y.toInt = b) (hab : a < b) (hq : a / 64 = (b - 1) / 64) (f : Nat → Int64) (z : Nat) : own_bit (own_f1 f (a / 64) (own_fm x &&& own_lm y)) z = (own_bit f z || decide (a ≤ z ∧ z < b)) := by
  have hz : z % 64 < 64 := Nat.mod_lt _ (by decide)
  unfold own_bit own_f1
  by_cases h : z / 64 = a / 64
  · rw [if_pos h, Int64.toBitVec_or, Int64.toBitVec_and, BitVec.getLsbD_or, BitVec.getLsbD_and, own_fmb hx hz, own_lmb hy (by omega) hz, ← h]
    congr 1
    rw [← Bool.decide_and]
    exact decide_eq_decide.mpr (by omega)
  · rw [if_neg h, decide_eq_false (show ¬ (a ≤ z ∧ z < b) by omega), Bool.or_false]
theorem own_t2 {x y : Int32} {a b : Nat} (hx : x.toInt = a) (hy : y.toInt = b) (hab : a < b) (hq : ¬ a / 64 = (b - 1) / 64) (f : Nat → Int64) (z : Nat) :
    own_bit (own_f1 (own_f2 (own_f1 f (a / 64) (own_fm x)) (a / 64 + 1) ((b - 1) / 64)) ((b - 1) / 64) (own_lm y)) z = (own_bit f z || decide (a ≤ z ∧ z < b)) := by
  have hz : z % 64 < 64 := Nat.mod_lt _ (by decide)
  unfold own_bit own_f1 own_f2
  dsimp only
  by_cases h : z / 64 = (b - 1) / 64
  · rw [if_pos h, if_neg (show ¬ (a / 64 + 1 ≤ (b - 1) / 64 ∧ (b - 1) / 64 < (b - 1) / 64) by omega), if_neg (show ¬ (b - 1) / 64 = a / 64 by omega), Int64.toBitVec_or, BitVec.getLsbD_or, own_lmb hy (by omega) hz, ← h]
    congr 1
    exact decide_eq_decide.mpr (by omega)
  · rw [if_neg h]
    by_cases h2 : a / 64 + 1 ≤ z / 64 ∧ z / 64 < (b - 1) / 64
    · rw [if_pos h2, own_ones hz, decide_eq_true (show a ≤ z ∧ z < b by omega), Bool.or_true]
    · rw [if_neg h2]
      by_cases h3 : z / 64 = a / 64
      · rw [if_pos h3, Int64.toBitVec_or, BitVec.getLsbD_or, own_fmb hx hz, ← h3]
        congr 1
        exact decide_eq_decide.mpr (by omega)
      · rw [if_neg h3, decide_eq_false (show ¬ (a ≤ z ∧ z < b) by omega), Bool.or_false]
theorem own_t0 {a b : Nat} (h : ¬ a < b) (f : Nat → Int64) (z : Nat) : own_bit f z = (own_bit f z || decide (a ≤ z ∧ z < b)) := by
  rw [decide_eq_false (show ¬ (a ≤ z ∧ z < b) by omega), Bool.or_false]
/-- some byte from a to b is taken -/
def own_any (f : Nat → Int64) (a b : Nat) : Bool := (List.range b).any fun z => decide (a ≤ z) && own_bit f z
theorem own_any_iff {f : Nat → Int64} {a b : Nat} : own_any f a b = true ↔ ∃ z, a ≤ z ∧ z < b ∧ own_bit f z = true := by
  simp only [own_any, List.any_eq_true, List.mem_range, Bool.and_eq_true, decide_eq_true_eq]
  exact ⟨fun ⟨z, h1, h2, h3⟩ => ⟨z, h2, h1, h3⟩, fun ⟨z, h1, h2, h3⟩ => ⟨z, h2, h1, h3⟩⟩
def own_ab (f : Nat → Int64) (a b : Nat) : Int32 := if own_any f a b = true then 1 else 0
theorem own_ab1 {f : Nat → Int64} {a b : Nat} (h : ∃ z, a ≤ z ∧ z < b ∧ own_bit f z = true) : own_ab f a b = 1 := if_pos (own_any_iff.mpr h)
theorem own_ab0 {f : Nat → Int64} {a b : Nat} (h : ¬ ∃ z, a ≤ z ∧ z < b ∧ own_bit f z = true) : own_ab f a b = 0 := if_neg fun q => h (own_any_iff.mp q)
theorem own_zero (w : Int64) : w = 0 ↔ ∀ i, i < 64 → w.toBitVec.getLsbD i = false := by
  constructor
  · intro h i _
    rw [h]; show (0 : BitVec 64).getLsbD i = false
    simp
  · intro h
    apply Int64.toBitVec_inj.mp
    apply BitVec.eq_of_getLsbD_eq
    intro i hi
    rw [h i hi]; show false = (0 : BitVec 64).getLsbD i
    simp
theorem own_nz {w : Int64} (h : ¬ w = 0) : ∃ i, i < 64 ∧ w.toBitVec.getLsbD i = true := by
  apply Classical.byContradiction
  intro q
  exact h ((own_zero w).mpr fun i hi => by
    cases e : w.toBitVec.getLsbD i
    · rfl
    · exact absurd ⟨i, hi, e⟩ q)
theorem own_mk (f : Nat → Int64) (q : Nat) {i : Nat} (hi : i < 64) : own_bit f (64 * q + i) = (f q).toBitVec.getLsbD i := by
  rw [own_bit, show (64 * q + i) / 64 = q by omega, show (64 * q + i) % 64 = i by omega]
section Any
variable {x y : Int32} {a b : Nat} (hx : x.toInt = a) (hy : y.toInt = b) (hab : a < b) {f : Nat → Int64}
theorem own_a1 (hx : x.toInt = a) (hy : y.toInt = b) (hab : a < b) (hq : a / 64 = (b - 1) / 64) : ((f (a / 64) &&& own_fm x) &&& own_lm y) = 0 ↔ ¬ ∃ z, a ≤ z ∧ z < b ∧ own_bit f z = true := by
  rw [own_zero]
  constructor
  · rintro h ⟨z, h1, h2, h3⟩
    have hz : z % 64 < 64 := Nat.mod_lt _ (by decide)
    have g := h (z % 64) hz
    rw [Int64.toBitVec_and, Int64.toBitVec_and, BitVec.getLsbD_and, BitVec.getLsbD_and, own_fmb hx hz, own_lmb hy (by omega) hz, decide_eq_true (show a % 64 ≤ z % 64 by omega), decide_eq_true (show z % 64 ≤ (b - 1) % 64 by omega), Bool.and_true, Bool.and_true] at g
    rw [own_bit, show z / 64 = a / 64 by omega, g] at h3
    cases h3
  · intro h i hi
    rw [Int64.toBitVec_and, Int64.toBitVec_and, BitVec.getLsbD_and, BitVec.getLsbD_and, own_fmb hx hi, own_lmb hy (by omega) hi]
    cases e : (f (a / 64)).toBitVec.getLsbD i
    · rfl
    · by_cases h1 : a % 64 ≤ i
      · by_cases h2 : i ≤ (b - 1) % 64
        · exact absurd ⟨64 * (a / 64) + i, by omega, by omega, by rw [own_mk f _ hi]; exact e⟩ h
        · simp [h2]
      · simp [h1]
theorem own_a2 (hx : x.toInt = a) (hab : a < b) (hq : ¬ a / 64 = (b - 1) / 64) (h : ¬ (f (a / 64) &&& own_fm x) = 0) : ∃ z, a ≤ z ∧ z < b ∧ own_bit f z = true := by
  obtain ⟨i, hi, g⟩ := own_nz h
  rw [Int64.toBitVec_and, BitVec.getLsbD_and, own_fmb hx hi, Bool.and_eq_true, decide_eq_true_eq] at g
  exact ⟨64 * (a / 64) + i, by omega, by omega, by rw [own_mk f _ hi]; exact g.1⟩
theorem own_a3 (hy : y.toInt = b) (hab : a < b) (hq : ¬ a / 64 = (b - 1) / 64) (h : ¬ (f ((b - 1) / 64) &&& own_lm y) = 0) : ∃ z, a ≤ z ∧ z < b ∧ own_bit f z = true := by
  obtain ⟨i, hi, g⟩ := own_nz h
  rw [Int64.toBitVec_and, BitVec.getLsbD_and, own_lmb hy (by omega) hi, Bool.and_eq_true, decide_eq_true_eq] at g
  exact ⟨64 * ((b - 1) / 64) + i, by omega, by omega, by rw [own_mk f _ hi]; exact g.1⟩
theorem own_a4 (hab : a < b) {j : Nat} (h1 : a / 64 < j) (h2 : j < (b - 1) / 64) (h : ¬ f j = 0) : ∃ z, a ≤ z ∧ z < b ∧ own_bit f z = true := by
  obtain ⟨i, hi, g⟩ := own_nz h
  exact ⟨64 * j + i, by omega, by omega, by rw [own_mk f _ hi]; exact g⟩
theorem own_a5 (hx : x.toInt = a) (hy : y.toInt = b) (hab : a < b) (hq : ¬ a / 64 = (b - 1) / 64) (h1 : (f (a / 64) &&& own_fm x) = 0) (h2 : (f ((b - 1) / 64) &&& own_lm y) = 0) (h3 : ∀ j, a / 64 + 1 ≤ j → j < (b - 1) / 64 → f j = 0) : ¬ ∃ z, a ≤ z ∧ z < b ∧ own_bit f z = true := by
  rintro ⟨z, g1, g2, g3⟩
  have hz : z % 64 < 64 := Nat.mod_lt _ (by decide)
  rw [own_zero] at h1 h2
  by_cases c1 : z / 64 = a / 64
  · have g := h1 _ hz
    rw [Int64.toBitVec_and, BitVec.getLsbD_and, own_fmb hx hz, decide_eq_true (show a % 64 ≤ z % 64 by omega), Bool.and_true] at g
    rw [own_bit, c1, g] at g3; cases g3
  · by_cases c2 : z / 64 = (b - 1) / 64
    · have g := h2 _ hz
      rw [Int64.toBitVec_and, BitVec.getLsbD_and, own_lmb hy (by omega) hz, decide_eq_true (show z % 64 ≤ (b - 1) % 64 by omega), Bool.and_true] at g
      rw [own_bit, c2, g] at g3; cases g3
    · have g := (own_zero _).mp (h3 (z / 64) (by omega) (by omega)) _ hz
      rw [own_bit, g] at g3; cases g3
end Any
theorem own_d64 {x : Int32} {a : Nat} (hx : x.toInt = a) : (x / (64 : Int32)).toInt = ((a / 64 : Nat) : Int) := by
  have h := (c_idiv x (64 : Int32) 64 (by decide) (by decide)).1 (by omega)
  rw [h, hx]; omega
theorem own_d65 {x : Int32} {a : Nat} (hx : x.toInt = a) (ha : 0 < a) : ((x - (1 : Int32)) / (64 : Int32)).toInt = (((a - 1) / 64 : Nat) : Int) := by
  have h := c_isub x (1 : Int32)
  have := rng32 x; have := rng32 (x - (1 : Int32))
  rw [show (1 : Int32).toInt = 1 from by decide] at h
  exact own_d64 (by omega)
theorem d1_0 : decode prog_69_method_1_code 0 = .ok (.aload_n 0, 1) := by decide +kernel
theorem d1_1 : decode prog_69_method_1_code 1 = .ok (.invokespecial 1, 3) := by decide +kernel
theorem d1_4 : decode prog_69_method_1_code 4 = .ok (.aload_n 0, 1) := by decide +kernel
theorem d1_5 : decode prog_69_method_1_code 5 = .ok (.iload_n 1, 1) := by decide +kernel
theorem d1_6 : decode prog_69_method_1_code 6 = .ok (.bipush 64, 2) := by decide +kernel
theorem d1_8 : decode prog_69_method_1_code 8 = .ok (.iadd, 1) := by decide +kernel
theorem d1_9 : decode prog_69_method_1_code 9 = .ok (.iconst 1, 1) := by decide +kernel
theorem d1_10 : decode prog_69_method_1_code 10 = .ok (.isub, 1) := by decide +kernel
theorem d1_11 : decode prog_69_method_1_code 11 = .ok (.bipush 64, 2) := by decide +kernel
theorem d1_13 : decode prog_69_method_1_code 13 = .ok (.idiv, 1) := by decide +kernel
theorem d1_14 : decode prog_69_method_1_code 14 = .ok (.newarray .long, 2) := by decide +kernel
theorem d1_16 : decode prog_69_method_1_code 16 = .ok (.putfield 9, 3) := by decide +kernel
theorem d1_19 : decode prog_69_method_1_code 19 = .ok (.return_, 1) := by decide +kernel
theorem pn_1 : plainName "com/example/opword/opword/dex/TakenBytes" = true := by first | (simp [plainName, overriddenIn]; done) | decide +kernel
theorem ef_1 (m : MethodId) (x0 : Addr) (x1 : Int32) : entryFrame m #[(.ref x0), (.int x1)] 2 = mkF m 0 #[.val (.ref x0), .val (.int x1)] [] := by first | (simp [entryFrame, mkF, argsToLocals, Value.category]; done) | rfl
def Q1 (Z : State) (a1 : Addr) (N : Nat) (h0 : Heap) (n0 : Nat) (v : Option Value) (h : Heap) (L : List Loc) : Prop := v = none ∧ Fr n0 L ∧ Keep h0 h [a1] ∧ Exa Z h a1 "com/example/opword/opword/dex/TakenBytes" ∧ ∃ b : Addr, n0 ≤ b ∧ a1 ≠ b ∧ Fld Z h a1 "com/example/opword/opword/dex/TakenBytes" "words" "[J" (.ref b) ∧ Av Z h b .long N (fun _ => .long 0)
set_option maxRecDepth 65536 in
set_option maxHeartbeats 40000000 in
theorem rm1 (l : Launch) (Z : State) (a0 : Array Value) (hw : ∀ d ∈ tables_1, d.before a0 Z = true) (ws : List Jvm.Cond) (a1 : Addr) (p2 : Int32) (N : Nat) (h0 : Heap) (n0 : Nat) (Z0 : n0 ≤ h0.size) (E : Exa Z h0 a1 "com/example/opword/opword/dex/TakenBytes") (F : Fld Z h0 a1 "com/example/opword/opword/dex/TakenBytes" "words" "[J" .null) (ge : n0 ≤ a1) (hN : (((p2 + (64 : Int32)) - (1 : Int32)) / (64 : Int32)).toInt = N) (hN5 : N ≤ 5) :
    MetFree l (⟨"com/example/opword/opword/dex/TakenBytes", "<init>", "(I)V"⟩ : MethodName) (head1 (Jvm.Cond.code (⟨"com/example/opword/opword/dex/TakenBytes", "<init>", "(I)V"⟩ : MethodName) prog_69_method_1_code 2 none :: ws) ({ frames := 1, cells := 1, slots := 5, locals := 12 } : Room)) (fun a U => a = #[(.ref a1), (.int p2)] ∧ Z.Warmed39 U.vm ∧ U.heap = h0) (fun _ _ _ _ _ => True) (fun _ U o U' => ∃ v L, o = .returned v ∧ Q1 Z a1 N h0 n0 v U'.heap L ∧ FrameEnd U o U' L ({ frames := 1, cells := 1, slots := 5, locals := 12 } : Room).cells ({ frames := 1, cells := 1, slots := 5, locals := 12 } : Room).slots) := by
  refine MetFree.of_bodySF (plainFor_of_name pn_1) hisR ?_
  intro p e s m args below meth c s₁ Bd hml0 hP hK
  obtain ⟨rfl, hZ, hh⟩ := hP
  have hx := Bd.exec
  have hby := Bd.bytes
  have hml : c.maxLocals = 2 := hml0
  have hown : s.vm.findClass "com/example/opword/opword/dex/TakenBytes" = some m.cls := findClass_of_methodNamed Bd.named
  have hnm := (name_of_methodNamed Bd.named Bd.method).1
  have X0 : Stand p l e ({ frames := 1, cells := 1, slots := 5, locals := 12 } : Room) s m #[(.ref a1), (.int p2)] below meth c s₁ [] 0 0 := Stand.of_body Bd
  have e0 : s₁.heap = h0 := by rw [← hh, Bd.state]; rfl
  have N0 := Fr.nil n0
  have pre0 : ∀ tg, Steps p.tables e below (s₁.setTop (mkF m 0 #[.val (.ref a1), .val (.int p2)] [])) tg → Steps p.tables e below (s₁.setTop (entryFrame m #[(.ref a1), (.int p2)] 2)) tg := fun tg kg => castTop (ef_1 m a1 p2) kg
  have k1 : ∀ tg, Steps p.tables e below (s₁.setTop (mkF m 1 #[.val (.ref a1), .val (.int p2)] [(.ref a1)])) tg → Steps p.tables e below (s₁.setTop (entryFrame m #[(.ref a1), (.int p2)] 2)) tg := fun tg kg => pre0 tg (by
      show Steps p.tables e below (s₁.setTop (mkF m 0 #[.val (.ref a1), .val (.int p2)] [])) _
      refine XS.aloadN X0.here hx rfl (hb hby d1_0) rfl rfl ?_
      exact kg)
  obtain ⟨T2, X2, e2, st2⟩ := initO X0 hx hZ hown (hw _ (List.mem_of_getElem? (i := 7) rfl)) (hw _ (List.mem_of_getElem? (i := 8) rfl)) (hw _ (List.mem_of_getElem? (i := 9) rfl)) e0 (g := (mkF m 1 #[.val (.ref a1), .val (.int p2)] [(.ref a1)])) rfl (by rw [hml]; rfl) rfl (hb hby d1_1) (by decide) (W := 0) (by show 2 * 0 + _ ≤ _; exact Nat.le_of_eq rfl) (by decide)
  have k3 : ∀ tg, Steps p.tables e below (T2.setTop (mkF m 4 #[.val (.ref a1), .val (.int p2)] [])) tg → Steps p.tables e below (s₁.setTop (entryFrame m #[(.ref a1), (.int p2)] 2)) tg := fun tg kg => k1 tg (st2 tg kg)
  have k4 : ∀ tg, Steps p.tables e below (T2.setTop (mkF m 14 #[.val (.ref a1), .val (.int p2)] [(.int (((p2 + (64 : Int32)) - (1 : Int32)) / (64 : Int32))), (.ref a1)])) tg → Steps p.tables e below (s₁.setTop (entryFrame m #[(.ref a1), (.int p2)] 2)) tg := fun tg kg => k3 tg (by
      show Steps p.tables e below (T2.setTop (mkF m 4 #[.val (.ref a1), .val (.int p2)] [])) _
      refine XS.aloadN X2.here hx rfl (hb hby d1_4) rfl rfl ?_
      show Steps p.tables e below (T2.setTop (mkF m 5 #[.val (.ref a1), .val (.int p2)] [(.ref a1)])) _
      refine XS.iloadN X2.here hx rfl (hb hby d1_5) rfl ?_
      show Steps p.tables e below (T2.setTop (mkF m 6 #[.val (.ref a1), .val (.int p2)] [(.int p2), (.ref a1)])) _
      refine XS.bipush X2.here hx rfl (hb hby d1_6) ?_
      show Steps p.tables e below (T2.setTop (mkF m 8 #[.val (.ref a1), .val (.int p2)] [(.int (64 : Int32)), (.int p2), (.ref a1)])) _
      refine XS.iadd X2.here hx rfl (hb hby d1_8) rfl ?_
      show Steps p.tables e below (T2.setTop (mkF m 9 #[.val (.ref a1), .val (.int p2)] [(.int (p2 + (64 : Int32))), (.ref a1)])) _
      refine XS.iconst X2.here hx rfl (hb hby d1_9) ?_
      show Steps p.tables e below (T2.setTop (mkF m 10 #[.val (.ref a1), .val (.int p2)] [(.int (1 : Int32)), (.int (p2 + (64 : Int32))), (.ref a1)])) _
      refine XS.isub X2.here hx rfl (hb hby d1_10) rfl ?_
      show Steps p.tables e below (T2.setTop (mkF m 11 #[.val (.ref a1), .val (.int p2)] [(.int ((p2 + (64 : Int32)) - (1 : Int32))), (.ref a1)])) _
      refine XS.bipush X2.here hx rfl (hb hby d1_11) ?_
      show Steps p.tables e below (T2.setTop (mkF m 13 #[.val (.ref a1), .val (.int p2)] [(.int (64 : Int32)), (.int ((p2 + (64 : Int32)) - (1 : Int32))), (.ref a1)])) _
      refine XS.idiv X2.here hx rfl (hb hby d1_13) rfl (by decide) ?_
      exact kg)
  obtain ⟨T5, h5, c5, X5, e5, E5, A5, st5⟩ := newP X2 hx hZ (hw _ (List.mem_of_getElem? (i := 10) rfl)) e2 (g := (mkF m 14 #[.val (.ref a1), .val (.int p2)] [(.int (((p2 + (64 : Int32)) - (1 : Int32)) / (64 : Int32))), (.ref a1)])) rfl (hb hby d1_14) rfl (own_nneg hN) (cap := 5) (by rw [own_tn hN]; exact hN5) (by decide) (by decide) (by decide)
  obtain ⟨b5, g5⟩ : ∃ z, z = h0.size := ⟨_, rfl⟩
  rw [← g5] at A5 st5
  have k6 : ∀ tg, Steps p.tables e below (T5.setTop (mkF m 16 #[.val (.ref a1), .val (.int p2)] [(.ref b5), (.ref a1)])) tg → Steps p.tables e below (s₁.setTop (entryFrame m #[(.ref a1), (.int p2)] 2)) tg := fun tg kg => k4 tg (st5 tg kg)
  have V := Av.new A5 hN
  have gb : n0 ≤ b5 := Nat.le_trans Z0 (Nat.le_of_eq g5.symm)
  have nb : a1 ≠ b5 := Nat.ne_of_lt (g5 ▸ E.lt)
  obtain ⟨T7, h7, X7, e7, W7, st7⟩ := putF X5 hx hZ hown (host := "") (Or.inl (hw _ (List.mem_of_getElem? (i := 11) rfl))) Via.refl e5 (F.ext E5) (E.ext E5) (Or.inr ⟨(hw _ (List.mem_of_getElem? (i := 12) rfl)), rfl, hnm⟩) (hw _ (List.mem_of_getElem? (i := 2) rfl)) (ty := (.array .long)) (by decide) rfl rfl (g := (mkF m 16 #[.val (.ref a1), .val (.int p2)] [(.ref b5), (.ref a1)])) rfl rfl (hb hby d1_16)
  have N7 := Fr.snoc X7 N0 ge
  have k8 : ∀ tg, Steps p.tables e below (T7.setTop (mkF m 19 #[.val (.ref a1), .val (.int p2)] [])) tg → Steps p.tables e below (s₁.setTop (entryFrame m #[(.ref a1), (.int p2)] 2)) tg := fun tg kg => k6 tg (st7 tg kg)
  obtain ⟨fs, hr, hrun, hended, hW, hsame⟩ := X7.leave (v := none) (fun _ => rfl)
  refine ⟨_, _, k8 _ ?_, hrun, hended, _, _, rfl, ?_, ⟨_, rfl⟩, hW, hsame.mono (by decide) (by decide)⟩
  · show Steps p.tables e below (T7.setTop (mkF m 19 #[.val (.ref a1), .val (.int p2)] [])) _
    exact X7.returnOut hx Bd.returns (hb hby d1_19) hr
  · show Q1 _ _ _ _ _ _ T7.heap _
    rw [e7]
    exact ⟨rfl, N7, ((Keep.refl h0 [a1]).ext E5).wr W7 (Or.inl (own_in0 _ _)), (E.ext E5).wr W7, b5, gb, nb, (F.ext E5).same W7, V.other W7 nb.symm⟩
theorem d3_0 : decode prog_69_method_3_code 0 = .ok (.iload_n 1, 1) := by decide +kernel
theorem d3_1 : decode prog_69_method_3_code 1 = .ok (.iload_n 2, 1) := by decide +kernel
theorem d3_2 : decode prog_69_method_3_code 2 = .ok (.if_icmp .lt 4, 3) := by decide +kernel
theorem d3_5 : decode prog_69_method_3_code 5 = .ok (.return_, 1) := by decide +kernel
theorem d3_6 : decode prog_69_method_3_code 6 = .ok (.iload_n 1, 1) := by decide +kernel
theorem d3_7 : decode prog_69_method_3_code 7 = .ok (.bipush 64, 2) := by decide +kernel
theorem d3_9 : decode prog_69_method_3_code 9 = .ok (.idiv, 1) := by decide +kernel
theorem d3_10 : decode prog_69_method_3_code 10 = .ok (.istore_n 3, 1) := by decide +kernel
theorem d3_11 : decode prog_69_method_3_code 11 = .ok (.iload_n 2, 1) := by decide +kernel
theorem d3_12 : decode prog_69_method_3_code 12 = .ok (.iconst 1, 1) := by decide +kernel
theorem d3_13 : decode prog_69_method_3_code 13 = .ok (.isub, 1) := by decide +kernel
theorem d3_14 : decode prog_69_method_3_code 14 = .ok (.bipush 64, 2) := by decide +kernel
theorem d3_16 : decode prog_69_method_3_code 16 = .ok (.idiv, 1) := by decide +kernel
theorem d3_17 : decode prog_69_method_3_code 17 = .ok (.istore 4, 2) := by decide +kernel
theorem d3_19 : decode prog_69_method_3_code 19 = .ok (.ldc2_w 15, 3) := by decide +kernel
theorem d3_22 : decode prog_69_method_3_code 22 = .ok (.iload_n 1, 1) := by decide +kernel
theorem d3_23 : decode prog_69_method_3_code 23 = .ok (.lshl, 1) := by decide +kernel
theorem d3_24 : decode prog_69_method_3_code 24 = .ok (.lstore 5, 2) := by decide +kernel
theorem d3_26 : decode prog_69_method_3_code 26 = .ok (.ldc2_w 15, 3) := by decide +kernel
theorem d3_29 : decode prog_69_method_3_code 29 = .ok (.iload_n 2, 1) := by decide +kernel
theorem d3_30 : decode prog_69_method_3_code 30 = .ok (.ineg, 1) := by decide +kernel
theorem d3_31 : decode prog_69_method_3_code 31 = .ok (.lushr, 1) := by decide +kernel
theorem d3_32 : decode prog_69_method_3_code 32 = .ok (.lstore 7, 2) := by decide +kernel
theorem d3_34 : decode prog_69_method_3_code 34 = .ok (.iload_n 3, 1) := by decide +kernel
theorem d3_35 : decode prog_69_method_3_code 35 = .ok (.iload 4, 2) := by decide +kernel
theorem d3_37 : decode prog_69_method_3_code 37 = .ok (.if_icmp .ne 18, 3) := by decide +kernel
theorem d3_40 : decode prog_69_method_3_code 40 = .ok (.aload_n 0, 1) := by decide +kernel
theorem d3_41 : decode prog_69_method_3_code 41 = .ok (.getfield 9, 3) := by decide +kernel
theorem d3_44 : decode prog_69_method_3_code 44 = .ok (.iload_n 3, 1) := by decide +kernel
theorem d3_45 : decode prog_69_method_3_code 45 = .ok (.dup2, 1) := by decide +kernel
theorem d3_46 : decode prog_69_method_3_code 46 = .ok (.laload, 1) := by decide +kernel
theorem d3_47 : decode prog_69_method_3_code 47 = .ok (.lload 5, 2) := by decide +kernel
theorem d3_49 : decode prog_69_method_3_code 49 = .ok (.lload 7, 2) := by decide +kernel
theorem d3_51 : decode prog_69_method_3_code 51 = .ok (.land, 1) := by decide +kernel
theorem d3_52 : decode prog_69_method_3_code 52 = .ok (.lor, 1) := by decide +kernel
theorem d3_53 : decode prog_69_method_3_code 53 = .ok (.lastore, 1) := by decide +kernel
theorem d3_54 : decode prog_69_method_3_code 54 = .ok (.return_, 1) := by decide +kernel
theorem d3_55 : decode prog_69_method_3_code 55 = .ok (.aload_n 0, 1) := by decide +kernel
theorem d3_56 : decode prog_69_method_3_code 56 = .ok (.getfield 9, 3) := by decide +kernel
theorem d3_59 : decode prog_69_method_3_code 59 = .ok (.iload_n 3, 1) := by decide +kernel
theorem d3_60 : decode prog_69_method_3_code 60 = .ok (.dup2, 1) := by decide +kernel
theorem d3_61 : decode prog_69_method_3_code 61 = .ok (.laload, 1) := by decide +kernel
theorem d3_62 : decode prog_69_method_3_code 62 = .ok (.lload 5, 2) := by decide +kernel
theorem d3_64 : decode prog_69_method_3_code 64 = .ok (.lor, 1) := by decide +kernel
theorem d3_65 : decode prog_69_method_3_code 65 = .ok (.lastore, 1) := by decide +kernel
theorem d3_66 : decode prog_69_method_3_code 66 = .ok (.iload_n 3, 1) := by decide +kernel
theorem d3_67 : decode prog_69_method_3_code 67 = .ok (.iconst 1, 1) := by decide +kernel
theorem d3_68 : decode prog_69_method_3_code 68 = .ok (.iadd, 1) := by decide +kernel
theorem d3_69 : decode prog_69_method_3_code 69 = .ok (.istore 9, 2) := by decide +kernel
theorem d3_71 : decode prog_69_method_3_code 71 = .ok (.iload 9, 2) := by decide +kernel
theorem d3_73 : decode prog_69_method_3_code 73 = .ok (.iload 4, 2) := by decide +kernel
theorem d3_75 : decode prog_69_method_3_code 75 = .ok (.if_icmp .ge 19, 3) := by decide +kernel
theorem d3_78 : decode prog_69_method_3_code 78 = .ok (.aload_n 0, 1) := by decide +kernel
theorem d3_79 : decode prog_69_method_3_code 79 = .ok (.getfield 9, 3) := by decide +kernel
theorem d3_82 : decode prog_69_method_3_code 82 = .ok (.iload 9, 2) := by decide +kernel
theorem d3_84 : decode prog_69_method_3_code 84 = .ok (.ldc2_w 15, 3) := by decide +kernel
theorem d3_87 : decode prog_69_method_3_code 87 = .ok (.lastore, 1) := by decide +kernel
theorem d3_88 : decode prog_69_method_3_code 88 = .ok (.iinc 9 1, 3) := by decide +kernel
theorem d3_91 : decode prog_69_method_3_code 91 = .ok (.goto (-20), 3) := by decide +kernel
theorem d3_94 : decode prog_69_method_3_code 94 = .ok (.aload_n 0, 1) := by decide +kernel
theorem d3_95 : decode prog_69_method_3_code 95 = .ok (.getfield 9, 3) := by decide +kernel
theorem d3_98 : decode prog_69_method_3_code 98 = .ok (.iload 4, 2) := by decide +kernel
theorem d3_100 : decode prog_69_method_3_code 100 = .ok (.dup2, 1) := by decide +kernel
theorem d3_101 : decode prog_69_method_3_code 101 = .ok (.laload, 1) := by decide +kernel
theorem d3_102 : decode prog_69_method_3_code 102 = .ok (.lload 7, 2) := by decide +kernel
theorem d3_104 : decode prog_69_method_3_code 104 = .ok (.lor, 1) := by decide +kernel
theorem d3_105 : decode prog_69_method_3_code 105 = .ok (.lastore, 1) := by decide +kernel
theorem d3_106 : decode prog_69_method_3_code 106 = .ok (.return_, 1) := by decide +kernel
theorem pn_3 : plainName "com/example/opword/opword/dex/TakenBytes" = true := by first | (simp [plainName, overriddenIn]; done) | decide +kernel
set_option maxRecDepth 65536 in
set_option maxHeartbeats 40000000 in
theorem loopT {p : Program} {l : Launch} {e : Env} {R : Room} {s : State} {m : MethodId} {args : Array Value} {below : List Frame} {meth : Method} {c : Code} {cells slots : Nat} {Z : State} {a0 : Array Value} (hx : p.tables.exec = Jvm.exec) (hZ : Z.Warmed39 s.vm) (hw : ∀ d ∈ tables_1, d.before a0 Z = true) (hby : c.code = prog_69_method_3_code) (hml : c.maxLocals = 10) (hown : s.vm.findClass "com/example/opword/opword/dex/TakenBytes" = some m.cls) (a1 b : Addr) (p2 p3 x3 x4 : Int32) (fm lm : Int64) (N l0 n0 : Nat) (hx4 : x4.toInt = l0) (hl : l0 ≤ N) (hN : N ≤ 1000) (ne : a1 ≠ b) (ge : n0 ≤ b) :
    ∀ (k i : Nat) (x : Int32) (f : Nat → Int64) (T0 : State) (h : Heap) (locs : List Loc), i + k = l0 → x.toInt = i → Stand p l e R s m args below meth c T0 locs cells slots → T0.heap = h → Fr n0 locs → Fld Z h a1 "com/example/opword/opword/dex/TakenBytes" "words" "[J" (.ref b) → Av Z h b .long N (fun j => .long (f j)) →
      ∃ (x' : Int32) (T' : State) (h' : Heap) (locs' : List Loc), Stand p l e R s m args below meth c T' locs' cells slots ∧ T'.heap = h' ∧ Fr n0 locs' ∧ Keep h h' [b] ∧ Fld Z h' a1 "com/example/opword/opword/dex/TakenBytes" "words" "[J" (.ref b) ∧ Av Z h' b .long N (fun j => .long (own_f2 f i l0 j)) ∧ ∀ t, Steps p.tables e below (T'.setTop (mkF m 94 #[.val (.ref a1), .val (.int p2), .val (.int p3), .val (.int x3), .val (.int x4), .val (.long fm), .second, .val (.long lm), .second, .val (.int x')] [])) t → Steps p.tables e below (T0.setTop (mkF m 71 #[.val (.ref a1), .val (.int p2), .val (.int p3), .val (.int x3), .val (.int x4), .val (.long fm), .second, .val (.long lm), .second, .val (.int x)] [])) t := by
  intro k
  induction k with
  | zero =>
    intro i x f T0 h locs hk hxi X0 e0 N0 F V
    have kid : ∀ tg, Steps p.tables e below (T0.setTop (mkF m 71 #[.val (.ref a1), .val (.int p2), .val (.int p3), .val (.int x3), .val (.int x4), .val (.long fm), .second, .val (.long lm), .second, .val (.int x)] [])) tg → Steps p.tables e below (T0.setTop (mkF m 71 #[.val (.ref a1), .val (.int p2), .val (.int p3), .val (.int x3), .val (.int x4), .val (.long fm), .second, .val (.long lm), .second, .val (.int x)] [])) tg := fun _ kg => kg
    have hc : ¬ x < x4 := fun q => by rw [own_lt hxi hx4] at q; omega
    have k9 : ∀ tg, Steps p.tables e below (T0.setTop (mkF m 94 #[.val (.ref a1), .val (.int p2), .val (.int p3), .val (.int x3), .val (.int x4), .val (.long fm), .second, .val (.long lm), .second, .val (.int x)] [])) tg → Steps p.tables e below (T0.setTop (mkF m 71 #[.val (.ref a1), .val (.int p2), .val (.int p3), .val (.int x3), .val (.int x4), .val (.long fm), .second, .val (.long lm), .second, .val (.int x)] [])) tg := fun tg kg => kid tg (by
        show Steps p.tables e below (T0.setTop (mkF m 71 #[.val (.ref a1), .val (.int p2), .val (.int p3), .val (.int x3), .val (.int x4), .val (.long fm), .second, .val (.long lm), .second, .val (.int x)] [])) _
        refine XS.iload X0.here hx rfl (hb hby d3_71) rfl ?_
        show Steps p.tables e below (T0.setTop (mkF m 73 #[.val (.ref a1), .val (.int p2), .val (.int p3), .val (.int x3), .val (.int x4), .val (.long fm), .second, .val (.long lm), .second, .val (.int x)] [(.int x)])) _
        refine XS.iload X0.here hx rfl (hb hby d3_73) rfl ?_
        show Steps p.tables e below (T0.setTop (mkF m 75 #[.val (.ref a1), .val (.int p2), .val (.int p3), .val (.int x3), .val (.int x4), .val (.long fm), .second, .val (.long lm), .second, .val (.int x)] [(.int x4), (.int x)])) _
        refine XS.icmpYes X0.here hx rfl (pc0 := 75) (pc' := 94) rfl (hb hby d3_75) rfl (flt hc).2.1 (by decide) (by decide) ?_
        exact kg)
    exact ⟨x, T0, h, locs, X0, e0, N0, Keep.refl h [b], F, V.congr (fun j _ => by rw [own_f2, if_neg (by omega)]), k9⟩
  | succ k ih =>
    intro i x f T0 h locs hk hxi X0 e0 N0 F V
    have kid : ∀ tg, Steps p.tables e below (T0.setTop (mkF m 71 #[.val (.ref a1), .val (.int p2), .val (.int p3), .val (.int x3), .val (.int x4), .val (.long fm), .second, .val (.long lm), .second, .val (.int x)] [])) tg → Steps p.tables e below (T0.setTop (mkF m 71 #[.val (.ref a1), .val (.int p2), .val (.int p3), .val (.int x3), .val (.int x4), .val (.long fm), .second, .val (.long lm), .second, .val (.int x)] [])) tg := fun _ kg => kg
    have hc : x < x4 := (own_lt hxi hx4).mpr (by omega)
    obtain ⟨cl, Ar, S, G⟩ := V
    have k10 : ∀ tg, Steps p.tables e below (T0.setTop (mkF m 79 #[.val (.ref a1), .val (.int p2), .val (.int p3), .val (.int x3), .val (.int x4), .val (.long fm), .second, .val (.long lm), .second, .val (.int x)] [(.ref a1)])) tg → Steps p.tables e below (T0.setTop (mkF m 71 #[.val (.ref a1), .val (.int p2), .val (.int p3), .val (.int x3), .val (.int x4), .val (.long fm), .second, .val (.long lm), .second, .val (.int x)] [])) tg := fun tg kg => kid tg (by
        show Steps p.tables e below (T0.setTop (mkF m 71 #[.val (.ref a1), .val (.int p2), .val (.int p3), .val (.int x3), .val (.int x4), .val (.long fm), .second, .val (.long lm), .second, .val (.int x)] [])) _
        refine XS.iload X0.here hx rfl (hb hby d3_71) rfl ?_
        show Steps p.tables e below (T0.setTop (mkF m 73 #[.val (.ref a1), .val (.int p2), .val (.int p3), .val (.int x3), .val (.int x4), .val (.long fm), .second, .val (.long lm), .second, .val (.int x)] [(.int x)])) _
        refine XS.iload X0.here hx rfl (hb hby d3_73) rfl ?_
        show Steps p.tables e below (T0.setTop (mkF m 75 #[.val (.ref a1), .val (.int p2), .val (.int p3), .val (.int x3), .val (.int x4), .val (.long fm), .second, .val (.long lm), .second, .val (.int x)] [(.int x4), (.int x)])) _
        refine XS.icmpNo X0.here hx rfl (hb hby d3_75) rfl (tlt hc).2.1 ?_
        show Steps p.tables e below (T0.setTop (mkF m 78 #[.val (.ref a1), .val (.int p2), .val (.int p3), .val (.int x3), .val (.int x4), .val (.long fm), .second, .val (.long lm), .second, .val (.int x)] [])) _
        refine XS.aloadN X0.here hx rfl (hb hby d3_78) rfl rfl ?_
        exact kg)
    obtain ⟨T11, X11, e11, st11⟩ := getF X0 hx hZ hown (host := "") (Or.inl (hw _ (List.mem_of_getElem? (i := 11) rfl))) Via.refl e0 F (g := (mkF m 79 #[.val (.ref a1), .val (.int p2), .val (.int p3), .val (.int x3), .val (.int x4), .val (.long fm), .second, .val (.long lm), .second, .val (.int x)] [(.ref a1)])) rfl rfl (hb hby d3_79)
    have k12 : ∀ tg, Steps p.tables e below (T11.setTop (mkF m 82 #[.val (.ref a1), .val (.int p2), .val (.int p3), .val (.int x3), .val (.int x4), .val (.long fm), .second, .val (.long lm), .second, .val (.int x)] [(.ref b)])) tg → Steps p.tables e below (T0.setTop (mkF m 71 #[.val (.ref a1), .val (.int p2), .val (.int p3), .val (.int x3), .val (.int x4), .val (.long fm), .second, .val (.long lm), .second, .val (.int x)] [])) tg := fun tg kg => k10 tg (st11 tg kg)
    have k13 : ∀ tg, Steps p.tables e below (T11.setTop (mkF m 87 #[.val (.ref a1), .val (.int p2), .val (.int p3), .val (.int x3), .val (.int x4), .val (.long fm), .second, .val (.long lm), .second, .val (.int x)] [(.long (-1 : Int64)), (.int x), (.ref b)])) tg → Steps p.tables e below (T0.setTop (mkF m 71 #[.val (.ref a1), .val (.int p2), .val (.int p3), .val (.int x3), .val (.int x4), .val (.long fm), .second, .val (.long lm), .second, .val (.int x)] [])) tg := fun tg kg => k12 tg (by
        show Steps p.tables e below (T11.setTop (mkF m 82 #[.val (.ref a1), .val (.int p2), .val (.int p3), .val (.int x3), .val (.int x4), .val (.long fm), .second, .val (.long lm), .second, .val (.int x)] [(.ref b)])) _
        refine XS.iload X11.here hx rfl (hb hby d3_82) rfl ?_
        show Steps p.tables e below (T11.setTop (mkF m 84 #[.val (.ref a1), .val (.int p2), .val (.int p3), .val (.int x3), .val (.int x4), .val (.long fm), .second, .val (.long lm), .second, .val (.int x)] [(.int x), (.ref b)])) _
        refine X11.ldc2Long hx hown (mvT hZ (hw _ (List.mem_of_getElem? (i := 18) rfl))) (g := (mkF m 84 #[.val (.ref a1), .val (.int p2), .val (.int p3), .val (.int x3), .val (.int x4), .val (.long fm), .second, .val (.long lm), .second, .val (.int x)] [(.int x), (.ref b)])) rfl (hb hby d3_84) _ ?_
        exact kg)
    obtain ⟨T14, h14, X14, e14, W14, st14⟩ := stJ X11 hx hZ e11 Ar (j := x) (own_hin S hxi (by omega)) (g := (mkF m 87 #[.val (.ref a1), .val (.int p2), .val (.int p3), .val (.int x3), .val (.int x4), .val (.long fm), .second, .val (.long lm), .second, .val (.int x)] [(.long (-1 : Int64)), (.int x), (.ref b)])) rfl rfl (hb hby d3_87)
    have N14 := Fr.snoc X14 N0 ge
    have k15 : ∀ tg, Steps p.tables e below (T14.setTop (mkF m 88 #[.val (.ref a1), .val (.int p2), .val (.int p3), .val (.int x3), .val (.int x4), .val (.long fm), .second, .val (.long lm), .second, .val (.int x)] [])) tg → Steps p.tables e below (T0.setTop (mkF m 71 #[.val (.ref a1), .val (.int p2), .val (.int p3), .val (.int x3), .val (.int x4), .val (.long fm), .second, .val (.long lm), .second, .val (.int x)] [])) tg := fun tg kg => k13 tg (st14 tg kg)
    have V2 := (Av.set Ar S G hxi W14).congr (g' := fun j => .long (own_f2 f i (i + 1) j)) (fun j _ => own_f2a j)
    have k16 : ∀ tg, Steps p.tables e below (T14.setTop (mkF m 71 #[.val (.ref a1), .val (.int p2), .val (.int p3), .val (.int x3), .val (.int x4), .val (.long fm), .second, .val (.long lm), .second, .val (.int (x + (1 : Int32)))] [])) tg → Steps p.tables e below (T0.setTop (mkF m 71 #[.val (.ref a1), .val (.int p2), .val (.int p3), .val (.int x3), .val (.int x4), .val (.long fm), .second, .val (.long lm), .second, .val (.int x)] [])) tg := fun tg kg => k15 tg (by
        show Steps p.tables e below (T14.setTop (mkF m 88 #[.val (.ref a1), .val (.int p2), .val (.int p3), .val (.int x3), .val (.int x4), .val (.long fm), .second, .val (.long lm), .second, .val (.int x)] [])) _
        refine XS.iinc X14.here hx rfl (hb hby d3_88) rfl (l' := #[.val (.ref a1), .val (.int p2), .val (.int p3), .val (.int x3), .val (.int x4), .val (.long fm), .second, .val (.long lm), .second, .val (.int (x + (1 : Int32)))]) rfl ?_
        show Steps p.tables e below (T14.setTop (mkF m 91 #[.val (.ref a1), .val (.int p2), .val (.int p3), .val (.int x3), .val (.int x4), .val (.long fm), .second, .val (.long lm), .second, .val (.int (x + (1 : Int32)))] [])) _
        refine XS.goto X14.here hx rfl (pc0 := 91) (pc' := 71) rfl (hb hby d3_91) (by decide) (by decide) ?_
        exact kg)
    obtain ⟨x', T', h', locs', X', e', N', K', F', V', kk⟩ := ih (i + 1) _ _ _ _ _ (by omega) (own_inc hxi (by omega)) X14 e14 N14 (F.other W14 (Or.inl ne)) V2
    exact ⟨x', T', h', locs', X', e', N', (Keep.of_wr W14).trans K' (fun x hx => Or.inl hx), F', V'.congr (fun j _ => congrArg Value.long (own_f2s (by omega) j)), fun t k => k16 t (kk t k)⟩
theorem ef_3 (m : MethodId) (x0 : Addr) (x1 : Int32) (x2 : Int32) : entryFrame m #[(.ref x0), (.int x1), (.int x2)] 10 = mkF m 0 #[.val (.ref x0), .val (.int x1), .val (.int x2), .unset, .unset, .unset, .unset, .unset, .unset, .unset] [] := by first | (simp [entryFrame, mkF, argsToLocals, Value.category]; done) | rfl
def Q3 (Z : State) (a1 b : Addr) (a z N : Nat) (f : Nat → Int64) (h0 : Heap) (n0 : Nat) (v : Option Value) (h : Heap) (L : List Loc) : Prop := v = none ∧ Fr n0 L ∧ Keep h0 h [b] ∧ Fld Z h a1 "com/example/opword/opword/dex/TakenBytes" "words" "[J" (.ref b) ∧ ∃ g : Nat → Int64, Av Z h b .long N (fun j => .long (g j)) ∧ ∀ x, own_bit g x = (own_bit f x || decide (a ≤ x ∧ x < z))
set_option maxRecDepth 65536 in
set_option maxHeartbeats 40000000 in
theorem rm3 (l : Launch) (Z : State) (a0 : Array Value) (hw : ∀ d ∈ tables_1, d.before a0 Z = true) (ws : List Jvm.Cond) (a1 : Addr) (p2 : Int32) (p3 : Int32) (b : Addr) (a z N : Nat) (f : Nat → Int64) (h0 : Heap) (n0 : Nat) (Z0 : n0 ≤ h0.size) (hp : p2.toInt = a) (hq : p3.toInt = z) (hz : z ≤ 64 * N) (hN : N ≤ 1000) (ne : a1 ≠ b) (ge : n0 ≤ b) (F : Fld Z h0 a1 "com/example/opword/opword/dex/TakenBytes" "words" "[J" (.ref b)) (V : Av Z h0 b .long N (fun j => .long (f j))) :
    MetFree l (⟨"com/example/opword/opword/dex/TakenBytes", "take", "(II)V"⟩ : MethodName) (head1 (Jvm.Cond.code (⟨"com/example/opword/opword/dex/TakenBytes", "take", "(II)V"⟩ : MethodName) prog_69_method_3_code 10 none :: ws) ({ frames := 0, cells := 0, slots := 0, locals := 0 } : Room)) (fun a U => a = #[(.ref a1), (.int p2), (.int p3)] ∧ Z.Warmed39 U.vm ∧ U.heap = h0) (fun _ _ _ _ _ => True) (fun _ U o U' => ∃ v L, o = .returned v ∧ Q3 Z a1 b a z N f h0 n0 v U'.heap L ∧ FrameEnd U o U' L ({ frames := 0, cells := 0, slots := 0, locals := 0 } : Room).cells ({ frames := 0, cells := 0, slots := 0, locals := 0 } : Room).slots) := by
  refine MetFree.of_bodySF (plainFor_of_name pn_3) hisR ?_
  intro p e s m args below meth c s₁ Bd hml0 hP hK
  obtain ⟨rfl, hZ, hh⟩ := hP
  have hx := Bd.exec
  have hby := Bd.bytes
  have hml : c.maxLocals = 10 := hml0
  have hown : s.vm.findClass "com/example/opword/opword/dex/TakenBytes" = some m.cls := findClass_of_methodNamed Bd.named
  have hnm := (name_of_methodNamed Bd.named Bd.method).1
  have X0 : Stand p l e ({ frames := 0, cells := 0, slots := 0, locals := 0 } : Room) s m #[(.ref a1), (.int p2), (.int p3)] below meth c s₁ [] 0 0 := Stand.of_body Bd
  have e0 : s₁.heap = h0 := by rw [← hh, Bd.state]; rfl
  have N0 := Fr.nil n0
  have pre0 : ∀ tg, Steps p.tables e below (s₁.setTop (mkF m 0 #[.val (.ref a1), .val (.int p2), .val (.int p3), .unset, .unset, .unset, .unset, .unset, .unset, .unset] [])) tg → Steps p.tables e below (s₁.setTop (entryFrame m #[(.ref a1), (.int p2), (.int p3)] 10)) tg := fun tg kg => castTop (ef_3 m a1 p2 p3) kg
  have k17 : ∀ tg, Steps p.tables e below (s₁.setTop (mkF m 2 #[.val (.ref a1), .val (.int p2), .val (.int p3), .unset, .unset, .unset, .unset, .unset, .unset, .unset] [(.int p3), (.int p2)])) tg → Steps p.tables e below (s₁.setTop (entryFrame m #[(.ref a1), (.int p2), (.int p3)] 10)) tg := fun tg kg => pre0 tg (by
      show Steps p.tables e below (s₁.setTop (mkF m 0 #[.val (.ref a1), .val (.int p2), .val (.int p3), .unset, .unset, .unset, .unset, .unset, .unset, .unset] [])) _
      refine XS.iloadN X0.here hx rfl (hb hby d3_0) rfl ?_
      show Steps p.tables e below (s₁.setTop (mkF m 1 #[.val (.ref a1), .val (.int p2), .val (.int p3), .unset, .unset, .unset, .unset, .unset, .unset, .unset] [(.int p2)])) _
      refine XS.iloadN X0.here hx rfl (hb hby d3_1) rfl ?_
      exact kg)
  by_cases hc : p2 < p3
  · have hab : a < z := (own_lt hp hq).mp hc
    have k18 : ∀ tg, Steps p.tables e below (s₁.setTop (mkF m 6 #[.val (.ref a1), .val (.int p2), .val (.int p3), .unset, .unset, .unset, .unset, .unset, .unset, .unset] [])) tg → Steps p.tables e below (s₁.setTop (entryFrame m #[(.ref a1), (.int p2), (.int p3)] 10)) tg := fun tg kg => k17 tg (by
        show Steps p.tables e below (s₁.setTop (mkF m 2 #[.val (.ref a1), .val (.int p2), .val (.int p3), .unset, .unset, .unset, .unset, .unset, .unset, .unset] [(.int p3), (.int p2)])) _
        refine XS.icmpYes X0.here hx rfl (pc0 := 2) (pc' := 6) rfl (hb hby d3_2) rfl (tlt hc).1 (by decide) (by decide) ?_
        exact kg)
    have k19 : ∀ tg, Steps p.tables e below (s₁.setTop (mkF m 37 #[.val (.ref a1), .val (.int p2), .val (.int p3), .val (.int (p2 / (64 : Int32))), .val (.int ((p3 - (1 : Int32)) / (64 : Int32))), .val (.long ((-1 : Int64) <<< (p2 &&& 0x3f).toInt64)), .second, .val (.long (((-1 : Int64).toUInt64 >>> ((-p3) &&& 0x3f).toInt64.toUInt64).toInt64)), .second, .unset] [(.int ((p3 - (1 : Int32)) / (64 : Int32))), (.int (p2 / (64 : Int32)))])) tg → Steps p.tables e below (s₁.setTop (entryFrame m #[(.ref a1), (.int p2), (.int p3)] 10)) tg := fun tg kg => k18 tg (by
        show Steps p.tables e below (s₁.setTop (mkF m 6 #[.val (.ref a1), .val (.int p2), .val (.int p3), .unset, .unset, .unset, .unset, .unset, .unset, .unset] [])) _
        refine XS.iloadN X0.here hx rfl (hb hby d3_6) rfl ?_
        show Steps p.tables e below (s₁.setTop (mkF m 7 #[.val (.ref a1), .val (.int p2), .val (.int p3), .unset, .unset, .unset, .unset, .unset, .unset, .unset] [(.int p2)])) _
        refine XS.bipush X0.here hx rfl (hb hby d3_7) ?_
        show Steps p.tables e below (s₁.setTop (mkF m 9 #[.val (.ref a1), .val (.int p2), .val (.int p3), .unset, .unset, .unset, .unset, .unset, .unset, .unset] [(.int (64 : Int32)), (.int p2)])) _
        refine XS.idiv X0.here hx rfl (hb hby d3_9) rfl (by decide) ?_
        show Steps p.tables e below (s₁.setTop (mkF m 10 #[.val (.ref a1), .val (.int p2), .val (.int p3), .unset, .unset, .unset, .unset, .unset, .unset, .unset] [(.int (p2 / (64 : Int32)))])) _
        refine XS.istoreN X0.here hx rfl (hb hby d3_10) rfl (l' := #[.val (.ref a1), .val (.int p2), .val (.int p3), .val (.int (p2 / (64 : Int32))), .unset, .unset, .unset, .unset, .unset, .unset]) rfl ?_
        show Steps p.tables e below (s₁.setTop (mkF m 11 #[.val (.ref a1), .val (.int p2), .val (.int p3), .val (.int (p2 / (64 : Int32))), .unset, .unset, .unset, .unset, .unset, .unset] [])) _
        refine XS.iloadN X0.here hx rfl (hb hby d3_11) rfl ?_
        show Steps p.tables e below (s₁.setTop (mkF m 12 #[.val (.ref a1), .val (.int p2), .val (.int p3), .val (.int (p2 / (64 : Int32))), .unset, .unset, .unset, .unset, .unset, .unset] [(.int p3)])) _
        refine XS.iconst X0.here hx rfl (hb hby d3_12) ?_
        show Steps p.tables e below (s₁.setTop (mkF m 13 #[.val (.ref a1), .val (.int p2), .val (.int p3), .val (.int (p2 / (64 : Int32))), .unset, .unset, .unset, .unset, .unset, .unset] [(.int (1 : Int32)), (.int p3)])) _
        refine XS.isub X0.here hx rfl (hb hby d3_13) rfl ?_
        show Steps p.tables e below (s₁.setTop (mkF m 14 #[.val (.ref a1), .val (.int p2), .val (.int p3), .val (.int (p2 / (64 : Int32))), .unset, .unset, .unset, .unset, .unset, .unset] [(.int (p3 - (1 : Int32)))])) _
        refine XS.bipush X0.here hx rfl (hb hby d3_14) ?_
        show Steps p.tables e below (s₁.setTop (mkF m 16 #[.val (.ref a1), .val (.int p2), .val (.int p3), .val (.int (p2 / (64 : Int32))), .unset, .unset, .unset, .unset, .unset, .unset] [(.int (64 : Int32)), (.int (p3 - (1 : Int32)))])) _
        refine XS.idiv X0.here hx rfl (hb hby d3_16) rfl (by decide) ?_
        show Steps p.tables e below (s₁.setTop (mkF m 17 #[.val (.ref a1), .val (.int p2), .val (.int p3), .val (.int (p2 / (64 : Int32))), .unset, .unset, .unset, .unset, .unset, .unset] [(.int ((p3 - (1 : Int32)) / (64 : Int32)))])) _
        refine XS.istore X0.here hx rfl (hb hby d3_17) rfl (l' := #[.val (.ref a1), .val (.int p2), .val (.int p3), .val (.int (p2 / (64 : Int32))), .val (.int ((p3 - (1 : Int32)) / (64 : Int32))), .unset, .unset, .unset, .unset, .unset]) rfl ?_
        show Steps p.tables e below (s₁.setTop (mkF m 19 #[.val (.ref a1), .val (.int p2), .val (.int p3), .val (.int (p2 / (64 : Int32))), .val (.int ((p3 - (1 : Int32)) / (64 : Int32))), .unset, .unset, .unset, .unset, .unset] [])) _
        refine X0.ldc2Long hx hown (mvT hZ (hw _ (List.mem_of_getElem? (i := 18) rfl))) (g := (mkF m 19 #[.val (.ref a1), .val (.int p2), .val (.int p3), .val (.int (p2 / (64 : Int32))), .val (.int ((p3 - (1 : Int32)) / (64 : Int32))), .unset, .unset, .unset, .unset, .unset] [])) rfl (hb hby d3_19) _ ?_
        show Steps p.tables e below (s₁.setTop (mkF m 22 #[.val (.ref a1), .val (.int p2), .val (.int p3), .val (.int (p2 / (64 : Int32))), .val (.int ((p3 - (1 : Int32)) / (64 : Int32))), .unset, .unset, .unset, .unset, .unset] [(.long (-1 : Int64))])) _
        refine XS.iloadN X0.here hx rfl (hb hby d3_22) rfl ?_
        show Steps p.tables e below (s₁.setTop (mkF m 23 #[.val (.ref a1), .val (.int p2), .val (.int p3), .val (.int (p2 / (64 : Int32))), .val (.int ((p3 - (1 : Int32)) / (64 : Int32))), .unset, .unset, .unset, .unset, .unset] [(.int p2), (.long (-1 : Int64))])) _
        refine XS.lshl X0.here hx rfl (hb hby d3_23) rfl ?_
        show Steps p.tables e below (s₁.setTop (mkF m 24 #[.val (.ref a1), .val (.int p2), .val (.int p3), .val (.int (p2 / (64 : Int32))), .val (.int ((p3 - (1 : Int32)) / (64 : Int32))), .unset, .unset, .unset, .unset, .unset] [(.long ((-1 : Int64) <<< (p2 &&& 0x3f).toInt64))])) _
        refine XS.lstore X0.here hx rfl (hb hby d3_24) rfl (l' := #[.val (.ref a1), .val (.int p2), .val (.int p3), .val (.int (p2 / (64 : Int32))), .val (.int ((p3 - (1 : Int32)) / (64 : Int32))), .val (.long ((-1 : Int64) <<< (p2 &&& 0x3f).toInt64)), .second, .unset, .unset, .unset]) rfl ?_
        show Steps p.tables e below (s₁.setTop (mkF m 26 #[.val (.ref a1), .val (.int p2), .val (.int p3), .val (.int (p2 / (64 : Int32))), .val (.int ((p3 - (1 : Int32)) / (64 : Int32))), .val (.long ((-1 : Int64) <<< (p2 &&& 0x3f).toInt64)), .second, .unset, .unset, .unset] [])) _
        refine X0.ldc2Long hx hown (mvT hZ (hw _ (List.mem_of_getElem? (i := 18) rfl))) (g := (mkF m 26 #[.val (.ref a1), .val (.int p2), .val (.int p3), .val (.int (p2 / (64 : Int32))), .val (.int ((p3 - (1 : Int32)) / (64 : Int32))), .val (.long ((-1 : Int64) <<< (p2 &&& 0x3f).toInt64)), .second, .unset, .unset, .unset] [])) rfl (hb hby d3_26) _ ?_
        show Steps p.tables e below (s₁.setTop (mkF m 29 #[.val (.ref a1), .val (.int p2), .val (.int p3), .val (.int (p2 / (64 : Int32))), .val (.int ((p3 - (1 : Int32)) / (64 : Int32))), .val (.long ((-1 : Int64) <<< (p2 &&& 0x3f).toInt64)), .second, .unset, .unset, .unset] [(.long (-1 : Int64))])) _
        refine XS.iloadN X0.here hx rfl (hb hby d3_29) rfl ?_
        show Steps p.tables e below (s₁.setTop (mkF m 30 #[.val (.ref a1), .val (.int p2), .val (.int p3), .val (.int (p2 / (64 : Int32))), .val (.int ((p3 - (1 : Int32)) / (64 : Int32))), .val (.long ((-1 : Int64) <<< (p2 &&& 0x3f).toInt64)), .second, .unset, .unset, .unset] [(.int p3), (.long (-1 : Int64))])) _
        refine XS.ineg X0.here hx rfl (hb hby d3_30) rfl ?_
        show Steps p.tables e below (s₁.setTop (mkF m 31 #[.val (.ref a1), .val (.int p2), .val (.int p3), .val (.int (p2 / (64 : Int32))), .val (.int ((p3 - (1 : Int32)) / (64 : Int32))), .val (.long ((-1 : Int64) <<< (p2 &&& 0x3f).toInt64)), .second, .unset, .unset, .unset] [(.int (-p3)), (.long (-1 : Int64))])) _
        refine XS.lushr X0.here hx rfl (hb hby d3_31) rfl ?_
        show Steps p.tables e below (s₁.setTop (mkF m 32 #[.val (.ref a1), .val (.int p2), .val (.int p3), .val (.int (p2 / (64 : Int32))), .val (.int ((p3 - (1 : Int32)) / (64 : Int32))), .val (.long ((-1 : Int64) <<< (p2 &&& 0x3f).toInt64)), .second, .unset, .unset, .unset] [(.long (((-1 : Int64).toUInt64 >>> ((-p3) &&& 0x3f).toInt64.toUInt64).toInt64))])) _
        refine XS.lstore X0.here hx rfl (hb hby d3_32) rfl (l' := #[.val (.ref a1), .val (.int p2), .val (.int p3), .val (.int (p2 / (64 : Int32))), .val (.int ((p3 - (1 : Int32)) / (64 : Int32))), .val (.long ((-1 : Int64) <<< (p2 &&& 0x3f).toInt64)), .second, .val (.long (((-1 : Int64).toUInt64 >>> ((-p3) &&& 0x3f).toInt64.toUInt64).toInt64)), .second, .unset]) rfl ?_
        show Steps p.tables e below (s₁.setTop (mkF m 34 #[.val (.ref a1), .val (.int p2), .val (.int p3), .val (.int (p2 / (64 : Int32))), .val (.int ((p3 - (1 : Int32)) / (64 : Int32))), .val (.long ((-1 : Int64) <<< (p2 &&& 0x3f).toInt64)), .second, .val (.long (((-1 : Int64).toUInt64 >>> ((-p3) &&& 0x3f).toInt64.toUInt64).toInt64)), .second, .unset] [])) _
        refine XS.iloadN X0.here hx rfl (hb hby d3_34) rfl ?_
        show Steps p.tables e below (s₁.setTop (mkF m 35 #[.val (.ref a1), .val (.int p2), .val (.int p3), .val (.int (p2 / (64 : Int32))), .val (.int ((p3 - (1 : Int32)) / (64 : Int32))), .val (.long ((-1 : Int64) <<< (p2 &&& 0x3f).toInt64)), .second, .val (.long (((-1 : Int64).toUInt64 >>> ((-p3) &&& 0x3f).toInt64.toUInt64).toInt64)), .second, .unset] [(.int (p2 / (64 : Int32)))])) _
        refine XS.iload X0.here hx rfl (hb hby d3_35) rfl ?_
        exact kg)
    have h3 := own_d64 hp
    have h4 := own_d65 hq (by omega)
    obtain ⟨cl, Ar, S, G⟩ := V
    rw [show ((-1 : Int64) <<< (p2 &&& 0x3f).toInt64) = (own_fm p2) from rfl] at k19
    rw [show (((-1 : Int64).toUInt64 >>> ((-p3) &&& 0x3f).toInt64.toUInt64).toInt64) = (own_lm p3) from rfl] at k19
    obtain ⟨x3, e3⟩ : ∃ z, z = (p2 / (64 : Int32)) := ⟨_, rfl⟩
    rw [← e3] at k19
    obtain ⟨x4, e4⟩ : ∃ z, z = ((p3 - (1 : Int32)) / (64 : Int32)) := ⟨_, rfl⟩
    rw [← e4] at k19
    rw [← e3] at h3
    rw [← e4] at h4
    by_cases hs : x3 = x4
    · have hsn := (own_eqi h3 h4).mp hs
      have k20 : ∀ tg, Steps p.tables e below (s₁.setTop (mkF m 40 #[.val (.ref a1), .val (.int p2), .val (.int p3), .val (.int x3), .val (.int x4), .val (.long (own_fm p2)), .second, .val (.long (own_lm p3)), .second, .unset] [])) tg → Steps p.tables e below (s₁.setTop (entryFrame m #[(.ref a1), (.int p2), (.int p3)] 10)) tg := fun tg kg => k19 tg (by
          show Steps p.tables e below (s₁.setTop (mkF m 37 #[.val (.ref a1), .val (.int p2), .val (.int p3), .val (.int x3), .val (.int x4), .val (.long (own_fm p2)), .second, .val (.long (own_lm p3)), .second, .unset] [(.int x4), (.int x3)])) _
          refine XS.icmpNo X0.here hx rfl (hb hby d3_37) rfl (teq hs).2 ?_
          exact kg)
      have k21 : ∀ tg, Steps p.tables e below (s₁.setTop (mkF m 41 #[.val (.ref a1), .val (.int p2), .val (.int p3), .val (.int x3), .val (.int x4), .val (.long (own_fm p2)), .second, .val (.long (own_lm p3)), .second, .unset] [(.ref a1)])) tg → Steps p.tables e below (s₁.setTop (entryFrame m #[(.ref a1), (.int p2), (.int p3)] 10)) tg := fun tg kg => k20 tg (by
          show Steps p.tables e below (s₁.setTop (mkF m 40 #[.val (.ref a1), .val (.int p2), .val (.int p3), .val (.int x3), .val (.int x4), .val (.long (own_fm p2)), .second, .val (.long (own_lm p3)), .second, .unset] [])) _
          refine XS.aloadN X0.here hx rfl (hb hby d3_40) rfl rfl ?_
          exact kg)
      obtain ⟨T22, X22, e22, st22⟩ := getF X0 hx hZ hown (host := "") (Or.inl (hw _ (List.mem_of_getElem? (i := 11) rfl))) Via.refl e0 F (g := (mkF m 41 #[.val (.ref a1), .val (.int p2), .val (.int p3), .val (.int x3), .val (.int x4), .val (.long (own_fm p2)), .second, .val (.long (own_lm p3)), .second, .unset] [(.ref a1)])) rfl rfl (hb hby d3_41)
      have k23 : ∀ tg, Steps p.tables e below (T22.setTop (mkF m 44 #[.val (.ref a1), .val (.int p2), .val (.int p3), .val (.int x3), .val (.int x4), .val (.long (own_fm p2)), .second, .val (.long (own_lm p3)), .second, .unset] [(.ref b)])) tg → Steps p.tables e below (s₁.setTop (entryFrame m #[(.ref a1), (.int p2), (.int p3)] 10)) tg := fun tg kg => k21 tg (st22 tg kg)
      have k24 : ∀ tg, Steps p.tables e below (T22.setTop (mkF m 53 #[.val (.ref a1), .val (.int p2), .val (.int p3), .val (.int x3), .val (.int x4), .val (.long (own_fm p2)), .second, .val (.long (own_lm p3)), .second, .unset] [(.long ((f (a / 64)) ||| ((own_fm p2) &&& (own_lm p3)))), (.int x3), (.ref b)])) tg → Steps p.tables e below (s₁.setTop (entryFrame m #[(.ref a1), (.int p2), (.int p3)] 10)) tg := fun tg kg => k23 tg (by
          show Steps p.tables e below (T22.setTop (mkF m 44 #[.val (.ref a1), .val (.int p2), .val (.int p3), .val (.int x3), .val (.int x4), .val (.long (own_fm p2)), .second, .val (.long (own_lm p3)), .second, .unset] [(.ref b)])) _
          refine XS.iloadN X22.here hx rfl (hb hby d3_44) rfl ?_
          show Steps p.tables e below (T22.setTop (mkF m 45 #[.val (.ref a1), .val (.int p2), .val (.int p3), .val (.int x3), .val (.int x4), .val (.long (own_fm p2)), .second, .val (.long (own_lm p3)), .second, .unset] [(.int x3), (.ref b)])) _
          refine Jvm.Free.XT.dup2 X22.here hx rfl (hb hby d3_45) rfl rfl rfl ?_
          show Steps p.tables e below (T22.setTop (mkF m 46 #[.val (.ref a1), .val (.int p2), .val (.int p3), .val (.int x3), .val (.int x4), .val (.long (own_fm p2)), .second, .val (.long (own_lm p3)), .second, .unset] [(.int x3), (.ref b), (.int x3), (.ref b)])) _
          refine X22.laload hx (j := x3) (v := (.long (f (a / 64)))) (by rw [e22]; exact Ar.1) (State.isArrayOf_alike hZ.alike Ar.2.1) Ar.2.2 (own_hin S h3 (by omega)) (own_hat G h3 (by omega)) (g := (mkF m 46 #[.val (.ref a1), .val (.int p2), .val (.int p3), .val (.int x3), .val (.int x4), .val (.long (own_fm p2)), .second, .val (.long (own_lm p3)), .second, .unset] [(.int x3), (.ref b), (.int x3), (.ref b)])) rfl rfl (hb hby d3_46) _ ?_
          show Steps p.tables e below (T22.setTop (mkF m 47 #[.val (.ref a1), .val (.int p2), .val (.int p3), .val (.int x3), .val (.int x4), .val (.long (own_fm p2)), .second, .val (.long (own_lm p3)), .second, .unset] [(.long (f (a / 64))), (.int x3), (.ref b)])) _
          refine XS.lload X22.here hx rfl (hb hby d3_47) rfl ?_
          show Steps p.tables e below (T22.setTop (mkF m 49 #[.val (.ref a1), .val (.int p2), .val (.int p3), .val (.int x3), .val (.int x4), .val (.long (own_fm p2)), .second, .val (.long (own_lm p3)), .second, .unset] [(.long (own_fm p2)), (.long (f (a / 64))), (.int x3), (.ref b)])) _
          refine XS.lload X22.here hx rfl (hb hby d3_49) rfl ?_
          show Steps p.tables e below (T22.setTop (mkF m 51 #[.val (.ref a1), .val (.int p2), .val (.int p3), .val (.int x3), .val (.int x4), .val (.long (own_fm p2)), .second, .val (.long (own_lm p3)), .second, .unset] [(.long (own_lm p3)), (.long (own_fm p2)), (.long (f (a / 64))), (.int x3), (.ref b)])) _
          refine XS.land X22.here hx rfl (hb hby d3_51) rfl ?_
          show Steps p.tables e below (T22.setTop (mkF m 52 #[.val (.ref a1), .val (.int p2), .val (.int p3), .val (.int x3), .val (.int x4), .val (.long (own_fm p2)), .second, .val (.long (own_lm p3)), .second, .unset] [(.long ((own_fm p2) &&& (own_lm p3))), (.long (f (a / 64))), (.int x3), (.ref b)])) _
          refine XS.lor X22.here hx rfl (hb hby d3_52) rfl ?_
          exact kg)
      obtain ⟨T25, h25, X25, e25, W25, st25⟩ := stJ X22 hx hZ e22 Ar (j := x3) (own_hin S h3 (by omega)) (g := (mkF m 53 #[.val (.ref a1), .val (.int p2), .val (.int p3), .val (.int x3), .val (.int x4), .val (.long (own_fm p2)), .second, .val (.long (own_lm p3)), .second, .unset] [(.long ((f (a / 64)) ||| ((own_fm p2) &&& (own_lm p3)))), (.int x3), (.ref b)])) rfl rfl (hb hby d3_53)
      have N25 := Fr.snoc X25 N0 ge
      have k26 : ∀ tg, Steps p.tables e below (T25.setTop (mkF m 54 #[.val (.ref a1), .val (.int p2), .val (.int p3), .val (.int x3), .val (.int x4), .val (.long (own_fm p2)), .second, .val (.long (own_lm p3)), .second, .unset] [])) tg → Steps p.tables e below (s₁.setTop (entryFrame m #[(.ref a1), (.int p2), (.int p3)] 10)) tg := fun tg kg => k24 tg (st25 tg kg)
      have V2 := (Av.set Ar S G h3 W25).congr (g' := fun j => .long (own_f1 f (a / 64) (own_fm p2 &&& own_lm p3) j)) (fun j _ => by dsimp only [own_f1]; split <;> rfl)
      obtain ⟨fs, hr, hrun, hended, hW, hsame⟩ := X25.leave (v := none) (fun _ => rfl)
      refine ⟨_, _, k26 _ ?_, hrun, hended, _, _, rfl, ?_, ⟨_, rfl⟩, hW, hsame.mono (by decide) (by decide)⟩
      · show Steps p.tables e below (T25.setTop (mkF m 54 #[.val (.ref a1), .val (.int p2), .val (.int p3), .val (.int x3), .val (.int x4), .val (.long (own_fm p2)), .second, .val (.long (own_lm p3)), .second, .unset] [])) _
        exact X25.returnOut hx Bd.returns (hb hby d3_54) hr
      · show Q3 _ _ _ _ _ _ _ _ _ _ T25.heap _
        rw [e25]
        exact ⟨rfl, N25, Keep.of_wr W25, F.other W25 (Or.inl ne), _, V2, own_t1 hp hq hab hsn f⟩
    · have hsn : ¬ a / 64 = (z - 1) / 64 := fun q => hs ((own_eqi h3 h4).mpr q)
      have k27 : ∀ tg, Steps p.tables e below (s₁.setTop (mkF m 55 #[.val (.ref a1), .val (.int p2), .val (.int p3), .val (.int x3), .val (.int x4), .val (.long (own_fm p2)), .second, .val (.long (own_lm p3)), .second, .unset] [])) tg → Steps p.tables e below (s₁.setTop (entryFrame m #[(.ref a1), (.int p2), (.int p3)] 10)) tg := fun tg kg => k19 tg (by
          show Steps p.tables e below (s₁.setTop (mkF m 37 #[.val (.ref a1), .val (.int p2), .val (.int p3), .val (.int x3), .val (.int x4), .val (.long (own_fm p2)), .second, .val (.long (own_lm p3)), .second, .unset] [(.int x4), (.int x3)])) _
          refine XS.icmpYes X0.here hx rfl (pc0 := 37) (pc' := 55) rfl (hb hby d3_37) rfl (feq hs).2 (by decide) (by decide) ?_
          exact kg)
      have k28 : ∀ tg, Steps p.tables e below (s₁.setTop (mkF m 56 #[.val (.ref a1), .val (.int p2), .val (.int p3), .val (.int x3), .val (.int x4), .val (.long (own_fm p2)), .second, .val (.long (own_lm p3)), .second, .unset] [(.ref a1)])) tg → Steps p.tables e below (s₁.setTop (entryFrame m #[(.ref a1), (.int p2), (.int p3)] 10)) tg := fun tg kg => k27 tg (by
          show Steps p.tables e below (s₁.setTop (mkF m 55 #[.val (.ref a1), .val (.int p2), .val (.int p3), .val (.int x3), .val (.int x4), .val (.long (own_fm p2)), .second, .val (.long (own_lm p3)), .second, .unset] [])) _
          refine XS.aloadN X0.here hx rfl (hb hby d3_55) rfl rfl ?_
          exact kg)
      obtain ⟨T29, X29, e29, st29⟩ := getF X0 hx hZ hown (host := "") (Or.inl (hw _ (List.mem_of_getElem? (i := 11) rfl))) Via.refl e0 F (g := (mkF m 56 #[.val (.ref a1), .val (.int p2), .val (.int p3), .val (.int x3), .val (.int x4), .val (.long (own_fm p2)), .second, .val (.long (own_lm p3)), .second, .unset] [(.ref a1)])) rfl rfl (hb hby d3_56)
      have k30 : ∀ tg, Steps p.tables e below (T29.setTop (mkF m 59 #[.val (.ref a1), .val (.int p2), .val (.int p3), .val (.int x3), .val (.int x4), .val (.long (own_fm p2)), .second, .val (.long (own_lm p3)), .second, .unset] [(.ref b)])) tg → Steps p.tables e below (s₁.setTop (entryFrame m #[(.ref a1), (.int p2), (.int p3)] 10)) tg := fun tg kg => k28 tg (st29 tg kg)
      have k31 : ∀ tg, Steps p.tables e below (T29.setTop (mkF m 65 #[.val (.ref a1), .val (.int p2), .val (.int p3), .val (.int x3), .val (.int x4), .val (.long (own_fm p2)), .second, .val (.long (own_lm p3)), .second, .unset] [(.long ((f (a / 64)) ||| (own_fm p2))), (.int x3), (.ref b)])) tg → Steps p.tables e below (s₁.setTop (entryFrame m #[(.ref a1), (.int p2), (.int p3)] 10)) tg := fun tg kg => k30 tg (by
          show Steps p.tables e below (T29.setTop (mkF m 59 #[.val (.ref a1), .val (.int p2), .val (.int p3), .val (.int x3), .val (.int x4), .val (.long (own_fm p2)), .second, .val (.long (own_lm p3)), .second, .unset] [(.ref b)])) _
          refine XS.iloadN X29.here hx rfl (hb hby d3_59) rfl ?_
          show Steps p.tables e below (T29.setTop (mkF m 60 #[.val (.ref a1), .val (.int p2), .val (.int p3), .val (.int x3), .val (.int x4), .val (.long (own_fm p2)), .second, .val (.long (own_lm p3)), .second, .unset] [(.int x3), (.ref b)])) _
          refine Jvm.Free.XT.dup2 X29.here hx rfl (hb hby d3_60) rfl rfl rfl ?_
          show Steps p.tables e below (T29.setTop (mkF m 61 #[.val (.ref a1), .val (.int p2), .val (.int p3), .val (.int x3), .val (.int x4), .val (.long (own_fm p2)), .second, .val (.long (own_lm p3)), .second, .unset] [(.int x3), (.ref b), (.int x3), (.ref b)])) _
          refine X29.laload hx (j := x3) (v := (.long (f (a / 64)))) (by rw [e29]; exact Ar.1) (State.isArrayOf_alike hZ.alike Ar.2.1) Ar.2.2 (own_hin S h3 (by omega)) (own_hat G h3 (by omega)) (g := (mkF m 61 #[.val (.ref a1), .val (.int p2), .val (.int p3), .val (.int x3), .val (.int x4), .val (.long (own_fm p2)), .second, .val (.long (own_lm p3)), .second, .unset] [(.int x3), (.ref b), (.int x3), (.ref b)])) rfl rfl (hb hby d3_61) _ ?_
          show Steps p.tables e below (T29.setTop (mkF m 62 #[.val (.ref a1), .val (.int p2), .val (.int p3), .val (.int x3), .val (.int x4), .val (.long (own_fm p2)), .second, .val (.long (own_lm p3)), .second, .unset] [(.long (f (a / 64))), (.int x3), (.ref b)])) _
          refine XS.lload X29.here hx rfl (hb hby d3_62) rfl ?_
          show Steps p.tables e below (T29.setTop (mkF m 64 #[.val (.ref a1), .val (.int p2), .val (.int p3), .val (.int x3), .val (.int x4), .val (.long (own_fm p2)), .second, .val (.long (own_lm p3)), .second, .unset] [(.long (own_fm p2)), (.long (f (a / 64))), (.int x3), (.ref b)])) _
          refine XS.lor X29.here hx rfl (hb hby d3_64) rfl ?_
          exact kg)
      obtain ⟨T32, h32, X32, e32, W32, st32⟩ := stJ X29 hx hZ e29 Ar (j := x3) (own_hin S h3 (by omega)) (g := (mkF m 65 #[.val (.ref a1), .val (.int p2), .val (.int p3), .val (.int x3), .val (.int x4), .val (.long (own_fm p2)), .second, .val (.long (own_lm p3)), .second, .unset] [(.long ((f (a / 64)) ||| (own_fm p2))), (.int x3), (.ref b)])) rfl rfl (hb hby d3_65)
      have N32 := Fr.snoc X32 N0 ge
      have k33 : ∀ tg, Steps p.tables e below (T32.setTop (mkF m 66 #[.val (.ref a1), .val (.int p2), .val (.int p3), .val (.int x3), .val (.int x4), .val (.long (own_fm p2)), .second, .val (.long (own_lm p3)), .second, .unset] [])) tg → Steps p.tables e below (s₁.setTop (entryFrame m #[(.ref a1), (.int p2), (.int p3)] 10)) tg := fun tg kg => k31 tg (st32 tg kg)
      have V2 := (Av.set Ar S G h3 W32).congr (g' := fun j => .long (own_f1 f (a / 64) (own_fm p2) j)) (fun j _ => by dsimp only [own_f1]; split <;> rfl)
      have k34 : ∀ tg, Steps p.tables e below (T32.setTop (mkF m 71 #[.val (.ref a1), .val (.int p2), .val (.int p3), .val (.int x3), .val (.int x4), .val (.long (own_fm p2)), .second, .val (.long (own_lm p3)), .second, .val (.int (x3 + (1 : Int32)))] [])) tg → Steps p.tables e below (s₁.setTop (entryFrame m #[(.ref a1), (.int p2), (.int p3)] 10)) tg := fun tg kg => k33 tg (by
          show Steps p.tables e below (T32.setTop (mkF m 66 #[.val (.ref a1), .val (.int p2), .val (.int p3), .val (.int x3), .val (.int x4), .val (.long (own_fm p2)), .second, .val (.long (own_lm p3)), .second, .unset] [])) _
          refine XS.iloadN X32.here hx rfl (hb hby d3_66) rfl ?_
          show Steps p.tables e below (T32.setTop (mkF m 67 #[.val (.ref a1), .val (.int p2), .val (.int p3), .val (.int x3), .val (.int x4), .val (.long (own_fm p2)), .second, .val (.long (own_lm p3)), .second, .unset] [(.int x3)])) _
          refine XS.iconst X32.here hx rfl (hb hby d3_67) ?_
          show Steps p.tables e below (T32.setTop (mkF m 68 #[.val (.ref a1), .val (.int p2), .val (.int p3), .val (.int x3), .val (.int x4), .val (.long (own_fm p2)), .second, .val (.long (own_lm p3)), .second, .unset] [(.int (1 : Int32)), (.int x3)])) _
          refine XS.iadd X32.here hx rfl (hb hby d3_68) rfl ?_
          show Steps p.tables e below (T32.setTop (mkF m 69 #[.val (.ref a1), .val (.int p2), .val (.int p3), .val (.int x3), .val (.int x4), .val (.long (own_fm p2)), .second, .val (.long (own_lm p3)), .second, .unset] [(.int (x3 + (1 : Int32)))])) _
          refine XS.istore X32.here hx rfl (hb hby d3_69) rfl (l' := #[.val (.ref a1), .val (.int p2), .val (.int p3), .val (.int x3), .val (.int x4), .val (.long (own_fm p2)), .second, .val (.long (own_lm p3)), .second, .val (.int (x3 + (1 : Int32)))]) rfl ?_
          exact kg)
      obtain ⟨y35, T35, h35, L35, X35, e35, N35, K35, F35, V35, st35⟩ := loopT hx hZ hw hby hml hown a1 b p2 p3 x3 x4 (own_fm p2) (own_lm p3) N ((z - 1) / 64) n0 h4 (by omega) hN ne ge ((z - 1) / 64 - (a / 64 + 1)) (a / 64 + 1) _ _ _ _ _ (by omega) (own_inc h3 (by omega)) X32 e32 N32 (F.other W32 (Or.inl ne)) V2
      have k36 : ∀ tg, Steps p.tables e below (T35.setTop (mkF m 94 #[.val (.ref a1), .val (.int p2), .val (.int p3), .val (.int x3), .val (.int x4), .val (.long (own_fm p2)), .second, .val (.long (own_lm p3)), .second, .val (.int y35)] [])) tg → Steps p.tables e below (s₁.setTop (entryFrame m #[(.ref a1), (.int p2), (.int p3)] 10)) tg := fun tg kg => k34 tg (st35 tg kg)
      obtain ⟨cl2, Ar2, S2, G2⟩ := V35
      have k37 : ∀ tg, Steps p.tables e below (T35.setTop (mkF m 95 #[.val (.ref a1), .val (.int p2), .val (.int p3), .val (.int x3), .val (.int x4), .val (.long (own_fm p2)), .second, .val (.long (own_lm p3)), .second, .val (.int y35)] [(.ref a1)])) tg → Steps p.tables e below (s₁.setTop (entryFrame m #[(.ref a1), (.int p2), (.int p3)] 10)) tg := fun tg kg => k36 tg (by
          show Steps p.tables e below (T35.setTop (mkF m 94 #[.val (.ref a1), .val (.int p2), .val (.int p3), .val (.int x3), .val (.int x4), .val (.long (own_fm p2)), .second, .val (.long (own_lm p3)), .second, .val (.int y35)] [])) _
          refine XS.aloadN X35.here hx rfl (hb hby d3_94) rfl rfl ?_
          exact kg)
      obtain ⟨T38, X38, e38, st38⟩ := getF X35 hx hZ hown (host := "") (Or.inl (hw _ (List.mem_of_getElem? (i := 11) rfl))) Via.refl e35 F35 (g := (mkF m 95 #[.val (.ref a1), .val (.int p2), .val (.int p3), .val (.int x3), .val (.int x4), .val (.long (own_fm p2)), .second, .val (.long (own_lm p3)), .second, .val (.int y35)] [(.ref a1)])) rfl rfl (hb hby d3_95)
      have k39 : ∀ tg, Steps p.tables e below (T38.setTop (mkF m 98 #[.val (.ref a1), .val (.int p2), .val (.int p3), .val (.int x3), .val (.int x4), .val (.long (own_fm p2)), .second, .val (.long (own_lm p3)), .second, .val (.int y35)] [(.ref b)])) tg → Steps p.tables e below (s₁.setTop (entryFrame m #[(.ref a1), (.int p2), (.int p3)] 10)) tg := fun tg kg => k37 tg (st38 tg kg)
      have k40 : ∀ tg, Steps p.tables e below (T38.setTop (mkF m 105 #[.val (.ref a1), .val (.int p2), .val (.int p3), .val (.int x3), .val (.int x4), .val (.long (own_fm p2)), .second, .val (.long (own_lm p3)), .second, .val (.int y35)] [(.long ((own_f2 (own_f1 f (a / 64) (own_fm p2)) (a / 64 + 1) ((z - 1) / 64) ((z - 1) / 64)) ||| (own_lm p3))), (.int x4), (.ref b)])) tg → Steps p.tables e below (s₁.setTop (entryFrame m #[(.ref a1), (.int p2), (.int p3)] 10)) tg := fun tg kg => k39 tg (by
          show Steps p.tables e below (T38.setTop (mkF m 98 #[.val (.ref a1), .val (.int p2), .val (.int p3), .val (.int x3), .val (.int x4), .val (.long (own_fm p2)), .second, .val (.long (own_lm p3)), .second, .val (.int y35)] [(.ref b)])) _
          refine XS.iload X38.here hx rfl (hb hby d3_98) rfl ?_
          show Steps p.tables e below (T38.setTop (mkF m 100 #[.val (.ref a1), .val (.int p2), .val (.int p3), .val (.int x3), .val (.int x4), .val (.long (own_fm p2)), .second, .val (.long (own_lm p3)), .second, .val (.int y35)] [(.int x4), (.ref b)])) _
          refine Jvm.Free.XT.dup2 X38.here hx rfl (hb hby d3_100) rfl rfl rfl ?_
          show Steps p.tables e below (T38.setTop (mkF m 101 #[.val (.ref a1), .val (.int p2), .val (.int p3), .val (.int x3), .val (.int x4), .val (.long (own_fm p2)), .second, .val (.long (own_lm p3)), .second, .val (.int y35)] [(.int x4), (.ref b), (.int x4), (.ref b)])) _
          refine X38.laload hx (j := x4) (v := (.long (own_f2 (own_f1 f (a / 64) (own_fm p2)) (a / 64 + 1) ((z - 1) / 64) ((z - 1) / 64)))) (by rw [e38]; exact Ar2.1) (State.isArrayOf_alike hZ.alike Ar2.2.1) Ar2.2.2 (own_hin S2 h4 (by omega)) (own_hat G2 h4 (by omega)) (g := (mkF m 101 #[.val (.ref a1), .val (.int p2), .val (.int p3), .val (.int x3), .val (.int x4), .val (.long (own_fm p2)), .second, .val (.long (own_lm p3)), .second, .val (.int y35)] [(.int x4), (.ref b), (.int x4), (.ref b)])) rfl rfl (hb hby d3_101) _ ?_
          show Steps p.tables e below (T38.setTop (mkF m 102 #[.val (.ref a1), .val (.int p2), .val (.int p3), .val (.int x3), .val (.int x4), .val (.long (own_fm p2)), .second, .val (.long (own_lm p3)), .second, .val (.int y35)] [(.long (own_f2 (own_f1 f (a / 64) (own_fm p2)) (a / 64 + 1) ((z - 1) / 64) ((z - 1) / 64))), (.int x4), (.ref b)])) _
          refine XS.lload X38.here hx rfl (hb hby d3_102) rfl ?_
          show Steps p.tables e below (T38.setTop (mkF m 104 #[.val (.ref a1), .val (.int p2), .val (.int p3), .val (.int x3), .val (.int x4), .val (.long (own_fm p2)), .second, .val (.long (own_lm p3)), .second, .val (.int y35)] [(.long (own_lm p3)), (.long (own_f2 (own_f1 f (a / 64) (own_fm p2)) (a / 64 + 1) ((z - 1) / 64) ((z - 1) / 64))), (.int x4), (.ref b)])) _
          refine XS.lor X38.here hx rfl (hb hby d3_104) rfl ?_
          exact kg)
      obtain ⟨T41, h41, X41, e41, W41, st41⟩ := stJ X38 hx hZ e38 Ar2 (j := x4) (own_hin S2 h4 (by omega)) (g := (mkF m 105 #[.val (.ref a1), .val (.int p2), .val (.int p3), .val (.int x3), .val (.int x4), .val (.long (own_fm p2)), .second, .val (.long (own_lm p3)), .second, .val (.int y35)] [(.long ((own_f2 (own_f1 f (a / 64) (own_fm p2)) (a / 64 + 1) ((z - 1) / 64) ((z - 1) / 64)) ||| (own_lm p3))), (.int x4), (.ref b)])) rfl rfl (hb hby d3_105)
      have N41 := Fr.snoc X41 N35 ge
      have k42 : ∀ tg, Steps p.tables e below (T41.setTop (mkF m 106 #[.val (.ref a1), .val (.int p2), .val (.int p3), .val (.int x3), .val (.int x4), .val (.long (own_fm p2)), .second, .val (.long (own_lm p3)), .second, .val (.int y35)] [])) tg → Steps p.tables e below (s₁.setTop (entryFrame m #[(.ref a1), (.int p2), (.int p3)] 10)) tg := fun tg kg => k40 tg (st41 tg kg)
      have V4 := (Av.set Ar2 S2 G2 h4 W41).congr (g' := fun j => .long (own_f1 (own_f2 (own_f1 f (a / 64) (own_fm p2)) (a / 64 + 1) ((z - 1) / 64)) ((z - 1) / 64) (own_lm p3) j)) (fun j _ => by dsimp only [own_f1]; split <;> rfl)
      obtain ⟨fs, hr, hrun, hended, hW, hsame⟩ := X41.leave (v := none) (fun _ => rfl)
      refine ⟨_, _, k42 _ ?_, hrun, hended, _, _, rfl, ?_, ⟨_, rfl⟩, hW, hsame.mono (by decide) (by decide)⟩
      · show Steps p.tables e below (T41.setTop (mkF m 106 #[.val (.ref a1), .val (.int p2), .val (.int p3), .val (.int x3), .val (.int x4), .val (.long (own_fm p2)), .second, .val (.long (own_lm p3)), .second, .val (.int y35)] [])) _
        exact X41.returnOut hx Bd.returns (hb hby d3_106) hr
      · show Q3 _ _ _ _ _ _ _ _ _ _ T41.heap _
        rw [e41]
        exact ⟨rfl, N41, ((Keep.of_wr W32).trans K35 (fun x hx => Or.inl hx)).wr W41 (Or.inl (own_in0 _ _)), F35.other W41 (Or.inl ne), _, V4, own_t2 hp hq hab hsn f⟩
  · have k43 : ∀ tg, Steps p.tables e below (s₁.setTop (mkF m 5 #[.val (.ref a1), .val (.int p2), .val (.int p3), .unset, .unset, .unset, .unset, .unset, .unset, .unset] [])) tg → Steps p.tables e below (s₁.setTop (entryFrame m #[(.ref a1), (.int p2), (.int p3)] 10)) tg := fun tg kg => k17 tg (by
        show Steps p.tables e below (s₁.setTop (mkF m 2 #[.val (.ref a1), .val (.int p2), .val (.int p3), .unset, .unset, .unset, .unset, .unset, .unset, .unset] [(.int p3), (.int p2)])) _
        refine XS.icmpNo X0.here hx rfl (hb hby d3_2) rfl (flt hc).1 ?_
        exact kg)
    obtain ⟨fs, hr, hrun, hended, hW, hsame⟩ := X0.leave (v := none) (fun _ => rfl)
    refine ⟨_, _, k43 _ ?_, hrun, hended, _, _, rfl, ?_, ⟨_, rfl⟩, hW, hsame.mono (by decide) (by decide)⟩
    · show Steps p.tables e below (s₁.setTop (mkF m 5 #[.val (.ref a1), .val (.int p2), .val (.int p3), .unset, .unset, .unset, .unset, .unset, .unset, .unset] [])) _
      exact X0.returnOut hx Bd.returns (hb hby d3_5) hr
    · show Q3 _ _ _ _ _ _ _ _ _ _ s₁.heap _
      rw [e0]
      exact ⟨rfl, N0, Keep.refl h0 [b], F, f, V, own_t0 (fun q => hc ((own_lt hp hq).mpr q)) f⟩
theorem d5_0 : decode prog_69_method_2_code 0 = .ok (.iload_n 1, 1) := by decide +kernel
theorem d5_1 : decode prog_69_method_2_code 1 = .ok (.iload_n 2, 1) := by decide +kernel
theorem d5_2 : decode prog_69_method_2_code 2 = .ok (.if_icmp .lt 5, 3) := by decide +kernel
theorem d5_5 : decode prog_69_method_2_code 5 = .ok (.iconst 0, 1) := by decide +kernel
theorem d5_6 : decode prog_69_method_2_code 6 = .ok (.ireturn, 1) := by decide +kernel
theorem d5_7 : decode prog_69_method_2_code 7 = .ok (.iload_n 1, 1) := by decide +kernel
theorem d5_8 : decode prog_69_method_2_code 8 = .ok (.bipush 64, 2) := by decide +kernel
theorem d5_10 : decode prog_69_method_2_code 10 = .ok (.idiv, 1) := by decide +kernel
theorem d5_11 : decode prog_69_method_2_code 11 = .ok (.istore_n 3, 1) := by decide +kernel
theorem d5_12 : decode prog_69_method_2_code 12 = .ok (.iload_n 2, 1) := by decide +kernel
theorem d5_13 : decode prog_69_method_2_code 13 = .ok (.iconst 1, 1) := by decide +kernel
theorem d5_14 : decode prog_69_method_2_code 14 = .ok (.isub, 1) := by decide +kernel
theorem d5_15 : decode prog_69_method_2_code 15 = .ok (.bipush 64, 2) := by decide +kernel
theorem d5_17 : decode prog_69_method_2_code 17 = .ok (.idiv, 1) := by decide +kernel
theorem d5_18 : decode prog_69_method_2_code 18 = .ok (.istore 4, 2) := by decide +kernel
theorem d5_20 : decode prog_69_method_2_code 20 = .ok (.ldc2_w 15, 3) := by decide +kernel
theorem d5_23 : decode prog_69_method_2_code 23 = .ok (.iload_n 1, 1) := by decide +kernel
theorem d5_24 : decode prog_69_method_2_code 24 = .ok (.lshl, 1) := by decide +kernel
theorem d5_25 : decode prog_69_method_2_code 25 = .ok (.lstore 5, 2) := by decide +kernel
theorem d5_27 : decode prog_69_method_2_code 27 = .ok (.ldc2_w 15, 3) := by decide +kernel
theorem d5_30 : decode prog_69_method_2_code 30 = .ok (.iload_n 2, 1) := by decide +kernel
theorem d5_31 : decode prog_69_method_2_code 31 = .ok (.ineg, 1) := by decide +kernel
theorem d5_32 : decode prog_69_method_2_code 32 = .ok (.lushr, 1) := by decide +kernel
theorem d5_33 : decode prog_69_method_2_code 33 = .ok (.lstore 7, 2) := by decide +kernel
theorem d5_35 : decode prog_69_method_2_code 35 = .ok (.iload_n 3, 1) := by decide +kernel
theorem d5_36 : decode prog_69_method_2_code 36 = .ok (.iload 4, 2) := by decide +kernel
theorem d5_38 : decode prog_69_method_2_code 38 = .ok (.if_icmp .ne 26, 3) := by decide +kernel
theorem d5_41 : decode prog_69_method_2_code 41 = .ok (.aload_n 0, 1) := by decide +kernel
theorem d5_42 : decode prog_69_method_2_code 42 = .ok (.getfield 9, 3) := by decide +kernel
theorem d5_45 : decode prog_69_method_2_code 45 = .ok (.iload_n 3, 1) := by decide +kernel
theorem d5_46 : decode prog_69_method_2_code 46 = .ok (.laload, 1) := by decide +kernel
theorem d5_47 : decode prog_69_method_2_code 47 = .ok (.lload 5, 2) := by decide +kernel
theorem d5_49 : decode prog_69_method_2_code 49 = .ok (.land, 1) := by decide +kernel
theorem d5_50 : decode prog_69_method_2_code 50 = .ok (.lload 7, 2) := by decide +kernel
theorem d5_52 : decode prog_69_method_2_code 52 = .ok (.land, 1) := by decide +kernel
theorem d5_53 : decode prog_69_method_2_code 53 = .ok (.lconst 0, 1) := by decide +kernel
theorem d5_54 : decode prog_69_method_2_code 54 = .ok (.lcmp, 1) := by decide +kernel
theorem d5_55 : decode prog_69_method_2_code 55 = .ok (.ifCond .eq 7, 3) := by decide +kernel
theorem d5_58 : decode prog_69_method_2_code 58 = .ok (.iconst 1, 1) := by decide +kernel
theorem d5_59 : decode prog_69_method_2_code 59 = .ok (.goto 4, 3) := by decide +kernel
theorem d5_62 : decode prog_69_method_2_code 62 = .ok (.iconst 0, 1) := by decide +kernel
theorem d5_63 : decode prog_69_method_2_code 63 = .ok (.ireturn, 1) := by decide +kernel
theorem d5_64 : decode prog_69_method_2_code 64 = .ok (.aload_n 0, 1) := by decide +kernel
theorem d5_65 : decode prog_69_method_2_code 65 = .ok (.getfield 9, 3) := by decide +kernel
theorem d5_68 : decode prog_69_method_2_code 68 = .ok (.iload_n 3, 1) := by decide +kernel
theorem d5_69 : decode prog_69_method_2_code 69 = .ok (.laload, 1) := by decide +kernel
theorem d5_70 : decode prog_69_method_2_code 70 = .ok (.lload 5, 2) := by decide +kernel
theorem d5_72 : decode prog_69_method_2_code 72 = .ok (.land, 1) := by decide +kernel
theorem d5_73 : decode prog_69_method_2_code 73 = .ok (.lconst 0, 1) := by decide +kernel
theorem d5_74 : decode prog_69_method_2_code 74 = .ok (.lcmp, 1) := by decide +kernel
theorem d5_75 : decode prog_69_method_2_code 75 = .ok (.ifCond .ne 18, 3) := by decide +kernel
theorem d5_78 : decode prog_69_method_2_code 78 = .ok (.aload_n 0, 1) := by decide +kernel
theorem d5_79 : decode prog_69_method_2_code 79 = .ok (.getfield 9, 3) := by decide +kernel
theorem d5_82 : decode prog_69_method_2_code 82 = .ok (.iload 4, 2) := by decide +kernel
theorem d5_84 : decode prog_69_method_2_code 84 = .ok (.laload, 1) := by decide +kernel
theorem d5_85 : decode prog_69_method_2_code 85 = .ok (.lload 7, 2) := by decide +kernel
theorem d5_87 : decode prog_69_method_2_code 87 = .ok (.land, 1) := by decide +kernel
theorem d5_88 : decode prog_69_method_2_code 88 = .ok (.lconst 0, 1) := by decide +kernel
theorem d5_89 : decode prog_69_method_2_code 89 = .ok (.lcmp, 1) := by decide +kernel
theorem d5_90 : decode prog_69_method_2_code 90 = .ok (.ifCond .eq 5, 3) := by decide +kernel
theorem d5_93 : decode prog_69_method_2_code 93 = .ok (.iconst 1, 1) := by decide +kernel
theorem d5_94 : decode prog_69_method_2_code 94 = .ok (.ireturn, 1) := by decide +kernel
theorem d5_95 : decode prog_69_method_2_code 95 = .ok (.iload_n 3, 1) := by decide +kernel
theorem d5_96 : decode prog_69_method_2_code 96 = .ok (.iconst 1, 1) := by decide +kernel
theorem d5_97 : decode prog_69_method_2_code 97 = .ok (.iadd, 1) := by decide +kernel
theorem d5_98 : decode prog_69_method_2_code 98 = .ok (.istore 9, 2) := by decide +kernel
theorem d5_100 : decode prog_69_method_2_code 100 = .ok (.iload 9, 2) := by decide +kernel
theorem d5_102 : decode prog_69_method_2_code 102 = .ok (.iload 4, 2) := by decide +kernel
theorem d5_104 : decode prog_69_method_2_code 104 = .ok (.if_icmp .ge 23, 3) := by decide +kernel
theorem d5_107 : decode prog_69_method_2_code 107 = .ok (.aload_n 0, 1) := by decide +kernel
theorem d5_108 : decode prog_69_method_2_code 108 = .ok (.getfield 9, 3) := by decide +kernel
theorem d5_111 : decode prog_69_method_2_code 111 = .ok (.iload 9, 2) := by decide +kernel
theorem d5_113 : decode prog_69_method_2_code 113 = .ok (.laload, 1) := by decide +kernel
theorem d5_114 : decode prog_69_method_2_code 114 = .ok (.lconst 0, 1) := by decide +kernel
theorem d5_115 : decode prog_69_method_2_code 115 = .ok (.lcmp, 1) := by decide +kernel
theorem d5_116 : decode prog_69_method_2_code 116 = .ok (.ifCond .eq 5, 3) := by decide +kernel
theorem d5_119 : decode prog_69_method_2_code 119 = .ok (.iconst 1, 1) := by decide +kernel
theorem d5_120 : decode prog_69_method_2_code 120 = .ok (.ireturn, 1) := by decide +kernel
theorem d5_121 : decode prog_69_method_2_code 121 = .ok (.iinc 9 1, 3) := by decide +kernel
theorem d5_124 : decode prog_69_method_2_code 124 = .ok (.goto (-24), 3) := by decide +kernel
theorem d5_127 : decode prog_69_method_2_code 127 = .ok (.iconst 0, 1) := by decide +kernel
theorem d5_128 : decode prog_69_method_2_code 128 = .ok (.ireturn, 1) := by decide +kernel
theorem pn_5 : plainName "com/example/opword/opword/dex/TakenBytes" = true := by first | (simp [plainName, overriddenIn]; done) | decide +kernel
set_option maxRecDepth 65536 in
set_option maxHeartbeats 40000000 in
theorem loopA {p : Program} {l : Launch} {e : Env} {R : Room} {s : State} {m : MethodId} {args : Array Value} {below : List Frame} {meth : Method} {c : Code} {cells slots : Nat} {Z : State} {a0 : Array Value} (hx : p.tables.exec = Jvm.exec) (hZ : Z.Warmed39 s.vm) (hw : ∀ d ∈ tables_1, d.before a0 Z = true) (hby : c.code = prog_69_method_2_code) (hml : c.maxLocals = 10) (hown : s.vm.findClass "com/example/opword/opword/dex/TakenBytes" = some m.cls) (a1 b : Addr) (p2 p3 x3 x4 : Int32) (fm lm : Int64) (N l0 : Nat) (hx4 : x4.toInt = l0) (hl : l0 ≤ N) (hN : N ≤ 1000) (f : Nat → Int64) (h : Heap) (F : Fld Z h a1 "com/example/opword/opword/dex/TakenBytes" "words" "[J" (.ref b)) (V : Av Z h b .long N (fun j => .long (f j))) :
    ∀ (k i : Nat) (x : Int32) (T0 : State) (locs : List Loc), i + k = l0 → x.toInt = i → Stand p l e R s m args below meth c T0 locs cells slots → T0.heap = h →
      ∃ (x' : Int32) (T' : State), Stand p l e R s m args below meth c T' locs cells slots ∧ T'.heap = h ∧ (((∃ j, i ≤ j ∧ j < l0 ∧ ¬ f j = 0) ∧ ∀ t, Steps p.tables e below (T'.setTop (mkF m 119 #[.val (.ref a1), .val (.int p2), .val (.int p3), .val (.int x3), .val (.int x4), .val (.long fm), .second, .val (.long lm), .second, .val (.int x')] [])) t → Steps p.tables e below (T0.setTop (mkF m 100 #[.val (.ref a1), .val (.int p2), .val (.int p3), .val (.int x3), .val (.int x4), .val (.long fm), .second, .val (.long lm), .second, .val (.int x)] [])) t) ∨ ((∀ j, i ≤ j → j < l0 → f j = 0) ∧ ∀ t, Steps p.tables e below (T'.setTop (mkF m 127 #[.val (.ref a1), .val (.int p2), .val (.int p3), .val (.int x3), .val (.int x4), .val (.long fm), .second, .val (.long lm), .second, .val (.int x')] [])) t → Steps p.tables e below (T0.setTop (mkF m 100 #[.val (.ref a1), .val (.int p2), .val (.int p3), .val (.int x3), .val (.int x4), .val (.long fm), .second, .val (.long lm), .second, .val (.int x)] [])) t)) := by
  intro k
  induction k with
  | zero =>
    intro i x T0 locs hk hxi X0 e0
    have kid : ∀ tg, Steps p.tables e below (T0.setTop (mkF m 100 #[.val (.ref a1), .val (.int p2), .val (.int p3), .val (.int x3), .val (.int x4), .val (.long fm), .second, .val (.long lm), .second, .val (.int x)] [])) tg → Steps p.tables e below (T0.setTop (mkF m 100 #[.val (.ref a1), .val (.int p2), .val (.int p3), .val (.int x3), .val (.int x4), .val (.long fm), .second, .val (.long lm), .second, .val (.int x)] [])) tg := fun _ kg => kg
    have hc : ¬ x < x4 := fun q => by rw [own_lt hxi hx4] at q; omega
    have k44 : ∀ tg, Steps p.tables e below (T0.setTop (mkF m 127 #[.val (.ref a1), .val (.int p2), .val (.int p3), .val (.int x3), .val (.int x4), .val (.long fm), .second, .val (.long lm), .second, .val (.int x)] [])) tg → Steps p.tables e below (T0.setTop (mkF m 100 #[.val (.ref a1), .val (.int p2), .val (.int p3), .val (.int x3), .val (.int x4), .val (.long fm), .second, .val (.long lm), .second, .val (.int x)] [])) tg := fun tg kg => kid tg (by
        show Steps p.tables e below (T0.setTop (mkF m 100 #[.val (.ref a1), .val (.int p2), .val (.int p3), .val (.int x3), .val (.int x4), .val (.long fm), .second, .val (.long lm), .second, .val (.int x)] [])) _
        refine XS.iload X0.here hx rfl (hb hby d5_100) rfl ?_
        show Steps p.tables e below (T0.setTop (mkF m 102 #[.val (.ref a1), .val (.int p2), .val (.int p3), .val (.int x3), .val (.int x4), .val (.long fm), .second, .val (.long lm), .second, .val (.int x)] [(.int x)])) _
        refine XS.iload X0.here hx rfl (hb hby d5_102) rfl ?_
        show Steps p.tables e below (T0.setTop (mkF m 104 #[.val (.ref a1), .val (.int p2), .val (.int p3), .val (.int x3), .val (.int x4), .val (.long fm), .second, .val (.long lm), .second, .val (.int x)] [(.int x4), (.int x)])) _
        refine XS.icmpYes X0.here hx rfl (pc0 := 104) (pc' := 127) rfl (hb hby d5_104) rfl (flt hc).2.1 (by decide) (by decide) ?_
        exact kg)
    exact ⟨x, T0, X0, e0, Or.inr ⟨fun j h1 h2 => by omega, k44⟩⟩
  | succ k ih =>
    intro i x T0 locs hk hxi X0 e0
    have kid : ∀ tg, Steps p.tables e below (T0.setTop (mkF m 100 #[.val (.ref a1), .val (.int p2), .val (.int p3), .val (.int x3), .val (.int x4), .val (.long fm), .second, .val (.long lm), .second, .val (.int x)] [])) tg → Steps p.tables e below (T0.setTop (mkF m 100 #[.val (.ref a1), .val (.int p2), .val (.int p3), .val (.int x3), .val (.int x4), .val (.long fm), .second, .val (.long lm), .second, .val (.int x)] [])) tg := fun _ kg => kg
    have hc : x < x4 := (own_lt hxi hx4).mpr (by omega)
    obtain ⟨cl, Ar, S, G⟩ := V
    have k45 : ∀ tg, Steps p.tables e below (T0.setTop (mkF m 108 #[.val (.ref a1), .val (.int p2), .val (.int p3), .val (.int x3), .val (.int x4), .val (.long fm), .second, .val (.long lm), .second, .val (.int x)] [(.ref a1)])) tg → Steps p.tables e below (T0.setTop (mkF m 100 #[.val (.ref a1), .val (.int p2), .val (.int p3), .val (.int x3), .val (.int x4), .val (.long fm), .second, .val (.long lm), .second, .val (.int x)] [])) tg := fun tg kg => kid tg (by
        show Steps p.tables e below (T0.setTop (mkF m 100 #[.val (.ref a1), .val (.int p2), .val (.int p3), .val (.int x3), .val (.int x4), .val (.long fm), .second, .val (.long lm), .second, .val (.int x)] [])) _
        refine XS.iload X0.here hx rfl (hb hby d5_100) rfl ?_
        show Steps p.tables e below (T0.setTop (mkF m 102 #[.val (.ref a1), .val (.int p2), .val (.int p3), .val (.int x3), .val (.int x4), .val (.long fm), .second, .val (.long lm), .second, .val (.int x)] [(.int x)])) _
        refine XS.iload X0.here hx rfl (hb hby d5_102) rfl ?_
        show Steps p.tables e below (T0.setTop (mkF m 104 #[.val (.ref a1), .val (.int p2), .val (.int p3), .val (.int x3), .val (.int x4), .val (.long fm), .second, .val (.long lm), .second, .val (.int x)] [(.int x4), (.int x)])) _
        refine XS.icmpNo X0.here hx rfl (hb hby d5_104) rfl (tlt hc).2.1 ?_
        show Steps p.tables e below (T0.setTop (mkF m 107 #[.val (.ref a1), .val (.int p2), .val (.int p3), .val (.int x3), .val (.int x4), .val (.long fm), .second, .val (.long lm), .second, .val (.int x)] [])) _
        refine XS.aloadN X0.here hx rfl (hb hby d5_107) rfl rfl ?_
        exact kg)
    obtain ⟨T46, X46, e46, st46⟩ := getF X0 hx hZ hown (host := "") (Or.inl (hw _ (List.mem_of_getElem? (i := 11) rfl))) Via.refl e0 F (g := (mkF m 108 #[.val (.ref a1), .val (.int p2), .val (.int p3), .val (.int x3), .val (.int x4), .val (.long fm), .second, .val (.long lm), .second, .val (.int x)] [(.ref a1)])) rfl rfl (hb hby d5_108)
    have k47 : ∀ tg, Steps p.tables e below (T46.setTop (mkF m 111 #[.val (.ref a1), .val (.int p2), .val (.int p3), .val (.int x3), .val (.int x4), .val (.long fm), .second, .val (.long lm), .second, .val (.int x)] [(.ref b)])) tg → Steps p.tables e below (T0.setTop (mkF m 100 #[.val (.ref a1), .val (.int p2), .val (.int p3), .val (.int x3), .val (.int x4), .val (.long fm), .second, .val (.long lm), .second, .val (.int x)] [])) tg := fun tg kg => k45 tg (st46 tg kg)
    have k48 : ∀ tg, Steps p.tables e below (T46.setTop (mkF m 116 #[.val (.ref a1), .val (.int p2), .val (.int p3), .val (.int x3), .val (.int x4), .val (.long fm), .second, .val (.long lm), .second, .val (.int x)] [(.int (lcmpW (f i) (0 : Int64)))])) tg → Steps p.tables e below (T0.setTop (mkF m 100 #[.val (.ref a1), .val (.int p2), .val (.int p3), .val (.int x3), .val (.int x4), .val (.long fm), .second, .val (.long lm), .second, .val (.int x)] [])) tg := fun tg kg => k47 tg (by
        show Steps p.tables e below (T46.setTop (mkF m 111 #[.val (.ref a1), .val (.int p2), .val (.int p3), .val (.int x3), .val (.int x4), .val (.long fm), .second, .val (.long lm), .second, .val (.int x)] [(.ref b)])) _
        refine XS.iload X46.here hx rfl (hb hby d5_111) rfl ?_
        show Steps p.tables e below (T46.setTop (mkF m 113 #[.val (.ref a1), .val (.int p2), .val (.int p3), .val (.int x3), .val (.int x4), .val (.long fm), .second, .val (.long lm), .second, .val (.int x)] [(.int x), (.ref b)])) _
        refine X46.laload hx (j := x) (v := (.long (f i))) (by rw [e46]; exact Ar.1) (State.isArrayOf_alike hZ.alike Ar.2.1) Ar.2.2 (own_hin S hxi (by omega)) (own_hat G hxi (by omega)) (g := (mkF m 113 #[.val (.ref a1), .val (.int p2), .val (.int p3), .val (.int x3), .val (.int x4), .val (.long fm), .second, .val (.long lm), .second, .val (.int x)] [(.int x), (.ref b)])) rfl rfl (hb hby d5_113) _ ?_
        show Steps p.tables e below (T46.setTop (mkF m 114 #[.val (.ref a1), .val (.int p2), .val (.int p3), .val (.int x3), .val (.int x4), .val (.long fm), .second, .val (.long lm), .second, .val (.int x)] [(.long (f i))])) _
        refine XS.lconst X46.here hx rfl (hb hby d5_114) ?_
        show Steps p.tables e below (T46.setTop (mkF m 115 #[.val (.ref a1), .val (.int p2), .val (.int p3), .val (.int x3), .val (.int x4), .val (.long fm), .second, .val (.long lm), .second, .val (.int x)] [(.long (0 : Int64)), (.long (f i))])) _
        refine XS.lcmp X46.here hx rfl (hb hby d5_115) rfl ?_
        exact kg)
    by_cases hv : f i = (0 : Int64)
    · have k49 : ∀ tg, Steps p.tables e below (T46.setTop (mkF m 121 #[.val (.ref a1), .val (.int p2), .val (.int p3), .val (.int x3), .val (.int x4), .val (.long fm), .second, .val (.long lm), .second, .val (.int x)] [])) tg → Steps p.tables e below (T0.setTop (mkF m 100 #[.val (.ref a1), .val (.int p2), .val (.int p3), .val (.int x3), .val (.int x4), .val (.long fm), .second, .val (.long lm), .second, .val (.int x)] [])) tg := fun tg kg => k48 tg (by
          show Steps p.tables e below (T46.setTop (mkF m 116 #[.val (.ref a1), .val (.int p2), .val (.int p3), .val (.int x3), .val (.int x4), .val (.long fm), .second, .val (.long lm), .second, .val (.int x)] [(.int (lcmpW (f i) (0 : Int64)))])) _
          refine XS.ifYes X46.here hx rfl (pc0 := 116) (pc' := 121) rfl (hb hby d5_116) rfl ((if0 _ _).trans (teq ((lw_eq _ _).mpr hv)).1) (by decide) (by decide) ?_
          exact kg)
      have k50 : ∀ tg, Steps p.tables e below (T46.setTop (mkF m 100 #[.val (.ref a1), .val (.int p2), .val (.int p3), .val (.int x3), .val (.int x4), .val (.long fm), .second, .val (.long lm), .second, .val (.int (x + (1 : Int32)))] [])) tg → Steps p.tables e below (T0.setTop (mkF m 100 #[.val (.ref a1), .val (.int p2), .val (.int p3), .val (.int x3), .val (.int x4), .val (.long fm), .second, .val (.long lm), .second, .val (.int x)] [])) tg := fun tg kg => k49 tg (by
          show Steps p.tables e below (T46.setTop (mkF m 121 #[.val (.ref a1), .val (.int p2), .val (.int p3), .val (.int x3), .val (.int x4), .val (.long fm), .second, .val (.long lm), .second, .val (.int x)] [])) _
          refine XS.iinc X46.here hx rfl (hb hby d5_121) rfl (l' := #[.val (.ref a1), .val (.int p2), .val (.int p3), .val (.int x3), .val (.int x4), .val (.long fm), .second, .val (.long lm), .second, .val (.int (x + (1 : Int32)))]) rfl ?_
          show Steps p.tables e below (T46.setTop (mkF m 124 #[.val (.ref a1), .val (.int p2), .val (.int p3), .val (.int x3), .val (.int x4), .val (.long fm), .second, .val (.long lm), .second, .val (.int (x + (1 : Int32)))] [])) _
          refine XS.goto X46.here hx rfl (pc0 := 124) (pc' := 100) rfl (hb hby d5_124) (by decide) (by decide) ?_
          exact kg)
      obtain ⟨x', T', X', e', r⟩ := ih (i + 1) _ _ _ (by omega) (own_inc hxi (by omega)) X46 e46
      refine ⟨x', T', X', e', r.imp (fun ⟨⟨j, h1, h2, h3⟩, kk⟩ => ⟨⟨j, by omega, h2, h3⟩, fun t k => k50 t (kk t k)⟩) (fun ⟨hz, kk⟩ => ⟨fun j h1 h2 => ?_, fun t k => k50 t (kk t k)⟩)⟩
      by_cases q : j = i
      · rw [q]; exact hv
      · exact hz j (by omega) h2
    · have k51 : ∀ tg, Steps p.tables e below (T46.setTop (mkF m 119 #[.val (.ref a1), .val (.int p2), .val (.int p3), .val (.int x3), .val (.int x4), .val (.long fm), .second, .val (.long lm), .second, .val (.int x)] [])) tg → Steps p.tables e below (T0.setTop (mkF m 100 #[.val (.ref a1), .val (.int p2), .val (.int p3), .val (.int x3), .val (.int x4), .val (.long fm), .second, .val (.long lm), .second, .val (.int x)] [])) tg := fun tg kg => k48 tg (by
          show Steps p.tables e below (T46.setTop (mkF m 116 #[.val (.ref a1), .val (.int p2), .val (.int p3), .val (.int x3), .val (.int x4), .val (.long fm), .second, .val (.long lm), .second, .val (.int x)] [(.int (lcmpW (f i) (0 : Int64)))])) _
          refine XS.ifNo X46.here hx rfl (hb hby d5_116) rfl ((if0 _ _).trans (feq (fun q => hv ((lw_eq _ _).mp q))).1) ?_
          exact kg)
      exact ⟨x, _, X46, e46, Or.inl ⟨⟨i, Nat.le_refl _, by omega, hv⟩, k51⟩⟩
theorem ef_5 (m : MethodId) (x0 : Addr) (x1 : Int32) (x2 : Int32) : entryFrame m #[(.ref x0), (.int x1), (.int x2)] 10 = mkF m 0 #[.val (.ref x0), .val (.int x1), .val (.int x2), .unset, .unset, .unset, .unset, .unset, .unset, .unset] [] := by first | (simp [entryFrame, mkF, argsToLocals, Value.category]; done) | rfl
def Q5 (Z : State) (a z : Nat) (f : Nat → Int64) (h0 : Heap) (n0 : Nat) (v : Option Value) (h : Heap) (L : List Loc) : Prop := v = some (.int (own_ab f a z)) ∧ Fr n0 L ∧ h = h0
set_option maxRecDepth 65536 in
set_option maxHeartbeats 40000000 in
theorem rm5 (l : Launch) (Z : State) (a0 : Array Value) (hw : ∀ d ∈ tables_1, d.before a0 Z = true) (ws : List Jvm.Cond) (a1 : Addr) (p2 : Int32) (p3 : Int32) (b : Addr) (a z N : Nat) (f : Nat → Int64) (h0 : Heap) (n0 : Nat) (Z0 : n0 ≤ h0.size) (hp : p2.toInt = a) (hq : p3.toInt = z) (hz : z ≤ 64 * N) (hN : N ≤ 1000) (F : Fld Z h0 a1 "com/example/opword/opword/dex/TakenBytes" "words" "[J" (.ref b)) (V : Av Z h0 b .long N (fun j => .long (f j))) :
    MetFree l (⟨"com/example/opword/opword/dex/TakenBytes", "anyTaken", "(II)Z"⟩ : MethodName) (head1 (Jvm.Cond.code (⟨"com/example/opword/opword/dex/TakenBytes", "anyTaken", "(II)Z"⟩ : MethodName) prog_69_method_2_code 10 (some .boolean) :: ws) ({ frames := 0, cells := 0, slots := 0, locals := 0 } : Room)) (fun a U => a = #[(.ref a1), (.int p2), (.int p3)] ∧ Z.Warmed39 U.vm ∧ U.heap = h0) (fun _ _ _ _ _ => True) (fun _ U o U' => ∃ v L, o = .returned v ∧ Q5 Z a z f h0 n0 v U'.heap L ∧ FrameEnd U o U' L ({ frames := 0, cells := 0, slots := 0, locals := 0 } : Room).cells ({ frames := 0, cells := 0, slots := 0, locals := 0 } : Room).slots) := by
  refine MetFree.of_bodySF (plainFor_of_name pn_5) hisR ?_
  intro p e s m args below meth c s₁ Bd hml0 hP hK
  obtain ⟨rfl, hZ, hh⟩ := hP
  have hx := Bd.exec
  have hby := Bd.bytes
  have hml : c.maxLocals = 10 := hml0
  have hown : s.vm.findClass "com/example/opword/opword/dex/TakenBytes" = some m.cls := findClass_of_methodNamed Bd.named
  have hnm := (name_of_methodNamed Bd.named Bd.method).1
  have X0 : Stand p l e ({ frames := 0, cells := 0, slots := 0, locals := 0 } : Room) s m #[(.ref a1), (.int p2), (.int p3)] below meth c s₁ [] 0 0 := Stand.of_body Bd
  have e0 : s₁.heap = h0 := by rw [← hh, Bd.state]; rfl
  have N0 := Fr.nil n0
  have pre0 : ∀ tg, Steps p.tables e below (s₁.setTop (mkF m 0 #[.val (.ref a1), .val (.int p2), .val (.int p3), .unset, .unset, .unset, .unset, .unset, .unset, .unset] [])) tg → Steps p.tables e below (s₁.setTop (entryFrame m #[(.ref a1), (.int p2), (.int p3)] 10)) tg := fun tg kg => castTop (ef_5 m a1 p2 p3) kg
  have k52 : ∀ tg, Steps p.tables e below (s₁.setTop (mkF m 2 #[.val (.ref a1), .val (.int p2), .val (.int p3), .unset, .unset, .unset, .unset, .unset, .unset, .unset] [(.int p3), (.int p2)])) tg → Steps p.tables e below (s₁.setTop (entryFrame m #[(.ref a1), (.int p2), (.int p3)] 10)) tg := fun tg kg => pre0 tg (by
      show Steps p.tables e below (s₁.setTop (mkF m 0 #[.val (.ref a1), .val (.int p2), .val (.int p3), .unset, .unset, .unset, .unset, .unset, .unset, .unset] [])) _
      refine XS.iloadN X0.here hx rfl (hb hby d5_0) rfl ?_
      show Steps p.tables e below (s₁.setTop (mkF m 1 #[.val (.ref a1), .val (.int p2), .val (.int p3), .unset, .unset, .unset, .unset, .unset, .unset, .unset] [(.int p2)])) _
      refine XS.iloadN X0.here hx rfl (hb hby d5_1) rfl ?_
      exact kg)
  by_cases hc : p2 < p3
  · have hab : a < z := (own_lt hp hq).mp hc
    have k53 : ∀ tg, Steps p.tables e below (s₁.setTop (mkF m 7 #[.val (.ref a1), .val (.int p2), .val (.int p3), .unset, .unset, .unset, .unset, .unset, .unset, .unset] [])) tg → Steps p.tables e below (s₁.setTop (entryFrame m #[(.ref a1), (.int p2), (.int p3)] 10)) tg := fun tg kg => k52 tg (by
        show Steps p.tables e below (s₁.setTop (mkF m 2 #[.val (.ref a1), .val (.int p2), .val (.int p3), .unset, .unset, .unset, .unset, .unset, .unset, .unset] [(.int p3), (.int p2)])) _
        refine XS.icmpYes X0.here hx rfl (pc0 := 2) (pc' := 7) rfl (hb hby d5_2) rfl (tlt hc).1 (by decide) (by decide) ?_
        exact kg)
    have k54 : ∀ tg, Steps p.tables e below (s₁.setTop (mkF m 38 #[.val (.ref a1), .val (.int p2), .val (.int p3), .val (.int (p2 / (64 : Int32))), .val (.int ((p3 - (1 : Int32)) / (64 : Int32))), .val (.long ((-1 : Int64) <<< (p2 &&& 0x3f).toInt64)), .second, .val (.long (((-1 : Int64).toUInt64 >>> ((-p3) &&& 0x3f).toInt64.toUInt64).toInt64)), .second, .unset] [(.int ((p3 - (1 : Int32)) / (64 : Int32))), (.int (p2 / (64 : Int32)))])) tg → Steps p.tables e below (s₁.setTop (entryFrame m #[(.ref a1), (.int p2), (.int p3)] 10)) tg := fun tg kg => k53 tg (by
        show Steps p.tables e below (s₁.setTop (mkF m 7 #[.val (.ref a1), .val (.int p2), .val (.int p3), .unset, .unset, .unset, .unset, .unset, .unset, .unset] [])) _
        refine XS.iloadN X0.here hx rfl (hb hby d5_7) rfl ?_
        show Steps p.tables e below (s₁.setTop (mkF m 8 #[.val (.ref a1), .val (.int p2), .val (.int p3), .unset, .unset, .unset, .unset, .unset, .unset, .unset] [(.int p2)])) _
        refine XS.bipush X0.here hx rfl (hb hby d5_8) ?_
        show Steps p.tables e below (s₁.setTop (mkF m 10 #[.val (.ref a1), .val (.int p2), .val (.int p3), .unset, .unset, .unset, .unset, .unset, .unset, .unset] [(.int (64 : Int32)), (.int p2)])) _
        refine XS.idiv X0.here hx rfl (hb hby d5_10) rfl (by decide) ?_
        show Steps p.tables e below (s₁.setTop (mkF m 11 #[.val (.ref a1), .val (.int p2), .val (.int p3), .unset, .unset, .unset, .unset, .unset, .unset, .unset] [(.int (p2 / (64 : Int32)))])) _
        refine XS.istoreN X0.here hx rfl (hb hby d5_11) rfl (l' := #[.val (.ref a1), .val (.int p2), .val (.int p3), .val (.int (p2 / (64 : Int32))), .unset, .unset, .unset, .unset, .unset, .unset]) rfl ?_
        show Steps p.tables e below (s₁.setTop (mkF m 12 #[.val (.ref a1), .val (.int p2), .val (.int p3), .val (.int (p2 / (64 : Int32))), .unset, .unset, .unset, .unset, .unset, .unset] [])) _
        refine XS.iloadN X0.here hx rfl (hb hby d5_12) rfl ?_
        show Steps p.tables e below (s₁.setTop (mkF m 13 #[.val (.ref a1), .val (.int p2), .val (.int p3), .val (.int (p2 / (64 : Int32))), .unset, .unset, .unset, .unset, .unset, .unset] [(.int p3)])) _
        refine XS.iconst X0.here hx rfl (hb hby d5_13) ?_
        show Steps p.tables e below (s₁.setTop (mkF m 14 #[.val (.ref a1), .val (.int p2), .val (.int p3), .val (.int (p2 / (64 : Int32))), .unset, .unset, .unset, .unset, .unset, .unset] [(.int (1 : Int32)), (.int p3)])) _
        refine XS.isub X0.here hx rfl (hb hby d5_14) rfl ?_
        show Steps p.tables e below (s₁.setTop (mkF m 15 #[.val (.ref a1), .val (.int p2), .val (.int p3), .val (.int (p2 / (64 : Int32))), .unset, .unset, .unset, .unset, .unset, .unset] [(.int (p3 - (1 : Int32)))])) _
        refine XS.bipush X0.here hx rfl (hb hby d5_15) ?_
        show Steps p.tables e below (s₁.setTop (mkF m 17 #[.val (.ref a1), .val (.int p2), .val (.int p3), .val (.int (p2 / (64 : Int32))), .unset, .unset, .unset, .unset, .unset, .unset] [(.int (64 : Int32)), (.int (p3 - (1 : Int32)))])) _
        refine XS.idiv X0.here hx rfl (hb hby d5_17) rfl (by decide) ?_
        show Steps p.tables e below (s₁.setTop (mkF m 18 #[.val (.ref a1), .val (.int p2), .val (.int p3), .val (.int (p2 / (64 : Int32))), .unset, .unset, .unset, .unset, .unset, .unset] [(.int ((p3 - (1 : Int32)) / (64 : Int32)))])) _
        refine XS.istore X0.here hx rfl (hb hby d5_18) rfl (l' := #[.val (.ref a1), .val (.int p2), .val (.int p3), .val (.int (p2 / (64 : Int32))), .val (.int ((p3 - (1 : Int32)) / (64 : Int32))), .unset, .unset, .unset, .unset, .unset]) rfl ?_
        show Steps p.tables e below (s₁.setTop (mkF m 20 #[.val (.ref a1), .val (.int p2), .val (.int p3), .val (.int (p2 / (64 : Int32))), .val (.int ((p3 - (1 : Int32)) / (64 : Int32))), .unset, .unset, .unset, .unset, .unset] [])) _
        refine X0.ldc2Long hx hown (mvT hZ (hw _ (List.mem_of_getElem? (i := 18) rfl))) (g := (mkF m 20 #[.val (.ref a1), .val (.int p2), .val (.int p3), .val (.int (p2 / (64 : Int32))), .val (.int ((p3 - (1 : Int32)) / (64 : Int32))), .unset, .unset, .unset, .unset, .unset] [])) rfl (hb hby d5_20) _ ?_
        show Steps p.tables e below (s₁.setTop (mkF m 23 #[.val (.ref a1), .val (.int p2), .val (.int p3), .val (.int (p2 / (64 : Int32))), .val (.int ((p3 - (1 : Int32)) / (64 : Int32))), .unset, .unset, .unset, .unset, .unset] [(.long (-1 : Int64))])) _
        refine XS.iloadN X0.here hx rfl (hb hby d5_23) rfl ?_
        show Steps p.tables e below (s₁.setTop (mkF m 24 #[.val (.ref a1), .val (.int p2), .val (.int p3), .val (.int (p2 / (64 : Int32))), .val (.int ((p3 - (1 : Int32)) / (64 : Int32))), .unset, .unset, .unset, .unset, .unset] [(.int p2), (.long (-1 : Int64))])) _
        refine XS.lshl X0.here hx rfl (hb hby d5_24) rfl ?_
        show Steps p.tables e below (s₁.setTop (mkF m 25 #[.val (.ref a1), .val (.int p2), .val (.int p3), .val (.int (p2 / (64 : Int32))), .val (.int ((p3 - (1 : Int32)) / (64 : Int32))), .unset, .unset, .unset, .unset, .unset] [(.long ((-1 : Int64) <<< (p2 &&& 0x3f).toInt64))])) _
        refine XS.lstore X0.here hx rfl (hb hby d5_25) rfl (l' := #[.val (.ref a1), .val (.int p2), .val (.int p3), .val (.int (p2 / (64 : Int32))), .val (.int ((p3 - (1 : Int32)) / (64 : Int32))), .val (.long ((-1 : Int64) <<< (p2 &&& 0x3f).toInt64)), .second, .unset, .unset, .unset]) rfl ?_
        show Steps p.tables e below (s₁.setTop (mkF m 27 #[.val (.ref a1), .val (.int p2), .val (.int p3), .val (.int (p2 / (64 : Int32))), .val (.int ((p3 - (1 : Int32)) / (64 : Int32))), .val (.long ((-1 : Int64) <<< (p2 &&& 0x3f).toInt64)), .second, .unset, .unset, .unset] [])) _
        refine X0.ldc2Long hx hown (mvT hZ (hw _ (List.mem_of_getElem? (i := 18) rfl))) (g := (mkF m 27 #[.val (.ref a1), .val (.int p2), .val (.int p3), .val (.int (p2 / (64 : Int32))), .val (.int ((p3 - (1 : Int32)) / (64 : Int32))), .val (.long ((-1 : Int64) <<< (p2 &&& 0x3f).toInt64)), .second, .unset, .unset, .unset] [])) rfl (hb hby d5_27) _ ?_
        show Steps p.tables e below (s₁.setTop (mkF m 30 #[.val (.ref a1), .val (.int p2), .val (.int p3), .val (.int (p2 / (64 : Int32))), .val (.int ((p3 - (1 : Int32)) / (64 : Int32))), .val (.long ((-1 : Int64) <<< (p2 &&& 0x3f).toInt64)), .second, .unset, .unset, .unset] [(.long (-1 : Int64))])) _
        refine XS.iloadN X0.here hx rfl (hb hby d5_30) rfl ?_
        show Steps p.tables e below (s₁.setTop (mkF m 31 #[.val (.ref a1), .val (.int p2), .val (.int p3), .val (.int (p2 / (64 : Int32))), .val (.int ((p3 - (1 : Int32)) / (64 : Int32))), .val (.long ((-1 : Int64) <<< (p2 &&& 0x3f).toInt64)), .second, .unset, .unset, .unset] [(.int p3), (.long (-1 : Int64))])) _
        refine XS.ineg X0.here hx rfl (hb hby d5_31) rfl ?_
        show Steps p.tables e below (s₁.setTop (mkF m 32 #[.val (.ref a1), .val (.int p2), .val (.int p3), .val (.int (p2 / (64 : Int32))), .val (.int ((p3 - (1 : Int32)) / (64 : Int32))), .val (.long ((-1 : Int64) <<< (p2 &&& 0x3f).toInt64)), .second, .unset, .unset, .unset] [(.int (-p3)), (.long (-1 : Int64))])) _
        refine XS.lushr X0.here hx rfl (hb hby d5_32) rfl ?_
        show Steps p.tables e below (s₁.setTop (mkF m 33 #[.val (.ref a1), .val (.int p2), .val (.int p3), .val (.int (p2 / (64 : Int32))), .val (.int ((p3 - (1 : Int32)) / (64 : Int32))), .val (.long ((-1 : Int64) <<< (p2 &&& 0x3f).toInt64)), .second, .unset, .unset, .unset] [(.long (((-1 : Int64).toUInt64 >>> ((-p3) &&& 0x3f).toInt64.toUInt64).toInt64))])) _
        refine XS.lstore X0.here hx rfl (hb hby d5_33) rfl (l' := #[.val (.ref a1), .val (.int p2), .val (.int p3), .val (.int (p2 / (64 : Int32))), .val (.int ((p3 - (1 : Int32)) / (64 : Int32))), .val (.long ((-1 : Int64) <<< (p2 &&& 0x3f).toInt64)), .second, .val (.long (((-1 : Int64).toUInt64 >>> ((-p3) &&& 0x3f).toInt64.toUInt64).toInt64)), .second, .unset]) rfl ?_
        show Steps p.tables e below (s₁.setTop (mkF m 35 #[.val (.ref a1), .val (.int p2), .val (.int p3), .val (.int (p2 / (64 : Int32))), .val (.int ((p3 - (1 : Int32)) / (64 : Int32))), .val (.long ((-1 : Int64) <<< (p2 &&& 0x3f).toInt64)), .second, .val (.long (((-1 : Int64).toUInt64 >>> ((-p3) &&& 0x3f).toInt64.toUInt64).toInt64)), .second, .unset] [])) _
        refine XS.iloadN X0.here hx rfl (hb hby d5_35) rfl ?_
        show Steps p.tables e below (s₁.setTop (mkF m 36 #[.val (.ref a1), .val (.int p2), .val (.int p3), .val (.int (p2 / (64 : Int32))), .val (.int ((p3 - (1 : Int32)) / (64 : Int32))), .val (.long ((-1 : Int64) <<< (p2 &&& 0x3f).toInt64)), .second, .val (.long (((-1 : Int64).toUInt64 >>> ((-p3) &&& 0x3f).toInt64.toUInt64).toInt64)), .second, .unset] [(.int (p2 / (64 : Int32)))])) _
        refine XS.iload X0.here hx rfl (hb hby d5_36) rfl ?_
        exact kg)
    have h3 := own_d64 hp
    have h4 := own_d65 hq (by omega)
    have V0 := V
    obtain ⟨cl, Ar, S, G⟩ := V
    rw [show ((-1 : Int64) <<< (p2 &&& 0x3f).toInt64) = (own_fm p2) from rfl] at k54
    rw [show (((-1 : Int64).toUInt64 >>> ((-p3) &&& 0x3f).toInt64.toUInt64).toInt64) = (own_lm p3) from rfl] at k54
    obtain ⟨x3, e3⟩ : ∃ z, z = (p2 / (64 : Int32)) := ⟨_, rfl⟩
    rw [← e3] at k54
    obtain ⟨x4, e4⟩ : ∃ z, z = ((p3 - (1 : Int32)) / (64 : Int32)) := ⟨_, rfl⟩
    rw [← e4] at k54
    rw [← e3] at h3
    rw [← e4] at h4
    by_cases hs : x3 = x4
    · have hsn := (own_eqi h3 h4).mp hs
      have k55 : ∀ tg, Steps p.tables e below (s₁.setTop (mkF m 41 #[.val (.ref a1), .val (.int p2), .val (.int p3), .val (.int x3), .val (.int x4), .val (.long (own_fm p2)), .second, .val (.long (own_lm p3)), .second, .unset] [])) tg → Steps p.tables e below (s₁.setTop (entryFrame m #[(.ref a1), (.int p2), (.int p3)] 10)) tg := fun tg kg => k54 tg (by
          show Steps p.tables e below (s₁.setTop (mkF m 38 #[.val (.ref a1), .val (.int p2), .val (.int p3), .val (.int x3), .val (.int x4), .val (.long (own_fm p2)), .second, .val (.long (own_lm p3)), .second, .unset] [(.int x4), (.int x3)])) _
          refine XS.icmpNo X0.here hx rfl (hb hby d5_38) rfl (teq hs).2 ?_
          exact kg)
      have k56 : ∀ tg, Steps p.tables e below (s₁.setTop (mkF m 42 #[.val (.ref a1), .val (.int p2), .val (.int p3), .val (.int x3), .val (.int x4), .val (.long (own_fm p2)), .second, .val (.long (own_lm p3)), .second, .unset] [(.ref a1)])) tg → Steps p.tables e below (s₁.setTop (entryFrame m #[(.ref a1), (.int p2), (.int p3)] 10)) tg := fun tg kg => k55 tg (by
          show Steps p.tables e below (s₁.setTop (mkF m 41 #[.val (.ref a1), .val (.int p2), .val (.int p3), .val (.int x3), .val (.int x4), .val (.long (own_fm p2)), .second, .val (.long (own_lm p3)), .second, .unset] [])) _
          refine XS.aloadN X0.here hx rfl (hb hby d5_41) rfl rfl ?_
          exact kg)
      obtain ⟨T57, X57, e57, st57⟩ := getF X0 hx hZ hown (host := "") (Or.inl (hw _ (List.mem_of_getElem? (i := 11) rfl))) Via.refl e0 F (g := (mkF m 42 #[.val (.ref a1), .val (.int p2), .val (.int p3), .val (.int x3), .val (.int x4), .val (.long (own_fm p2)), .second, .val (.long (own_lm p3)), .second, .unset] [(.ref a1)])) rfl rfl (hb hby d5_42)
      have k58 : ∀ tg, Steps p.tables e below (T57.setTop (mkF m 45 #[.val (.ref a1), .val (.int p2), .val (.int p3), .val (.int x3), .val (.int x4), .val (.long (own_fm p2)), .second, .val (.long (own_lm p3)), .second, .unset] [(.ref b)])) tg → Steps p.tables e below (s₁.setTop (entryFrame m #[(.ref a1), (.int p2), (.int p3)] 10)) tg := fun tg kg => k56 tg (st57 tg kg)
      have k59 : ∀ tg, Steps p.tables e below (T57.setTop (mkF m 55 #[.val (.ref a1), .val (.int p2), .val (.int p3), .val (.int x3), .val (.int x4), .val (.long (own_fm p2)), .second, .val (.long (own_lm p3)), .second, .unset] [(.int (lcmpW (((f (a / 64)) &&& (own_fm p2)) &&& (own_lm p3)) (0 : Int64)))])) tg → Steps p.tables e below (s₁.setTop (entryFrame m #[(.ref a1), (.int p2), (.int p3)] 10)) tg := fun tg kg => k58 tg (by
          show Steps p.tables e below (T57.setTop (mkF m 45 #[.val (.ref a1), .val (.int p2), .val (.int p3), .val (.int x3), .val (.int x4), .val (.long (own_fm p2)), .second, .val (.long (own_lm p3)), .second, .unset] [(.ref b)])) _
          refine XS.iloadN X57.here hx rfl (hb hby d5_45) rfl ?_
          show Steps p.tables e below (T57.setTop (mkF m 46 #[.val (.ref a1), .val (.int p2), .val (.int p3), .val (.int x3), .val (.int x4), .val (.long (own_fm p2)), .second, .val (.long (own_lm p3)), .second, .unset] [(.int x3), (.ref b)])) _
          refine X57.laload hx (j := x3) (v := (.long (f (a / 64)))) (by rw [e57]; exact Ar.1) (State.isArrayOf_alike hZ.alike Ar.2.1) Ar.2.2 (own_hin S h3 (by omega)) (own_hat G h3 (by omega)) (g := (mkF m 46 #[.val (.ref a1), .val (.int p2), .val (.int p3), .val (.int x3), .val (.int x4), .val (.long (own_fm p2)), .second, .val (.long (own_lm p3)), .second, .unset] [(.int x3), (.ref b)])) rfl rfl (hb hby d5_46) _ ?_
          show Steps p.tables e below (T57.setTop (mkF m 47 #[.val (.ref a1), .val (.int p2), .val (.int p3), .val (.int x3), .val (.int x4), .val (.long (own_fm p2)), .second, .val (.long (own_lm p3)), .second, .unset] [(.long (f (a / 64)))])) _
          refine XS.lload X57.here hx rfl (hb hby d5_47) rfl ?_
          show Steps p.tables e below (T57.setTop (mkF m 49 #[.val (.ref a1), .val (.int p2), .val (.int p3), .val (.int x3), .val (.int x4), .val (.long (own_fm p2)), .second, .val (.long (own_lm p3)), .second, .unset] [(.long (own_fm p2)), (.long (f (a / 64)))])) _
          refine XS.land X57.here hx rfl (hb hby d5_49) rfl ?_
          show Steps p.tables e below (T57.setTop (mkF m 50 #[.val (.ref a1), .val (.int p2), .val (.int p3), .val (.int x3), .val (.int x4), .val (.long (own_fm p2)), .second, .val (.long (own_lm p3)), .second, .unset] [(.long ((f (a / 64)) &&& (own_fm p2)))])) _
          refine XS.lload X57.here hx rfl (hb hby d5_50) rfl ?_
          show Steps p.tables e below (T57.setTop (mkF m 52 #[.val (.ref a1), .val (.int p2), .val (.int p3), .val (.int x3), .val (.int x4), .val (.long (own_fm p2)), .second, .val (.long (own_lm p3)), .second, .unset] [(.long (own_lm p3)), (.long ((f (a / 64)) &&& (own_fm p2)))])) _
          refine XS.land X57.here hx rfl (hb hby d5_52) rfl ?_
          show Steps p.tables e below (T57.setTop (mkF m 53 #[.val (.ref a1), .val (.int p2), .val (.int p3), .val (.int x3), .val (.int x4), .val (.long (own_fm p2)), .second, .val (.long (own_lm p3)), .second, .unset] [(.long (((f (a / 64)) &&& (own_fm p2)) &&& (own_lm p3)))])) _
          refine XS.lconst X57.here hx rfl (hb hby d5_53) ?_
          show Steps p.tables e below (T57.setTop (mkF m 54 #[.val (.ref a1), .val (.int p2), .val (.int p3), .val (.int x3), .val (.int x4), .val (.long (own_fm p2)), .second, .val (.long (own_lm p3)), .second, .unset] [(.long (0 : Int64)), (.long (((f (a / 64)) &&& (own_fm p2)) &&& (own_lm p3)))])) _
          refine XS.lcmp X57.here hx rfl (hb hby d5_54) rfl ?_
          exact kg)
      by_cases hc60 : (((f (a / 64)) &&& (own_fm p2)) &&& (own_lm p3)) = (0 : Int64)
      · have k61 : ∀ tg, Steps p.tables e below (T57.setTop (mkF m 62 #[.val (.ref a1), .val (.int p2), .val (.int p3), .val (.int x3), .val (.int x4), .val (.long (own_fm p2)), .second, .val (.long (own_lm p3)), .second, .unset] [])) tg → Steps p.tables e below (s₁.setTop (entryFrame m #[(.ref a1), (.int p2), (.int p3)] 10)) tg := fun tg kg => k59 tg (by
            show Steps p.tables e below (T57.setTop (mkF m 55 #[.val (.ref a1), .val (.int p2), .val (.int p3), .val (.int x3), .val (.int x4), .val (.long (own_fm p2)), .second, .val (.long (own_lm p3)), .second, .unset] [(.int (lcmpW (((f (a / 64)) &&& (own_fm p2)) &&& (own_lm p3)) (0 : Int64)))])) _
            refine XS.ifYes X57.here hx rfl (pc0 := 55) (pc' := 62) rfl (hb hby d5_55) rfl ((if0 _ _).trans (teq ((lw_eq _ _).mpr hc60)).1) (by decide) (by decide) ?_
            exact kg)
        have k62 : ∀ tg, Steps p.tables e below (T57.setTop (mkF m 63 #[.val (.ref a1), .val (.int p2), .val (.int p3), .val (.int x3), .val (.int x4), .val (.long (own_fm p2)), .second, .val (.long (own_lm p3)), .second, .unset] [(.int (0 : Int32))])) tg → Steps p.tables e below (s₁.setTop (entryFrame m #[(.ref a1), (.int p2), (.int p3)] 10)) tg := fun tg kg => k61 tg (by
            show Steps p.tables e below (T57.setTop (mkF m 62 #[.val (.ref a1), .val (.int p2), .val (.int p3), .val (.int x3), .val (.int x4), .val (.long (own_fm p2)), .second, .val (.long (own_lm p3)), .second, .unset] [])) _
            refine XS.iconst X57.here hx rfl (hb hby d5_62) ?_
            exact kg)
        obtain ⟨fs, hr, hrun, hended, hW, hsame⟩ := X57.leave (v := some (.int (0 : Int32))) (fun h => by rw [Bd.returns] at h; cases h)
        refine ⟨_, _, k62 _ ?_, hrun, hended, _, _, rfl, ?_, ⟨_, rfl⟩, hW, hsame.mono (by decide) (by decide)⟩
        · show Steps p.tables e below (T57.setTop (mkF m 63 #[.val (.ref a1), .val (.int p2), .val (.int p3), .val (.int x3), .val (.int x4), .val (.long (own_fm p2)), .second, .val (.long (own_lm p3)), .second, .unset] [(.int (0 : Int32))])) _
          exact retN X57 hx (t := .boolean) Bd.returns (by simp) (hb hby d5_63) hr
        · show Q5 _ _ _ _ _ _ _ T57.heap _
          rw [e57]
          exact ⟨by rw [own_ab0 ((own_a1 hp hq hab hsn).mp hc60)], N0, rfl⟩
      · have k63 : ∀ tg, Steps p.tables e below (T57.setTop (mkF m 58 #[.val (.ref a1), .val (.int p2), .val (.int p3), .val (.int x3), .val (.int x4), .val (.long (own_fm p2)), .second, .val (.long (own_lm p3)), .second, .unset] [])) tg → Steps p.tables e below (s₁.setTop (entryFrame m #[(.ref a1), (.int p2), (.int p3)] 10)) tg := fun tg kg => k59 tg (by
            show Steps p.tables e below (T57.setTop (mkF m 55 #[.val (.ref a1), .val (.int p2), .val (.int p3), .val (.int x3), .val (.int x4), .val (.long (own_fm p2)), .second, .val (.long (own_lm p3)), .second, .unset] [(.int (lcmpW (((f (a / 64)) &&& (own_fm p2)) &&& (own_lm p3)) (0 : Int64)))])) _
            refine XS.ifNo X57.here hx rfl (hb hby d5_55) rfl ((if0 _ _).trans (feq (fun q => hc60 ((lw_eq _ _).mp q))).1) ?_
            exact kg)
        have k64 : ∀ tg, Steps p.tables e below (T57.setTop (mkF m 63 #[.val (.ref a1), .val (.int p2), .val (.int p3), .val (.int x3), .val (.int x4), .val (.long (own_fm p2)), .second, .val (.long (own_lm p3)), .second, .unset] [(.int (1 : Int32))])) tg → Steps p.tables e below (s₁.setTop (entryFrame m #[(.ref a1), (.int p2), (.int p3)] 10)) tg := fun tg kg => k63 tg (by
            show Steps p.tables e below (T57.setTop (mkF m 58 #[.val (.ref a1), .val (.int p2), .val (.int p3), .val (.int x3), .val (.int x4), .val (.long (own_fm p2)), .second, .val (.long (own_lm p3)), .second, .unset] [])) _
            refine XS.iconst X57.here hx rfl (hb hby d5_58) ?_
            show Steps p.tables e below (T57.setTop (mkF m 59 #[.val (.ref a1), .val (.int p2), .val (.int p3), .val (.int x3), .val (.int x4), .val (.long (own_fm p2)), .second, .val (.long (own_lm p3)), .second, .unset] [(.int (1 : Int32))])) _
            refine XS.goto X57.here hx rfl (pc0 := 59) (pc' := 63) rfl (hb hby d5_59) (by decide) (by decide) ?_
            exact kg)
        obtain ⟨fs, hr, hrun, hended, hW, hsame⟩ := X57.leave (v := some (.int (1 : Int32))) (fun h => by rw [Bd.returns] at h; cases h)
        refine ⟨_, _, k64 _ ?_, hrun, hended, _, _, rfl, ?_, ⟨_, rfl⟩, hW, hsame.mono (by decide) (by decide)⟩
        · show Steps p.tables e below (T57.setTop (mkF m 63 #[.val (.ref a1), .val (.int p2), .val (.int p3), .val (.int x3), .val (.int x4), .val (.long (own_fm p2)), .second, .val (.long (own_lm p3)), .second, .unset] [(.int (1 : Int32))])) _
          exact retN X57 hx (t := .boolean) Bd.returns (by simp) (hb hby d5_63) hr
        · show Q5 _ _ _ _ _ _ _ T57.heap _
          rw [e57]
          exact ⟨by rw [own_ab1 (Classical.byContradiction fun q => hc60 ((own_a1 hp hq hab hsn).mpr q))], N0, rfl⟩
    · have hsn : ¬ a / 64 = (z - 1) / 64 := fun q => hs ((own_eqi h3 h4).mpr q)
      have k65 : ∀ tg, Steps p.tables e below (s₁.setTop (mkF m 64 #[.val (.ref a1), .val (.int p2), .val (.int p3), .val (.int x3), .val (.int x4), .val (.long (own_fm p2)), .second, .val (.long (own_lm p3)), .second, .unset] [])) tg → Steps p.tables e below (s₁.setTop (entryFrame m #[(.ref a1), (.int p2), (.int p3)] 10)) tg := fun tg kg => k54 tg (by
          show Steps p.tables e below (s₁.setTop (mkF m 38 #[.val (.ref a1), .val (.int p2), .val (.int p3), .val (.int x3), .val (.int x4), .val (.long (own_fm p2)), .second, .val (.long (own_lm p3)), .second, .unset] [(.int x4), (.int x3)])) _
          refine XS.icmpYes X0.here hx rfl (pc0 := 38) (pc' := 64) rfl (hb hby d5_38) rfl (feq hs).2 (by decide) (by decide) ?_
          exact kg)
      have k66 : ∀ tg, Steps p.tables e below (s₁.setTop (mkF m 65 #[.val (.ref a1), .val (.int p2), .val (.int p3), .val (.int x3), .val (.int x4), .val (.long (own_fm p2)), .second, .val (.long (own_lm p3)), .second, .unset] [(.ref a1)])) tg → Steps p.tables e below (s₁.setTop (entryFrame m #[(.ref a1), (.int p2), (.int p3)] 10)) tg := fun tg kg => k65 tg (by
          show Steps p.tables e below (s₁.setTop (mkF m 64 #[.val (.ref a1), .val (.int p2), .val (.int p3), .val (.int x3), .val (.int x4), .val (.long (own_fm p2)), .second, .val (.long (own_lm p3)), .second, .unset] [])) _
          refine XS.aloadN X0.here hx rfl (hb hby d5_64) rfl rfl ?_
          exact kg)
      obtain ⟨T67, X67, e67, st67⟩ := getF X0 hx hZ hown (host := "") (Or.inl (hw _ (List.mem_of_getElem? (i := 11) rfl))) Via.refl e0 F (g := (mkF m 65 #[.val (.ref a1), .val (.int p2), .val (.int p3), .val (.int x3), .val (.int x4), .val (.long (own_fm p2)), .second, .val (.long (own_lm p3)), .second, .unset] [(.ref a1)])) rfl rfl (hb hby d5_65)
      have k68 : ∀ tg, Steps p.tables e below (T67.setTop (mkF m 68 #[.val (.ref a1), .val (.int p2), .val (.int p3), .val (.int x3), .val (.int x4), .val (.long (own_fm p2)), .second, .val (.long (own_lm p3)), .second, .unset] [(.ref b)])) tg → Steps p.tables e below (s₁.setTop (entryFrame m #[(.ref a1), (.int p2), (.int p3)] 10)) tg := fun tg kg => k66 tg (st67 tg kg)
      have k69 : ∀ tg, Steps p.tables e below (T67.setTop (mkF m 75 #[.val (.ref a1), .val (.int p2), .val (.int p3), .val (.int x3), .val (.int x4), .val (.long (own_fm p2)), .second, .val (.long (own_lm p3)), .second, .unset] [(.int (lcmpW ((f (a / 64)) &&& (own_fm p2)) (0 : Int64)))])) tg → Steps p.tables e below (s₁.setTop (entryFrame m #[(.ref a1), (.int p2), (.int p3)] 10)) tg := fun tg kg => k68 tg (by
          show Steps p.tables e below (T67.setTop (mkF m 68 #[.val (.ref a1), .val (.int p2), .val (.int p3), .val (.int x3), .val (.int x4), .val (.long (own_fm p2)), .second, .val (.long (own_lm p3)), .second, .unset] [(.ref b)])) _
          refine XS.iloadN X67.here hx rfl (hb hby d5_68) rfl ?_
          show Steps p.tables e below (T67.setTop (mkF m 69 #[.val (.ref a1), .val (.int p2), .val (.int p3), .val (.int x3), .val (.int x4), .val (.long (own_fm p2)), .second, .val (.long (own_lm p3)), .second, .unset] [(.int x3), (.ref b)])) _
          refine X67.laload hx (j := x3) (v := (.long (f (a / 64)))) (by rw [e67]; exact Ar.1) (State.isArrayOf_alike hZ.alike Ar.2.1) Ar.2.2 (own_hin S h3 (by omega)) (own_hat G h3 (by omega)) (g := (mkF m 69 #[.val (.ref a1), .val (.int p2), .val (.int p3), .val (.int x3), .val (.int x4), .val (.long (own_fm p2)), .second, .val (.long (own_lm p3)), .second, .unset] [(.int x3), (.ref b)])) rfl rfl (hb hby d5_69) _ ?_
          show Steps p.tables e below (T67.setTop (mkF m 70 #[.val (.ref a1), .val (.int p2), .val (.int p3), .val (.int x3), .val (.int x4), .val (.long (own_fm p2)), .second, .val (.long (own_lm p3)), .second, .unset] [(.long (f (a / 64)))])) _
          refine XS.lload X67.here hx rfl (hb hby d5_70) rfl ?_
          show Steps p.tables e below (T67.setTop (mkF m 72 #[.val (.ref a1), .val (.int p2), .val (.int p3), .val (.int x3), .val (.int x4), .val (.long (own_fm p2)), .second, .val (.long (own_lm p3)), .second, .unset] [(.long (own_fm p2)), (.long (f (a / 64)))])) _
          refine XS.land X67.here hx rfl (hb hby d5_72) rfl ?_
          show Steps p.tables e below (T67.setTop (mkF m 73 #[.val (.ref a1), .val (.int p2), .val (.int p3), .val (.int x3), .val (.int x4), .val (.long (own_fm p2)), .second, .val (.long (own_lm p3)), .second, .unset] [(.long ((f (a / 64)) &&& (own_fm p2)))])) _
          refine XS.lconst X67.here hx rfl (hb hby d5_73) ?_
          show Steps p.tables e below (T67.setTop (mkF m 74 #[.val (.ref a1), .val (.int p2), .val (.int p3), .val (.int x3), .val (.int x4), .val (.long (own_fm p2)), .second, .val (.long (own_lm p3)), .second, .unset] [(.long (0 : Int64)), (.long ((f (a / 64)) &&& (own_fm p2)))])) _
          refine XS.lcmp X67.here hx rfl (hb hby d5_74) rfl ?_
          exact kg)
      by_cases h1 : (f (a / 64) &&& own_fm p2) = (0 : Int64)
      · have k70 : ∀ tg, Steps p.tables e below (T67.setTop (mkF m 78 #[.val (.ref a1), .val (.int p2), .val (.int p3), .val (.int x3), .val (.int x4), .val (.long (own_fm p2)), .second, .val (.long (own_lm p3)), .second, .unset] [])) tg → Steps p.tables e below (s₁.setTop (entryFrame m #[(.ref a1), (.int p2), (.int p3)] 10)) tg := fun tg kg => k69 tg (by
            show Steps p.tables e below (T67.setTop (mkF m 75 #[.val (.ref a1), .val (.int p2), .val (.int p3), .val (.int x3), .val (.int x4), .val (.long (own_fm p2)), .second, .val (.long (own_lm p3)), .second, .unset] [(.int (lcmpW ((f (a / 64)) &&& (own_fm p2)) (0 : Int64)))])) _
            refine XS.ifNo X67.here hx rfl (hb hby d5_75) rfl ((if0 _ _).trans (teq ((lw_eq _ _).mpr h1)).2) ?_
            exact kg)
        have k71 : ∀ tg, Steps p.tables e below (T67.setTop (mkF m 79 #[.val (.ref a1), .val (.int p2), .val (.int p3), .val (.int x3), .val (.int x4), .val (.long (own_fm p2)), .second, .val (.long (own_lm p3)), .second, .unset] [(.ref a1)])) tg → Steps p.tables e below (s₁.setTop (entryFrame m #[(.ref a1), (.int p2), (.int p3)] 10)) tg := fun tg kg => k70 tg (by
            show Steps p.tables e below (T67.setTop (mkF m 78 #[.val (.ref a1), .val (.int p2), .val (.int p3), .val (.int x3), .val (.int x4), .val (.long (own_fm p2)), .second, .val (.long (own_lm p3)), .second, .unset] [])) _
            refine XS.aloadN X67.here hx rfl (hb hby d5_78) rfl rfl ?_
            exact kg)
        obtain ⟨T72, X72, e72, st72⟩ := getF X67 hx hZ hown (host := "") (Or.inl (hw _ (List.mem_of_getElem? (i := 11) rfl))) Via.refl e67 F (g := (mkF m 79 #[.val (.ref a1), .val (.int p2), .val (.int p3), .val (.int x3), .val (.int x4), .val (.long (own_fm p2)), .second, .val (.long (own_lm p3)), .second, .unset] [(.ref a1)])) rfl rfl (hb hby d5_79)
        have k73 : ∀ tg, Steps p.tables e below (T72.setTop (mkF m 82 #[.val (.ref a1), .val (.int p2), .val (.int p3), .val (.int x3), .val (.int x4), .val (.long (own_fm p2)), .second, .val (.long (own_lm p3)), .second, .unset] [(.ref b)])) tg → Steps p.tables e below (s₁.setTop (entryFrame m #[(.ref a1), (.int p2), (.int p3)] 10)) tg := fun tg kg => k71 tg (st72 tg kg)
        have k74 : ∀ tg, Steps p.tables e below (T72.setTop (mkF m 90 #[.val (.ref a1), .val (.int p2), .val (.int p3), .val (.int x3), .val (.int x4), .val (.long (own_fm p2)), .second, .val (.long (own_lm p3)), .second, .unset] [(.int (lcmpW ((f ((z - 1) / 64)) &&& (own_lm p3)) (0 : Int64)))])) tg → Steps p.tables e below (s₁.setTop (entryFrame m #[(.ref a1), (.int p2), (.int p3)] 10)) tg := fun tg kg => k73 tg (by
            show Steps p.tables e below (T72.setTop (mkF m 82 #[.val (.ref a1), .val (.int p2), .val (.int p3), .val (.int x3), .val (.int x4), .val (.long (own_fm p2)), .second, .val (.long (own_lm p3)), .second, .unset] [(.ref b)])) _
            refine XS.iload X72.here hx rfl (hb hby d5_82) rfl ?_
            show Steps p.tables e below (T72.setTop (mkF m 84 #[.val (.ref a1), .val (.int p2), .val (.int p3), .val (.int x3), .val (.int x4), .val (.long (own_fm p2)), .second, .val (.long (own_lm p3)), .second, .unset] [(.int x4), (.ref b)])) _
            refine X72.laload hx (j := x4) (v := (.long (f ((z - 1) / 64)))) (by rw [e72]; exact Ar.1) (State.isArrayOf_alike hZ.alike Ar.2.1) Ar.2.2 (own_hin S h4 (by omega)) (own_hat G h4 (by omega)) (g := (mkF m 84 #[.val (.ref a1), .val (.int p2), .val (.int p3), .val (.int x3), .val (.int x4), .val (.long (own_fm p2)), .second, .val (.long (own_lm p3)), .second, .unset] [(.int x4), (.ref b)])) rfl rfl (hb hby d5_84) _ ?_
            show Steps p.tables e below (T72.setTop (mkF m 85 #[.val (.ref a1), .val (.int p2), .val (.int p3), .val (.int x3), .val (.int x4), .val (.long (own_fm p2)), .second, .val (.long (own_lm p3)), .second, .unset] [(.long (f ((z - 1) / 64)))])) _
            refine XS.lload X72.here hx rfl (hb hby d5_85) rfl ?_
            show Steps p.tables e below (T72.setTop (mkF m 87 #[.val (.ref a1), .val (.int p2), .val (.int p3), .val (.int x3), .val (.int x4), .val (.long (own_fm p2)), .second, .val (.long (own_lm p3)), .second, .unset] [(.long (own_lm p3)), (.long (f ((z - 1) / 64)))])) _
            refine XS.land X72.here hx rfl (hb hby d5_87) rfl ?_
            show Steps p.tables e below (T72.setTop (mkF m 88 #[.val (.ref a1), .val (.int p2), .val (.int p3), .val (.int x3), .val (.int x4), .val (.long (own_fm p2)), .second, .val (.long (own_lm p3)), .second, .unset] [(.long ((f ((z - 1) / 64)) &&& (own_lm p3)))])) _
            refine XS.lconst X72.here hx rfl (hb hby d5_88) ?_
            show Steps p.tables e below (T72.setTop (mkF m 89 #[.val (.ref a1), .val (.int p2), .val (.int p3), .val (.int x3), .val (.int x4), .val (.long (own_fm p2)), .second, .val (.long (own_lm p3)), .second, .unset] [(.long (0 : Int64)), (.long ((f ((z - 1) / 64)) &&& (own_lm p3)))])) _
            refine XS.lcmp X72.here hx rfl (hb hby d5_89) rfl ?_
            exact kg)
        by_cases h2 : (f ((z - 1) / 64) &&& own_lm p3) = (0 : Int64)
        · have k75 : ∀ tg, Steps p.tables e below (T72.setTop (mkF m 95 #[.val (.ref a1), .val (.int p2), .val (.int p3), .val (.int x3), .val (.int x4), .val (.long (own_fm p2)), .second, .val (.long (own_lm p3)), .second, .unset] [])) tg → Steps p.tables e below (s₁.setTop (entryFrame m #[(.ref a1), (.int p2), (.int p3)] 10)) tg := fun tg kg => k74 tg (by
              show Steps p.tables e below (T72.setTop (mkF m 90 #[.val (.ref a1), .val (.int p2), .val (.int p3), .val (.int x3), .val (.int x4), .val (.long (own_fm p2)), .second, .val (.long (own_lm p3)), .second, .unset] [(.int (lcmpW ((f ((z - 1) / 64)) &&& (own_lm p3)) (0 : Int64)))])) _
              refine XS.ifYes X72.here hx rfl (pc0 := 90) (pc' := 95) rfl (hb hby d5_90) rfl ((if0 _ _).trans (teq ((lw_eq _ _).mpr h2)).1) (by decide) (by decide) ?_
              exact kg)
          have k76 : ∀ tg, Steps p.tables e below (T72.setTop (mkF m 100 #[.val (.ref a1), .val (.int p2), .val (.int p3), .val (.int x3), .val (.int x4), .val (.long (own_fm p2)), .second, .val (.long (own_lm p3)), .second, .val (.int (x3 + (1 : Int32)))] [])) tg → Steps p.tables e below (s₁.setTop (entryFrame m #[(.ref a1), (.int p2), (.int p3)] 10)) tg := fun tg kg => k75 tg (by
              show Steps p.tables e below (T72.setTop (mkF m 95 #[.val (.ref a1), .val (.int p2), .val (.int p3), .val (.int x3), .val (.int x4), .val (.long (own_fm p2)), .second, .val (.long (own_lm p3)), .second, .unset] [])) _
              refine XS.iloadN X72.here hx rfl (hb hby d5_95) rfl ?_
              show Steps p.tables e below (T72.setTop (mkF m 96 #[.val (.ref a1), .val (.int p2), .val (.int p3), .val (.int x3), .val (.int x4), .val (.long (own_fm p2)), .second, .val (.long (own_lm p3)), .second, .unset] [(.int x3)])) _
              refine XS.iconst X72.here hx rfl (hb hby d5_96) ?_
              show Steps p.tables e below (T72.setTop (mkF m 97 #[.val (.ref a1), .val (.int p2), .val (.int p3), .val (.int x3), .val (.int x4), .val (.long (own_fm p2)), .second, .val (.long (own_lm p3)), .second, .unset] [(.int (1 : Int32)), (.int x3)])) _
              refine XS.iadd X72.here hx rfl (hb hby d5_97) rfl ?_
              show Steps p.tables e below (T72.setTop (mkF m 98 #[.val (.ref a1), .val (.int p2), .val (.int p3), .val (.int x3), .val (.int x4), .val (.long (own_fm p2)), .second, .val (.long (own_lm p3)), .second, .unset] [(.int (x3 + (1 : Int32)))])) _
              refine XS.istore X72.here hx rfl (hb hby d5_98) rfl (l' := #[.val (.ref a1), .val (.int p2), .val (.int p3), .val (.int x3), .val (.int x4), .val (.long (own_fm p2)), .second, .val (.long (own_lm p3)), .second, .val (.int (x3 + (1 : Int32)))]) rfl ?_
              exact kg)
          obtain ⟨y77, T77, X77, e77, hr77⟩ := loopA hx hZ hw hby hml hown a1 b p2 p3 x3 x4 (own_fm p2) (own_lm p3) N ((z - 1) / 64) h4 (by omega) hN f h0 F V0 ((z - 1) / 64 - (a / 64 + 1)) (a / 64 + 1) _ _ _ (by omega) (own_inc h3 (by omega)) X72 e72
          rcases hr77 with ⟨⟨j, j1, j2, j3⟩, st77⟩ | ⟨hz0, st77⟩
          · have k78 : ∀ tg, Steps p.tables e below (T77.setTop (mkF m 119 #[.val (.ref a1), .val (.int p2), .val (.int p3), .val (.int x3), .val (.int x4), .val (.long (own_fm p2)), .second, .val (.long (own_lm p3)), .second, .val (.int y77)] [])) tg → Steps p.tables e below (s₁.setTop (entryFrame m #[(.ref a1), (.int p2), (.int p3)] 10)) tg := fun tg kg => k76 tg (st77 tg kg)
            have k79 : ∀ tg, Steps p.tables e below (T77.setTop (mkF m 120 #[.val (.ref a1), .val (.int p2), .val (.int p3), .val (.int x3), .val (.int x4), .val (.long (own_fm p2)), .second, .val (.long (own_lm p3)), .second, .val (.int y77)] [(.int (1 : Int32))])) tg → Steps p.tables e below (s₁.setTop (entryFrame m #[(.ref a1), (.int p2), (.int p3)] 10)) tg := fun tg kg => k78 tg (by
                show Steps p.tables e below (T77.setTop (mkF m 119 #[.val (.ref a1), .val (.int p2), .val (.int p3), .val (.int x3), .val (.int x4), .val (.long (own_fm p2)), .second, .val (.long (own_lm p3)), .second, .val (.int y77)] [])) _
                refine XS.iconst X77.here hx rfl (hb hby d5_119) ?_
                exact kg)
            obtain ⟨fs, hr, hrun, hended, hW, hsame⟩ := X77.leave (v := some (.int (1 : Int32))) (fun h => by rw [Bd.returns] at h; cases h)
            refine ⟨_, _, k79 _ ?_, hrun, hended, _, _, rfl, ?_, ⟨_, rfl⟩, hW, hsame.mono (by decide) (by decide)⟩
            · show Steps p.tables e below (T77.setTop (mkF m 120 #[.val (.ref a1), .val (.int p2), .val (.int p3), .val (.int x3), .val (.int x4), .val (.long (own_fm p2)), .second, .val (.long (own_lm p3)), .second, .val (.int y77)] [(.int (1 : Int32))])) _
              exact retN X77 hx (t := .boolean) Bd.returns (by simp) (hb hby d5_120) hr
            · show Q5 _ _ _ _ _ _ _ T77.heap _
              rw [e77]
              exact ⟨by rw [own_ab1 (own_a4 hab (by omega) j2 j3)], N0, rfl⟩
          · have k80 : ∀ tg, Steps p.tables e below (T77.setTop (mkF m 127 #[.val (.ref a1), .val (.int p2), .val (.int p3), .val (.int x3), .val (.int x4), .val (.long (own_fm p2)), .second, .val (.long (own_lm p3)), .second, .val (.int y77)] [])) tg → Steps p.tables e below (s₁.setTop (entryFrame m #[(.ref a1), (.int p2), (.int p3)] 10)) tg := fun tg kg => k76 tg (st77 tg kg)
            have k81 : ∀ tg, Steps p.tables e below (T77.setTop (mkF m 128 #[.val (.ref a1), .val (.int p2), .val (.int p3), .val (.int x3), .val (.int x4), .val (.long (own_fm p2)), .second, .val (.long (own_lm p3)), .second, .val (.int y77)] [(.int (0 : Int32))])) tg → Steps p.tables e below (s₁.setTop (entryFrame m #[(.ref a1), (.int p2), (.int p3)] 10)) tg := fun tg kg => k80 tg (by
                show Steps p.tables e below (T77.setTop (mkF m 127 #[.val (.ref a1), .val (.int p2), .val (.int p3), .val (.int x3), .val (.int x4), .val (.long (own_fm p2)), .second, .val (.long (own_lm p3)), .second, .val (.int y77)] [])) _
                refine XS.iconst X77.here hx rfl (hb hby d5_127) ?_
                exact kg)
            obtain ⟨fs, hr, hrun, hended, hW, hsame⟩ := X77.leave (v := some (.int (0 : Int32))) (fun h => by rw [Bd.returns] at h; cases h)
            refine ⟨_, _, k81 _ ?_, hrun, hended, _, _, rfl, ?_, ⟨_, rfl⟩, hW, hsame.mono (by decide) (by decide)⟩
            · show Steps p.tables e below (T77.setTop (mkF m 128 #[.val (.ref a1), .val (.int p2), .val (.int p3), .val (.int x3), .val (.int x4), .val (.long (own_fm p2)), .second, .val (.long (own_lm p3)), .second, .val (.int y77)] [(.int (0 : Int32))])) _
              exact retN X77 hx (t := .boolean) Bd.returns (by simp) (hb hby d5_128) hr
            · show Q5 _ _ _ _ _ _ _ T77.heap _
              rw [e77]
              exact ⟨by rw [own_ab0 (own_a5 hp hq hab hsn h1 h2 hz0)], N0, rfl⟩
        · have k82 : ∀ tg, Steps p.tables e below (T72.setTop (mkF m 93 #[.val (.ref a1), .val (.int p2), .val (.int p3), .val (.int x3), .val (.int x4), .val (.long (own_fm p2)), .second, .val (.long (own_lm p3)), .second, .unset] [])) tg → Steps p.tables e below (s₁.setTop (entryFrame m #[(.ref a1), (.int p2), (.int p3)] 10)) tg := fun tg kg => k74 tg (by
              show Steps p.tables e below (T72.setTop (mkF m 90 #[.val (.ref a1), .val (.int p2), .val (.int p3), .val (.int x3), .val (.int x4), .val (.long (own_fm p2)), .second, .val (.long (own_lm p3)), .second, .unset] [(.int (lcmpW ((f ((z - 1) / 64)) &&& (own_lm p3)) (0 : Int64)))])) _
              refine XS.ifNo X72.here hx rfl (hb hby d5_90) rfl ((if0 _ _).trans (feq (fun q => h2 ((lw_eq _ _).mp q))).1) ?_
              exact kg)
          have k83 : ∀ tg, Steps p.tables e below (T72.setTop (mkF m 94 #[.val (.ref a1), .val (.int p2), .val (.int p3), .val (.int x3), .val (.int x4), .val (.long (own_fm p2)), .second, .val (.long (own_lm p3)), .second, .unset] [(.int (1 : Int32))])) tg → Steps p.tables e below (s₁.setTop (entryFrame m #[(.ref a1), (.int p2), (.int p3)] 10)) tg := fun tg kg => k82 tg (by
              show Steps p.tables e below (T72.setTop (mkF m 93 #[.val (.ref a1), .val (.int p2), .val (.int p3), .val (.int x3), .val (.int x4), .val (.long (own_fm p2)), .second, .val (.long (own_lm p3)), .second, .unset] [])) _
              refine XS.iconst X72.here hx rfl (hb hby d5_93) ?_
              exact kg)
          obtain ⟨fs, hr, hrun, hended, hW, hsame⟩ := X72.leave (v := some (.int (1 : Int32))) (fun h => by rw [Bd.returns] at h; cases h)
          refine ⟨_, _, k83 _ ?_, hrun, hended, _, _, rfl, ?_, ⟨_, rfl⟩, hW, hsame.mono (by decide) (by decide)⟩
          · show Steps p.tables e below (T72.setTop (mkF m 94 #[.val (.ref a1), .val (.int p2), .val (.int p3), .val (.int x3), .val (.int x4), .val (.long (own_fm p2)), .second, .val (.long (own_lm p3)), .second, .unset] [(.int (1 : Int32))])) _
            exact retN X72 hx (t := .boolean) Bd.returns (by simp) (hb hby d5_94) hr
          · show Q5 _ _ _ _ _ _ _ T72.heap _
            rw [e72]
            exact ⟨by rw [own_ab1 (own_a3 hq hab hsn h2)], N0, rfl⟩
      · have k84 : ∀ tg, Steps p.tables e below (T67.setTop (mkF m 93 #[.val (.ref a1), .val (.int p2), .val (.int p3), .val (.int x3), .val (.int x4), .val (.long (own_fm p2)), .second, .val (.long (own_lm p3)), .second, .unset] [])) tg → Steps p.tables e below (s₁.setTop (entryFrame m #[(.ref a1), (.int p2), (.int p3)] 10)) tg := fun tg kg => k69 tg (by
            show Steps p.tables e below (T67.setTop (mkF m 75 #[.val (.ref a1), .val (.int p2), .val (.int p3), .val (.int x3), .val (.int x4), .val (.long (own_fm p2)), .second, .val (.long (own_lm p3)), .second, .unset] [(.int (lcmpW ((f (a / 64)) &&& (own_fm p2)) (0 : Int64)))])) _
            refine XS.ifYes X67.here hx rfl (pc0 := 75) (pc' := 93) rfl (hb hby d5_75) rfl ((if0 _ _).trans (feq (fun q => h1 ((lw_eq _ _).mp q))).2) (by decide) (by decide) ?_
            exact kg)
        have k85 : ∀ tg, Steps p.tables e below (T67.setTop (mkF m 94 #[.val (.ref a1), .val (.int p2), .val (.int p3), .val (.int x3), .val (.int x4), .val (.long (own_fm p2)), .second, .val (.long (own_lm p3)), .second, .unset] [(.int (1 : Int32))])) tg → Steps p.tables e below (s₁.setTop (entryFrame m #[(.ref a1), (.int p2), (.int p3)] 10)) tg := fun tg kg => k84 tg (by
            show Steps p.tables e below (T67.setTop (mkF m 93 #[.val (.ref a1), .val (.int p2), .val (.int p3), .val (.int x3), .val (.int x4), .val (.long (own_fm p2)), .second, .val (.long (own_lm p3)), .second, .unset] [])) _
            refine XS.iconst X67.here hx rfl (hb hby d5_93) ?_
            exact kg)
        obtain ⟨fs, hr, hrun, hended, hW, hsame⟩ := X67.leave (v := some (.int (1 : Int32))) (fun h => by rw [Bd.returns] at h; cases h)
        refine ⟨_, _, k85 _ ?_, hrun, hended, _, _, rfl, ?_, ⟨_, rfl⟩, hW, hsame.mono (by decide) (by decide)⟩
        · show Steps p.tables e below (T67.setTop (mkF m 94 #[.val (.ref a1), .val (.int p2), .val (.int p3), .val (.int x3), .val (.int x4), .val (.long (own_fm p2)), .second, .val (.long (own_lm p3)), .second, .unset] [(.int (1 : Int32))])) _
          exact retN X67 hx (t := .boolean) Bd.returns (by simp) (hb hby d5_94) hr
        · show Q5 _ _ _ _ _ _ _ T67.heap _
          rw [e67]
          exact ⟨by rw [own_ab1 (own_a2 hp hab hsn h1)], N0, rfl⟩
  · have k86 : ∀ tg, Steps p.tables e below (s₁.setTop (mkF m 5 #[.val (.ref a1), .val (.int p2), .val (.int p3), .unset, .unset, .unset, .unset, .unset, .unset, .unset] [])) tg → Steps p.tables e below (s₁.setTop (entryFrame m #[(.ref a1), (.int p2), (.int p3)] 10)) tg := fun tg kg => k52 tg (by
        show Steps p.tables e below (s₁.setTop (mkF m 2 #[.val (.ref a1), .val (.int p2), .val (.int p3), .unset, .unset, .unset, .unset, .unset, .unset, .unset] [(.int p3), (.int p2)])) _
        refine XS.icmpNo X0.here hx rfl (hb hby d5_2) rfl (flt hc).1 ?_
        exact kg)
    have k87 : ∀ tg, Steps p.tables e below (s₁.setTop (mkF m 6 #[.val (.ref a1), .val (.int p2), .val (.int p3), .unset, .unset, .unset, .unset, .unset, .unset, .unset] [(.int (0 : Int32))])) tg → Steps p.tables e below (s₁.setTop (entryFrame m #[(.ref a1), (.int p2), (.int p3)] 10)) tg := fun tg kg => k86 tg (by
        show Steps p.tables e below (s₁.setTop (mkF m 5 #[.val (.ref a1), .val (.int p2), .val (.int p3), .unset, .unset, .unset, .unset, .unset, .unset, .unset] [])) _
        refine XS.iconst X0.here hx rfl (hb hby d5_5) ?_
        exact kg)
    obtain ⟨fs, hr, hrun, hended, hW, hsame⟩ := X0.leave (v := some (.int (0 : Int32))) (fun h => by rw [Bd.returns] at h; cases h)
    refine ⟨_, _, k87 _ ?_, hrun, hended, _, _, rfl, ?_, ⟨_, rfl⟩, hW, hsame.mono (by decide) (by decide)⟩
    · show Steps p.tables e below (s₁.setTop (mkF m 6 #[.val (.ref a1), .val (.int p2), .val (.int p3), .unset, .unset, .unset, .unset, .unset, .unset, .unset] [(.int (0 : Int32))])) _
      exact retN X0 hx (t := .boolean) Bd.returns (by simp) (hb hby d5_6) hr
    · show Q5 _ _ _ _ _ _ _ s₁.heap _
      rw [e0]
      exact ⟨by rw [own_ab0 (fun ⟨x, h1, h2, _⟩ => hc ((own_lt hp hq).mpr (by omega)))], N0, rfl⟩
def own_ex2 (x c d : Int32) : Int32 := if x < c then 0 else if x < d then 1 else 0
/-- the law's own word for a taken byte -/
def own_ex (x a b c d : Int32) : Int32 := if x < a then own_ex2 x c d else if x < b then 1 else own_ex2 x c d
theorem own_z0 (z : Nat) : own_bit (fun _ => (0 : Int64)) z = false := by
  show (0 : BitVec 64).getLsbD (z % 64) = false
  simp
theorem own_one {f : Nat → Int64} {n : Nat} : (∃ z, n ≤ z ∧ z < n + 1 ∧ own_bit f z = true) ↔ own_bit f n = true :=
  ⟨fun ⟨z, h1, h2, h3⟩ => by rwa [show z = n by omega] at h3, fun h => ⟨n, Nat.le_refl _, Nat.lt_succ_self _, h⟩⟩
theorem own_exp {f : Nat → Int64} {x p q r s : Int32} {n a b c d : Nat} (hx : x.toInt = n) (hp : p.toInt = a) (hq : q.toInt = b) (hr : r.toInt = c) (hs : s.toInt = d) (hb : ∀ t, own_bit f t = true ↔ (a ≤ t ∧ t < b) ∨ (c ≤ t ∧ t < d)) : own_ab f n (n + 1) = own_ex x p q r s := by
  have h2 : own_ex2 x r s = 1 ∧ (c ≤ n ∧ n < d) ∨ own_ex2 x r s = 0 ∧ ¬ (c ≤ n ∧ n < d) := by
    rw [own_ex2]; simp only [own_lt hx hr, own_lt hx hs]
    by_cases h1 : n < c
    · rw [if_pos h1]; exact Or.inr ⟨rfl, by omega⟩
    · rw [if_neg h1]
      by_cases h2 : n < d
      · rw [if_pos h2]; exact Or.inl ⟨rfl, by omega⟩
      · rw [if_neg h2]; exact Or.inr ⟨rfl, by omega⟩
  have h3 := hb n
  rw [own_ex]; simp only [own_lt hx hp, own_lt hx hq]
  by_cases g1 : n < a
  · rw [if_pos g1]
    rcases h2 with ⟨e, h⟩ | ⟨e, h⟩ <;> rw [e]
    · exact own_ab1 (own_one.mpr (h3.mpr (Or.inr h)))
    · exact own_ab0 fun z => (h3.mp (own_one.mp z)).elim (fun r => by omega) h
  · rw [if_neg g1]
    by_cases g2 : n < b
    · rw [if_pos g2]
      exact own_ab1 (own_one.mpr (h3.mpr (Or.inl (by omega))))
    · rw [if_neg g2]
      rcases h2 with ⟨e, h⟩ | ⟨e, h⟩ <;> rw [e]
      · exact own_ab1 (own_one.mpr (h3.mpr (Or.inr h)))
      · exact own_ab0 fun z => (h3.mp (own_one.mp z)).elim (fun r => by omega) h
theorem own_md (x m : Int32) (k : Nat) (hm : m.toInt = k) (hk : 0 < k) : ∃ n : Nat, n < k ∧ ((x &&& (2147483647 : Int32)) % m).toInt = n := by
  have h := c_and x (2147483647 : Int32) (by decide)
  have g := ((c_iremV (x &&& (2147483647 : Int32)) m).1 h.1 (by omega))
  exact ⟨((x &&& (2147483647 : Int32)) % m).toInt.toNat, by omega, by omega⟩
theorem d6_0 : decode method_2_code 0 = .ok (.iload_n 1, 1) := by decide +kernel
theorem d6_1 : decode method_2_code 1 = .ok (.iload_n 0, 1) := by decide +kernel
theorem d6_2 : decode method_2_code 2 = .ok (.if_icmp .gt 10, 3) := by decide +kernel
theorem d6_5 : decode method_2_code 5 = .ok (.iload_n 0, 1) := by decide +kernel
theorem d6_6 : decode method_2_code 6 = .ok (.iload_n 2, 1) := by decide +kernel
theorem d6_7 : decode method_2_code 7 = .ok (.if_icmp .ge 5, 3) := by decide +kernel
theorem d6_10 : decode method_2_code 10 = .ok (.iconst 1, 1) := by decide +kernel
theorem d6_11 : decode method_2_code 11 = .ok (.ireturn, 1) := by decide +kernel
theorem d6_12 : decode method_2_code 12 = .ok (.iload_n 3, 1) := by decide +kernel
theorem d6_13 : decode method_2_code 13 = .ok (.iload_n 0, 1) := by decide +kernel
theorem d6_14 : decode method_2_code 14 = .ok (.if_icmp .gt 13, 3) := by decide +kernel
theorem d6_17 : decode method_2_code 17 = .ok (.iload_n 0, 1) := by decide +kernel
theorem d6_18 : decode method_2_code 18 = .ok (.iload 4, 2) := by decide +kernel
theorem d6_20 : decode method_2_code 20 = .ok (.if_icmp .ge 7, 3) := by decide +kernel
theorem d6_23 : decode method_2_code 23 = .ok (.iconst 1, 1) := by decide +kernel
theorem d6_24 : decode method_2_code 24 = .ok (.goto 4, 3) := by decide +kernel
theorem d6_27 : decode method_2_code 27 = .ok (.iconst 0, 1) := by decide +kernel
theorem d6_28 : decode method_2_code 28 = .ok (.ireturn, 1) := by decide +kernel
theorem pn_6 : plainName "com/example/opword/opword/dex/TakenBytesTakePinLaw" = true := by first | (simp [plainName, overriddenIn]; done) | decide +kernel
theorem ef_6 (m : MethodId) (x0 : Int32) (x1 : Int32) (x2 : Int32) (x3 : Int32) (x4 : Int32) : entryFrame m #[(.int x0), (.int x1), (.int x2), (.int x3), (.int x4)] 5 = mkF m 0 #[.val (.int x0), .val (.int x1), .val (.int x2), .val (.int x3), .val (.int x4)] [] := by first | (simp [entryFrame, mkF, argsToLocals, Value.category]; done) | rfl
def Q6 (Z : State) (p1 p2 p3 p4 p5 : Int32) (h0 : Heap) (n0 : Nat) (v : Option Value) (h : Heap) (L : List Loc) : Prop := v = some (.int (own_ex p1 p2 p3 p4 p5)) ∧ Fr n0 L ∧ h = h0
set_option maxRecDepth 65536 in
set_option maxHeartbeats 40000000 in
theorem rm6 (l : Launch) (Z : State) (a0 : Array Value) (hw : ∀ d ∈ tables_1, d.before a0 Z = true) (ws : List Jvm.Cond) (p1 : Int32) (p2 : Int32) (p3 : Int32) (p4 : Int32) (p5 : Int32)  (h0 : Heap) (n0 : Nat) (Z0 : n0 ≤ h0.size)  :
    MetFree l (⟨"com/example/opword/opword/dex/TakenBytesTakePinLaw", "expected", "(IIIII)Z"⟩ : MethodName) (head1 (Jvm.Cond.code (⟨"com/example/opword/opword/dex/TakenBytesTakePinLaw", "expected", "(IIIII)Z"⟩ : MethodName) method_2_code 5 (some .boolean) :: ws) ({ frames := 0, cells := 0, slots := 0, locals := 0 } : Room)) (fun a U => a = #[(.int p1), (.int p2), (.int p3), (.int p4), (.int p5)] ∧ Z.Warmed39 U.vm ∧ U.heap = h0) (fun _ _ _ _ _ => True) (fun _ U o U' => ∃ v L, o = .returned v ∧ Q6 Z p1 p2 p3 p4 p5 h0 n0 v U'.heap L ∧ FrameEnd U o U' L ({ frames := 0, cells := 0, slots := 0, locals := 0 } : Room).cells ({ frames := 0, cells := 0, slots := 0, locals := 0 } : Room).slots) := by
  refine MetFree.of_bodySF (plainFor_of_name pn_6) hisR ?_
  intro p e s m args below meth c s₁ Bd hml0 hP hK
  obtain ⟨rfl, hZ, hh⟩ := hP
  have hx := Bd.exec
  have hby := Bd.bytes
  have hml : c.maxLocals = 5 := hml0
  have hown : s.vm.findClass "com/example/opword/opword/dex/TakenBytesTakePinLaw" = some m.cls := findClass_of_methodNamed Bd.named
  have hnm := (name_of_methodNamed Bd.named Bd.method).1
  have X0 : Stand p l e ({ frames := 0, cells := 0, slots := 0, locals := 0 } : Room) s m #[(.int p1), (.int p2), (.int p3), (.int p4), (.int p5)] below meth c s₁ [] 0 0 := Stand.of_body Bd
  have e0 : s₁.heap = h0 := by rw [← hh, Bd.state]; rfl
  have N0 := Fr.nil n0
  have pre0 : ∀ tg, Steps p.tables e below (s₁.setTop (mkF m 0 #[.val (.int p1), .val (.int p2), .val (.int p3), .val (.int p4), .val (.int p5)] [])) tg → Steps p.tables e below (s₁.setTop (entryFrame m #[(.int p1), (.int p2), (.int p3), (.int p4), (.int p5)] 5)) tg := fun tg kg => castTop (ef_6 m p1 p2 p3 p4 p5) kg
  have k88 : ∀ tg, Steps p.tables e below (s₁.setTop (mkF m 2 #[.val (.int p1), .val (.int p2), .val (.int p3), .val (.int p4), .val (.int p5)] [(.int p1), (.int p2)])) tg → Steps p.tables e below (s₁.setTop (entryFrame m #[(.int p1), (.int p2), (.int p3), (.int p4), (.int p5)] 5)) tg := fun tg kg => pre0 tg (by
      show Steps p.tables e below (s₁.setTop (mkF m 0 #[.val (.int p1), .val (.int p2), .val (.int p3), .val (.int p4), .val (.int p5)] [])) _
      refine XS.iloadN X0.here hx rfl (hb hby d6_0) rfl ?_
      show Steps p.tables e below (s₁.setTop (mkF m 1 #[.val (.int p1), .val (.int p2), .val (.int p3), .val (.int p4), .val (.int p5)] [(.int p2)])) _
      refine XS.iloadN X0.here hx rfl (hb hby d6_1) rfl ?_
      exact kg)
  by_cases hc89 : p1 < p2
  · have k90 : ∀ tg, Steps p.tables e below (s₁.setTop (mkF m 12 #[.val (.int p1), .val (.int p2), .val (.int p3), .val (.int p4), .val (.int p5)] [])) tg → Steps p.tables e below (s₁.setTop (entryFrame m #[(.int p1), (.int p2), (.int p3), (.int p4), (.int p5)] 5)) tg := fun tg kg => k88 tg (by
        show Steps p.tables e below (s₁.setTop (mkF m 2 #[.val (.int p1), .val (.int p2), .val (.int p3), .val (.int p4), .val (.int p5)] [(.int p1), (.int p2)])) _
        refine XS.icmpYes X0.here hx rfl (pc0 := 2) (pc' := 12) rfl (hb hby d6_2) rfl (tlt hc89).2.2.1 (by decide) (by decide) ?_
        exact kg)
    have k91 : ∀ tg, Steps p.tables e below (s₁.setTop (mkF m 14 #[.val (.int p1), .val (.int p2), .val (.int p3), .val (.int p4), .val (.int p5)] [(.int p1), (.int p4)])) tg → Steps p.tables e below (s₁.setTop (entryFrame m #[(.int p1), (.int p2), (.int p3), (.int p4), (.int p5)] 5)) tg := fun tg kg => k90 tg (by
        show Steps p.tables e below (s₁.setTop (mkF m 12 #[.val (.int p1), .val (.int p2), .val (.int p3), .val (.int p4), .val (.int p5)] [])) _
        refine XS.iloadN X0.here hx rfl (hb hby d6_12) rfl ?_
        show Steps p.tables e below (s₁.setTop (mkF m 13 #[.val (.int p1), .val (.int p2), .val (.int p3), .val (.int p4), .val (.int p5)] [(.int p4)])) _
        refine XS.iloadN X0.here hx rfl (hb hby d6_13) rfl ?_
        exact kg)
    by_cases hc92 : p1 < p4
    · have k93 : ∀ tg, Steps p.tables e below (s₁.setTop (mkF m 27 #[.val (.int p1), .val (.int p2), .val (.int p3), .val (.int p4), .val (.int p5)] [])) tg → Steps p.tables e below (s₁.setTop (entryFrame m #[(.int p1), (.int p2), (.int p3), (.int p4), (.int p5)] 5)) tg := fun tg kg => k91 tg (by
          show Steps p.tables e below (s₁.setTop (mkF m 14 #[.val (.int p1), .val (.int p2), .val (.int p3), .val (.int p4), .val (.int p5)] [(.int p1), (.int p4)])) _
          refine XS.icmpYes X0.here hx rfl (pc0 := 14) (pc' := 27) rfl (hb hby d6_14) rfl (tlt hc92).2.2.1 (by decide) (by decide) ?_
          exact kg)
      have k94 : ∀ tg, Steps p.tables e below (s₁.setTop (mkF m 28 #[.val (.int p1), .val (.int p2), .val (.int p3), .val (.int p4), .val (.int p5)] [(.int (0 : Int32))])) tg → Steps p.tables e below (s₁.setTop (entryFrame m #[(.int p1), (.int p2), (.int p3), (.int p4), (.int p5)] 5)) tg := fun tg kg => k93 tg (by
          show Steps p.tables e below (s₁.setTop (mkF m 27 #[.val (.int p1), .val (.int p2), .val (.int p3), .val (.int p4), .val (.int p5)] [])) _
          refine XS.iconst X0.here hx rfl (hb hby d6_27) ?_
          exact kg)
      obtain ⟨fs, hr, hrun, hended, hW, hsame⟩ := X0.leave (v := some (.int (0 : Int32))) (fun h => by rw [Bd.returns] at h; cases h)
      refine ⟨_, _, k94 _ ?_, hrun, hended, _, _, rfl, ?_, ⟨_, rfl⟩, hW, hsame.mono (by decide) (by decide)⟩
      · show Steps p.tables e below (s₁.setTop (mkF m 28 #[.val (.int p1), .val (.int p2), .val (.int p3), .val (.int p4), .val (.int p5)] [(.int (0 : Int32))])) _
        exact retN X0 hx (t := .boolean) Bd.returns (by simp) (hb hby d6_28) hr
      · show Q6 _ _ _ _ _ _ _ _ _ s₁.heap _
        rw [e0]
        exact ⟨by rw [own_ex, if_pos hc89, own_ex2, if_pos hc92], N0, rfl⟩
    · have k95 : ∀ tg, Steps p.tables e below (s₁.setTop (mkF m 17 #[.val (.int p1), .val (.int p2), .val (.int p3), .val (.int p4), .val (.int p5)] [])) tg → Steps p.tables e below (s₁.setTop (entryFrame m #[(.int p1), (.int p2), (.int p3), (.int p4), (.int p5)] 5)) tg := fun tg kg => k91 tg (by
          show Steps p.tables e below (s₁.setTop (mkF m 14 #[.val (.int p1), .val (.int p2), .val (.int p3), .val (.int p4), .val (.int p5)] [(.int p1), (.int p4)])) _
          refine XS.icmpNo X0.here hx rfl (hb hby d6_14) rfl (flt hc92).2.2.1 ?_
          exact kg)
      have k96 : ∀ tg, Steps p.tables e below (s₁.setTop (mkF m 20 #[.val (.int p1), .val (.int p2), .val (.int p3), .val (.int p4), .val (.int p5)] [(.int p5), (.int p1)])) tg → Steps p.tables e below (s₁.setTop (entryFrame m #[(.int p1), (.int p2), (.int p3), (.int p4), (.int p5)] 5)) tg := fun tg kg => k95 tg (by
          show Steps p.tables e below (s₁.setTop (mkF m 17 #[.val (.int p1), .val (.int p2), .val (.int p3), .val (.int p4), .val (.int p5)] [])) _
          refine XS.iloadN X0.here hx rfl (hb hby d6_17) rfl ?_
          show Steps p.tables e below (s₁.setTop (mkF m 18 #[.val (.int p1), .val (.int p2), .val (.int p3), .val (.int p4), .val (.int p5)] [(.int p1)])) _
          refine XS.iload X0.here hx rfl (hb hby d6_18) rfl ?_
          exact kg)
      by_cases hc97 : p1 < p5
      · have k98 : ∀ tg, Steps p.tables e below (s₁.setTop (mkF m 23 #[.val (.int p1), .val (.int p2), .val (.int p3), .val (.int p4), .val (.int p5)] [])) tg → Steps p.tables e below (s₁.setTop (entryFrame m #[(.int p1), (.int p2), (.int p3), (.int p4), (.int p5)] 5)) tg := fun tg kg => k96 tg (by
            show Steps p.tables e below (s₁.setTop (mkF m 20 #[.val (.int p1), .val (.int p2), .val (.int p3), .val (.int p4), .val (.int p5)] [(.int p5), (.int p1)])) _
            refine XS.icmpNo X0.here hx rfl (hb hby d6_20) rfl (tlt hc97).2.1 ?_
            exact kg)
        have k99 : ∀ tg, Steps p.tables e below (s₁.setTop (mkF m 28 #[.val (.int p1), .val (.int p2), .val (.int p3), .val (.int p4), .val (.int p5)] [(.int (1 : Int32))])) tg → Steps p.tables e below (s₁.setTop (entryFrame m #[(.int p1), (.int p2), (.int p3), (.int p4), (.int p5)] 5)) tg := fun tg kg => k98 tg (by
            show Steps p.tables e below (s₁.setTop (mkF m 23 #[.val (.int p1), .val (.int p2), .val (.int p3), .val (.int p4), .val (.int p5)] [])) _
            refine XS.iconst X0.here hx rfl (hb hby d6_23) ?_
            show Steps p.tables e below (s₁.setTop (mkF m 24 #[.val (.int p1), .val (.int p2), .val (.int p3), .val (.int p4), .val (.int p5)] [(.int (1 : Int32))])) _
            refine XS.goto X0.here hx rfl (pc0 := 24) (pc' := 28) rfl (hb hby d6_24) (by decide) (by decide) ?_
            exact kg)
        obtain ⟨fs, hr, hrun, hended, hW, hsame⟩ := X0.leave (v := some (.int (1 : Int32))) (fun h => by rw [Bd.returns] at h; cases h)
        refine ⟨_, _, k99 _ ?_, hrun, hended, _, _, rfl, ?_, ⟨_, rfl⟩, hW, hsame.mono (by decide) (by decide)⟩
        · show Steps p.tables e below (s₁.setTop (mkF m 28 #[.val (.int p1), .val (.int p2), .val (.int p3), .val (.int p4), .val (.int p5)] [(.int (1 : Int32))])) _
          exact retN X0 hx (t := .boolean) Bd.returns (by simp) (hb hby d6_28) hr
        · show Q6 _ _ _ _ _ _ _ _ _ s₁.heap _
          rw [e0]
          exact ⟨by rw [own_ex, if_pos hc89, own_ex2, if_neg hc92, if_pos hc97], N0, rfl⟩
      · have k100 : ∀ tg, Steps p.tables e below (s₁.setTop (mkF m 27 #[.val (.int p1), .val (.int p2), .val (.int p3), .val (.int p4), .val (.int p5)] [])) tg → Steps p.tables e below (s₁.setTop (entryFrame m #[(.int p1), (.int p2), (.int p3), (.int p4), (.int p5)] 5)) tg := fun tg kg => k96 tg (by
            show Steps p.tables e below (s₁.setTop (mkF m 20 #[.val (.int p1), .val (.int p2), .val (.int p3), .val (.int p4), .val (.int p5)] [(.int p5), (.int p1)])) _
            refine XS.icmpYes X0.here hx rfl (pc0 := 20) (pc' := 27) rfl (hb hby d6_20) rfl (flt hc97).2.1 (by decide) (by decide) ?_
            exact kg)
        have k101 : ∀ tg, Steps p.tables e below (s₁.setTop (mkF m 28 #[.val (.int p1), .val (.int p2), .val (.int p3), .val (.int p4), .val (.int p5)] [(.int (0 : Int32))])) tg → Steps p.tables e below (s₁.setTop (entryFrame m #[(.int p1), (.int p2), (.int p3), (.int p4), (.int p5)] 5)) tg := fun tg kg => k100 tg (by
            show Steps p.tables e below (s₁.setTop (mkF m 27 #[.val (.int p1), .val (.int p2), .val (.int p3), .val (.int p4), .val (.int p5)] [])) _
            refine XS.iconst X0.here hx rfl (hb hby d6_27) ?_
            exact kg)
        obtain ⟨fs, hr, hrun, hended, hW, hsame⟩ := X0.leave (v := some (.int (0 : Int32))) (fun h => by rw [Bd.returns] at h; cases h)
        refine ⟨_, _, k101 _ ?_, hrun, hended, _, _, rfl, ?_, ⟨_, rfl⟩, hW, hsame.mono (by decide) (by decide)⟩
        · show Steps p.tables e below (s₁.setTop (mkF m 28 #[.val (.int p1), .val (.int p2), .val (.int p3), .val (.int p4), .val (.int p5)] [(.int (0 : Int32))])) _
          exact retN X0 hx (t := .boolean) Bd.returns (by simp) (hb hby d6_28) hr
        · show Q6 _ _ _ _ _ _ _ _ _ s₁.heap _
          rw [e0]
          exact ⟨by rw [own_ex, if_pos hc89, own_ex2, if_neg hc92, if_neg hc97], N0, rfl⟩
  · have k102 : ∀ tg, Steps p.tables e below (s₁.setTop (mkF m 5 #[.val (.int p1), .val (.int p2), .val (.int p3), .val (.int p4), .val (.int p5)] [])) tg → Steps p.tables e below (s₁.setTop (entryFrame m #[(.int p1), (.int p2), (.int p3), (.int p4), (.int p5)] 5)) tg := fun tg kg => k88 tg (by
        show Steps p.tables e below (s₁.setTop (mkF m 2 #[.val (.int p1), .val (.int p2), .val (.int p3), .val (.int p4), .val (.int p5)] [(.int p1), (.int p2)])) _
        refine XS.icmpNo X0.here hx rfl (hb hby d6_2) rfl (flt hc89).2.2.1 ?_
        exact kg)
    have k103 : ∀ tg, Steps p.tables e below (s₁.setTop (mkF m 7 #[.val (.int p1), .val (.int p2), .val (.int p3), .val (.int p4), .val (.int p5)] [(.int p3), (.int p1)])) tg → Steps p.tables e below (s₁.setTop (entryFrame m #[(.int p1), (.int p2), (.int p3), (.int p4), (.int p5)] 5)) tg := fun tg kg => k102 tg (by
        show Steps p.tables e below (s₁.setTop (mkF m 5 #[.val (.int p1), .val (.int p2), .val (.int p3), .val (.int p4), .val (.int p5)] [])) _
        refine XS.iloadN X0.here hx rfl (hb hby d6_5) rfl ?_
        show Steps p.tables e below (s₁.setTop (mkF m 6 #[.val (.int p1), .val (.int p2), .val (.int p3), .val (.int p4), .val (.int p5)] [(.int p1)])) _
        refine XS.iloadN X0.here hx rfl (hb hby d6_6) rfl ?_
        exact kg)
    by_cases hc104 : p1 < p3
    · have k105 : ∀ tg, Steps p.tables e below (s₁.setTop (mkF m 10 #[.val (.int p1), .val (.int p2), .val (.int p3), .val (.int p4), .val (.int p5)] [])) tg → Steps p.tables e below (s₁.setTop (entryFrame m #[(.int p1), (.int p2), (.int p3), (.int p4), (.int p5)] 5)) tg := fun tg kg => k103 tg (by
          show Steps p.tables e below (s₁.setTop (mkF m 7 #[.val (.int p1), .val (.int p2), .val (.int p3), .val (.int p4), .val (.int p5)] [(.int p3), (.int p1)])) _
          refine XS.icmpNo X0.here hx rfl (hb hby d6_7) rfl (tlt hc104).2.1 ?_
          exact kg)
      have k106 : ∀ tg, Steps p.tables e below (s₁.setTop (mkF m 11 #[.val (.int p1), .val (.int p2), .val (.int p3), .val (.int p4), .val (.int p5)] [(.int (1 : Int32))])) tg → Steps p.tables e below (s₁.setTop (entryFrame m #[(.int p1), (.int p2), (.int p3), (.int p4), (.int p5)] 5)) tg := fun tg kg => k105 tg (by
          show Steps p.tables e below (s₁.setTop (mkF m 10 #[.val (.int p1), .val (.int p2), .val (.int p3), .val (.int p4), .val (.int p5)] [])) _
          refine XS.iconst X0.here hx rfl (hb hby d6_10) ?_
          exact kg)
      obtain ⟨fs, hr, hrun, hended, hW, hsame⟩ := X0.leave (v := some (.int (1 : Int32))) (fun h => by rw [Bd.returns] at h; cases h)
      refine ⟨_, _, k106 _ ?_, hrun, hended, _, _, rfl, ?_, ⟨_, rfl⟩, hW, hsame.mono (by decide) (by decide)⟩
      · show Steps p.tables e below (s₁.setTop (mkF m 11 #[.val (.int p1), .val (.int p2), .val (.int p3), .val (.int p4), .val (.int p5)] [(.int (1 : Int32))])) _
        exact retN X0 hx (t := .boolean) Bd.returns (by simp) (hb hby d6_11) hr
      · show Q6 _ _ _ _ _ _ _ _ _ s₁.heap _
        rw [e0]
        exact ⟨by rw [own_ex, if_neg hc89, if_pos hc104], N0, rfl⟩
    · have k107 : ∀ tg, Steps p.tables e below (s₁.setTop (mkF m 12 #[.val (.int p1), .val (.int p2), .val (.int p3), .val (.int p4), .val (.int p5)] [])) tg → Steps p.tables e below (s₁.setTop (entryFrame m #[(.int p1), (.int p2), (.int p3), (.int p4), (.int p5)] 5)) tg := fun tg kg => k103 tg (by
          show Steps p.tables e below (s₁.setTop (mkF m 7 #[.val (.int p1), .val (.int p2), .val (.int p3), .val (.int p4), .val (.int p5)] [(.int p3), (.int p1)])) _
          refine XS.icmpYes X0.here hx rfl (pc0 := 7) (pc' := 12) rfl (hb hby d6_7) rfl (flt hc104).2.1 (by decide) (by decide) ?_
          exact kg)
      have k108 : ∀ tg, Steps p.tables e below (s₁.setTop (mkF m 14 #[.val (.int p1), .val (.int p2), .val (.int p3), .val (.int p4), .val (.int p5)] [(.int p1), (.int p4)])) tg → Steps p.tables e below (s₁.setTop (entryFrame m #[(.int p1), (.int p2), (.int p3), (.int p4), (.int p5)] 5)) tg := fun tg kg => k107 tg (by
          show Steps p.tables e below (s₁.setTop (mkF m 12 #[.val (.int p1), .val (.int p2), .val (.int p3), .val (.int p4), .val (.int p5)] [])) _
          refine XS.iloadN X0.here hx rfl (hb hby d6_12) rfl ?_
          show Steps p.tables e below (s₁.setTop (mkF m 13 #[.val (.int p1), .val (.int p2), .val (.int p3), .val (.int p4), .val (.int p5)] [(.int p4)])) _
          refine XS.iloadN X0.here hx rfl (hb hby d6_13) rfl ?_
          exact kg)
      by_cases hc109 : p1 < p4
      · have k110 : ∀ tg, Steps p.tables e below (s₁.setTop (mkF m 27 #[.val (.int p1), .val (.int p2), .val (.int p3), .val (.int p4), .val (.int p5)] [])) tg → Steps p.tables e below (s₁.setTop (entryFrame m #[(.int p1), (.int p2), (.int p3), (.int p4), (.int p5)] 5)) tg := fun tg kg => k108 tg (by
            show Steps p.tables e below (s₁.setTop (mkF m 14 #[.val (.int p1), .val (.int p2), .val (.int p3), .val (.int p4), .val (.int p5)] [(.int p1), (.int p4)])) _
            refine XS.icmpYes X0.here hx rfl (pc0 := 14) (pc' := 27) rfl (hb hby d6_14) rfl (tlt hc109).2.2.1 (by decide) (by decide) ?_
            exact kg)
        have k111 : ∀ tg, Steps p.tables e below (s₁.setTop (mkF m 28 #[.val (.int p1), .val (.int p2), .val (.int p3), .val (.int p4), .val (.int p5)] [(.int (0 : Int32))])) tg → Steps p.tables e below (s₁.setTop (entryFrame m #[(.int p1), (.int p2), (.int p3), (.int p4), (.int p5)] 5)) tg := fun tg kg => k110 tg (by
            show Steps p.tables e below (s₁.setTop (mkF m 27 #[.val (.int p1), .val (.int p2), .val (.int p3), .val (.int p4), .val (.int p5)] [])) _
            refine XS.iconst X0.here hx rfl (hb hby d6_27) ?_
            exact kg)
        obtain ⟨fs, hr, hrun, hended, hW, hsame⟩ := X0.leave (v := some (.int (0 : Int32))) (fun h => by rw [Bd.returns] at h; cases h)
        refine ⟨_, _, k111 _ ?_, hrun, hended, _, _, rfl, ?_, ⟨_, rfl⟩, hW, hsame.mono (by decide) (by decide)⟩
        · show Steps p.tables e below (s₁.setTop (mkF m 28 #[.val (.int p1), .val (.int p2), .val (.int p3), .val (.int p4), .val (.int p5)] [(.int (0 : Int32))])) _
          exact retN X0 hx (t := .boolean) Bd.returns (by simp) (hb hby d6_28) hr
        · show Q6 _ _ _ _ _ _ _ _ _ s₁.heap _
          rw [e0]
          exact ⟨by rw [own_ex, if_neg hc89, if_neg hc104, own_ex2, if_pos hc109], N0, rfl⟩
      · have k112 : ∀ tg, Steps p.tables e below (s₁.setTop (mkF m 17 #[.val (.int p1), .val (.int p2), .val (.int p3), .val (.int p4), .val (.int p5)] [])) tg → Steps p.tables e below (s₁.setTop (entryFrame m #[(.int p1), (.int p2), (.int p3), (.int p4), (.int p5)] 5)) tg := fun tg kg => k108 tg (by
            show Steps p.tables e below (s₁.setTop (mkF m 14 #[.val (.int p1), .val (.int p2), .val (.int p3), .val (.int p4), .val (.int p5)] [(.int p1), (.int p4)])) _
            refine XS.icmpNo X0.here hx rfl (hb hby d6_14) rfl (flt hc109).2.2.1 ?_
            exact kg)
        have k113 : ∀ tg, Steps p.tables e below (s₁.setTop (mkF m 20 #[.val (.int p1), .val (.int p2), .val (.int p3), .val (.int p4), .val (.int p5)] [(.int p5), (.int p1)])) tg → Steps p.tables e below (s₁.setTop (entryFrame m #[(.int p1), (.int p2), (.int p3), (.int p4), (.int p5)] 5)) tg := fun tg kg => k112 tg (by
            show Steps p.tables e below (s₁.setTop (mkF m 17 #[.val (.int p1), .val (.int p2), .val (.int p3), .val (.int p4), .val (.int p5)] [])) _
            refine XS.iloadN X0.here hx rfl (hb hby d6_17) rfl ?_
            show Steps p.tables e below (s₁.setTop (mkF m 18 #[.val (.int p1), .val (.int p2), .val (.int p3), .val (.int p4), .val (.int p5)] [(.int p1)])) _
            refine XS.iload X0.here hx rfl (hb hby d6_18) rfl ?_
            exact kg)
        by_cases hc114 : p1 < p5
        · have k115 : ∀ tg, Steps p.tables e below (s₁.setTop (mkF m 23 #[.val (.int p1), .val (.int p2), .val (.int p3), .val (.int p4), .val (.int p5)] [])) tg → Steps p.tables e below (s₁.setTop (entryFrame m #[(.int p1), (.int p2), (.int p3), (.int p4), (.int p5)] 5)) tg := fun tg kg => k113 tg (by
              show Steps p.tables e below (s₁.setTop (mkF m 20 #[.val (.int p1), .val (.int p2), .val (.int p3), .val (.int p4), .val (.int p5)] [(.int p5), (.int p1)])) _
              refine XS.icmpNo X0.here hx rfl (hb hby d6_20) rfl (tlt hc114).2.1 ?_
              exact kg)
          have k116 : ∀ tg, Steps p.tables e below (s₁.setTop (mkF m 28 #[.val (.int p1), .val (.int p2), .val (.int p3), .val (.int p4), .val (.int p5)] [(.int (1 : Int32))])) tg → Steps p.tables e below (s₁.setTop (entryFrame m #[(.int p1), (.int p2), (.int p3), (.int p4), (.int p5)] 5)) tg := fun tg kg => k115 tg (by
              show Steps p.tables e below (s₁.setTop (mkF m 23 #[.val (.int p1), .val (.int p2), .val (.int p3), .val (.int p4), .val (.int p5)] [])) _
              refine XS.iconst X0.here hx rfl (hb hby d6_23) ?_
              show Steps p.tables e below (s₁.setTop (mkF m 24 #[.val (.int p1), .val (.int p2), .val (.int p3), .val (.int p4), .val (.int p5)] [(.int (1 : Int32))])) _
              refine XS.goto X0.here hx rfl (pc0 := 24) (pc' := 28) rfl (hb hby d6_24) (by decide) (by decide) ?_
              exact kg)
          obtain ⟨fs, hr, hrun, hended, hW, hsame⟩ := X0.leave (v := some (.int (1 : Int32))) (fun h => by rw [Bd.returns] at h; cases h)
          refine ⟨_, _, k116 _ ?_, hrun, hended, _, _, rfl, ?_, ⟨_, rfl⟩, hW, hsame.mono (by decide) (by decide)⟩
          · show Steps p.tables e below (s₁.setTop (mkF m 28 #[.val (.int p1), .val (.int p2), .val (.int p3), .val (.int p4), .val (.int p5)] [(.int (1 : Int32))])) _
            exact retN X0 hx (t := .boolean) Bd.returns (by simp) (hb hby d6_28) hr
          · show Q6 _ _ _ _ _ _ _ _ _ s₁.heap _
            rw [e0]
            exact ⟨by rw [own_ex, if_neg hc89, if_neg hc104, own_ex2, if_neg hc109, if_pos hc114], N0, rfl⟩
        · have k117 : ∀ tg, Steps p.tables e below (s₁.setTop (mkF m 27 #[.val (.int p1), .val (.int p2), .val (.int p3), .val (.int p4), .val (.int p5)] [])) tg → Steps p.tables e below (s₁.setTop (entryFrame m #[(.int p1), (.int p2), (.int p3), (.int p4), (.int p5)] 5)) tg := fun tg kg => k113 tg (by
              show Steps p.tables e below (s₁.setTop (mkF m 20 #[.val (.int p1), .val (.int p2), .val (.int p3), .val (.int p4), .val (.int p5)] [(.int p5), (.int p1)])) _
              refine XS.icmpYes X0.here hx rfl (pc0 := 20) (pc' := 27) rfl (hb hby d6_20) rfl (flt hc114).2.1 (by decide) (by decide) ?_
              exact kg)
          have k118 : ∀ tg, Steps p.tables e below (s₁.setTop (mkF m 28 #[.val (.int p1), .val (.int p2), .val (.int p3), .val (.int p4), .val (.int p5)] [(.int (0 : Int32))])) tg → Steps p.tables e below (s₁.setTop (entryFrame m #[(.int p1), (.int p2), (.int p3), (.int p4), (.int p5)] 5)) tg := fun tg kg => k117 tg (by
              show Steps p.tables e below (s₁.setTop (mkF m 27 #[.val (.int p1), .val (.int p2), .val (.int p3), .val (.int p4), .val (.int p5)] [])) _
              refine XS.iconst X0.here hx rfl (hb hby d6_27) ?_
              exact kg)
          obtain ⟨fs, hr, hrun, hended, hW, hsame⟩ := X0.leave (v := some (.int (0 : Int32))) (fun h => by rw [Bd.returns] at h; cases h)
          refine ⟨_, _, k118 _ ?_, hrun, hended, _, _, rfl, ?_, ⟨_, rfl⟩, hW, hsame.mono (by decide) (by decide)⟩
          · show Steps p.tables e below (s₁.setTop (mkF m 28 #[.val (.int p1), .val (.int p2), .val (.int p3), .val (.int p4), .val (.int p5)] [(.int (0 : Int32))])) _
            exact retN X0 hx (t := .boolean) Bd.returns (by simp) (hb hby d6_28) hr
          · show Q6 _ _ _ _ _ _ _ _ _ s₁.heap _
            rw [e0]
            exact ⟨by rw [own_ex, if_neg hc89, if_neg hc104, own_ex2, if_neg hc109, if_neg hc114], N0, rfl⟩
theorem d4_0 : decode method_3_code 0 = .ok (.iload_n 1, 1) := by decide +kernel
theorem d4_1 : decode method_3_code 1 = .ok (.ifCond .lt 10, 3) := by decide +kernel
theorem d4_4 : decode method_3_code 4 = .ok (.iload_n 1, 1) := by decide +kernel
theorem d4_5 : decode method_3_code 5 = .ok (.sipush 256, 3) := by decide +kernel
theorem d4_8 : decode method_3_code 8 = .ok (.if_icmp .lt 5, 3) := by decide +kernel
theorem d4_11 : decode method_3_code 11 = .ok (.iconst 1, 1) := by decide +kernel
theorem d4_12 : decode method_3_code 12 = .ok (.ireturn, 1) := by decide +kernel
theorem d4_13 : decode method_3_code 13 = .ok (.aload_n 0, 1) := by decide +kernel
theorem d4_14 : decode method_3_code 14 = .ok (.iload_n 1, 1) := by decide +kernel
theorem d4_15 : decode method_3_code 15 = .ok (.iload_n 1, 1) := by decide +kernel
theorem d4_16 : decode method_3_code 16 = .ok (.iconst 1, 1) := by decide +kernel
theorem d4_17 : decode method_3_code 17 = .ok (.iadd, 1) := by decide +kernel
theorem d4_18 : decode method_3_code 18 = .ok (.invokevirtual 7, 3) := by decide +kernel
theorem d4_21 : decode method_3_code 21 = .ok (.iload_n 1, 1) := by decide +kernel
theorem d4_22 : decode method_3_code 22 = .ok (.iload_n 2, 1) := by decide +kernel
theorem d4_23 : decode method_3_code 23 = .ok (.iload_n 3, 1) := by decide +kernel
theorem d4_24 : decode method_3_code 24 = .ok (.iload 4, 2) := by decide +kernel
theorem d4_26 : decode method_3_code 26 = .ok (.iload 5, 2) := by decide +kernel
theorem d4_28 : decode method_3_code 28 = .ok (.invokestatic 13, 3) := by decide +kernel
theorem d4_31 : decode method_3_code 31 = .ok (.if_icmp .ne 7, 3) := by decide +kernel
theorem d4_34 : decode method_3_code 34 = .ok (.iconst 1, 1) := by decide +kernel
theorem d4_35 : decode method_3_code 35 = .ok (.goto 4, 3) := by decide +kernel
theorem d4_38 : decode method_3_code 38 = .ok (.iconst 0, 1) := by decide +kernel
theorem d4_39 : decode method_3_code 39 = .ok (.ireturn, 1) := by decide +kernel
theorem pn_4 : plainName "com/example/opword/opword/dex/TakenBytesTakePinLaw" = true := by first | (simp [plainName, overriddenIn]; done) | decide +kernel
theorem ef_4 (m : MethodId) (x0 : Addr) (x1 : Int32) (x2 : Int32) (x3 : Int32) (x4 : Int32) (x5 : Int32) : entryFrame m #[(.ref x0), (.int x1), (.int x2), (.int x3), (.int x4), (.int x5)] 6 = mkF m 0 #[.val (.ref x0), .val (.int x1), .val (.int x2), .val (.int x3), .val (.int x4), .val (.int x5)] [] := by first | (simp [entryFrame, mkF, argsToLocals, Value.category]; done) | rfl
def Q4 (Z : State)  (h0 : Heap) (n0 : Nat) (v : Option Value) (h : Heap) (L : List Loc) : Prop := v = some (.int 1) ∧ Fr n0 L ∧ h = h0
set_option maxRecDepth 65536 in
set_option maxHeartbeats 40000000 in
theorem rm4 (l : Launch) (Z : State) (a0 : Array Value) (hw : ∀ d ∈ tables_1, d.before a0 Z = true) (ws : List Jvm.Cond) (a1 : Addr) (p2 : Int32) (p3 : Int32) (p4 : Int32) (p5 : Int32) (p6 : Int32) (bw : Addr) (a b c1 d : Nat) (f : Nat → Int64) (h0 : Heap) (n0 : Nat) (Z0 : n0 ≤ h0.size) (hp : p3.toInt = a) (hq : p4.toInt = b) (hr : p5.toInt = c1) (hs : p6.toInt = d) (hb0 : ∀ t, own_bit f t = true ↔ (a ≤ t ∧ t < b) ∨ (c1 ≤ t ∧ t < d)) (E : Exa Z h0 a1 "com/example/opword/opword/dex/TakenBytes") (F : Fld Z h0 a1 "com/example/opword/opword/dex/TakenBytes" "words" "[J" (.ref bw)) (V : Av Z h0 bw .long 4 (fun j => .long (f j))) :
    MetFree l (⟨"com/example/opword/opword/dex/TakenBytesTakePinLaw", "probe", "(Lcom/example/opword/opword/dex/TakenBytes;IIIII)Z"⟩ : MethodName) (head1 (Jvm.Cond.code (⟨"com/example/opword/opword/dex/TakenBytesTakePinLaw", "probe", "(Lcom/example/opword/opword/dex/TakenBytes;IIIII)Z"⟩ : MethodName) method_3_code 6 (some .boolean) :: ws) ({ frames := 1, cells := 0, slots := 0, locals := 21 } : Room)) (fun a U => a = #[(.ref a1), (.int p2), (.int p3), (.int p4), (.int p5), (.int p6)] ∧ Z.Warmed39 U.vm ∧ U.heap = h0) (fun _ _ _ _ _ => True) (fun _ U o U' => ∃ v L, o = .returned v ∧ Q4 Z  h0 n0 v U'.heap L ∧ FrameEnd U o U' L ({ frames := 1, cells := 0, slots := 0, locals := 21 } : Room).cells ({ frames := 1, cells := 0, slots := 0, locals := 21 } : Room).slots) := by
  refine MetFree.of_bodySF (plainFor_of_name pn_4) hisR ?_
  intro p e s m args below meth c s₁ Bd hml0 hP hK
  obtain ⟨rfl, hZ, hh⟩ := hP
  have hx := Bd.exec
  have hby := Bd.bytes
  have hml : c.maxLocals = 6 := hml0
  have hown : s.vm.findClass "com/example/opword/opword/dex/TakenBytesTakePinLaw" = some m.cls := findClass_of_methodNamed Bd.named
  have hnm := (name_of_methodNamed Bd.named Bd.method).1
  have X0 : Stand p l e ({ frames := 1, cells := 0, slots := 0, locals := 21 } : Room) s m #[(.ref a1), (.int p2), (.int p3), (.int p4), (.int p5), (.int p6)] below meth c s₁ [] 0 0 := Stand.of_body Bd
  have e0 : s₁.heap = h0 := by rw [← hh, Bd.state]; rfl
  have N0 := Fr.nil n0
  have pre0 : ∀ tg, Steps p.tables e below (s₁.setTop (mkF m 0 #[.val (.ref a1), .val (.int p2), .val (.int p3), .val (.int p4), .val (.int p5), .val (.int p6)] [])) tg → Steps p.tables e below (s₁.setTop (entryFrame m #[(.ref a1), (.int p2), (.int p3), (.int p4), (.int p5), (.int p6)] 6)) tg := fun tg kg => castTop (ef_4 m a1 p2 p3 p4 p5 p6) kg
  have k119 : ∀ tg, Steps p.tables e below (s₁.setTop (mkF m 1 #[.val (.ref a1), .val (.int p2), .val (.int p3), .val (.int p4), .val (.int p5), .val (.int p6)] [(.int p2)])) tg → Steps p.tables e below (s₁.setTop (entryFrame m #[(.ref a1), (.int p2), (.int p3), (.int p4), (.int p5), (.int p6)] 6)) tg := fun tg kg => pre0 tg (by
      show Steps p.tables e below (s₁.setTop (mkF m 0 #[.val (.ref a1), .val (.int p2), .val (.int p3), .val (.int p4), .val (.int p5), .val (.int p6)] [])) _
      refine XS.iloadN X0.here hx rfl (hb hby d4_0) rfl ?_
      exact kg)
  by_cases hc120 : p2 < (0 : Int32)
  · have k121 : ∀ tg, Steps p.tables e below (s₁.setTop (mkF m 11 #[.val (.ref a1), .val (.int p2), .val (.int p3), .val (.int p4), .val (.int p5), .val (.int p6)] [])) tg → Steps p.tables e below (s₁.setTop (entryFrame m #[(.ref a1), (.int p2), (.int p3), (.int p4), (.int p5), (.int p6)] 6)) tg := fun tg kg => k119 tg (by
        show Steps p.tables e below (s₁.setTop (mkF m 1 #[.val (.ref a1), .val (.int p2), .val (.int p3), .val (.int p4), .val (.int p5), .val (.int p6)] [(.int p2)])) _
        refine XS.ifYes X0.here hx rfl (pc0 := 1) (pc' := 11) rfl (hb hby d4_1) rfl ((if0 _ _).trans (tlt hc120).1) (by decide) (by decide) ?_
        exact kg)
    have k122 : ∀ tg, Steps p.tables e below (s₁.setTop (mkF m 12 #[.val (.ref a1), .val (.int p2), .val (.int p3), .val (.int p4), .val (.int p5), .val (.int p6)] [(.int (1 : Int32))])) tg → Steps p.tables e below (s₁.setTop (entryFrame m #[(.ref a1), (.int p2), (.int p3), (.int p4), (.int p5), (.int p6)] 6)) tg := fun tg kg => k121 tg (by
        show Steps p.tables e below (s₁.setTop (mkF m 11 #[.val (.ref a1), .val (.int p2), .val (.int p3), .val (.int p4), .val (.int p5), .val (.int p6)] [])) _
        refine XS.iconst X0.here hx rfl (hb hby d4_11) ?_
        exact kg)
    obtain ⟨fs, hr, hrun, hended, hW, hsame⟩ := X0.leave (v := some (.int (1 : Int32))) (fun h => by rw [Bd.returns] at h; cases h)
    refine ⟨_, _, k122 _ ?_, hrun, hended, _, _, rfl, ?_, ⟨_, rfl⟩, hW, hsame.mono (by decide) (by decide)⟩
    · show Steps p.tables e below (s₁.setTop (mkF m 12 #[.val (.ref a1), .val (.int p2), .val (.int p3), .val (.int p4), .val (.int p5), .val (.int p6)] [(.int (1 : Int32))])) _
      exact retN X0 hx (t := .boolean) Bd.returns (by simp) (hb hby d4_12) hr
    · show Q4 _ _ _ _ s₁.heap _
      rw [e0]
      exact ⟨rfl, N0, rfl⟩
  · have k123 : ∀ tg, Steps p.tables e below (s₁.setTop (mkF m 4 #[.val (.ref a1), .val (.int p2), .val (.int p3), .val (.int p4), .val (.int p5), .val (.int p6)] [])) tg → Steps p.tables e below (s₁.setTop (entryFrame m #[(.ref a1), (.int p2), (.int p3), (.int p4), (.int p5), (.int p6)] 6)) tg := fun tg kg => k119 tg (by
        show Steps p.tables e below (s₁.setTop (mkF m 1 #[.val (.ref a1), .val (.int p2), .val (.int p3), .val (.int p4), .val (.int p5), .val (.int p6)] [(.int p2)])) _
        refine XS.ifNo X0.here hx rfl (hb hby d4_1) rfl ((if0 _ _).trans (flt hc120).1) ?_
        exact kg)
    have k124 : ∀ tg, Steps p.tables e below (s₁.setTop (mkF m 8 #[.val (.ref a1), .val (.int p2), .val (.int p3), .val (.int p4), .val (.int p5), .val (.int p6)] [(.int (256 : Int32)), (.int p2)])) tg → Steps p.tables e below (s₁.setTop (entryFrame m #[(.ref a1), (.int p2), (.int p3), (.int p4), (.int p5), (.int p6)] 6)) tg := fun tg kg => k123 tg (by
        show Steps p.tables e below (s₁.setTop (mkF m 4 #[.val (.ref a1), .val (.int p2), .val (.int p3), .val (.int p4), .val (.int p5), .val (.int p6)] [])) _
        refine XS.iloadN X0.here hx rfl (hb hby d4_4) rfl ?_
        show Steps p.tables e below (s₁.setTop (mkF m 5 #[.val (.ref a1), .val (.int p2), .val (.int p3), .val (.int p4), .val (.int p5), .val (.int p6)] [(.int p2)])) _
        refine XS.sipush X0.here hx rfl (hb hby d4_5) ?_
        exact kg)
    by_cases hc125 : p2 < (256 : Int32)
    · have k126 : ∀ tg, Steps p.tables e below (s₁.setTop (mkF m 13 #[.val (.ref a1), .val (.int p2), .val (.int p3), .val (.int p4), .val (.int p5), .val (.int p6)] [])) tg → Steps p.tables e below (s₁.setTop (entryFrame m #[(.ref a1), (.int p2), (.int p3), (.int p4), (.int p5), (.int p6)] 6)) tg := fun tg kg => k124 tg (by
          show Steps p.tables e below (s₁.setTop (mkF m 8 #[.val (.ref a1), .val (.int p2), .val (.int p3), .val (.int p4), .val (.int p5), .val (.int p6)] [(.int (256 : Int32)), (.int p2)])) _
          refine XS.icmpYes X0.here hx rfl (pc0 := 8) (pc' := 13) rfl (hb hby d4_8) rfl (tlt hc125).1 (by decide) (by decide) ?_
          exact kg)
      have k127 : ∀ tg, Steps p.tables e below (s₁.setTop (mkF m 18 #[.val (.ref a1), .val (.int p2), .val (.int p3), .val (.int p4), .val (.int p5), .val (.int p6)] [(.int (p2 + (1 : Int32))), (.int p2), (.ref a1)])) tg → Steps p.tables e below (s₁.setTop (entryFrame m #[(.ref a1), (.int p2), (.int p3), (.int p4), (.int p5), (.int p6)] 6)) tg := fun tg kg => k126 tg (by
          show Steps p.tables e below (s₁.setTop (mkF m 13 #[.val (.ref a1), .val (.int p2), .val (.int p3), .val (.int p4), .val (.int p5), .val (.int p6)] [])) _
          refine XS.aloadN X0.here hx rfl (hb hby d4_13) rfl rfl ?_
          show Steps p.tables e below (s₁.setTop (mkF m 14 #[.val (.ref a1), .val (.int p2), .val (.int p3), .val (.int p4), .val (.int p5), .val (.int p6)] [(.ref a1)])) _
          refine XS.iloadN X0.here hx rfl (hb hby d4_14) rfl ?_
          show Steps p.tables e below (s₁.setTop (mkF m 15 #[.val (.ref a1), .val (.int p2), .val (.int p3), .val (.int p4), .val (.int p5), .val (.int p6)] [(.int p2), (.ref a1)])) _
          refine XS.iloadN X0.here hx rfl (hb hby d4_15) rfl ?_
          show Steps p.tables e below (s₁.setTop (mkF m 16 #[.val (.ref a1), .val (.int p2), .val (.int p3), .val (.int p4), .val (.int p5), .val (.int p6)] [(.int p2), (.int p2), (.ref a1)])) _
          refine XS.iconst X0.here hx rfl (hb hby d4_16) ?_
          show Steps p.tables e below (s₁.setTop (mkF m 17 #[.val (.ref a1), .val (.int p2), .val (.int p3), .val (.int p4), .val (.int p5), .val (.int p6)] [(.int (1 : Int32)), (.int p2), (.int p2), (.ref a1)])) _
          refine XS.iadd X0.here hx rfl (hb hby d4_17) rfl ?_
          exact kg)
      obtain ⟨n, hn, hxn⟩ : ∃ n : Nat, n < 256 ∧ p2.toInt = n := by
        have g1 := hc120; have g2 := hc125
        rw [Int32.lt_iff_toInt_lt] at g1 g2
        rw [show (0 : Int32).toInt = 0 from by decide] at g1
        rw [show (256 : Int32).toInt = 256 from by decide] at g2
        exact ⟨p2.toInt.toNat, by omega, by omega⟩
      obtain ⟨cq128, kq128, q128a, q128b, q128c⟩ := isOf hZ e0 E
      obtain ⟨_, _, ⟨T128, L128, c128, n128⟩, -, X128, ⟨Lc128, hQ128, l128, y128, z128⟩, st128⟩ := X0.virtualBack hx (y := (⟨"com/example/opword/opword/dex/TakenBytes", "anyTaken", "(II)Z"⟩ : MethodName)) (z := (⟨"com/example/opword/opword/dex/TakenBytes", "anyTaken", "(II)Z"⟩ : MethodName)) hown (mvT hZ (hw _ (List.mem_of_getElem? (i := 23) rfl))) (mvT hZ (hw _ (List.mem_of_getElem? (i := 24) rfl))) (notFace_of_selects (args := #[]) (mvT hZ (hw _ (List.mem_of_getElem? (i := 26) rfl)))) (mvT hZ (hw _ (List.mem_of_getElem? (i := 26) rfl))) (mvT hZ (hw _ (List.mem_of_getElem? (i := 25) rfl))) (by decide) (backOf (W := 0) (rm5 l Z a0 hw [] a1 p2 (p2 + (1 : Int32)) bw n (n + 1) 4 f h0 n0 Z0 hxn (own_inc hxn (by omega)) (by omega) (by decide) F V) hZ (hw _ (List.mem_of_getElem? (i := 27) rfl)) (hw _ (List.mem_of_getElem? (i := 3) rfl)) (by decide) (by decide)) q128a q128c (g := (mkF m 18 #[.val (.ref a1), .val (.int p2), .val (.int p3), .val (.int p4), .val (.int p5), .val (.int p6)] [(.int (p2 + (1 : Int32))), (.int p2), (.ref a1)])) rfl (by rw [hml]; rfl) (Steps.refl _) (argsL := [(.int p2), (.int (p2 + (1 : Int32)))]) (rest := []) (lenOf own_pd4 rfl) rfl (by show 2 * 0 + _ ≤ _; exact Nat.le_of_eq rfl) (hb hby d4_18) (fun _ _ => ⟨rfl, e0, (by decide : 0 + 0 ≤ _), (by decide : 0 + 0 ≤ _)⟩)
      dsimp only [Pt.U, Pt.locs, Pt.cells, Pt.slots] at X128 l128 y128 z128 st128 hQ128
      subst l128 y128 z128
      obtain ⟨rfl, N128q, e128⟩ := hQ128
      have N128 := Fr.app N0 N128q
      have k129 : ∀ tg, Steps p.tables e below (T128.setTop (mkF m 21 #[.val (.ref a1), .val (.int p2), .val (.int p3), .val (.int p4), .val (.int p5), .val (.int p6)] [(.int (own_ab f n (n + 1)))])) tg → Steps p.tables e below (s₁.setTop (entryFrame m #[(.ref a1), (.int p2), (.int p3), (.int p4), (.int p5), (.int p6)] 6)) tg := fun tg kg => k127 tg (st128.trans kg)
      have k130 : ∀ tg, Steps p.tables e below (T128.setTop (mkF m 28 #[.val (.ref a1), .val (.int p2), .val (.int p3), .val (.int p4), .val (.int p5), .val (.int p6)] [(.int p6), (.int p5), (.int p4), (.int p3), (.int p2), (.int (own_ab f n (n + 1)))])) tg → Steps p.tables e below (s₁.setTop (entryFrame m #[(.ref a1), (.int p2), (.int p3), (.int p4), (.int p5), (.int p6)] 6)) tg := fun tg kg => k129 tg (by
          show Steps p.tables e below (T128.setTop (mkF m 21 #[.val (.ref a1), .val (.int p2), .val (.int p3), .val (.int p4), .val (.int p5), .val (.int p6)] [(.int (own_ab f n (n + 1)))])) _
          refine XS.iloadN X128.here hx rfl (hb hby d4_21) rfl ?_
          show Steps p.tables e below (T128.setTop (mkF m 22 #[.val (.ref a1), .val (.int p2), .val (.int p3), .val (.int p4), .val (.int p5), .val (.int p6)] [(.int p2), (.int (own_ab f n (n + 1)))])) _
          refine XS.iloadN X128.here hx rfl (hb hby d4_22) rfl ?_
          show Steps p.tables e below (T128.setTop (mkF m 23 #[.val (.ref a1), .val (.int p2), .val (.int p3), .val (.int p4), .val (.int p5), .val (.int p6)] [(.int p3), (.int p2), (.int (own_ab f n (n + 1)))])) _
          refine XS.iloadN X128.here hx rfl (hb hby d4_23) rfl ?_
          show Steps p.tables e below (T128.setTop (mkF m 24 #[.val (.ref a1), .val (.int p2), .val (.int p3), .val (.int p4), .val (.int p5), .val (.int p6)] [(.int p4), (.int p3), (.int p2), (.int (own_ab f n (n + 1)))])) _
          refine XS.iload X128.here hx rfl (hb hby d4_24) rfl ?_
          show Steps p.tables e below (T128.setTop (mkF m 26 #[.val (.ref a1), .val (.int p2), .val (.int p3), .val (.int p4), .val (.int p5), .val (.int p6)] [(.int p5), (.int p4), (.int p3), (.int p2), (.int (own_ab f n (n + 1)))])) _
          refine XS.iload X128.here hx rfl (hb hby d4_26) rfl ?_
          exact kg)
      obtain ⟨_, _, ⟨T131, L131, c131, n131⟩, -, X131, ⟨Lc131, hQ131, l131, y131, z131⟩, st131⟩ := Jvm.LawKit.callS X128 hx (y := (⟨"com/example/opword/opword/dex/TakenBytesTakePinLaw", "expected", "(IIIII)Z"⟩ : MethodName)) hown (mvT hZ (hw _ (List.mem_of_getElem? (i := 28) rfl))) (mvT hZ (hw _ (List.mem_of_getElem? (i := 29) rfl))) (mvT hZ (hw _ (List.mem_of_getElem? (i := 21) rfl))) (mvT hZ (hw _ (List.mem_of_getElem? (i := 30) rfl))) (by decide) (backOf (W := 1) (rm6 l Z a0 hw [] p2 p3 p4 p5 p6 h0 n0 Z0) hZ (hw _ (List.mem_of_getElem? (i := 30) rfl)) (hw _ (List.mem_of_getElem? (i := 21) rfl)) (by decide) (by decide)) (g := (mkF m 28 #[.val (.ref a1), .val (.int p2), .val (.int p3), .val (.int p4), .val (.int p5), .val (.int p6)] [(.int p6), (.int p5), (.int p4), (.int p3), (.int p2), (.int (own_ab f n (n + 1)))])) rfl (by rw [hml]; rfl) (argsL := [(.int p2), (.int p3), (.int p4), (.int p5), (.int p6)]) (rest := [(.int (own_ab f n (n + 1)))]) (lenOf own_pd5 rfl) rfl (by show 2 * 0 + _ ≤ _; exact Nat.le_of_eq rfl) (hb hby d4_28) (fun _ _ => ⟨rfl, e128, (by decide : 0 + 0 ≤ _), (by decide : 0 + 0 ≤ _)⟩)
      dsimp only [Pt.U, Pt.locs, Pt.cells, Pt.slots] at X131 l131 y131 z131 st131 hQ131
      subst l131 y131 z131
      obtain ⟨rfl, N131q, e131⟩ := hQ131
      have N131 := Fr.app N128 N131q
      have k132 : ∀ tg, Steps p.tables e below (T131.setTop (mkF m 31 #[.val (.ref a1), .val (.int p2), .val (.int p3), .val (.int p4), .val (.int p5), .val (.int p6)] [(.int (own_ex p2 p3 p4 p5 p6)), (.int (own_ab f n (n + 1)))])) tg → Steps p.tables e below (s₁.setTop (entryFrame m #[(.ref a1), (.int p2), (.int p3), (.int p4), (.int p5), (.int p6)] 6)) tg := fun tg kg => k130 tg (st131 tg kg)
      have k133 : ∀ tg, Steps p.tables e below (T131.setTop (mkF m 39 #[.val (.ref a1), .val (.int p2), .val (.int p3), .val (.int p4), .val (.int p5), .val (.int p6)] [(.int (1 : Int32))])) tg → Steps p.tables e below (s₁.setTop (entryFrame m #[(.ref a1), (.int p2), (.int p3), (.int p4), (.int p5), (.int p6)] 6)) tg := fun tg kg => k132 tg (by
          show Steps p.tables e below (T131.setTop (mkF m 31 #[.val (.ref a1), .val (.int p2), .val (.int p3), .val (.int p4), .val (.int p5), .val (.int p6)] [(.int (own_ex p2 p3 p4 p5 p6)), (.int (own_ab f n (n + 1)))])) _
          refine XS.icmpNo X131.here hx rfl (hb hby d4_31) rfl (teq (own_exp hxn hp hq hr hs hb0)).2 ?_
          show Steps p.tables e below (T131.setTop (mkF m 34 #[.val (.ref a1), .val (.int p2), .val (.int p3), .val (.int p4), .val (.int p5), .val (.int p6)] [])) _
          refine XS.iconst X131.here hx rfl (hb hby d4_34) ?_
          show Steps p.tables e below (T131.setTop (mkF m 35 #[.val (.ref a1), .val (.int p2), .val (.int p3), .val (.int p4), .val (.int p5), .val (.int p6)] [(.int (1 : Int32))])) _
          refine XS.goto X131.here hx rfl (pc0 := 35) (pc' := 39) rfl (hb hby d4_35) (by decide) (by decide) ?_
          exact kg)
      obtain ⟨fs, hr, hrun, hended, hW, hsame⟩ := X131.leave (v := some (.int (1 : Int32))) (fun h => by rw [Bd.returns] at h; cases h)
      refine ⟨_, _, k133 _ ?_, hrun, hended, _, _, rfl, ?_, ⟨_, rfl⟩, hW, hsame.mono (by decide) (by decide)⟩
      · show Steps p.tables e below (T131.setTop (mkF m 39 #[.val (.ref a1), .val (.int p2), .val (.int p3), .val (.int p4), .val (.int p5), .val (.int p6)] [(.int (1 : Int32))])) _
        exact retN X131 hx (t := .boolean) Bd.returns (by simp) (hb hby d4_39) hr
      · show Q4 _ _ _ _ T131.heap _
        rw [e131]
        exact ⟨rfl, N131, rfl⟩
    · have k134 : ∀ tg, Steps p.tables e below (s₁.setTop (mkF m 11 #[.val (.ref a1), .val (.int p2), .val (.int p3), .val (.int p4), .val (.int p5), .val (.int p6)] [])) tg → Steps p.tables e below (s₁.setTop (entryFrame m #[(.ref a1), (.int p2), (.int p3), (.int p4), (.int p5), (.int p6)] 6)) tg := fun tg kg => k124 tg (by
          show Steps p.tables e below (s₁.setTop (mkF m 8 #[.val (.ref a1), .val (.int p2), .val (.int p3), .val (.int p4), .val (.int p5), .val (.int p6)] [(.int (256 : Int32)), (.int p2)])) _
          refine XS.icmpNo X0.here hx rfl (hb hby d4_8) rfl (flt hc125).1 ?_
          exact kg)
      have k135 : ∀ tg, Steps p.tables e below (s₁.setTop (mkF m 12 #[.val (.ref a1), .val (.int p2), .val (.int p3), .val (.int p4), .val (.int p5), .val (.int p6)] [(.int (1 : Int32))])) tg → Steps p.tables e below (s₁.setTop (entryFrame m #[(.ref a1), (.int p2), (.int p3), (.int p4), (.int p5), (.int p6)] 6)) tg := fun tg kg => k134 tg (by
          show Steps p.tables e below (s₁.setTop (mkF m 11 #[.val (.ref a1), .val (.int p2), .val (.int p3), .val (.int p4), .val (.int p5), .val (.int p6)] [])) _
          refine XS.iconst X0.here hx rfl (hb hby d4_11) ?_
          exact kg)
      obtain ⟨fs, hr, hrun, hended, hW, hsame⟩ := X0.leave (v := some (.int (1 : Int32))) (fun h => by rw [Bd.returns] at h; cases h)
      refine ⟨_, _, k135 _ ?_, hrun, hended, _, _, rfl, ?_, ⟨_, rfl⟩, hW, hsame.mono (by decide) (by decide)⟩
      · show Steps p.tables e below (s₁.setTop (mkF m 12 #[.val (.ref a1), .val (.int p2), .val (.int p3), .val (.int p4), .val (.int p5), .val (.int p6)] [(.int (1 : Int32))])) _
        exact retN X0 hx (t := .boolean) Bd.returns (by simp) (hb hby d4_12) hr
      · show Q4 _ _ _ _ s₁.heap _
        rw [e0]
        exact ⟨rfl, N0, rfl⟩
theorem pn_0 : plainName "com/example/opword/opword/dex/TakenBytesTakePinLaw" = true := by first | (simp [plainName, overriddenIn]; done) | decide +kernel
theorem ef_0 (m : MethodId) (x0 : Int32) (x1 : Int32) (x2 : Int32) (x3 : Int32) (x4 : Int32) (x5 : Int32) : entryFrame m #[(.int x0), (.int x1), (.int x2), (.int x3), (.int x4), (.int x5)] maxLocals = mkF m 0 #[.val (.int x0), .val (.int x1), .val (.int x2), .val (.int x3), .val (.int x4), .val (.int x5), .unset, .unset, .unset, .unset, .unset, .unset, .unset, .unset] [] := by first | (simp [entryFrame, mkF, argsToLocals, Value.category, maxLocals]; done) | rfl
def Q0 (Z : State) (p1 p2 p3 p4 p5 p6 : Int32) (h0 : Heap) (n0 : Nat) (v : Option Value) (h : Heap) (L : List Loc) : Prop := v = some (.int 1) ∧ Fr n0 L
set_option maxRecDepth 65536 in
set_option maxHeartbeats 40000000 in
theorem rm0 (l : Launch) (Z : State) (a0 : Array Value) (hw : ∀ d ∈ tables_1, d.before a0 Z = true) (ws : List Jvm.Cond) (p1 : Int32) (p2 : Int32) (p3 : Int32) (p4 : Int32) (p5 : Int32) (p6 : Int32)  (h0 : Heap) (n0 : Nat) (Z0 : n0 ≤ h0.size)  :
    MetFree l x (head1 (Jvm.Cond.code x code maxLocals ret :: ws) room_1) (fun a U => a = #[(.int p1), (.int p2), (.int p3), (.int p4), (.int p5), (.int p6)] ∧ Z.Warmed39 U.vm ∧ U.heap = h0) (fun _ _ _ _ _ => True) (fun _ U o U' => ∃ v L, o = .returned v ∧ Q0 Z p1 p2 p3 p4 p5 p6 h0 n0 v U'.heap L ∧ FrameEnd U o U' L room_1.cells room_1.slots) := by
  refine MetFree.of_bodySF (plainFor_of_name pn_0) hisR ?_
  intro p e s m args below meth c s₁ Bd hml0 hP hK
  obtain ⟨rfl, hZ, hh⟩ := hP
  have hx := Bd.exec
  have hby := Bd.bytes
  have hml : c.maxLocals = 14 := hml0
  have hown : s.vm.findClass "com/example/opword/opword/dex/TakenBytesTakePinLaw" = some m.cls := findClass_of_methodNamed Bd.named
  have hnm := (name_of_methodNamed Bd.named Bd.method).1
  have X0 : Stand p l e room_1 s m #[(.int p1), (.int p2), (.int p3), (.int p4), (.int p5), (.int p6)] below meth c s₁ [] 0 0 := Stand.of_body Bd
  have e0 : s₁.heap = h0 := by rw [← hh, Bd.state]; rfl
  have N0 := Fr.nil n0
  have pre0 : ∀ tg, Steps p.tables e below (s₁.setTop (mkF m 0 #[.val (.int p1), .val (.int p2), .val (.int p3), .val (.int p4), .val (.int p5), .val (.int p6), .unset, .unset, .unset, .unset, .unset, .unset, .unset, .unset] [])) tg → Steps p.tables e below (s₁.setTop (entryFrame m #[(.int p1), (.int p2), (.int p3), (.int p4), (.int p5), (.int p6)] maxLocals)) tg := fun tg kg => castTop (ef_0 m p1 p2 p3 p4 p5 p6) kg
  have k136 : ∀ tg, Steps p.tables e below (s₁.setTop (mkF m 62 #[.val (.int p1), .val (.int p2), .val (.int p3), .val (.int p4), .val (.int p5), .val (.int p6), .val (.int ((p1 &&& (2147483647 : Int32)) % (257 : Int32))), .val (.int ((p2 &&& (2147483647 : Int32)) % (257 : Int32))), .val (.int ((p3 &&& (2147483647 : Int32)) % (257 : Int32))), .val (.int ((p4 &&& (2147483647 : Int32)) % (257 : Int32))), .val (.int ((p5 &&& (2147483647 : Int32)) % (256 : Int32))), .val (.int ((p6 &&& (2147483647 : Int32)) % (256 : Int32))), .unset, .unset] [])) tg → Steps p.tables e below (s₁.setTop (entryFrame m #[(.int p1), (.int p2), (.int p3), (.int p4), (.int p5), (.int p6)] maxLocals)) tg := fun tg kg => pre0 tg (by
      show Steps p.tables e below (s₁.setTop (mkF m 0 #[.val (.int p1), .val (.int p2), .val (.int p3), .val (.int p4), .val (.int p5), .val (.int p6), .unset, .unset, .unset, .unset, .unset, .unset, .unset, .unset] [])) _
      refine XS.iloadN X0.here hx rfl (hb hby at_0) rfl ?_
      show Steps p.tables e below (s₁.setTop (mkF m 1 #[.val (.int p1), .val (.int p2), .val (.int p3), .val (.int p4), .val (.int p5), .val (.int p6), .unset, .unset, .unset, .unset, .unset, .unset, .unset, .unset] [(.int p1)])) _
      refine X0.ldcInt hx hown (mvT hZ (hw _ (List.mem_of_getElem? (i := 0) rfl))) (g := (mkF m 1 #[.val (.int p1), .val (.int p2), .val (.int p3), .val (.int p4), .val (.int p5), .val (.int p6), .unset, .unset, .unset, .unset, .unset, .unset, .unset, .unset] [(.int p1)])) rfl (hb hby at_1) _ ?_
      show Steps p.tables e below (s₁.setTop (mkF m 3 #[.val (.int p1), .val (.int p2), .val (.int p3), .val (.int p4), .val (.int p5), .val (.int p6), .unset, .unset, .unset, .unset, .unset, .unset, .unset, .unset] [(.int (2147483647 : Int32)), (.int p1)])) _
      refine XS.iand X0.here hx rfl (hb hby at_3) rfl ?_
      show Steps p.tables e below (s₁.setTop (mkF m 4 #[.val (.int p1), .val (.int p2), .val (.int p3), .val (.int p4), .val (.int p5), .val (.int p6), .unset, .unset, .unset, .unset, .unset, .unset, .unset, .unset] [(.int (p1 &&& (2147483647 : Int32)))])) _
      refine XS.sipush X0.here hx rfl (hb hby at_4) ?_
      show Steps p.tables e below (s₁.setTop (mkF m 7 #[.val (.int p1), .val (.int p2), .val (.int p3), .val (.int p4), .val (.int p5), .val (.int p6), .unset, .unset, .unset, .unset, .unset, .unset, .unset, .unset] [(.int (257 : Int32)), (.int (p1 &&& (2147483647 : Int32)))])) _
      refine iremM X0 hx rfl (hb hby at_7) rfl (by decide) ?_
      show Steps p.tables e below (s₁.setTop (mkF m 8 #[.val (.int p1), .val (.int p2), .val (.int p3), .val (.int p4), .val (.int p5), .val (.int p6), .unset, .unset, .unset, .unset, .unset, .unset, .unset, .unset] [(.int ((p1 &&& (2147483647 : Int32)) % (257 : Int32)))])) _
      refine XS.istore X0.here hx rfl (hb hby at_8) rfl (l' := #[.val (.int p1), .val (.int p2), .val (.int p3), .val (.int p4), .val (.int p5), .val (.int p6), .val (.int ((p1 &&& (2147483647 : Int32)) % (257 : Int32))), .unset, .unset, .unset, .unset, .unset, .unset, .unset]) rfl ?_
      show Steps p.tables e below (s₁.setTop (mkF m 10 #[.val (.int p1), .val (.int p2), .val (.int p3), .val (.int p4), .val (.int p5), .val (.int p6), .val (.int ((p1 &&& (2147483647 : Int32)) % (257 : Int32))), .unset, .unset, .unset, .unset, .unset, .unset, .unset] [])) _
      refine XS.iloadN X0.here hx rfl (hb hby at_10) rfl ?_
      show Steps p.tables e below (s₁.setTop (mkF m 11 #[.val (.int p1), .val (.int p2), .val (.int p3), .val (.int p4), .val (.int p5), .val (.int p6), .val (.int ((p1 &&& (2147483647 : Int32)) % (257 : Int32))), .unset, .unset, .unset, .unset, .unset, .unset, .unset] [(.int p2)])) _
      refine X0.ldcInt hx hown (mvT hZ (hw _ (List.mem_of_getElem? (i := 0) rfl))) (g := (mkF m 11 #[.val (.int p1), .val (.int p2), .val (.int p3), .val (.int p4), .val (.int p5), .val (.int p6), .val (.int ((p1 &&& (2147483647 : Int32)) % (257 : Int32))), .unset, .unset, .unset, .unset, .unset, .unset, .unset] [(.int p2)])) rfl (hb hby at_11) _ ?_
      show Steps p.tables e below (s₁.setTop (mkF m 13 #[.val (.int p1), .val (.int p2), .val (.int p3), .val (.int p4), .val (.int p5), .val (.int p6), .val (.int ((p1 &&& (2147483647 : Int32)) % (257 : Int32))), .unset, .unset, .unset, .unset, .unset, .unset, .unset] [(.int (2147483647 : Int32)), (.int p2)])) _
      refine XS.iand X0.here hx rfl (hb hby at_13) rfl ?_
      show Steps p.tables e below (s₁.setTop (mkF m 14 #[.val (.int p1), .val (.int p2), .val (.int p3), .val (.int p4), .val (.int p5), .val (.int p6), .val (.int ((p1 &&& (2147483647 : Int32)) % (257 : Int32))), .unset, .unset, .unset, .unset, .unset, .unset, .unset] [(.int (p2 &&& (2147483647 : Int32)))])) _
      refine XS.sipush X0.here hx rfl (hb hby at_14) ?_
      show Steps p.tables e below (s₁.setTop (mkF m 17 #[.val (.int p1), .val (.int p2), .val (.int p3), .val (.int p4), .val (.int p5), .val (.int p6), .val (.int ((p1 &&& (2147483647 : Int32)) % (257 : Int32))), .unset, .unset, .unset, .unset, .unset, .unset, .unset] [(.int (257 : Int32)), (.int (p2 &&& (2147483647 : Int32)))])) _
      refine iremM X0 hx rfl (hb hby at_17) rfl (by decide) ?_
      show Steps p.tables e below (s₁.setTop (mkF m 18 #[.val (.int p1), .val (.int p2), .val (.int p3), .val (.int p4), .val (.int p5), .val (.int p6), .val (.int ((p1 &&& (2147483647 : Int32)) % (257 : Int32))), .unset, .unset, .unset, .unset, .unset, .unset, .unset] [(.int ((p2 &&& (2147483647 : Int32)) % (257 : Int32)))])) _
      refine XS.istore X0.here hx rfl (hb hby at_18) rfl (l' := #[.val (.int p1), .val (.int p2), .val (.int p3), .val (.int p4), .val (.int p5), .val (.int p6), .val (.int ((p1 &&& (2147483647 : Int32)) % (257 : Int32))), .val (.int ((p2 &&& (2147483647 : Int32)) % (257 : Int32))), .unset, .unset, .unset, .unset, .unset, .unset]) rfl ?_
      show Steps p.tables e below (s₁.setTop (mkF m 20 #[.val (.int p1), .val (.int p2), .val (.int p3), .val (.int p4), .val (.int p5), .val (.int p6), .val (.int ((p1 &&& (2147483647 : Int32)) % (257 : Int32))), .val (.int ((p2 &&& (2147483647 : Int32)) % (257 : Int32))), .unset, .unset, .unset, .unset, .unset, .unset] [])) _
      refine XS.iloadN X0.here hx rfl (hb hby at_20) rfl ?_
      show Steps p.tables e below (s₁.setTop (mkF m 21 #[.val (.int p1), .val (.int p2), .val (.int p3), .val (.int p4), .val (.int p5), .val (.int p6), .val (.int ((p1 &&& (2147483647 : Int32)) % (257 : Int32))), .val (.int ((p2 &&& (2147483647 : Int32)) % (257 : Int32))), .unset, .unset, .unset, .unset, .unset, .unset] [(.int p3)])) _
      refine X0.ldcInt hx hown (mvT hZ (hw _ (List.mem_of_getElem? (i := 0) rfl))) (g := (mkF m 21 #[.val (.int p1), .val (.int p2), .val (.int p3), .val (.int p4), .val (.int p5), .val (.int p6), .val (.int ((p1 &&& (2147483647 : Int32)) % (257 : Int32))), .val (.int ((p2 &&& (2147483647 : Int32)) % (257 : Int32))), .unset, .unset, .unset, .unset, .unset, .unset] [(.int p3)])) rfl (hb hby at_21) _ ?_
      show Steps p.tables e below (s₁.setTop (mkF m 23 #[.val (.int p1), .val (.int p2), .val (.int p3), .val (.int p4), .val (.int p5), .val (.int p6), .val (.int ((p1 &&& (2147483647 : Int32)) % (257 : Int32))), .val (.int ((p2 &&& (2147483647 : Int32)) % (257 : Int32))), .unset, .unset, .unset, .unset, .unset, .unset] [(.int (2147483647 : Int32)), (.int p3)])) _
      refine XS.iand X0.here hx rfl (hb hby at_23) rfl ?_
      show Steps p.tables e below (s₁.setTop (mkF m 24 #[.val (.int p1), .val (.int p2), .val (.int p3), .val (.int p4), .val (.int p5), .val (.int p6), .val (.int ((p1 &&& (2147483647 : Int32)) % (257 : Int32))), .val (.int ((p2 &&& (2147483647 : Int32)) % (257 : Int32))), .unset, .unset, .unset, .unset, .unset, .unset] [(.int (p3 &&& (2147483647 : Int32)))])) _
      refine XS.sipush X0.here hx rfl (hb hby at_24) ?_
      show Steps p.tables e below (s₁.setTop (mkF m 27 #[.val (.int p1), .val (.int p2), .val (.int p3), .val (.int p4), .val (.int p5), .val (.int p6), .val (.int ((p1 &&& (2147483647 : Int32)) % (257 : Int32))), .val (.int ((p2 &&& (2147483647 : Int32)) % (257 : Int32))), .unset, .unset, .unset, .unset, .unset, .unset] [(.int (257 : Int32)), (.int (p3 &&& (2147483647 : Int32)))])) _
      refine iremM X0 hx rfl (hb hby at_27) rfl (by decide) ?_
      show Steps p.tables e below (s₁.setTop (mkF m 28 #[.val (.int p1), .val (.int p2), .val (.int p3), .val (.int p4), .val (.int p5), .val (.int p6), .val (.int ((p1 &&& (2147483647 : Int32)) % (257 : Int32))), .val (.int ((p2 &&& (2147483647 : Int32)) % (257 : Int32))), .unset, .unset, .unset, .unset, .unset, .unset] [(.int ((p3 &&& (2147483647 : Int32)) % (257 : Int32)))])) _
      refine XS.istore X0.here hx rfl (hb hby at_28) rfl (l' := #[.val (.int p1), .val (.int p2), .val (.int p3), .val (.int p4), .val (.int p5), .val (.int p6), .val (.int ((p1 &&& (2147483647 : Int32)) % (257 : Int32))), .val (.int ((p2 &&& (2147483647 : Int32)) % (257 : Int32))), .val (.int ((p3 &&& (2147483647 : Int32)) % (257 : Int32))), .unset, .unset, .unset, .unset, .unset]) rfl ?_
      show Steps p.tables e below (s₁.setTop (mkF m 30 #[.val (.int p1), .val (.int p2), .val (.int p3), .val (.int p4), .val (.int p5), .val (.int p6), .val (.int ((p1 &&& (2147483647 : Int32)) % (257 : Int32))), .val (.int ((p2 &&& (2147483647 : Int32)) % (257 : Int32))), .val (.int ((p3 &&& (2147483647 : Int32)) % (257 : Int32))), .unset, .unset, .unset, .unset, .unset] [])) _
      refine XS.iloadN X0.here hx rfl (hb hby at_30) rfl ?_
      show Steps p.tables e below (s₁.setTop (mkF m 31 #[.val (.int p1), .val (.int p2), .val (.int p3), .val (.int p4), .val (.int p5), .val (.int p6), .val (.int ((p1 &&& (2147483647 : Int32)) % (257 : Int32))), .val (.int ((p2 &&& (2147483647 : Int32)) % (257 : Int32))), .val (.int ((p3 &&& (2147483647 : Int32)) % (257 : Int32))), .unset, .unset, .unset, .unset, .unset] [(.int p4)])) _
      refine X0.ldcInt hx hown (mvT hZ (hw _ (List.mem_of_getElem? (i := 0) rfl))) (g := (mkF m 31 #[.val (.int p1), .val (.int p2), .val (.int p3), .val (.int p4), .val (.int p5), .val (.int p6), .val (.int ((p1 &&& (2147483647 : Int32)) % (257 : Int32))), .val (.int ((p2 &&& (2147483647 : Int32)) % (257 : Int32))), .val (.int ((p3 &&& (2147483647 : Int32)) % (257 : Int32))), .unset, .unset, .unset, .unset, .unset] [(.int p4)])) rfl (hb hby at_31) _ ?_
      show Steps p.tables e below (s₁.setTop (mkF m 33 #[.val (.int p1), .val (.int p2), .val (.int p3), .val (.int p4), .val (.int p5), .val (.int p6), .val (.int ((p1 &&& (2147483647 : Int32)) % (257 : Int32))), .val (.int ((p2 &&& (2147483647 : Int32)) % (257 : Int32))), .val (.int ((p3 &&& (2147483647 : Int32)) % (257 : Int32))), .unset, .unset, .unset, .unset, .unset] [(.int (2147483647 : Int32)), (.int p4)])) _
      refine XS.iand X0.here hx rfl (hb hby at_33) rfl ?_
      show Steps p.tables e below (s₁.setTop (mkF m 34 #[.val (.int p1), .val (.int p2), .val (.int p3), .val (.int p4), .val (.int p5), .val (.int p6), .val (.int ((p1 &&& (2147483647 : Int32)) % (257 : Int32))), .val (.int ((p2 &&& (2147483647 : Int32)) % (257 : Int32))), .val (.int ((p3 &&& (2147483647 : Int32)) % (257 : Int32))), .unset, .unset, .unset, .unset, .unset] [(.int (p4 &&& (2147483647 : Int32)))])) _
      refine XS.sipush X0.here hx rfl (hb hby at_34) ?_
      show Steps p.tables e below (s₁.setTop (mkF m 37 #[.val (.int p1), .val (.int p2), .val (.int p3), .val (.int p4), .val (.int p5), .val (.int p6), .val (.int ((p1 &&& (2147483647 : Int32)) % (257 : Int32))), .val (.int ((p2 &&& (2147483647 : Int32)) % (257 : Int32))), .val (.int ((p3 &&& (2147483647 : Int32)) % (257 : Int32))), .unset, .unset, .unset, .unset, .unset] [(.int (257 : Int32)), (.int (p4 &&& (2147483647 : Int32)))])) _
      refine iremM X0 hx rfl (hb hby at_37) rfl (by decide) ?_
      show Steps p.tables e below (s₁.setTop (mkF m 38 #[.val (.int p1), .val (.int p2), .val (.int p3), .val (.int p4), .val (.int p5), .val (.int p6), .val (.int ((p1 &&& (2147483647 : Int32)) % (257 : Int32))), .val (.int ((p2 &&& (2147483647 : Int32)) % (257 : Int32))), .val (.int ((p3 &&& (2147483647 : Int32)) % (257 : Int32))), .unset, .unset, .unset, .unset, .unset] [(.int ((p4 &&& (2147483647 : Int32)) % (257 : Int32)))])) _
      refine XS.istore X0.here hx rfl (hb hby at_38) rfl (l' := #[.val (.int p1), .val (.int p2), .val (.int p3), .val (.int p4), .val (.int p5), .val (.int p6), .val (.int ((p1 &&& (2147483647 : Int32)) % (257 : Int32))), .val (.int ((p2 &&& (2147483647 : Int32)) % (257 : Int32))), .val (.int ((p3 &&& (2147483647 : Int32)) % (257 : Int32))), .val (.int ((p4 &&& (2147483647 : Int32)) % (257 : Int32))), .unset, .unset, .unset, .unset]) rfl ?_
      show Steps p.tables e below (s₁.setTop (mkF m 40 #[.val (.int p1), .val (.int p2), .val (.int p3), .val (.int p4), .val (.int p5), .val (.int p6), .val (.int ((p1 &&& (2147483647 : Int32)) % (257 : Int32))), .val (.int ((p2 &&& (2147483647 : Int32)) % (257 : Int32))), .val (.int ((p3 &&& (2147483647 : Int32)) % (257 : Int32))), .val (.int ((p4 &&& (2147483647 : Int32)) % (257 : Int32))), .unset, .unset, .unset, .unset] [])) _
      refine XS.iload X0.here hx rfl (hb hby at_40) rfl ?_
      show Steps p.tables e below (s₁.setTop (mkF m 42 #[.val (.int p1), .val (.int p2), .val (.int p3), .val (.int p4), .val (.int p5), .val (.int p6), .val (.int ((p1 &&& (2147483647 : Int32)) % (257 : Int32))), .val (.int ((p2 &&& (2147483647 : Int32)) % (257 : Int32))), .val (.int ((p3 &&& (2147483647 : Int32)) % (257 : Int32))), .val (.int ((p4 &&& (2147483647 : Int32)) % (257 : Int32))), .unset, .unset, .unset, .unset] [(.int p5)])) _
      refine X0.ldcInt hx hown (mvT hZ (hw _ (List.mem_of_getElem? (i := 0) rfl))) (g := (mkF m 42 #[.val (.int p1), .val (.int p2), .val (.int p3), .val (.int p4), .val (.int p5), .val (.int p6), .val (.int ((p1 &&& (2147483647 : Int32)) % (257 : Int32))), .val (.int ((p2 &&& (2147483647 : Int32)) % (257 : Int32))), .val (.int ((p3 &&& (2147483647 : Int32)) % (257 : Int32))), .val (.int ((p4 &&& (2147483647 : Int32)) % (257 : Int32))), .unset, .unset, .unset, .unset] [(.int p5)])) rfl (hb hby at_42) _ ?_
      show Steps p.tables e below (s₁.setTop (mkF m 44 #[.val (.int p1), .val (.int p2), .val (.int p3), .val (.int p4), .val (.int p5), .val (.int p6), .val (.int ((p1 &&& (2147483647 : Int32)) % (257 : Int32))), .val (.int ((p2 &&& (2147483647 : Int32)) % (257 : Int32))), .val (.int ((p3 &&& (2147483647 : Int32)) % (257 : Int32))), .val (.int ((p4 &&& (2147483647 : Int32)) % (257 : Int32))), .unset, .unset, .unset, .unset] [(.int (2147483647 : Int32)), (.int p5)])) _
      refine XS.iand X0.here hx rfl (hb hby at_44) rfl ?_
      show Steps p.tables e below (s₁.setTop (mkF m 45 #[.val (.int p1), .val (.int p2), .val (.int p3), .val (.int p4), .val (.int p5), .val (.int p6), .val (.int ((p1 &&& (2147483647 : Int32)) % (257 : Int32))), .val (.int ((p2 &&& (2147483647 : Int32)) % (257 : Int32))), .val (.int ((p3 &&& (2147483647 : Int32)) % (257 : Int32))), .val (.int ((p4 &&& (2147483647 : Int32)) % (257 : Int32))), .unset, .unset, .unset, .unset] [(.int (p5 &&& (2147483647 : Int32)))])) _
      refine XS.sipush X0.here hx rfl (hb hby at_45) ?_
      show Steps p.tables e below (s₁.setTop (mkF m 48 #[.val (.int p1), .val (.int p2), .val (.int p3), .val (.int p4), .val (.int p5), .val (.int p6), .val (.int ((p1 &&& (2147483647 : Int32)) % (257 : Int32))), .val (.int ((p2 &&& (2147483647 : Int32)) % (257 : Int32))), .val (.int ((p3 &&& (2147483647 : Int32)) % (257 : Int32))), .val (.int ((p4 &&& (2147483647 : Int32)) % (257 : Int32))), .unset, .unset, .unset, .unset] [(.int (256 : Int32)), (.int (p5 &&& (2147483647 : Int32)))])) _
      refine iremM X0 hx rfl (hb hby at_48) rfl (by decide) ?_
      show Steps p.tables e below (s₁.setTop (mkF m 49 #[.val (.int p1), .val (.int p2), .val (.int p3), .val (.int p4), .val (.int p5), .val (.int p6), .val (.int ((p1 &&& (2147483647 : Int32)) % (257 : Int32))), .val (.int ((p2 &&& (2147483647 : Int32)) % (257 : Int32))), .val (.int ((p3 &&& (2147483647 : Int32)) % (257 : Int32))), .val (.int ((p4 &&& (2147483647 : Int32)) % (257 : Int32))), .unset, .unset, .unset, .unset] [(.int ((p5 &&& (2147483647 : Int32)) % (256 : Int32)))])) _
      refine XS.istore X0.here hx rfl (hb hby at_49) rfl (l' := #[.val (.int p1), .val (.int p2), .val (.int p3), .val (.int p4), .val (.int p5), .val (.int p6), .val (.int ((p1 &&& (2147483647 : Int32)) % (257 : Int32))), .val (.int ((p2 &&& (2147483647 : Int32)) % (257 : Int32))), .val (.int ((p3 &&& (2147483647 : Int32)) % (257 : Int32))), .val (.int ((p4 &&& (2147483647 : Int32)) % (257 : Int32))), .val (.int ((p5 &&& (2147483647 : Int32)) % (256 : Int32))), .unset, .unset, .unset]) rfl ?_
      show Steps p.tables e below (s₁.setTop (mkF m 51 #[.val (.int p1), .val (.int p2), .val (.int p3), .val (.int p4), .val (.int p5), .val (.int p6), .val (.int ((p1 &&& (2147483647 : Int32)) % (257 : Int32))), .val (.int ((p2 &&& (2147483647 : Int32)) % (257 : Int32))), .val (.int ((p3 &&& (2147483647 : Int32)) % (257 : Int32))), .val (.int ((p4 &&& (2147483647 : Int32)) % (257 : Int32))), .val (.int ((p5 &&& (2147483647 : Int32)) % (256 : Int32))), .unset, .unset, .unset] [])) _
      refine XS.iload X0.here hx rfl (hb hby at_51) rfl ?_
      show Steps p.tables e below (s₁.setTop (mkF m 53 #[.val (.int p1), .val (.int p2), .val (.int p3), .val (.int p4), .val (.int p5), .val (.int p6), .val (.int ((p1 &&& (2147483647 : Int32)) % (257 : Int32))), .val (.int ((p2 &&& (2147483647 : Int32)) % (257 : Int32))), .val (.int ((p3 &&& (2147483647 : Int32)) % (257 : Int32))), .val (.int ((p4 &&& (2147483647 : Int32)) % (257 : Int32))), .val (.int ((p5 &&& (2147483647 : Int32)) % (256 : Int32))), .unset, .unset, .unset] [(.int p6)])) _
      refine X0.ldcInt hx hown (mvT hZ (hw _ (List.mem_of_getElem? (i := 0) rfl))) (g := (mkF m 53 #[.val (.int p1), .val (.int p2), .val (.int p3), .val (.int p4), .val (.int p5), .val (.int p6), .val (.int ((p1 &&& (2147483647 : Int32)) % (257 : Int32))), .val (.int ((p2 &&& (2147483647 : Int32)) % (257 : Int32))), .val (.int ((p3 &&& (2147483647 : Int32)) % (257 : Int32))), .val (.int ((p4 &&& (2147483647 : Int32)) % (257 : Int32))), .val (.int ((p5 &&& (2147483647 : Int32)) % (256 : Int32))), .unset, .unset, .unset] [(.int p6)])) rfl (hb hby at_53) _ ?_
      show Steps p.tables e below (s₁.setTop (mkF m 55 #[.val (.int p1), .val (.int p2), .val (.int p3), .val (.int p4), .val (.int p5), .val (.int p6), .val (.int ((p1 &&& (2147483647 : Int32)) % (257 : Int32))), .val (.int ((p2 &&& (2147483647 : Int32)) % (257 : Int32))), .val (.int ((p3 &&& (2147483647 : Int32)) % (257 : Int32))), .val (.int ((p4 &&& (2147483647 : Int32)) % (257 : Int32))), .val (.int ((p5 &&& (2147483647 : Int32)) % (256 : Int32))), .unset, .unset, .unset] [(.int (2147483647 : Int32)), (.int p6)])) _
      refine XS.iand X0.here hx rfl (hb hby at_55) rfl ?_
      show Steps p.tables e below (s₁.setTop (mkF m 56 #[.val (.int p1), .val (.int p2), .val (.int p3), .val (.int p4), .val (.int p5), .val (.int p6), .val (.int ((p1 &&& (2147483647 : Int32)) % (257 : Int32))), .val (.int ((p2 &&& (2147483647 : Int32)) % (257 : Int32))), .val (.int ((p3 &&& (2147483647 : Int32)) % (257 : Int32))), .val (.int ((p4 &&& (2147483647 : Int32)) % (257 : Int32))), .val (.int ((p5 &&& (2147483647 : Int32)) % (256 : Int32))), .unset, .unset, .unset] [(.int (p6 &&& (2147483647 : Int32)))])) _
      refine XS.sipush X0.here hx rfl (hb hby at_56) ?_
      show Steps p.tables e below (s₁.setTop (mkF m 59 #[.val (.int p1), .val (.int p2), .val (.int p3), .val (.int p4), .val (.int p5), .val (.int p6), .val (.int ((p1 &&& (2147483647 : Int32)) % (257 : Int32))), .val (.int ((p2 &&& (2147483647 : Int32)) % (257 : Int32))), .val (.int ((p3 &&& (2147483647 : Int32)) % (257 : Int32))), .val (.int ((p4 &&& (2147483647 : Int32)) % (257 : Int32))), .val (.int ((p5 &&& (2147483647 : Int32)) % (256 : Int32))), .unset, .unset, .unset] [(.int (256 : Int32)), (.int (p6 &&& (2147483647 : Int32)))])) _
      refine iremM X0 hx rfl (hb hby at_59) rfl (by decide) ?_
      show Steps p.tables e below (s₁.setTop (mkF m 60 #[.val (.int p1), .val (.int p2), .val (.int p3), .val (.int p4), .val (.int p5), .val (.int p6), .val (.int ((p1 &&& (2147483647 : Int32)) % (257 : Int32))), .val (.int ((p2 &&& (2147483647 : Int32)) % (257 : Int32))), .val (.int ((p3 &&& (2147483647 : Int32)) % (257 : Int32))), .val (.int ((p4 &&& (2147483647 : Int32)) % (257 : Int32))), .val (.int ((p5 &&& (2147483647 : Int32)) % (256 : Int32))), .unset, .unset, .unset] [(.int ((p6 &&& (2147483647 : Int32)) % (256 : Int32)))])) _
      refine XS.istore X0.here hx rfl (hb hby at_60) rfl (l' := #[.val (.int p1), .val (.int p2), .val (.int p3), .val (.int p4), .val (.int p5), .val (.int p6), .val (.int ((p1 &&& (2147483647 : Int32)) % (257 : Int32))), .val (.int ((p2 &&& (2147483647 : Int32)) % (257 : Int32))), .val (.int ((p3 &&& (2147483647 : Int32)) % (257 : Int32))), .val (.int ((p4 &&& (2147483647 : Int32)) % (257 : Int32))), .val (.int ((p5 &&& (2147483647 : Int32)) % (256 : Int32))), .val (.int ((p6 &&& (2147483647 : Int32)) % (256 : Int32))), .unset, .unset]) rfl ?_
      exact kg)
  obtain ⟨a, hna, ia⟩ := own_md p1 (257 : Int32) 257 (by decide) (by decide)
  obtain ⟨x1, ex1⟩ : ∃ z, z = ((p1 &&& (2147483647 : Int32)) % (257 : Int32)) := ⟨_, rfl⟩
  rw [← ex1] at k136
  rw [← ex1] at ia
  obtain ⟨b, hnb, ib⟩ := own_md p2 (257 : Int32) 257 (by decide) (by decide)
  obtain ⟨x2, ex2⟩ : ∃ z, z = ((p2 &&& (2147483647 : Int32)) % (257 : Int32)) := ⟨_, rfl⟩
  rw [← ex2] at k136
  rw [← ex2] at ib
  obtain ⟨c1, hnc1, ic1⟩ := own_md p3 (257 : Int32) 257 (by decide) (by decide)
  obtain ⟨x3, ex3⟩ : ∃ z, z = ((p3 &&& (2147483647 : Int32)) % (257 : Int32)) := ⟨_, rfl⟩
  rw [← ex3] at k136
  rw [← ex3] at ic1
  obtain ⟨d, hnd, id⟩ := own_md p4 (257 : Int32) 257 (by decide) (by decide)
  obtain ⟨x4, ex4⟩ : ∃ z, z = ((p4 &&& (2147483647 : Int32)) % (257 : Int32)) := ⟨_, rfl⟩
  rw [← ex4] at k136
  rw [← ex4] at id
  obtain ⟨x5, ex5⟩ : ∃ z, z = ((p5 &&& (2147483647 : Int32)) % (256 : Int32)) := ⟨_, rfl⟩
  rw [← ex5] at k136
  obtain ⟨x6, ex6⟩ : ∃ z, z = ((p6 &&& (2147483647 : Int32)) % (256 : Int32)) := ⟨_, rfl⟩
  rw [← ex6] at k136
  obtain ⟨T137, h137, X137, e137, E137, A137, D137, -, st137⟩ := newO X0 hx hZ hown (hw _ (List.mem_of_getElem? (i := 1) rfl)) (hw _ (List.mem_of_getElem? (i := 2) rfl)) (hw _ (List.mem_of_getElem? (i := 3) rfl)) e0 (g := (mkF m 62 #[.val (.int p1), .val (.int p2), .val (.int p3), .val (.int p4), .val (.int p5), .val (.int p6), .val (.int x1), .val (.int x2), .val (.int x3), .val (.int x4), .val (.int x5), .val (.int x6), .unset, .unset] [])) rfl (hb hby at_62) (by decide) (by decide)
  obtain ⟨b137, g137⟩ : ∃ z, z = h0.size := ⟨_, rfl⟩
  rw [← g137] at A137 D137 st137
  have F137_words : Fld Z h137 b137 "com/example/opword/opword/dex/TakenBytes" "words" "[J" .null := D137 (Or.inr (hw _ (List.mem_of_getElem? (i := 12) rfl))) (ty := (.array .long)) (by decide)
  have k138 : ∀ tg, Steps p.tables e below (T137.setTop (mkF m 65 #[.val (.int p1), .val (.int p2), .val (.int p3), .val (.int p4), .val (.int p5), .val (.int p6), .val (.int x1), .val (.int x2), .val (.int x3), .val (.int x4), .val (.int x5), .val (.int x6), .unset, .unset] [(.ref b137)])) tg → Steps p.tables e below (s₁.setTop (entryFrame m #[(.int p1), (.int p2), (.int p3), (.int p4), (.int p5), (.int p6)] maxLocals)) tg := fun tg kg => k136 tg (st137 tg kg)
  have Za : n0 ≤ h137.size := Nat.le_trans Z0 E137.1
  have ge : n0 ≤ b137 := Nat.le_trans Z0 (Nat.le_of_eq g137.symm)
  have k139 : ∀ tg, Steps p.tables e below (T137.setTop (mkF m 69 #[.val (.int p1), .val (.int p2), .val (.int p3), .val (.int p4), .val (.int p5), .val (.int p6), .val (.int x1), .val (.int x2), .val (.int x3), .val (.int x4), .val (.int x5), .val (.int x6), .unset, .unset] [(.int (256 : Int32)), (.ref b137), (.ref b137)])) tg → Steps p.tables e below (s₁.setTop (entryFrame m #[(.int p1), (.int p2), (.int p3), (.int p4), (.int p5), (.int p6)] maxLocals)) tg := fun tg kg => k138 tg (by
      show Steps p.tables e below (T137.setTop (mkF m 65 #[.val (.int p1), .val (.int p2), .val (.int p3), .val (.int p4), .val (.int p5), .val (.int p6), .val (.int x1), .val (.int x2), .val (.int x3), .val (.int x4), .val (.int x5), .val (.int x6), .unset, .unset] [(.ref b137)])) _
      refine XS.dup X137.here hx rfl (hb hby at_65) rfl rfl ?_
      show Steps p.tables e below (T137.setTop (mkF m 66 #[.val (.int p1), .val (.int p2), .val (.int p3), .val (.int p4), .val (.int p5), .val (.int p6), .val (.int x1), .val (.int x2), .val (.int x3), .val (.int x4), .val (.int x5), .val (.int x6), .unset, .unset] [(.ref b137), (.ref b137)])) _
      refine XS.sipush X137.here hx rfl (hb hby at_66) ?_
      exact kg)
  obtain ⟨_, _, ⟨T140, L140, c140, n140⟩, -, X140, ⟨Lc140, hQ140, l140, y140, z140⟩, st140⟩ := X137.specialBack hx (y := (⟨"com/example/opword/opword/dex/TakenBytes", "<init>", "(I)V"⟩ : MethodName)) rfl hown (mvT hZ (hw _ (List.mem_of_getElem? (i := 4) rfl))) (mvT hZ (hw _ (List.mem_of_getElem? (i := 5) rfl))) (mvT hZ (hw _ (List.mem_of_getElem? (i := 6) rfl))) (by decide) (backOf (W := 1) (rm1 l Z a0 hw [] b137 (256 : Int32) 4 h137 n0 Za A137 F137_words ge (by decide +kernel) (by decide)) hZ (hw _ (List.mem_of_getElem? (i := 6) rfl)) (hw _ (List.mem_of_getElem? (i := 3) rfl)) (by decide) (by decide)) (g := (mkF m 69 #[.val (.int p1), .val (.int p2), .val (.int p3), .val (.int p4), .val (.int p5), .val (.int p6), .val (.int x1), .val (.int x2), .val (.int x3), .val (.int x4), .val (.int x5), .val (.int x6), .unset, .unset] [(.int (256 : Int32)), (.ref b137), (.ref b137)])) rfl (by rw [hml]; rfl) (Steps.refl _) (a := b137) (argsL := [(.int (256 : Int32))]) (rest := [(.ref b137)]) (lenOf own_pd0 rfl) rfl (by show 2 * 0 + _ ≤ _; exact Nat.le_of_eq rfl) (hb hby at_69) (fun _ _ => ⟨rfl, e137, (by decide : 1 + 1 ≤ _), (by decide : 1 + 5 ≤ _)⟩)
  dsimp only [Pt.U, Pt.locs, Pt.cells, Pt.slots] at X140 l140 y140 z140 st140 hQ140
  subst l140 y140 z140
  obtain ⟨rfl, N140q, Ka, Ea, bw, gb, nb, Fa, Va⟩ := hQ140
  have N140 := Fr.app N0 N140q
  have k141 : ∀ tg, Steps p.tables e below (T140.setTop (mkF m 72 #[.val (.int p1), .val (.int p2), .val (.int p3), .val (.int p4), .val (.int p5), .val (.int p6), .val (.int x1), .val (.int x2), .val (.int x3), .val (.int x4), .val (.int x5), .val (.int x6), .unset, .unset] [(.ref b137)])) tg → Steps p.tables e below (s₁.setTop (entryFrame m #[(.int p1), (.int p2), (.int p3), (.int p4), (.int p5), (.int p6)] maxLocals)) tg := fun tg kg => k139 tg (st140.trans kg)
  have Zb : n0 ≤ T140.heap.size := Nat.le_trans Za Ka.1
  have k142 : ∀ tg, Steps p.tables e below (T140.setTop (mkF m 80 #[.val (.int p1), .val (.int p2), .val (.int p3), .val (.int p4), .val (.int p5), .val (.int p6), .val (.int x1), .val (.int x2), .val (.int x3), .val (.int x4), .val (.int x5), .val (.int x6), .val (.ref b137), .unset] [(.int x2), (.int x1), (.ref b137)])) tg → Steps p.tables e below (s₁.setTop (entryFrame m #[(.int p1), (.int p2), (.int p3), (.int p4), (.int p5), (.int p6)] maxLocals)) tg := fun tg kg => k141 tg (by
      show Steps p.tables e below (T140.setTop (mkF m 72 #[.val (.int p1), .val (.int p2), .val (.int p3), .val (.int p4), .val (.int p5), .val (.int p6), .val (.int x1), .val (.int x2), .val (.int x3), .val (.int x4), .val (.int x5), .val (.int x6), .unset, .unset] [(.ref b137)])) _
      refine XS.astore X140.here hx rfl (hb hby at_72) rfl rfl (l' := #[.val (.int p1), .val (.int p2), .val (.int p3), .val (.int p4), .val (.int p5), .val (.int p6), .val (.int x1), .val (.int x2), .val (.int x3), .val (.int x4), .val (.int x5), .val (.int x6), .val (.ref b137), .unset]) rfl ?_
      show Steps p.tables e below (T140.setTop (mkF m 74 #[.val (.int p1), .val (.int p2), .val (.int p3), .val (.int p4), .val (.int p5), .val (.int p6), .val (.int x1), .val (.int x2), .val (.int x3), .val (.int x4), .val (.int x5), .val (.int x6), .val (.ref b137), .unset] [])) _
      refine XS.aload X140.here hx rfl (hb hby at_74) rfl rfl ?_
      show Steps p.tables e below (T140.setTop (mkF m 76 #[.val (.int p1), .val (.int p2), .val (.int p3), .val (.int p4), .val (.int p5), .val (.int p6), .val (.int x1), .val (.int x2), .val (.int x3), .val (.int x4), .val (.int x5), .val (.int x6), .val (.ref b137), .unset] [(.ref b137)])) _
      refine XS.iload X140.here hx rfl (hb hby at_76) rfl ?_
      show Steps p.tables e below (T140.setTop (mkF m 78 #[.val (.int p1), .val (.int p2), .val (.int p3), .val (.int p4), .val (.int p5), .val (.int p6), .val (.int x1), .val (.int x2), .val (.int x3), .val (.int x4), .val (.int x5), .val (.int x6), .val (.ref b137), .unset] [(.int x1), (.ref b137)])) _
      refine XS.iload X140.here hx rfl (hb hby at_78) rfl ?_
      exact kg)
  obtain ⟨cq143, kq143, q143a, q143b, q143c⟩ := isOf hZ rfl Ea
  obtain ⟨_, _, ⟨T143, L143, c143, n143⟩, -, X143, ⟨Lc143, hQ143, l143, y143, z143⟩, st143⟩ := X140.virtualBack hx (y := (⟨"com/example/opword/opword/dex/TakenBytes", "take", "(II)V"⟩ : MethodName)) (z := (⟨"com/example/opword/opword/dex/TakenBytes", "take", "(II)V"⟩ : MethodName)) hown (mvT hZ (hw _ (List.mem_of_getElem? (i := 13) rfl))) (mvT hZ (hw _ (List.mem_of_getElem? (i := 14) rfl))) (notFace_of_selects (args := #[]) (mvT hZ (hw _ (List.mem_of_getElem? (i := 16) rfl)))) (mvT hZ (hw _ (List.mem_of_getElem? (i := 16) rfl))) (mvT hZ (hw _ (List.mem_of_getElem? (i := 15) rfl))) (by decide) (backOf (W := 0) (rm3 l Z a0 hw [] b137 x1 x2 bw a b 4 (fun _ => 0) T140.heap n0 Zb ia ib (by omega) (by decide) nb gb Fa Va) hZ (hw _ (List.mem_of_getElem? (i := 17) rfl)) (hw _ (List.mem_of_getElem? (i := 3) rfl)) (by decide) (by decide)) q143a q143c (g := (mkF m 80 #[.val (.int p1), .val (.int p2), .val (.int p3), .val (.int p4), .val (.int p5), .val (.int p6), .val (.int x1), .val (.int x2), .val (.int x3), .val (.int x4), .val (.int x5), .val (.int x6), .val (.ref b137), .unset] [(.int x2), (.int x1), (.ref b137)])) rfl (by rw [hml]; rfl) (Steps.refl _) (argsL := [(.int x1), (.int x2)]) (rest := []) (lenOf own_pd2 rfl) rfl (by show 2 * 0 + _ ≤ _; exact Nat.le_of_eq rfl) (hb hby at_80) (fun _ _ => ⟨rfl, rfl, (by decide : 2 + 0 ≤ _), (by decide : 6 + 0 ≤ _)⟩)
  dsimp only [Pt.U, Pt.locs, Pt.cells, Pt.slots] at X143 l143 y143 z143 st143 hQ143
  subst l143 y143 z143
  obtain ⟨rfl, N143q, Kb, Fb, f1, Vb, hf1⟩ := hQ143
  have N143 := Fr.app N140 N143q
  have k144 : ∀ tg, Steps p.tables e below (T143.setTop (mkF m 83 #[.val (.int p1), .val (.int p2), .val (.int p3), .val (.int p4), .val (.int p5), .val (.int p6), .val (.int x1), .val (.int x2), .val (.int x3), .val (.int x4), .val (.int x5), .val (.int x6), .val (.ref b137), .unset] [])) tg → Steps p.tables e below (s₁.setTop (entryFrame m #[(.int p1), (.int p2), (.int p3), (.int p4), (.int p5), (.int p6)] maxLocals)) tg := fun tg kg => k142 tg (st143.trans kg)
  have Zc : n0 ≤ T143.heap.size := Nat.le_trans Zb Kb.1
  have Eb := Ea.keep Kb
  have k145 : ∀ tg, Steps p.tables e below (T143.setTop (mkF m 89 #[.val (.int p1), .val (.int p2), .val (.int p3), .val (.int p4), .val (.int p5), .val (.int p6), .val (.int x1), .val (.int x2), .val (.int x3), .val (.int x4), .val (.int x5), .val (.int x6), .val (.ref b137), .unset] [(.int x4), (.int x3), (.ref b137)])) tg → Steps p.tables e below (s₁.setTop (entryFrame m #[(.int p1), (.int p2), (.int p3), (.int p4), (.int p5), (.int p6)] maxLocals)) tg := fun tg kg => k144 tg (by
      show Steps p.tables e below (T143.setTop (mkF m 83 #[.val (.int p1), .val (.int p2), .val (.int p3), .val (.int p4), .val (.int p5), .val (.int p6), .val (.int x1), .val (.int x2), .val (.int x3), .val (.int x4), .val (.int x5), .val (.int x6), .val (.ref b137), .unset] [])) _
      refine XS.aload X143.here hx rfl (hb hby at_83) rfl rfl ?_
      show Steps p.tables e below (T143.setTop (mkF m 85 #[.val (.int p1), .val (.int p2), .val (.int p3), .val (.int p4), .val (.int p5), .val (.int p6), .val (.int x1), .val (.int x2), .val (.int x3), .val (.int x4), .val (.int x5), .val (.int x6), .val (.ref b137), .unset] [(.ref b137)])) _
      refine XS.iload X143.here hx rfl (hb hby at_85) rfl ?_
      show Steps p.tables e below (T143.setTop (mkF m 87 #[.val (.int p1), .val (.int p2), .val (.int p3), .val (.int p4), .val (.int p5), .val (.int p6), .val (.int x1), .val (.int x2), .val (.int x3), .val (.int x4), .val (.int x5), .val (.int x6), .val (.ref b137), .unset] [(.int x3), (.ref b137)])) _
      refine XS.iload X143.here hx rfl (hb hby at_87) rfl ?_
      exact kg)
  obtain ⟨cq146, kq146, q146a, q146b, q146c⟩ := isOf hZ rfl Eb
  obtain ⟨_, _, ⟨T146, L146, c146, n146⟩, -, X146, ⟨Lc146, hQ146, l146, y146, z146⟩, st146⟩ := X143.virtualBack hx (y := (⟨"com/example/opword/opword/dex/TakenBytes", "take", "(II)V"⟩ : MethodName)) (z := (⟨"com/example/opword/opword/dex/TakenBytes", "take", "(II)V"⟩ : MethodName)) hown (mvT hZ (hw _ (List.mem_of_getElem? (i := 13) rfl))) (mvT hZ (hw _ (List.mem_of_getElem? (i := 14) rfl))) (notFace_of_selects (args := #[]) (mvT hZ (hw _ (List.mem_of_getElem? (i := 16) rfl)))) (mvT hZ (hw _ (List.mem_of_getElem? (i := 16) rfl))) (mvT hZ (hw _ (List.mem_of_getElem? (i := 15) rfl))) (by decide) (backOf (W := 0) (rm3 l Z a0 hw [] b137 x3 x4 bw c1 d 4 f1 T143.heap n0 Zc ic1 id (by omega) (by decide) nb gb Fb Vb) hZ (hw _ (List.mem_of_getElem? (i := 17) rfl)) (hw _ (List.mem_of_getElem? (i := 3) rfl)) (by decide) (by decide)) q146a q146c (g := (mkF m 89 #[.val (.int p1), .val (.int p2), .val (.int p3), .val (.int p4), .val (.int p5), .val (.int p6), .val (.int x1), .val (.int x2), .val (.int x3), .val (.int x4), .val (.int x5), .val (.int x6), .val (.ref b137), .unset] [(.int x4), (.int x3), (.ref b137)])) rfl (by rw [hml]; rfl) (Steps.refl _) (argsL := [(.int x3), (.int x4)]) (rest := []) (lenOf own_pd2 rfl) rfl (by show 2 * 0 + _ ≤ _; exact Nat.le_of_eq rfl) (hb hby at_89) (fun _ _ => ⟨rfl, rfl, (by decide : 2 + 0 ≤ _), (by decide : 6 + 0 ≤ _)⟩)
  dsimp only [Pt.U, Pt.locs, Pt.cells, Pt.slots] at X146 l146 y146 z146 st146 hQ146
  subst l146 y146 z146
  obtain ⟨rfl, N146q, Kc, Fc, f2, Vc, hf2⟩ := hQ146
  have N146 := Fr.app N143 N146q
  have k147 : ∀ tg, Steps p.tables e below (T146.setTop (mkF m 92 #[.val (.int p1), .val (.int p2), .val (.int p3), .val (.int p4), .val (.int p5), .val (.int p6), .val (.int x1), .val (.int x2), .val (.int x3), .val (.int x4), .val (.int x5), .val (.int x6), .val (.ref b137), .unset] [])) tg → Steps p.tables e below (s₁.setTop (entryFrame m #[(.int p1), (.int p2), (.int p3), (.int p4), (.int p5), (.int p6)] maxLocals)) tg := fun tg kg => k145 tg (st146.trans kg)
  have Zd : n0 ≤ T146.heap.size := Nat.le_trans Zc Kc.1
  have Ec := Eb.keep Kc
  have hb2 : ∀ t, own_bit f2 t = true ↔ (a ≤ t ∧ t < b) ∨ (c1 ≤ t ∧ t < d) := fun t => by rw [hf2, hf1, own_z0, Bool.false_or, Bool.or_eq_true, decide_eq_true_eq, decide_eq_true_eq]
  have k148 : ∀ tg, Steps p.tables e below (T146.setTop (mkF m 104 #[.val (.int p1), .val (.int p2), .val (.int p3), .val (.int p4), .val (.int p5), .val (.int p6), .val (.int x1), .val (.int x2), .val (.int x3), .val (.int x4), .val (.int x5), .val (.int x6), .val (.ref b137), .unset] [(.int x4), (.int x3), (.int x2), (.int x1), (.int x5), (.ref b137)])) tg → Steps p.tables e below (s₁.setTop (entryFrame m #[(.int p1), (.int p2), (.int p3), (.int p4), (.int p5), (.int p6)] maxLocals)) tg := fun tg kg => k147 tg (by
      show Steps p.tables e below (T146.setTop (mkF m 92 #[.val (.int p1), .val (.int p2), .val (.int p3), .val (.int p4), .val (.int p5), .val (.int p6), .val (.int x1), .val (.int x2), .val (.int x3), .val (.int x4), .val (.int x5), .val (.int x6), .val (.ref b137), .unset] [])) _
      refine XS.aload X146.here hx rfl (hb hby at_92) rfl rfl ?_
      show Steps p.tables e below (T146.setTop (mkF m 94 #[.val (.int p1), .val (.int p2), .val (.int p3), .val (.int p4), .val (.int p5), .val (.int p6), .val (.int x1), .val (.int x2), .val (.int x3), .val (.int x4), .val (.int x5), .val (.int x6), .val (.ref b137), .unset] [(.ref b137)])) _
      refine XS.iload X146.here hx rfl (hb hby at_94) rfl ?_
      show Steps p.tables e below (T146.setTop (mkF m 96 #[.val (.int p1), .val (.int p2), .val (.int p3), .val (.int p4), .val (.int p5), .val (.int p6), .val (.int x1), .val (.int x2), .val (.int x3), .val (.int x4), .val (.int x5), .val (.int x6), .val (.ref b137), .unset] [(.int x5), (.ref b137)])) _
      refine XS.iload X146.here hx rfl (hb hby at_96) rfl ?_
      show Steps p.tables e below (T146.setTop (mkF m 98 #[.val (.int p1), .val (.int p2), .val (.int p3), .val (.int p4), .val (.int p5), .val (.int p6), .val (.int x1), .val (.int x2), .val (.int x3), .val (.int x4), .val (.int x5), .val (.int x6), .val (.ref b137), .unset] [(.int x1), (.int x5), (.ref b137)])) _
      refine XS.iload X146.here hx rfl (hb hby at_98) rfl ?_
      show Steps p.tables e below (T146.setTop (mkF m 100 #[.val (.int p1), .val (.int p2), .val (.int p3), .val (.int p4), .val (.int p5), .val (.int p6), .val (.int x1), .val (.int x2), .val (.int x3), .val (.int x4), .val (.int x5), .val (.int x6), .val (.ref b137), .unset] [(.int x2), (.int x1), (.int x5), (.ref b137)])) _
      refine XS.iload X146.here hx rfl (hb hby at_100) rfl ?_
      show Steps p.tables e below (T146.setTop (mkF m 102 #[.val (.int p1), .val (.int p2), .val (.int p3), .val (.int p4), .val (.int p5), .val (.int p6), .val (.int x1), .val (.int x2), .val (.int x3), .val (.int x4), .val (.int x5), .val (.int x6), .val (.ref b137), .unset] [(.int x3), (.int x2), (.int x1), (.int x5), (.ref b137)])) _
      refine XS.iload X146.here hx rfl (hb hby at_102) rfl ?_
      exact kg)
  obtain ⟨_, _, ⟨T149, L149, c149, n149⟩, -, X149, ⟨Lc149, hQ149, l149, y149, z149⟩, st149⟩ := Jvm.LawKit.callS X146 hx (y := (⟨"com/example/opword/opword/dex/TakenBytesTakePinLaw", "probe", "(Lcom/example/opword/opword/dex/TakenBytes;IIIII)Z"⟩ : MethodName)) hown (mvT hZ (hw _ (List.mem_of_getElem? (i := 19) rfl))) (mvT hZ (hw _ (List.mem_of_getElem? (i := 20) rfl))) (mvT hZ (hw _ (List.mem_of_getElem? (i := 21) rfl))) (mvT hZ (hw _ (List.mem_of_getElem? (i := 22) rfl))) (by decide) (backOf (W := 0) (rm4 l Z a0 hw [] b137 x5 x1 x2 x3 x4 bw a b c1 d f2 T146.heap n0 Zd ia ib ic1 id hb2 Ec Fc Vc) hZ (hw _ (List.mem_of_getElem? (i := 22) rfl)) (hw _ (List.mem_of_getElem? (i := 21) rfl)) (by decide) (by decide)) (g := (mkF m 104 #[.val (.int p1), .val (.int p2), .val (.int p3), .val (.int p4), .val (.int p5), .val (.int p6), .val (.int x1), .val (.int x2), .val (.int x3), .val (.int x4), .val (.int x5), .val (.int x6), .val (.ref b137), .unset] [(.int x4), (.int x3), (.int x2), (.int x1), (.int x5), (.ref b137)])) rfl (by rw [hml]; rfl) (argsL := [(.ref b137), (.int x5), (.int x1), (.int x2), (.int x3), (.int x4)]) (rest := []) (lenOf own_pd3 rfl) rfl (by show 2 * 0 + _ ≤ _; exact Nat.le_of_eq rfl) (hb hby at_104) (fun _ _ => ⟨rfl, rfl, (by decide : 2 + 0 ≤ _), (by decide : 6 + 0 ≤ _)⟩)
  dsimp only [Pt.U, Pt.locs, Pt.cells, Pt.slots] at X149 l149 y149 z149 st149 hQ149
  subst l149 y149 z149
  obtain ⟨rfl, N149q, e149⟩ := hQ149
  have N149 := Fr.app N146 N149q
  have k150 : ∀ tg, Steps p.tables e below (T149.setTop (mkF m 107 #[.val (.int p1), .val (.int p2), .val (.int p3), .val (.int p4), .val (.int p5), .val (.int p6), .val (.int x1), .val (.int x2), .val (.int x3), .val (.int x4), .val (.int x5), .val (.int x6), .val (.ref b137), .unset] [(.int (1 : Int32))])) tg → Steps p.tables e below (s₁.setTop (entryFrame m #[(.int p1), (.int p2), (.int p3), (.int p4), (.int p5), (.int p6)] maxLocals)) tg := fun tg kg => k148 tg (st149 tg kg)
  have k151 : ∀ tg, Steps p.tables e below (T149.setTop (mkF m 126 #[.val (.int p1), .val (.int p2), .val (.int p3), .val (.int p4), .val (.int p5), .val (.int p6), .val (.int x1), .val (.int x2), .val (.int x3), .val (.int x4), .val (.int x5), .val (.int x6), .val (.ref b137), .val (.int (1 : Int32))] [(.int x4), (.int x3), (.int x2), (.int x1), (.int x6), (.ref b137)])) tg → Steps p.tables e below (s₁.setTop (entryFrame m #[(.int p1), (.int p2), (.int p3), (.int p4), (.int p5), (.int p6)] maxLocals)) tg := fun tg kg => k150 tg (by
      show Steps p.tables e below (T149.setTop (mkF m 107 #[.val (.int p1), .val (.int p2), .val (.int p3), .val (.int p4), .val (.int p5), .val (.int p6), .val (.int x1), .val (.int x2), .val (.int x3), .val (.int x4), .val (.int x5), .val (.int x6), .val (.ref b137), .unset] [(.int (1 : Int32))])) _
      refine XS.istore X149.here hx rfl (hb hby at_107) rfl (l' := #[.val (.int p1), .val (.int p2), .val (.int p3), .val (.int p4), .val (.int p5), .val (.int p6), .val (.int x1), .val (.int x2), .val (.int x3), .val (.int x4), .val (.int x5), .val (.int x6), .val (.ref b137), .val (.int (1 : Int32))]) rfl ?_
      show Steps p.tables e below (T149.setTop (mkF m 109 #[.val (.int p1), .val (.int p2), .val (.int p3), .val (.int p4), .val (.int p5), .val (.int p6), .val (.int x1), .val (.int x2), .val (.int x3), .val (.int x4), .val (.int x5), .val (.int x6), .val (.ref b137), .val (.int (1 : Int32))] [])) _
      refine XS.iload X149.here hx rfl (hb hby at_109) rfl ?_
      show Steps p.tables e below (T149.setTop (mkF m 111 #[.val (.int p1), .val (.int p2), .val (.int p3), .val (.int p4), .val (.int p5), .val (.int p6), .val (.int x1), .val (.int x2), .val (.int x3), .val (.int x4), .val (.int x5), .val (.int x6), .val (.ref b137), .val (.int (1 : Int32))] [(.int (1 : Int32))])) _
      refine XS.ifNo X149.here hx rfl (hb hby at_111) rfl ((if0 _ _).trans (feq (by decide)).1) ?_
      show Steps p.tables e below (T149.setTop (mkF m 114 #[.val (.int p1), .val (.int p2), .val (.int p3), .val (.int p4), .val (.int p5), .val (.int p6), .val (.int x1), .val (.int x2), .val (.int x3), .val (.int x4), .val (.int x5), .val (.int x6), .val (.ref b137), .val (.int (1 : Int32))] [])) _
      refine XS.aload X149.here hx rfl (hb hby at_114) rfl rfl ?_
      show Steps p.tables e below (T149.setTop (mkF m 116 #[.val (.int p1), .val (.int p2), .val (.int p3), .val (.int p4), .val (.int p5), .val (.int p6), .val (.int x1), .val (.int x2), .val (.int x3), .val (.int x4), .val (.int x5), .val (.int x6), .val (.ref b137), .val (.int (1 : Int32))] [(.ref b137)])) _
      refine XS.iload X149.here hx rfl (hb hby at_116) rfl ?_
      show Steps p.tables e below (T149.setTop (mkF m 118 #[.val (.int p1), .val (.int p2), .val (.int p3), .val (.int p4), .val (.int p5), .val (.int p6), .val (.int x1), .val (.int x2), .val (.int x3), .val (.int x4), .val (.int x5), .val (.int x6), .val (.ref b137), .val (.int (1 : Int32))] [(.int x6), (.ref b137)])) _
      refine XS.iload X149.here hx rfl (hb hby at_118) rfl ?_
      show Steps p.tables e below (T149.setTop (mkF m 120 #[.val (.int p1), .val (.int p2), .val (.int p3), .val (.int p4), .val (.int p5), .val (.int p6), .val (.int x1), .val (.int x2), .val (.int x3), .val (.int x4), .val (.int x5), .val (.int x6), .val (.ref b137), .val (.int (1 : Int32))] [(.int x1), (.int x6), (.ref b137)])) _
      refine XS.iload X149.here hx rfl (hb hby at_120) rfl ?_
      show Steps p.tables e below (T149.setTop (mkF m 122 #[.val (.int p1), .val (.int p2), .val (.int p3), .val (.int p4), .val (.int p5), .val (.int p6), .val (.int x1), .val (.int x2), .val (.int x3), .val (.int x4), .val (.int x5), .val (.int x6), .val (.ref b137), .val (.int (1 : Int32))] [(.int x2), (.int x1), (.int x6), (.ref b137)])) _
      refine XS.iload X149.here hx rfl (hb hby at_122) rfl ?_
      show Steps p.tables e below (T149.setTop (mkF m 124 #[.val (.int p1), .val (.int p2), .val (.int p3), .val (.int p4), .val (.int p5), .val (.int p6), .val (.int x1), .val (.int x2), .val (.int x3), .val (.int x4), .val (.int x5), .val (.int x6), .val (.ref b137), .val (.int (1 : Int32))] [(.int x3), (.int x2), (.int x1), (.int x6), (.ref b137)])) _
      refine XS.iload X149.here hx rfl (hb hby at_124) rfl ?_
      exact kg)
  obtain ⟨_, _, ⟨T152, L152, c152, n152⟩, -, X152, ⟨Lc152, hQ152, l152, y152, z152⟩, st152⟩ := Jvm.LawKit.callS X149 hx (y := (⟨"com/example/opword/opword/dex/TakenBytesTakePinLaw", "probe", "(Lcom/example/opword/opword/dex/TakenBytes;IIIII)Z"⟩ : MethodName)) hown (mvT hZ (hw _ (List.mem_of_getElem? (i := 19) rfl))) (mvT hZ (hw _ (List.mem_of_getElem? (i := 20) rfl))) (mvT hZ (hw _ (List.mem_of_getElem? (i := 21) rfl))) (mvT hZ (hw _ (List.mem_of_getElem? (i := 22) rfl))) (by decide) (backOf (W := 0) (rm4 l Z a0 hw [] b137 x6 x1 x2 x3 x4 bw a b c1 d f2 T146.heap n0 Zd ia ib ic1 id hb2 Ec Fc Vc) hZ (hw _ (List.mem_of_getElem? (i := 22) rfl)) (hw _ (List.mem_of_getElem? (i := 21) rfl)) (by decide) (by decide)) (g := (mkF m 126 #[.val (.int p1), .val (.int p2), .val (.int p3), .val (.int p4), .val (.int p5), .val (.int p6), .val (.int x1), .val (.int x2), .val (.int x3), .val (.int x4), .val (.int x5), .val (.int x6), .val (.ref b137), .val (.int (1 : Int32))] [(.int x4), (.int x3), (.int x2), (.int x1), (.int x6), (.ref b137)])) rfl (by rw [hml]; rfl) (argsL := [(.ref b137), (.int x6), (.int x1), (.int x2), (.int x3), (.int x4)]) (rest := []) (lenOf own_pd3 rfl) rfl (by show 2 * 0 + _ ≤ _; exact Nat.le_of_eq rfl) (hb hby at_126) (fun _ _ => ⟨rfl, e149, (by decide : 2 + 0 ≤ _), (by decide : 6 + 0 ≤ _)⟩)
  dsimp only [Pt.U, Pt.locs, Pt.cells, Pt.slots] at X152 l152 y152 z152 st152 hQ152
  subst l152 y152 z152
  obtain ⟨rfl, N152q, e152⟩ := hQ152
  have N152 := Fr.app N149 N152q
  have k153 : ∀ tg, Steps p.tables e below (T152.setTop (mkF m 129 #[.val (.int p1), .val (.int p2), .val (.int p3), .val (.int p4), .val (.int p5), .val (.int p6), .val (.int x1), .val (.int x2), .val (.int x3), .val (.int x4), .val (.int x5), .val (.int x6), .val (.ref b137), .val (.int (1 : Int32))] [(.int (1 : Int32))])) tg → Steps p.tables e below (s₁.setTop (entryFrame m #[(.int p1), (.int p2), (.int p3), (.int p4), (.int p5), (.int p6)] maxLocals)) tg := fun tg kg => k151 tg (st152 tg kg)
  have k154 : ∀ tg, Steps p.tables e below (T152.setTop (mkF m 158 #[.val (.int p1), .val (.int p2), .val (.int p3), .val (.int p4), .val (.int p5), .val (.int p6), .val (.int x1), .val (.int x2), .val (.int x3), .val (.int x4), .val (.int x5), .val (.int x6), .val (.ref b137), .val (.int (1 : Int32))] [(.int x4), (.int x3), (.int x2), (.int x1), (.int (x1 - (1 : Int32))), (.ref b137)])) tg → Steps p.tables e below (s₁.setTop (entryFrame m #[(.int p1), (.int p2), (.int p3), (.int p4), (.int p5), (.int p6)] maxLocals)) tg := fun tg kg => k153 tg (by
      show Steps p.tables e below (T152.setTop (mkF m 129 #[.val (.int p1), .val (.int p2), .val (.int p3), .val (.int p4), .val (.int p5), .val (.int p6), .val (.int x1), .val (.int x2), .val (.int x3), .val (.int x4), .val (.int x5), .val (.int x6), .val (.ref b137), .val (.int (1 : Int32))] [(.int (1 : Int32))])) _
      refine XS.ifNo X152.here hx rfl (hb hby at_129) rfl ((if0 _ _).trans (feq (by decide)).1) ?_
      show Steps p.tables e below (T152.setTop (mkF m 132 #[.val (.int p1), .val (.int p2), .val (.int p3), .val (.int p4), .val (.int p5), .val (.int p6), .val (.int x1), .val (.int x2), .val (.int x3), .val (.int x4), .val (.int x5), .val (.int x6), .val (.ref b137), .val (.int (1 : Int32))] [])) _
      refine XS.iconst X152.here hx rfl (hb hby at_132) ?_
      show Steps p.tables e below (T152.setTop (mkF m 133 #[.val (.int p1), .val (.int p2), .val (.int p3), .val (.int p4), .val (.int p5), .val (.int p6), .val (.int x1), .val (.int x2), .val (.int x3), .val (.int x4), .val (.int x5), .val (.int x6), .val (.ref b137), .val (.int (1 : Int32))] [(.int (1 : Int32))])) _
      refine XS.goto X152.here hx rfl (pc0 := 133) (pc' := 137) rfl (hb hby at_133) (by decide) (by decide) ?_
      show Steps p.tables e below (T152.setTop (mkF m 137 #[.val (.int p1), .val (.int p2), .val (.int p3), .val (.int p4), .val (.int p5), .val (.int p6), .val (.int x1), .val (.int x2), .val (.int x3), .val (.int x4), .val (.int x5), .val (.int x6), .val (.ref b137), .val (.int (1 : Int32))] [(.int (1 : Int32))])) _
      refine XS.istore X152.here hx rfl (hb hby at_137) rfl (l' := #[.val (.int p1), .val (.int p2), .val (.int p3), .val (.int p4), .val (.int p5), .val (.int p6), .val (.int x1), .val (.int x2), .val (.int x3), .val (.int x4), .val (.int x5), .val (.int x6), .val (.ref b137), .val (.int (1 : Int32))]) rfl ?_
      show Steps p.tables e below (T152.setTop (mkF m 139 #[.val (.int p1), .val (.int p2), .val (.int p3), .val (.int p4), .val (.int p5), .val (.int p6), .val (.int x1), .val (.int x2), .val (.int x3), .val (.int x4), .val (.int x5), .val (.int x6), .val (.ref b137), .val (.int (1 : Int32))] [])) _
      refine XS.iload X152.here hx rfl (hb hby at_139) rfl ?_
      show Steps p.tables e below (T152.setTop (mkF m 141 #[.val (.int p1), .val (.int p2), .val (.int p3), .val (.int p4), .val (.int p5), .val (.int p6), .val (.int x1), .val (.int x2), .val (.int x3), .val (.int x4), .val (.int x5), .val (.int x6), .val (.ref b137), .val (.int (1 : Int32))] [(.int (1 : Int32))])) _
      refine XS.ifNo X152.here hx rfl (hb hby at_141) rfl ((if0 _ _).trans (feq (by decide)).1) ?_
      show Steps p.tables e below (T152.setTop (mkF m 144 #[.val (.int p1), .val (.int p2), .val (.int p3), .val (.int p4), .val (.int p5), .val (.int p6), .val (.int x1), .val (.int x2), .val (.int x3), .val (.int x4), .val (.int x5), .val (.int x6), .val (.ref b137), .val (.int (1 : Int32))] [])) _
      refine XS.aload X152.here hx rfl (hb hby at_144) rfl rfl ?_
      show Steps p.tables e below (T152.setTop (mkF m 146 #[.val (.int p1), .val (.int p2), .val (.int p3), .val (.int p4), .val (.int p5), .val (.int p6), .val (.int x1), .val (.int x2), .val (.int x3), .val (.int x4), .val (.int x5), .val (.int x6), .val (.ref b137), .val (.int (1 : Int32))] [(.ref b137)])) _
      refine XS.iload X152.here hx rfl (hb hby at_146) rfl ?_
      show Steps p.tables e below (T152.setTop (mkF m 148 #[.val (.int p1), .val (.int p2), .val (.int p3), .val (.int p4), .val (.int p5), .val (.int p6), .val (.int x1), .val (.int x2), .val (.int x3), .val (.int x4), .val (.int x5), .val (.int x6), .val (.ref b137), .val (.int (1 : Int32))] [(.int x1), (.ref b137)])) _
      refine XS.iconst X152.here hx rfl (hb hby at_148) ?_
      show Steps p.tables e below (T152.setTop (mkF m 149 #[.val (.int p1), .val (.int p2), .val (.int p3), .val (.int p4), .val (.int p5), .val (.int p6), .val (.int x1), .val (.int x2), .val (.int x3), .val (.int x4), .val (.int x5), .val (.int x6), .val (.ref b137), .val (.int (1 : Int32))] [(.int (1 : Int32)), (.int x1), (.ref b137)])) _
      refine XS.isub X152.here hx rfl (hb hby at_149) rfl ?_
      show Steps p.tables e below (T152.setTop (mkF m 150 #[.val (.int p1), .val (.int p2), .val (.int p3), .val (.int p4), .val (.int p5), .val (.int p6), .val (.int x1), .val (.int x2), .val (.int x3), .val (.int x4), .val (.int x5), .val (.int x6), .val (.ref b137), .val (.int (1 : Int32))] [(.int (x1 - (1 : Int32))), (.ref b137)])) _
      refine XS.iload X152.here hx rfl (hb hby at_150) rfl ?_
      show Steps p.tables e below (T152.setTop (mkF m 152 #[.val (.int p1), .val (.int p2), .val (.int p3), .val (.int p4), .val (.int p5), .val (.int p6), .val (.int x1), .val (.int x2), .val (.int x3), .val (.int x4), .val (.int x5), .val (.int x6), .val (.ref b137), .val (.int (1 : Int32))] [(.int x1), (.int (x1 - (1 : Int32))), (.ref b137)])) _
      refine XS.iload X152.here hx rfl (hb hby at_152) rfl ?_
      show Steps p.tables e below (T152.setTop (mkF m 154 #[.val (.int p1), .val (.int p2), .val (.int p3), .val (.int p4), .val (.int p5), .val (.int p6), .val (.int x1), .val (.int x2), .val (.int x3), .val (.int x4), .val (.int x5), .val (.int x6), .val (.ref b137), .val (.int (1 : Int32))] [(.int x2), (.int x1), (.int (x1 - (1 : Int32))), (.ref b137)])) _
      refine XS.iload X152.here hx rfl (hb hby at_154) rfl ?_
      show Steps p.tables e below (T152.setTop (mkF m 156 #[.val (.int p1), .val (.int p2), .val (.int p3), .val (.int p4), .val (.int p5), .val (.int p6), .val (.int x1), .val (.int x2), .val (.int x3), .val (.int x4), .val (.int x5), .val (.int x6), .val (.ref b137), .val (.int (1 : Int32))] [(.int x3), (.int x2), (.int x1), (.int (x1 - (1 : Int32))), (.ref b137)])) _
      refine XS.iload X152.here hx rfl (hb hby at_156) rfl ?_
      exact kg)
  obtain ⟨_, _, ⟨T155, L155, c155, n155⟩, -, X155, ⟨Lc155, hQ155, l155, y155, z155⟩, st155⟩ := Jvm.LawKit.callS X152 hx (y := (⟨"com/example/opword/opword/dex/TakenBytesTakePinLaw", "probe", "(Lcom/example/opword/opword/dex/TakenBytes;IIIII)Z"⟩ : MethodName)) hown (mvT hZ (hw _ (List.mem_of_getElem? (i := 19) rfl))) (mvT hZ (hw _ (List.mem_of_getElem? (i := 20) rfl))) (mvT hZ (hw _ (List.mem_of_getElem? (i := 21) rfl))) (mvT hZ (hw _ (List.mem_of_getElem? (i := 22) rfl))) (by decide) (backOf (W := 0) (rm4 l Z a0 hw [] b137 (x1 - (1 : Int32)) x1 x2 x3 x4 bw a b c1 d f2 T146.heap n0 Zd ia ib ic1 id hb2 Ec Fc Vc) hZ (hw _ (List.mem_of_getElem? (i := 22) rfl)) (hw _ (List.mem_of_getElem? (i := 21) rfl)) (by decide) (by decide)) (g := (mkF m 158 #[.val (.int p1), .val (.int p2), .val (.int p3), .val (.int p4), .val (.int p5), .val (.int p6), .val (.int x1), .val (.int x2), .val (.int x3), .val (.int x4), .val (.int x5), .val (.int x6), .val (.ref b137), .val (.int (1 : Int32))] [(.int x4), (.int x3), (.int x2), (.int x1), (.int (x1 - (1 : Int32))), (.ref b137)])) rfl (by rw [hml]; rfl) (argsL := [(.ref b137), (.int (x1 - (1 : Int32))), (.int x1), (.int x2), (.int x3), (.int x4)]) (rest := []) (lenOf own_pd3 rfl) rfl (by show 2 * 0 + _ ≤ _; exact Nat.le_of_eq rfl) (hb hby at_158) (fun _ _ => ⟨rfl, e152, (by decide : 2 + 0 ≤ _), (by decide : 6 + 0 ≤ _)⟩)
  dsimp only [Pt.U, Pt.locs, Pt.cells, Pt.slots] at X155 l155 y155 z155 st155 hQ155
  subst l155 y155 z155
  obtain ⟨rfl, N155q, e155⟩ := hQ155
  have N155 := Fr.app N152 N155q
  have k156 : ∀ tg, Steps p.tables e below (T155.setTop (mkF m 161 #[.val (.int p1), .val (.int p2), .val (.int p3), .val (.int p4), .val (.int p5), .val (.int p6), .val (.int x1), .val (.int x2), .val (.int x3), .val (.int x4), .val (.int x5), .val (.int x6), .val (.ref b137), .val (.int (1 : Int32))] [(.int (1 : Int32))])) tg → Steps p.tables e below (s₁.setTop (entryFrame m #[(.int p1), (.int p2), (.int p3), (.int p4), (.int p5), (.int p6)] maxLocals)) tg := fun tg kg => k154 tg (st155 tg kg)
  have k157 : ∀ tg, Steps p.tables e below (T155.setTop (mkF m 188 #[.val (.int p1), .val (.int p2), .val (.int p3), .val (.int p4), .val (.int p5), .val (.int p6), .val (.int x1), .val (.int x2), .val (.int x3), .val (.int x4), .val (.int x5), .val (.int x6), .val (.ref b137), .val (.int (1 : Int32))] [(.int x4), (.int x3), (.int x2), (.int x1), (.int x1), (.ref b137)])) tg → Steps p.tables e below (s₁.setTop (entryFrame m #[(.int p1), (.int p2), (.int p3), (.int p4), (.int p5), (.int p6)] maxLocals)) tg := fun tg kg => k156 tg (by
      show Steps p.tables e below (T155.setTop (mkF m 161 #[.val (.int p1), .val (.int p2), .val (.int p3), .val (.int p4), .val (.int p5), .val (.int p6), .val (.int x1), .val (.int x2), .val (.int x3), .val (.int x4), .val (.int x5), .val (.int x6), .val (.ref b137), .val (.int (1 : Int32))] [(.int (1 : Int32))])) _
      refine XS.ifNo X155.here hx rfl (hb hby at_161) rfl ((if0 _ _).trans (feq (by decide)).1) ?_
      show Steps p.tables e below (T155.setTop (mkF m 164 #[.val (.int p1), .val (.int p2), .val (.int p3), .val (.int p4), .val (.int p5), .val (.int p6), .val (.int x1), .val (.int x2), .val (.int x3), .val (.int x4), .val (.int x5), .val (.int x6), .val (.ref b137), .val (.int (1 : Int32))] [])) _
      refine XS.iconst X155.here hx rfl (hb hby at_164) ?_
      show Steps p.tables e below (T155.setTop (mkF m 165 #[.val (.int p1), .val (.int p2), .val (.int p3), .val (.int p4), .val (.int p5), .val (.int p6), .val (.int x1), .val (.int x2), .val (.int x3), .val (.int x4), .val (.int x5), .val (.int x6), .val (.ref b137), .val (.int (1 : Int32))] [(.int (1 : Int32))])) _
      refine XS.goto X155.here hx rfl (pc0 := 165) (pc' := 169) rfl (hb hby at_165) (by decide) (by decide) ?_
      show Steps p.tables e below (T155.setTop (mkF m 169 #[.val (.int p1), .val (.int p2), .val (.int p3), .val (.int p4), .val (.int p5), .val (.int p6), .val (.int x1), .val (.int x2), .val (.int x3), .val (.int x4), .val (.int x5), .val (.int x6), .val (.ref b137), .val (.int (1 : Int32))] [(.int (1 : Int32))])) _
      refine XS.istore X155.here hx rfl (hb hby at_169) rfl (l' := #[.val (.int p1), .val (.int p2), .val (.int p3), .val (.int p4), .val (.int p5), .val (.int p6), .val (.int x1), .val (.int x2), .val (.int x3), .val (.int x4), .val (.int x5), .val (.int x6), .val (.ref b137), .val (.int (1 : Int32))]) rfl ?_
      show Steps p.tables e below (T155.setTop (mkF m 171 #[.val (.int p1), .val (.int p2), .val (.int p3), .val (.int p4), .val (.int p5), .val (.int p6), .val (.int x1), .val (.int x2), .val (.int x3), .val (.int x4), .val (.int x5), .val (.int x6), .val (.ref b137), .val (.int (1 : Int32))] [])) _
      refine XS.iload X155.here hx rfl (hb hby at_171) rfl ?_
      show Steps p.tables e below (T155.setTop (mkF m 173 #[.val (.int p1), .val (.int p2), .val (.int p3), .val (.int p4), .val (.int p5), .val (.int p6), .val (.int x1), .val (.int x2), .val (.int x3), .val (.int x4), .val (.int x5), .val (.int x6), .val (.ref b137), .val (.int (1 : Int32))] [(.int (1 : Int32))])) _
      refine XS.ifNo X155.here hx rfl (hb hby at_173) rfl ((if0 _ _).trans (feq (by decide)).1) ?_
      show Steps p.tables e below (T155.setTop (mkF m 176 #[.val (.int p1), .val (.int p2), .val (.int p3), .val (.int p4), .val (.int p5), .val (.int p6), .val (.int x1), .val (.int x2), .val (.int x3), .val (.int x4), .val (.int x5), .val (.int x6), .val (.ref b137), .val (.int (1 : Int32))] [])) _
      refine XS.aload X155.here hx rfl (hb hby at_176) rfl rfl ?_
      show Steps p.tables e below (T155.setTop (mkF m 178 #[.val (.int p1), .val (.int p2), .val (.int p3), .val (.int p4), .val (.int p5), .val (.int p6), .val (.int x1), .val (.int x2), .val (.int x3), .val (.int x4), .val (.int x5), .val (.int x6), .val (.ref b137), .val (.int (1 : Int32))] [(.ref b137)])) _
      refine XS.iload X155.here hx rfl (hb hby at_178) rfl ?_
      show Steps p.tables e below (T155.setTop (mkF m 180 #[.val (.int p1), .val (.int p2), .val (.int p3), .val (.int p4), .val (.int p5), .val (.int p6), .val (.int x1), .val (.int x2), .val (.int x3), .val (.int x4), .val (.int x5), .val (.int x6), .val (.ref b137), .val (.int (1 : Int32))] [(.int x1), (.ref b137)])) _
      refine XS.iload X155.here hx rfl (hb hby at_180) rfl ?_
      show Steps p.tables e below (T155.setTop (mkF m 182 #[.val (.int p1), .val (.int p2), .val (.int p3), .val (.int p4), .val (.int p5), .val (.int p6), .val (.int x1), .val (.int x2), .val (.int x3), .val (.int x4), .val (.int x5), .val (.int x6), .val (.ref b137), .val (.int (1 : Int32))] [(.int x1), (.int x1), (.ref b137)])) _
      refine XS.iload X155.here hx rfl (hb hby at_182) rfl ?_
      show Steps p.tables e below (T155.setTop (mkF m 184 #[.val (.int p1), .val (.int p2), .val (.int p3), .val (.int p4), .val (.int p5), .val (.int p6), .val (.int x1), .val (.int x2), .val (.int x3), .val (.int x4), .val (.int x5), .val (.int x6), .val (.ref b137), .val (.int (1 : Int32))] [(.int x2), (.int x1), (.int x1), (.ref b137)])) _
      refine XS.iload X155.here hx rfl (hb hby at_184) rfl ?_
      show Steps p.tables e below (T155.setTop (mkF m 186 #[.val (.int p1), .val (.int p2), .val (.int p3), .val (.int p4), .val (.int p5), .val (.int p6), .val (.int x1), .val (.int x2), .val (.int x3), .val (.int x4), .val (.int x5), .val (.int x6), .val (.ref b137), .val (.int (1 : Int32))] [(.int x3), (.int x2), (.int x1), (.int x1), (.ref b137)])) _
      refine XS.iload X155.here hx rfl (hb hby at_186) rfl ?_
      exact kg)
  obtain ⟨_, _, ⟨T158, L158, c158, n158⟩, -, X158, ⟨Lc158, hQ158, l158, y158, z158⟩, st158⟩ := Jvm.LawKit.callS X155 hx (y := (⟨"com/example/opword/opword/dex/TakenBytesTakePinLaw", "probe", "(Lcom/example/opword/opword/dex/TakenBytes;IIIII)Z"⟩ : MethodName)) hown (mvT hZ (hw _ (List.mem_of_getElem? (i := 19) rfl))) (mvT hZ (hw _ (List.mem_of_getElem? (i := 20) rfl))) (mvT hZ (hw _ (List.mem_of_getElem? (i := 21) rfl))) (mvT hZ (hw _ (List.mem_of_getElem? (i := 22) rfl))) (by decide) (backOf (W := 0) (rm4 l Z a0 hw [] b137 x1 x1 x2 x3 x4 bw a b c1 d f2 T146.heap n0 Zd ia ib ic1 id hb2 Ec Fc Vc) hZ (hw _ (List.mem_of_getElem? (i := 22) rfl)) (hw _ (List.mem_of_getElem? (i := 21) rfl)) (by decide) (by decide)) (g := (mkF m 188 #[.val (.int p1), .val (.int p2), .val (.int p3), .val (.int p4), .val (.int p5), .val (.int p6), .val (.int x1), .val (.int x2), .val (.int x3), .val (.int x4), .val (.int x5), .val (.int x6), .val (.ref b137), .val (.int (1 : Int32))] [(.int x4), (.int x3), (.int x2), (.int x1), (.int x1), (.ref b137)])) rfl (by rw [hml]; rfl) (argsL := [(.ref b137), (.int x1), (.int x1), (.int x2), (.int x3), (.int x4)]) (rest := []) (lenOf own_pd3 rfl) rfl (by show 2 * 0 + _ ≤ _; exact Nat.le_of_eq rfl) (hb hby at_188) (fun _ _ => ⟨rfl, e155, (by decide : 2 + 0 ≤ _), (by decide : 6 + 0 ≤ _)⟩)
  dsimp only [Pt.U, Pt.locs, Pt.cells, Pt.slots] at X158 l158 y158 z158 st158 hQ158
  subst l158 y158 z158
  obtain ⟨rfl, N158q, e158⟩ := hQ158
  have N158 := Fr.app N155 N158q
  have k159 : ∀ tg, Steps p.tables e below (T158.setTop (mkF m 191 #[.val (.int p1), .val (.int p2), .val (.int p3), .val (.int p4), .val (.int p5), .val (.int p6), .val (.int x1), .val (.int x2), .val (.int x3), .val (.int x4), .val (.int x5), .val (.int x6), .val (.ref b137), .val (.int (1 : Int32))] [(.int (1 : Int32))])) tg → Steps p.tables e below (s₁.setTop (entryFrame m #[(.int p1), (.int p2), (.int p3), (.int p4), (.int p5), (.int p6)] maxLocals)) tg := fun tg kg => k157 tg (st158 tg kg)
  have k160 : ∀ tg, Steps p.tables e below (T158.setTop (mkF m 220 #[.val (.int p1), .val (.int p2), .val (.int p3), .val (.int p4), .val (.int p5), .val (.int p6), .val (.int x1), .val (.int x2), .val (.int x3), .val (.int x4), .val (.int x5), .val (.int x6), .val (.ref b137), .val (.int (1 : Int32))] [(.int x4), (.int x3), (.int x2), (.int x1), (.int (x2 - (1 : Int32))), (.ref b137)])) tg → Steps p.tables e below (s₁.setTop (entryFrame m #[(.int p1), (.int p2), (.int p3), (.int p4), (.int p5), (.int p6)] maxLocals)) tg := fun tg kg => k159 tg (by
      show Steps p.tables e below (T158.setTop (mkF m 191 #[.val (.int p1), .val (.int p2), .val (.int p3), .val (.int p4), .val (.int p5), .val (.int p6), .val (.int x1), .val (.int x2), .val (.int x3), .val (.int x4), .val (.int x5), .val (.int x6), .val (.ref b137), .val (.int (1 : Int32))] [(.int (1 : Int32))])) _
      refine XS.ifNo X158.here hx rfl (hb hby at_191) rfl ((if0 _ _).trans (feq (by decide)).1) ?_
      show Steps p.tables e below (T158.setTop (mkF m 194 #[.val (.int p1), .val (.int p2), .val (.int p3), .val (.int p4), .val (.int p5), .val (.int p6), .val (.int x1), .val (.int x2), .val (.int x3), .val (.int x4), .val (.int x5), .val (.int x6), .val (.ref b137), .val (.int (1 : Int32))] [])) _
      refine XS.iconst X158.here hx rfl (hb hby at_194) ?_
      show Steps p.tables e below (T158.setTop (mkF m 195 #[.val (.int p1), .val (.int p2), .val (.int p3), .val (.int p4), .val (.int p5), .val (.int p6), .val (.int x1), .val (.int x2), .val (.int x3), .val (.int x4), .val (.int x5), .val (.int x6), .val (.ref b137), .val (.int (1 : Int32))] [(.int (1 : Int32))])) _
      refine XS.goto X158.here hx rfl (pc0 := 195) (pc' := 199) rfl (hb hby at_195) (by decide) (by decide) ?_
      show Steps p.tables e below (T158.setTop (mkF m 199 #[.val (.int p1), .val (.int p2), .val (.int p3), .val (.int p4), .val (.int p5), .val (.int p6), .val (.int x1), .val (.int x2), .val (.int x3), .val (.int x4), .val (.int x5), .val (.int x6), .val (.ref b137), .val (.int (1 : Int32))] [(.int (1 : Int32))])) _
      refine XS.istore X158.here hx rfl (hb hby at_199) rfl (l' := #[.val (.int p1), .val (.int p2), .val (.int p3), .val (.int p4), .val (.int p5), .val (.int p6), .val (.int x1), .val (.int x2), .val (.int x3), .val (.int x4), .val (.int x5), .val (.int x6), .val (.ref b137), .val (.int (1 : Int32))]) rfl ?_
      show Steps p.tables e below (T158.setTop (mkF m 201 #[.val (.int p1), .val (.int p2), .val (.int p3), .val (.int p4), .val (.int p5), .val (.int p6), .val (.int x1), .val (.int x2), .val (.int x3), .val (.int x4), .val (.int x5), .val (.int x6), .val (.ref b137), .val (.int (1 : Int32))] [])) _
      refine XS.iload X158.here hx rfl (hb hby at_201) rfl ?_
      show Steps p.tables e below (T158.setTop (mkF m 203 #[.val (.int p1), .val (.int p2), .val (.int p3), .val (.int p4), .val (.int p5), .val (.int p6), .val (.int x1), .val (.int x2), .val (.int x3), .val (.int x4), .val (.int x5), .val (.int x6), .val (.ref b137), .val (.int (1 : Int32))] [(.int (1 : Int32))])) _
      refine XS.ifNo X158.here hx rfl (hb hby at_203) rfl ((if0 _ _).trans (feq (by decide)).1) ?_
      show Steps p.tables e below (T158.setTop (mkF m 206 #[.val (.int p1), .val (.int p2), .val (.int p3), .val (.int p4), .val (.int p5), .val (.int p6), .val (.int x1), .val (.int x2), .val (.int x3), .val (.int x4), .val (.int x5), .val (.int x6), .val (.ref b137), .val (.int (1 : Int32))] [])) _
      refine XS.aload X158.here hx rfl (hb hby at_206) rfl rfl ?_
      show Steps p.tables e below (T158.setTop (mkF m 208 #[.val (.int p1), .val (.int p2), .val (.int p3), .val (.int p4), .val (.int p5), .val (.int p6), .val (.int x1), .val (.int x2), .val (.int x3), .val (.int x4), .val (.int x5), .val (.int x6), .val (.ref b137), .val (.int (1 : Int32))] [(.ref b137)])) _
      refine XS.iload X158.here hx rfl (hb hby at_208) rfl ?_
      show Steps p.tables e below (T158.setTop (mkF m 210 #[.val (.int p1), .val (.int p2), .val (.int p3), .val (.int p4), .val (.int p5), .val (.int p6), .val (.int x1), .val (.int x2), .val (.int x3), .val (.int x4), .val (.int x5), .val (.int x6), .val (.ref b137), .val (.int (1 : Int32))] [(.int x2), (.ref b137)])) _
      refine XS.iconst X158.here hx rfl (hb hby at_210) ?_
      show Steps p.tables e below (T158.setTop (mkF m 211 #[.val (.int p1), .val (.int p2), .val (.int p3), .val (.int p4), .val (.int p5), .val (.int p6), .val (.int x1), .val (.int x2), .val (.int x3), .val (.int x4), .val (.int x5), .val (.int x6), .val (.ref b137), .val (.int (1 : Int32))] [(.int (1 : Int32)), (.int x2), (.ref b137)])) _
      refine XS.isub X158.here hx rfl (hb hby at_211) rfl ?_
      show Steps p.tables e below (T158.setTop (mkF m 212 #[.val (.int p1), .val (.int p2), .val (.int p3), .val (.int p4), .val (.int p5), .val (.int p6), .val (.int x1), .val (.int x2), .val (.int x3), .val (.int x4), .val (.int x5), .val (.int x6), .val (.ref b137), .val (.int (1 : Int32))] [(.int (x2 - (1 : Int32))), (.ref b137)])) _
      refine XS.iload X158.here hx rfl (hb hby at_212) rfl ?_
      show Steps p.tables e below (T158.setTop (mkF m 214 #[.val (.int p1), .val (.int p2), .val (.int p3), .val (.int p4), .val (.int p5), .val (.int p6), .val (.int x1), .val (.int x2), .val (.int x3), .val (.int x4), .val (.int x5), .val (.int x6), .val (.ref b137), .val (.int (1 : Int32))] [(.int x1), (.int (x2 - (1 : Int32))), (.ref b137)])) _
      refine XS.iload X158.here hx rfl (hb hby at_214) rfl ?_
      show Steps p.tables e below (T158.setTop (mkF m 216 #[.val (.int p1), .val (.int p2), .val (.int p3), .val (.int p4), .val (.int p5), .val (.int p6), .val (.int x1), .val (.int x2), .val (.int x3), .val (.int x4), .val (.int x5), .val (.int x6), .val (.ref b137), .val (.int (1 : Int32))] [(.int x2), (.int x1), (.int (x2 - (1 : Int32))), (.ref b137)])) _
      refine XS.iload X158.here hx rfl (hb hby at_216) rfl ?_
      show Steps p.tables e below (T158.setTop (mkF m 218 #[.val (.int p1), .val (.int p2), .val (.int p3), .val (.int p4), .val (.int p5), .val (.int p6), .val (.int x1), .val (.int x2), .val (.int x3), .val (.int x4), .val (.int x5), .val (.int x6), .val (.ref b137), .val (.int (1 : Int32))] [(.int x3), (.int x2), (.int x1), (.int (x2 - (1 : Int32))), (.ref b137)])) _
      refine XS.iload X158.here hx rfl (hb hby at_218) rfl ?_
      exact kg)
  obtain ⟨_, _, ⟨T161, L161, c161, n161⟩, -, X161, ⟨Lc161, hQ161, l161, y161, z161⟩, st161⟩ := Jvm.LawKit.callS X158 hx (y := (⟨"com/example/opword/opword/dex/TakenBytesTakePinLaw", "probe", "(Lcom/example/opword/opword/dex/TakenBytes;IIIII)Z"⟩ : MethodName)) hown (mvT hZ (hw _ (List.mem_of_getElem? (i := 19) rfl))) (mvT hZ (hw _ (List.mem_of_getElem? (i := 20) rfl))) (mvT hZ (hw _ (List.mem_of_getElem? (i := 21) rfl))) (mvT hZ (hw _ (List.mem_of_getElem? (i := 22) rfl))) (by decide) (backOf (W := 0) (rm4 l Z a0 hw [] b137 (x2 - (1 : Int32)) x1 x2 x3 x4 bw a b c1 d f2 T146.heap n0 Zd ia ib ic1 id hb2 Ec Fc Vc) hZ (hw _ (List.mem_of_getElem? (i := 22) rfl)) (hw _ (List.mem_of_getElem? (i := 21) rfl)) (by decide) (by decide)) (g := (mkF m 220 #[.val (.int p1), .val (.int p2), .val (.int p3), .val (.int p4), .val (.int p5), .val (.int p6), .val (.int x1), .val (.int x2), .val (.int x3), .val (.int x4), .val (.int x5), .val (.int x6), .val (.ref b137), .val (.int (1 : Int32))] [(.int x4), (.int x3), (.int x2), (.int x1), (.int (x2 - (1 : Int32))), (.ref b137)])) rfl (by rw [hml]; rfl) (argsL := [(.ref b137), (.int (x2 - (1 : Int32))), (.int x1), (.int x2), (.int x3), (.int x4)]) (rest := []) (lenOf own_pd3 rfl) rfl (by show 2 * 0 + _ ≤ _; exact Nat.le_of_eq rfl) (hb hby at_220) (fun _ _ => ⟨rfl, e158, (by decide : 2 + 0 ≤ _), (by decide : 6 + 0 ≤ _)⟩)
  dsimp only [Pt.U, Pt.locs, Pt.cells, Pt.slots] at X161 l161 y161 z161 st161 hQ161
  subst l161 y161 z161
  obtain ⟨rfl, N161q, e161⟩ := hQ161
  have N161 := Fr.app N158 N161q
  have k162 : ∀ tg, Steps p.tables e below (T161.setTop (mkF m 223 #[.val (.int p1), .val (.int p2), .val (.int p3), .val (.int p4), .val (.int p5), .val (.int p6), .val (.int x1), .val (.int x2), .val (.int x3), .val (.int x4), .val (.int x5), .val (.int x6), .val (.ref b137), .val (.int (1 : Int32))] [(.int (1 : Int32))])) tg → Steps p.tables e below (s₁.setTop (entryFrame m #[(.int p1), (.int p2), (.int p3), (.int p4), (.int p5), (.int p6)] maxLocals)) tg := fun tg kg => k160 tg (st161 tg kg)
  have k163 : ∀ tg, Steps p.tables e below (T161.setTop (mkF m 250 #[.val (.int p1), .val (.int p2), .val (.int p3), .val (.int p4), .val (.int p5), .val (.int p6), .val (.int x1), .val (.int x2), .val (.int x3), .val (.int x4), .val (.int x5), .val (.int x6), .val (.ref b137), .val (.int (1 : Int32))] [(.int x4), (.int x3), (.int x2), (.int x1), (.int x2), (.ref b137)])) tg → Steps p.tables e below (s₁.setTop (entryFrame m #[(.int p1), (.int p2), (.int p3), (.int p4), (.int p5), (.int p6)] maxLocals)) tg := fun tg kg => k162 tg (by
      show Steps p.tables e below (T161.setTop (mkF m 223 #[.val (.int p1), .val (.int p2), .val (.int p3), .val (.int p4), .val (.int p5), .val (.int p6), .val (.int x1), .val (.int x2), .val (.int x3), .val (.int x4), .val (.int x5), .val (.int x6), .val (.ref b137), .val (.int (1 : Int32))] [(.int (1 : Int32))])) _
      refine XS.ifNo X161.here hx rfl (hb hby at_223) rfl ((if0 _ _).trans (feq (by decide)).1) ?_
      show Steps p.tables e below (T161.setTop (mkF m 226 #[.val (.int p1), .val (.int p2), .val (.int p3), .val (.int p4), .val (.int p5), .val (.int p6), .val (.int x1), .val (.int x2), .val (.int x3), .val (.int x4), .val (.int x5), .val (.int x6), .val (.ref b137), .val (.int (1 : Int32))] [])) _
      refine XS.iconst X161.here hx rfl (hb hby at_226) ?_
      show Steps p.tables e below (T161.setTop (mkF m 227 #[.val (.int p1), .val (.int p2), .val (.int p3), .val (.int p4), .val (.int p5), .val (.int p6), .val (.int x1), .val (.int x2), .val (.int x3), .val (.int x4), .val (.int x5), .val (.int x6), .val (.ref b137), .val (.int (1 : Int32))] [(.int (1 : Int32))])) _
      refine XS.goto X161.here hx rfl (pc0 := 227) (pc' := 231) rfl (hb hby at_227) (by decide) (by decide) ?_
      show Steps p.tables e below (T161.setTop (mkF m 231 #[.val (.int p1), .val (.int p2), .val (.int p3), .val (.int p4), .val (.int p5), .val (.int p6), .val (.int x1), .val (.int x2), .val (.int x3), .val (.int x4), .val (.int x5), .val (.int x6), .val (.ref b137), .val (.int (1 : Int32))] [(.int (1 : Int32))])) _
      refine XS.istore X161.here hx rfl (hb hby at_231) rfl (l' := #[.val (.int p1), .val (.int p2), .val (.int p3), .val (.int p4), .val (.int p5), .val (.int p6), .val (.int x1), .val (.int x2), .val (.int x3), .val (.int x4), .val (.int x5), .val (.int x6), .val (.ref b137), .val (.int (1 : Int32))]) rfl ?_
      show Steps p.tables e below (T161.setTop (mkF m 233 #[.val (.int p1), .val (.int p2), .val (.int p3), .val (.int p4), .val (.int p5), .val (.int p6), .val (.int x1), .val (.int x2), .val (.int x3), .val (.int x4), .val (.int x5), .val (.int x6), .val (.ref b137), .val (.int (1 : Int32))] [])) _
      refine XS.iload X161.here hx rfl (hb hby at_233) rfl ?_
      show Steps p.tables e below (T161.setTop (mkF m 235 #[.val (.int p1), .val (.int p2), .val (.int p3), .val (.int p4), .val (.int p5), .val (.int p6), .val (.int x1), .val (.int x2), .val (.int x3), .val (.int x4), .val (.int x5), .val (.int x6), .val (.ref b137), .val (.int (1 : Int32))] [(.int (1 : Int32))])) _
      refine XS.ifNo X161.here hx rfl (hb hby at_235) rfl ((if0 _ _).trans (feq (by decide)).1) ?_
      show Steps p.tables e below (T161.setTop (mkF m 238 #[.val (.int p1), .val (.int p2), .val (.int p3), .val (.int p4), .val (.int p5), .val (.int p6), .val (.int x1), .val (.int x2), .val (.int x3), .val (.int x4), .val (.int x5), .val (.int x6), .val (.ref b137), .val (.int (1 : Int32))] [])) _
      refine XS.aload X161.here hx rfl (hb hby at_238) rfl rfl ?_
      show Steps p.tables e below (T161.setTop (mkF m 240 #[.val (.int p1), .val (.int p2), .val (.int p3), .val (.int p4), .val (.int p5), .val (.int p6), .val (.int x1), .val (.int x2), .val (.int x3), .val (.int x4), .val (.int x5), .val (.int x6), .val (.ref b137), .val (.int (1 : Int32))] [(.ref b137)])) _
      refine XS.iload X161.here hx rfl (hb hby at_240) rfl ?_
      show Steps p.tables e below (T161.setTop (mkF m 242 #[.val (.int p1), .val (.int p2), .val (.int p3), .val (.int p4), .val (.int p5), .val (.int p6), .val (.int x1), .val (.int x2), .val (.int x3), .val (.int x4), .val (.int x5), .val (.int x6), .val (.ref b137), .val (.int (1 : Int32))] [(.int x2), (.ref b137)])) _
      refine XS.iload X161.here hx rfl (hb hby at_242) rfl ?_
      show Steps p.tables e below (T161.setTop (mkF m 244 #[.val (.int p1), .val (.int p2), .val (.int p3), .val (.int p4), .val (.int p5), .val (.int p6), .val (.int x1), .val (.int x2), .val (.int x3), .val (.int x4), .val (.int x5), .val (.int x6), .val (.ref b137), .val (.int (1 : Int32))] [(.int x1), (.int x2), (.ref b137)])) _
      refine XS.iload X161.here hx rfl (hb hby at_244) rfl ?_
      show Steps p.tables e below (T161.setTop (mkF m 246 #[.val (.int p1), .val (.int p2), .val (.int p3), .val (.int p4), .val (.int p5), .val (.int p6), .val (.int x1), .val (.int x2), .val (.int x3), .val (.int x4), .val (.int x5), .val (.int x6), .val (.ref b137), .val (.int (1 : Int32))] [(.int x2), (.int x1), (.int x2), (.ref b137)])) _
      refine XS.iload X161.here hx rfl (hb hby at_246) rfl ?_
      show Steps p.tables e below (T161.setTop (mkF m 248 #[.val (.int p1), .val (.int p2), .val (.int p3), .val (.int p4), .val (.int p5), .val (.int p6), .val (.int x1), .val (.int x2), .val (.int x3), .val (.int x4), .val (.int x5), .val (.int x6), .val (.ref b137), .val (.int (1 : Int32))] [(.int x3), (.int x2), (.int x1), (.int x2), (.ref b137)])) _
      refine XS.iload X161.here hx rfl (hb hby at_248) rfl ?_
      exact kg)
  obtain ⟨_, _, ⟨T164, L164, c164, n164⟩, -, X164, ⟨Lc164, hQ164, l164, y164, z164⟩, st164⟩ := Jvm.LawKit.callS X161 hx (y := (⟨"com/example/opword/opword/dex/TakenBytesTakePinLaw", "probe", "(Lcom/example/opword/opword/dex/TakenBytes;IIIII)Z"⟩ : MethodName)) hown (mvT hZ (hw _ (List.mem_of_getElem? (i := 19) rfl))) (mvT hZ (hw _ (List.mem_of_getElem? (i := 20) rfl))) (mvT hZ (hw _ (List.mem_of_getElem? (i := 21) rfl))) (mvT hZ (hw _ (List.mem_of_getElem? (i := 22) rfl))) (by decide) (backOf (W := 0) (rm4 l Z a0 hw [] b137 x2 x1 x2 x3 x4 bw a b c1 d f2 T146.heap n0 Zd ia ib ic1 id hb2 Ec Fc Vc) hZ (hw _ (List.mem_of_getElem? (i := 22) rfl)) (hw _ (List.mem_of_getElem? (i := 21) rfl)) (by decide) (by decide)) (g := (mkF m 250 #[.val (.int p1), .val (.int p2), .val (.int p3), .val (.int p4), .val (.int p5), .val (.int p6), .val (.int x1), .val (.int x2), .val (.int x3), .val (.int x4), .val (.int x5), .val (.int x6), .val (.ref b137), .val (.int (1 : Int32))] [(.int x4), (.int x3), (.int x2), (.int x1), (.int x2), (.ref b137)])) rfl (by rw [hml]; rfl) (argsL := [(.ref b137), (.int x2), (.int x1), (.int x2), (.int x3), (.int x4)]) (rest := []) (lenOf own_pd3 rfl) rfl (by show 2 * 0 + _ ≤ _; exact Nat.le_of_eq rfl) (hb hby at_250) (fun _ _ => ⟨rfl, e161, (by decide : 2 + 0 ≤ _), (by decide : 6 + 0 ≤ _)⟩)
  dsimp only [Pt.U, Pt.locs, Pt.cells, Pt.slots] at X164 l164 y164 z164 st164 hQ164
  subst l164 y164 z164
  obtain ⟨rfl, N164q, e164⟩ := hQ164
  have N164 := Fr.app N161 N164q
  have k165 : ∀ tg, Steps p.tables e below (T164.setTop (mkF m 253 #[.val (.int p1), .val (.int p2), .val (.int p3), .val (.int p4), .val (.int p5), .val (.int p6), .val (.int x1), .val (.int x2), .val (.int x3), .val (.int x4), .val (.int x5), .val (.int x6), .val (.ref b137), .val (.int (1 : Int32))] [(.int (1 : Int32))])) tg → Steps p.tables e below (s₁.setTop (entryFrame m #[(.int p1), (.int p2), (.int p3), (.int p4), (.int p5), (.int p6)] maxLocals)) tg := fun tg kg => k163 tg (st164 tg kg)
  have k166 : ∀ tg, Steps p.tables e below (T164.setTop (mkF m 265 #[.val (.int p1), .val (.int p2), .val (.int p3), .val (.int p4), .val (.int p5), .val (.int p6), .val (.int x1), .val (.int x2), .val (.int x3), .val (.int x4), .val (.int x5), .val (.int x6), .val (.ref b137), .val (.int (1 : Int32))] [(.int (1 : Int32))])) tg → Steps p.tables e below (s₁.setTop (entryFrame m #[(.int p1), (.int p2), (.int p3), (.int p4), (.int p5), (.int p6)] maxLocals)) tg := fun tg kg => k165 tg (by
      show Steps p.tables e below (T164.setTop (mkF m 253 #[.val (.int p1), .val (.int p2), .val (.int p3), .val (.int p4), .val (.int p5), .val (.int p6), .val (.int x1), .val (.int x2), .val (.int x3), .val (.int x4), .val (.int x5), .val (.int x6), .val (.ref b137), .val (.int (1 : Int32))] [(.int (1 : Int32))])) _
      refine XS.ifNo X164.here hx rfl (hb hby at_253) rfl ((if0 _ _).trans (feq (by decide)).1) ?_
      show Steps p.tables e below (T164.setTop (mkF m 256 #[.val (.int p1), .val (.int p2), .val (.int p3), .val (.int p4), .val (.int p5), .val (.int p6), .val (.int x1), .val (.int x2), .val (.int x3), .val (.int x4), .val (.int x5), .val (.int x6), .val (.ref b137), .val (.int (1 : Int32))] [])) _
      refine XS.iconst X164.here hx rfl (hb hby at_256) ?_
      show Steps p.tables e below (T164.setTop (mkF m 257 #[.val (.int p1), .val (.int p2), .val (.int p3), .val (.int p4), .val (.int p5), .val (.int p6), .val (.int x1), .val (.int x2), .val (.int x3), .val (.int x4), .val (.int x5), .val (.int x6), .val (.ref b137), .val (.int (1 : Int32))] [(.int (1 : Int32))])) _
      refine XS.goto X164.here hx rfl (pc0 := 257) (pc' := 261) rfl (hb hby at_257) (by decide) (by decide) ?_
      show Steps p.tables e below (T164.setTop (mkF m 261 #[.val (.int p1), .val (.int p2), .val (.int p3), .val (.int p4), .val (.int p5), .val (.int p6), .val (.int x1), .val (.int x2), .val (.int x3), .val (.int x4), .val (.int x5), .val (.int x6), .val (.ref b137), .val (.int (1 : Int32))] [(.int (1 : Int32))])) _
      refine XS.istore X164.here hx rfl (hb hby at_261) rfl (l' := #[.val (.int p1), .val (.int p2), .val (.int p3), .val (.int p4), .val (.int p5), .val (.int p6), .val (.int x1), .val (.int x2), .val (.int x3), .val (.int x4), .val (.int x5), .val (.int x6), .val (.ref b137), .val (.int (1 : Int32))]) rfl ?_
      show Steps p.tables e below (T164.setTop (mkF m 263 #[.val (.int p1), .val (.int p2), .val (.int p3), .val (.int p4), .val (.int p5), .val (.int p6), .val (.int x1), .val (.int x2), .val (.int x3), .val (.int x4), .val (.int x5), .val (.int x6), .val (.ref b137), .val (.int (1 : Int32))] [])) _
      refine XS.iload X164.here hx rfl (hb hby at_263) rfl ?_
      exact kg)
  obtain ⟨fs, hr, hrun, hended, hW, hsame⟩ := X164.leave (v := some (.int (1 : Int32))) (fun h => by rw [Bd.returns] at h; cases h)
  refine ⟨_, _, k166 _ ?_, hrun, hended, _, _, rfl, ?_, ⟨_, rfl⟩, hW, hsame.mono (by decide) (by decide)⟩
  · show Steps p.tables e below (T164.setTop (mkF m 265 #[.val (.int p1), .val (.int p2), .val (.int p3), .val (.int p4), .val (.int p5), .val (.int p6), .val (.int x1), .val (.int x2), .val (.int x3), .val (.int x4), .val (.int x5), .val (.int x6), .val (.ref b137), .val (.int (1 : Int32))] [(.int (1 : Int32))])) _
    exact retN X164 hx (t := .boolean) Bd.returns (by simp) (hb hby at_265) hr
  · show Q0 _ _ _ _ _ _ _ _ _ _ T164.heap _
    rw [e164]
    exact ⟨rfl, N164⟩
set_option maxRecDepth 65536 in
set_option maxHeartbeats 40000000 in
theorem comes_1 {Post : Tables → Env → Array Value → State → Outcome → State → Prop} (hpost : ∀ tb e args s v u, (limb_1_1.after args s (.returned v) u = true ∧ limb_1_2.after args s (.returned v) u = true ∧ True) → FrameEnd s (.returned v) u (Jvm.fieldLocs frame_1_writes args s ++ Jvm.arrayLocs frame_1_arrays args s ++ Jvm.staticLocs frame_1_statics s) 16 128 → Post tb e args s (.returned v) u) :
    ArmFor flags0 classFile x code maxLocals ret World_1 tables_1 room_1 Calls_1 rest_1 Pre_1 Post := by
  intro l hfl _ _ p e ha hc hk s m args below hf hA hF happ hP
  obtain ⟨hcalls, hrest, hpre⟩ := hP
  obtain ⟨-, -, -, hnamed, -, -, -, hat⟩ := (Spec.applies_iff hf).mp happ
  obtain ⟨hg, hn⟩ := and_e (Cond.before_iff.mp (show (Jvm.Cond.and given_1 narrow_1).before args s = true from hpre))
  obtain ⟨g1a, g1b⟩ := and_e hg
  obtain ⟨g2a, g2b⟩ := and_e g1b
  obtain ⟨g3a, g3b⟩ := and_e g2b
  obtain ⟨g4a, g4b⟩ := and_e g3b
  obtain ⟨g5a, g5b⟩ := and_e g4b
  obtain ⟨g6a, g6b⟩ := and_e g5b
  obtain ⟨w0, w1, w2, w3, w4, w5, rfl⟩ : ∃ w0 w1 w2 w3 w4 w5 : Value, args = #[w0, w1, w2, w3, w4, w5] := by
    have hs : args.size = 6 := by simpa [Cond.value, given_1] using g1a
    obtain ⟨L⟩ := args
    match L, hs with
    | [w0, w1, w2, w3, w4, w5], _ => exact ⟨w0, w1, w2, w3, w4, w5, rfl⟩
  have hw := fun d (hd : d ∈ tables_1) => atoms_spec (ws := Jvm.Cond.code x code maxLocals ret :: tables_1) hat d (List.mem_cons_of_mem _ hd)
  obtain ⟨i0, ei0⟩ := is_v g2a
  obtain rfl : w0 = (.int i0) := Option.some.inj ei0
  obtain ⟨i1, ei1⟩ := is_v g3a
  obtain rfl : w1 = (.int i1) := Option.some.inj ei1
  obtain ⟨i2, ei2⟩ := is_v g4a
  obtain rfl : w2 = (.int i2) := Option.some.inj ei2
  obtain ⟨i3, ei3⟩ := is_v g5a
  obtain rfl : w3 = (.int i3) := Option.some.inj ei3
  obtain ⟨i4, ei4⟩ := is_v g6a
  obtain rfl : w4 = (.int i4) := Option.some.inj ei4
  obtain ⟨i5, ei5⟩ := is_v g6b
  obtain rfl : w5 = (.int i5) := Option.some.inj ei5
  obtain ⟨n, o, h1, h2, h3, _, L, rfl, ⟨rfl, N⟩, hq⟩ := rm0 l s _ hw tables_1 i0 i1 i2 i3 i4 i5  s.heap s.heap.size (Nat.le_refl _)  p e ha hc hk s m _ below hf ((Spec.applies_iff_loose hf).mp happ).1 ⟨rfl, State.Warmed39.refl s, rfl⟩ trivial
  refine ⟨n, _, h1, h2, h3, hpost _ _ _ _ _ _ ⟨Cond.after_iff.mpr rfl, Cond.after_iff.mpr (eq_i res_at (Term.int_eval (1)) rfl), trivial⟩ ⟨hq.1, hq.2.1, (hq.2.2.sift fun y hy => Or.inr (N y hy)).mono (by decide) (by decide)⟩⟩
theorem main_1_1 : Claimed_1_1 := comes_1 fun _ _ _ _ _ _ h hF => ⟨h.1, hF⟩
theorem main_1_2 : Claimed_1_2 := comes_1 fun _ _ _ _ _ _ h hF => ⟨h.2.1, hF⟩
end Jvm.Pilot.@@N@@
namespace Jvm.Pilot.@@N@@
open Jvm Jvm.ClassFile Sem Op Lib Jvm.Free Jvm.Stand Jvm.Pilot.@@N@@.Jvm.D
/-! MADE BY PROGRAM (witnessworld.py) out of the Statement's table words and the real class files: 11 classes; the members and pool entries that the words name. The judged class is class 1, her method 3. -/
namespace start1
open Jvm.ClassFile
def u (s : String) : CpInfo := .utf8 (stringToUtf16 s)
/-- a pool by its gaps: so many unusable entries, then the entry; so many at the end -/
def gap : Nat → List CpInfo → List CpInfo
  | 0, r => r
  | n + 1, r => .unusable :: gap n r
def poolList (es : List (Nat × CpInfo)) (last : Nat) : List CpInfo := es.foldr (fun e r => gap e.1 (e.2 :: r)) (gap last [])
def pool (es : List (Nat × CpInfo)) (last : Nat) : Array CpInfo := ⟨poolList es last⟩
def fileOf (pool : Array CpInfo) (this : Nat) (attrs : Array Attribute := #[]) (ms : Array MethodInfo := #[]) (fl : Nat := 33) (sup : Nat := 0) (ifs : Array Nat := #[]) (fds : Array FieldInfo := #[]) : ClassFile where
  minorVersion := 0
  majorVersion := 65
  constantPool := pool
  accessFlags := fl
  thisClass := this
  superClass := sup
  interfaces := ifs
  fields := fds
  methods := ms
  attributes := attrs
def plain (name : String) (sup : Option ClassId) : Class where
  name := name
  kind := .ordinary
  loader := none
  accessFlags := 33
  super := sup
  interfaces := #[]
  cf := none
  fields := #[]
  methods := #[]
  instanceTypes := #[]
  staticTypes := #[]
  resolved := #[]
  callSites := []
  init := .initialized
  statics := none
  mirror := none

def pool0 : Array CpInfo := pool [(5, u "<init>"), (0, u "()V"), (1, .class_ 10), (1, u "java/lang/Object")] 113

def k0c0 : Code := { maxStack := 0, maxLocals := 1, code := object_method_1_code, exceptionTable := #[], attributes := #[] }
def k0m0 : Method := { name := "<init>", desc := "()V", sig := { parameters := [], returnType := none }, accessFlags := 1, code := some k0c0 }
/-- java/lang/Object -/
def k0 : Class := { plain "java/lang/Object" none with
  accessFlags := 33
  interfaces := #[]
  cf := some (fileOf pool0 8 #[] #[{ accessFlags := 1, nameIndex := 5, descriptorIndex := 6, attributes := #[] }] 33 0 #[] #[])
  fields := #[]
  methods := #[k0m0]
  instanceTypes := #[]
  staticTypes := #[]
  resolved := Array.replicate 124 none
  statics := none }

def pool1 : Array CpInfo := pool [(2, .class_ 4), (1, u "java/lang/Object"), (0, u "<init>"), (0, u "()V"), (0, .methodref 8 9), (0, .class_ 10), (0, .nameAndType 11 12), (0, u "com/example/opword/opword/dex/TakenBytes"), (0, u "anyTaken"), (0, u "(II)Z"), (0, .methodref 14 15), (0, .class_ 16), (0, .nameAndType 17 18), (0, u "com/example/opword/opword/dex/TakenBytesTakePinLaw"), (0, u "expected"), (0, u "(IIIII)Z"), (0, .integer 2147483647), (0, .methodref 8 21), (0, .nameAndType 5 22), (0, u "(I)V"), (0, .methodref 8 24), (0, .nameAndType 25 26), (0, u "take"), (0, u "(II)V"), (0, .methodref 14 28), (0, .nameAndType 29 30), (0, u "probe"), (0, u "(Lcom/example/opword/opword/dex/TakenBytes;IIIII)Z"), (3, u "law"), (0, u "(IIIIII)Z")] 2

def k1m0 : Method := { name := "<init>", desc := "()V", sig := { parameters := [], returnType := none }, accessFlags := 1, code := none }
def k1c1 : Code := { maxStack := 2, maxLocals := 5, code := method_2_code, exceptionTable := #[], attributes := #[] }
def k1m1 : Method := { name := "expected", desc := "(IIIII)Z", sig := { parameters := [.int, .int, .int, .int, .int], returnType := some .boolean }, accessFlags := 10, code := some k1c1 }
def k1c2 : Code := { maxStack := 6, maxLocals := 6, code := method_3_code, exceptionTable := #[], attributes := #[] }
def k1m2 : Method := { name := "probe", desc := "(Lcom/example/opword/opword/dex/TakenBytes;IIIII)Z", sig := { parameters := [(.object "com/example/opword/opword/dex/TakenBytes"), .int, .int, .int, .int, .int], returnType := some .boolean }, accessFlags := 10, code := some k1c2 }
def k1c3 : Code := { maxStack := 6, maxLocals := 14, code := code, exceptionTable := #[], attributes := #[] }
def k1m3 : Method := { name := "law", desc := "(IIIIII)Z", sig := { parameters := [.int, .int, .int, .int, .int, .int], returnType := some .boolean }, accessFlags := 9, code := some k1c3 }
/-- com/example/opword/opword/dex/TakenBytesTakePinLaw -/
def k1 : Class := { plain "com/example/opword/opword/dex/TakenBytesTakePinLaw" (some 0) with
  accessFlags := 49
  interfaces := #[]
  cf := some (fileOf pool1 14 #[] #[{ accessFlags := 1, nameIndex := 5, descriptorIndex := 6, attributes := #[] }, { accessFlags := 10, nameIndex := 17, descriptorIndex := 18, attributes := #[] }, { accessFlags := 10, nameIndex := 29, descriptorIndex := 30, attributes := #[] }, { accessFlags := 9, nameIndex := 34, descriptorIndex := 35, attributes := #[] }] 49 2 #[] #[])
  fields := #[]
  methods := #[k1m0, k1m1, k1m2, k1m3]
  instanceTypes := #[]
  staticTypes := #[]
  resolved := Array.replicate 38 none
  statics := none }

def pool2 : Array CpInfo := pool [(1, .methodref 2 3), (0, .class_ 4), (0, .nameAndType 5 6), (0, u "java/lang/Object"), (0, u "<init>"), (0, u "()V"), (2, .fieldref 10 11), (0, .class_ 12), (0, .nameAndType 13 14), (0, u "com/example/opword/opword/dex/TakenBytes"), (0, u "words"), (0, u "[J"), (0, .long 18446744073709551615), (1, u "(I)V"), (2, u "anyTaken"), (0, u "(II)Z"), (1, u "take"), (0, u "(II)V")] 2

def k2c0 : Code := { maxStack := 3, maxLocals := 2, code := prog_69_method_1_code, exceptionTable := #[], attributes := #[] }
def k2m0 : Method := { name := "<init>", desc := "(I)V", sig := { parameters := [.int], returnType := none }, accessFlags := 0, code := some k2c0 }
def k2c1 : Code := { maxStack := 4, maxLocals := 10, code := prog_69_method_2_code, exceptionTable := #[], attributes := #[] }
def k2m1 : Method := { name := "anyTaken", desc := "(II)Z", sig := { parameters := [.int, .int], returnType := some .boolean }, accessFlags := 0, code := some k2c1 }
def k2c2 : Code := { maxStack := 8, maxLocals := 10, code := prog_69_method_3_code, exceptionTable := #[], attributes := #[] }
def k2m2 : Method := { name := "take", desc := "(II)V", sig := { parameters := [.int, .int], returnType := none }, accessFlags := 0, code := some k2c2 }
/-- com/example/opword/opword/dex/TakenBytes -/
def k2 : Class := { plain "com/example/opword/opword/dex/TakenBytes" (some 0) with
  accessFlags := 48
  interfaces := #[]
  cf := some (fileOf pool2 10 #[] #[{ accessFlags := 0, nameIndex := 5, descriptorIndex := 17, attributes := #[] }, { accessFlags := 0, nameIndex := 20, descriptorIndex := 21, attributes := #[] }, { accessFlags := 0, nameIndex := 23, descriptorIndex := 24, attributes := #[] }] 48 2 #[] #[{ accessFlags := 18, nameIndex := 13, descriptorIndex := 14, attributes := #[] }])
  fields := #[{ name := "words", type := (.array .long), accessFlags := 18, slot := 0, constantValue := 0 }]
  methods := #[k2m0, k2m1, k2m2]
  instanceTypes := #[(.array .long)]
  staticTypes := #[]
  resolved := Array.replicate 27 none
  statics := none }

def pool3 : Array CpInfo := pool [(1, u "java/lang/Cloneable"), (0, .class_ 1), (0, u "java/lang/Object"), (0, .class_ 3)] 3

/-- java/lang/Cloneable -/
def k3 : Class := { plain "java/lang/Cloneable" (some 0) with
  accessFlags := 1537
  interfaces := #[]
  cf := some (fileOf pool3 2 #[] #[] 1537 4 #[] #[])
  fields := #[]
  methods := #[]
  instanceTypes := #[]
  staticTypes := #[]
  resolved := Array.replicate 8 none
  statics := none }

def pool4 : Array CpInfo := pool [(1, u "java/io/Serializable"), (0, .class_ 1), (0, u "java/lang/Object"), (0, .class_ 3)] 3

/-- java/io/Serializable -/
def k4 : Class := { plain "java/io/Serializable" (some 0) with
  accessFlags := 1537
  interfaces := #[]
  cf := some (fileOf pool4 2 #[] #[] 1537 4 #[] #[])
  fields := #[]
  methods := #[]
  instanceTypes := #[]
  staticTypes := #[]
  resolved := Array.replicate 8 none
  statics := none }

/-- the primitive byte -/
def k5 : Class := { plain "byte" none with kind := .primitive 'B', accessFlags := 0x411 }
/-- [B -/
def k6 : Class := { plain "[B" (some 0) with kind := .array 5 .byte, interfaces := #[3, 4], accessFlags := 1041 }

/-- the primitive int -/
def k7 : Class := { plain "int" none with kind := .primitive 'I', accessFlags := 0x411 }
/-- [I -/
def k8 : Class := { plain "[I" (some 0) with kind := .array 7 .int, interfaces := #[3, 4], accessFlags := 1041 }

/-- the primitive long -/
def k9 : Class := { plain "long" none with kind := .primitive 'J', accessFlags := 0x411 }
/-- [J -/
def k10 : Class := { plain "[J" (some 0) with kind := .array 9 .long, interfaces := #[3, 4], accessFlags := 1041 }

def heap : Heap := #[]
def classes : Array Class := #[k0, k1, k2, k3, k4, k5, k6, k7, k8, k9, k10]
def interned : List (Array UInt16 × Addr) := []
def slotsUsed : Nat := 0
def theMethod : MethodId := ⟨1, 3⟩
def args0 : Array Value := #[.int 5, .int 70, .int 100, .int 200, .int 3, .int 90]
def aboutOver (below : List Frame) : State where
  vm := { classes := classes, interned := interned.toArray }
  heap := heap
  slotsUsed := slotsUsed
  threads := #[{ frames := .invoking theMethod args0 :: below }]
def below0 : List Frame := [.native { method := ⟨0, 0⟩, args := #[] }]
def about1 : State := aboutOver below0
def p0 : Program := .bare "" "" ""
def e0 : Env := launch0.env 0 0 0
theorem w_frames : about1.frames = Frame.invoking theMethod args0 :: below0 := rfl
set_option maxRecDepth 65536 in
theorem w_args : argsFit about1.vm theMethod args0 = true := by decide +kernel
set_option maxRecDepth 65536 in
theorem w_heap : heapFits about1 = true := by decide +kernel
set_option maxRecDepth 65536 in
theorem w_runnable : about1.curStatus? = some .runnable := by decide +kernel
set_option maxRecDepth 65536 in
theorem w_alone : about1.alone = true := by decide +kernel
set_option maxRecDepth 65536 in
theorem w_named : about1.methodNamed? x = some theMethod := by decide +kernel
set_option maxRecDepth 65536 in
theorem w_hears : about1.hears theMethod below0 = true := by decide +kernel
set_option maxRecDepth 65536 in
theorem w_ripe : about1.ripe theMethod args0 below0 = true := by decide +kernel
theorem w_running : about1.status = .running := rfl
set_option maxRecDepth 65536 in
theorem w_room : about1.hasRoom e0.platform room_1 = true :=
  launch0.hasRoom_least _ room_1 (by decide +kernel) (by decide +kernel) (by decide +kernel) (by decide +kernel) (by decide +kernel) (by decide +kernel)
theorem allAtoms_all (ts : List Jvm.Cond) (a : Array Jvm.Value) (st : Jvm.State) : (allAtoms ts).before a st = ts.all (fun c => c.before a st) := by
  induction ts with
  | nil => rfl
  | cons c t ih =>
    show (Jvm.Cond.and c (allAtoms t)).before a st = _
    rw [Jvm.Cond.before_and, ih, List.all_cons]
def words1 : List Jvm.Cond := Jvm.Cond.code x code maxLocals ret :: tables_1
/-- a 'code' word, met by the world's own term for the bytes: nothing is compared byte by byte -/
theorem code_word {y : MethodName} {bytes : ByteArray} {mx : Nat} {rt : Option FieldType} {a : Array Value} {s : State} {m : MethodId} {meth : Method} {c : Code} (h1 : s.methodNamed? y = some m) (h2 : s.vm.method? m = some meth) (h3 : meth.code = some c) (h4 : c.code = bytes)
    (h5 : (c.maxLocals == mx && c.exceptionTable.isEmpty && decide (c.maxStack ≤ mostOperands) && decide (meth.sig.returnType = rt) && !meth.locks && decide (parseMethodDescriptor y.desc = some meth.sig)) = true) : (Jvm.Cond.code y bytes mx rt).before a s = true := by
  simp only [Bool.and_eq_true, beq_iff_eq, Bool.not_eq_true', decide_eq_true_eq] at h5
  obtain ⟨⟨⟨⟨⟨g1, g2⟩, g3⟩, g4⟩, g5⟩, g6⟩ := h5
  simp [Cond.before, Cond.holds, Cond.value, h1, h2, h3, h4, g1, g2, g3, g4, g5, g6]
def isCode : Jvm.Cond → Bool
  | .code _ _ _ _ => true
  | _ => false
theorem all_split {L : List Jvm.Cond} {P : Jvm.Cond → Bool} (h1 : L.all (fun c => isCode c || P c) = true) (h2 : ∀ c ∈ L.filter isCode, P c = true) : L.all P = true := by
  refine List.all_eq_true.mpr fun c hc => ?_
  have h := List.all_eq_true.mp h1 c hc
  rcases Bool.eq_false_or_eq_true (isCode c) with hi | hi
  · exact h2 c (List.mem_filter.mpr ⟨hc, hi⟩)
  · simpa [hi] using h
set_option maxRecDepth 65536 in
theorem w_c0 : (Jvm.Cond.code x code maxLocals ret).before args0 about1 = true := code_word (m := ⟨1, 3⟩) (meth := k1m3) (c := k1c3) (by decide +kernel) rfl rfl rfl (by decide +kernel)
set_option maxRecDepth 65536 in
theorem w_c1 : (Jvm.Cond.code ({ cls := "com/example/opword/opword/dex/TakenBytes", name := "<init>", desc := "(I)V" } : Jvm.MethodName) prog_69_method_1_code (2 : Nat) (Option.none : Option Jvm.ClassFile.FieldType)).before args0 about1 = true := code_word (m := ⟨2, 0⟩) (meth := k2m0) (c := k2c0) (by decide +kernel) rfl rfl rfl (by decide +kernel)
set_option maxRecDepth 65536 in
theorem w_c2 : (Jvm.Cond.code ({ cls := "java/lang/Object", name := "<init>", desc := "()V" } : Jvm.MethodName) object_method_1_code (1 : Nat) (Option.none : Option Jvm.ClassFile.FieldType)).before args0 about1 = true := code_word (m := ⟨0, 0⟩) (meth := k0m0) (c := k0c0) (by decide +kernel) rfl rfl rfl (by decide +kernel)
set_option maxRecDepth 65536 in
theorem w_c3 : (Jvm.Cond.code ({ cls := "com/example/opword/opword/dex/TakenBytes", name := "take", desc := "(II)V" } : Jvm.MethodName) prog_69_method_3_code (10 : Nat) (Option.none : Option Jvm.ClassFile.FieldType)).before args0 about1 = true := code_word (m := ⟨2, 2⟩) (meth := k2m2) (c := k2c2) (by decide +kernel) rfl rfl rfl (by decide +kernel)
set_option maxRecDepth 65536 in
theorem w_c4 : (Jvm.Cond.code ({ cls := "com/example/opword/opword/dex/TakenBytesTakePinLaw", name := "probe", desc := "(Lcom/example/opword/opword/dex/TakenBytes;IIIII)Z" } : Jvm.MethodName) method_3_code (6 : Nat) (Option.some Jvm.ClassFile.FieldType.boolean)).before args0 about1 = true := code_word (m := ⟨1, 2⟩) (meth := k1m2) (c := k1c2) (by decide +kernel) rfl rfl rfl (by decide +kernel)
set_option maxRecDepth 65536 in
theorem w_c5 : (Jvm.Cond.code ({ cls := "com/example/opword/opword/dex/TakenBytes", name := "anyTaken", desc := "(II)Z" } : Jvm.MethodName) prog_69_method_2_code (10 : Nat) (Option.some Jvm.ClassFile.FieldType.boolean)).before args0 about1 = true := code_word (m := ⟨2, 1⟩) (meth := k2m1) (c := k2c1) (by decide +kernel) rfl rfl rfl (by decide +kernel)
set_option maxRecDepth 65536 in
theorem w_c6 : (Jvm.Cond.code ({ cls := "com/example/opword/opword/dex/TakenBytesTakePinLaw", name := "expected", desc := "(IIIII)Z" } : Jvm.MethodName) method_2_code (5 : Nat) (Option.some Jvm.ClassFile.FieldType.boolean)).before args0 about1 = true := code_word (m := ⟨1, 1⟩) (meth := k1m1) (c := k1c1) (by decide +kernel) rfl rfl rfl (by decide +kernel)
def codes1 : List Jvm.Cond := [Jvm.Cond.code x code maxLocals ret, Jvm.Cond.code ({ cls := "com/example/opword/opword/dex/TakenBytes", name := "<init>", desc := "(I)V" } : Jvm.MethodName) prog_69_method_1_code (2 : Nat) (Option.none : Option Jvm.ClassFile.FieldType), Jvm.Cond.code ({ cls := "java/lang/Object", name := "<init>", desc := "()V" } : Jvm.MethodName) object_method_1_code (1 : Nat) (Option.none : Option Jvm.ClassFile.FieldType), Jvm.Cond.code ({ cls := "com/example/opword/opword/dex/TakenBytes", name := "take", desc := "(II)V" } : Jvm.MethodName) prog_69_method_3_code (10 : Nat) (Option.none : Option Jvm.ClassFile.FieldType), Jvm.Cond.code ({ cls := "com/example/opword/opword/dex/TakenBytesTakePinLaw", name := "probe", desc := "(Lcom/example/opword/opword/dex/TakenBytes;IIIII)Z" } : Jvm.MethodName) method_3_code (6 : Nat) (Option.some Jvm.ClassFile.FieldType.boolean), Jvm.Cond.code ({ cls := "com/example/opword/opword/dex/TakenBytes", name := "anyTaken", desc := "(II)Z" } : Jvm.MethodName) prog_69_method_2_code (10 : Nat) (Option.some Jvm.ClassFile.FieldType.boolean), Jvm.Cond.code ({ cls := "com/example/opword/opword/dex/TakenBytesTakePinLaw", name := "expected", desc := "(IIIII)Z" } : Jvm.MethodName) method_2_code (5 : Nat) (Option.some Jvm.ClassFile.FieldType.boolean)]
set_option maxRecDepth 65536 in
theorem codes_eq : words1.filter isCode = codes1 := rfl
theorem w_codes : ∀ c ∈ words1.filter isCode, c.before args0 about1 = true := by
  rw [codes_eq]
  intro c hc
  simp only [codes1, List.mem_cons, List.not_mem_nil, or_false] at hc
  rcases hc with rfl | rfl | rfl | rfl | rfl | rfl | rfl
  · exact w_c0
  · exact w_c1
  · exact w_c2
  · exact w_c3
  · exact w_c4
  · exact w_c5
  · exact w_c6
set_option maxRecDepth 65536 in
theorem w_t1 : (words1.take 24).all (fun c => isCode c || c.before args0 about1) = true := by decide +kernel
set_option maxRecDepth 65536 in
theorem w_t2 : (words1.drop 24).all (fun c => isCode c || c.before args0 about1) = true := by decide +kernel
theorem w_tables : (allAtoms (Jvm.Cond.code x code maxLocals ret :: tables_1)).before args0 about1 = true := by
  rw [allAtoms_all]
  show words1.all (fun c => c.before args0 about1) = true
  refine all_split ?_ w_codes
  rw [← List.take_append_drop 24 words1, List.all_append, w_t1, w_t2]
  rfl
set_option maxRecDepth 65536 in
theorem w_case : (Jvm.Cond.and given_1 narrow_1).before args0 about1 = true := by decide +kernel
theorem w_applies : (headSpec (Jvm.Cond.code x code maxLocals ret :: tables_1) room_1).applies x e0.platform about1 = true :=
  (Spec.applies_iff w_frames).mpr ⟨w_running, w_runnable, w_alone, w_named, w_hears, w_ripe, w_room, w_tables⟩
theorem atStart : AtStart classFile x code maxLocals ret World_1 tables_1 room_1 Calls_1 rest_1 Pre_1 launch0 p0 e0 about1 theMethod args0 below0 :=
  ⟨lists_1, trivial, launch0.admits_env _ _ _, launch0.least_env, fairChoices_fair.cas, fairChoices_fair.clock, w_frames, w_args, w_heap, w_applies, trivial, trivial, w_case⟩
end start1
theorem witness_1 : WitnessClaimed_1 := ⟨start1.p0, start1.e0, start1.about1, start1.theMethod, start1.args0, start1.below0, start1.atStart⟩
end Jvm.Pilot.@@N@@
