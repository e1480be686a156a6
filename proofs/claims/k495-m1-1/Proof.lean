import JvmDerived
import JvmDerived.Pilot.@@N@@Statement
import JvmDerived.Pilot.@@N@@Code
set_option linter.unusedVariables false
set_option linter.unusedSimpArgs false
namespace Jvm.RoadKit
open Sem ClassFile Op Lib Jvm.Stand Jvm.Free Jvm.LawKit
section New
variable {p : Program} {l : Launch} {e : Env} {R : Room} {s : State} {m : MethodId} {args : Array Value} {below : List Frame} {meth : Method} {c : Code} {T : State} {locs : List Loc} {cells slots : Nat}
theorem retI (X : Stand p l e R s m args below meth c T locs cells slots) (hx : p.tables.exec = Jvm.exec) {pc : Nat} {Ls : Array Slot} {z : Int32} {rest : List Value} (hret : meth.sig.returnType = some .int) (hd : decode c.code pc = .ok (.ireturn, 1)) {fs : List Frame}
    (hl : ∀ (f : JFrame) (acts : List Action), f.method = m → f.locked = none → f.entered = [] → (doReturn e (T.setTop f) acts (some (.int z))).1 = T.setFrames fs) : Steps p.tables e below (T.setTop (mkF m pc Ls (.int z :: rest))) (T.setFrames fs) := by
  have hm' : T.vm.method? m = some meth := X.method'
  have hn : narrow .int (.int z) = .int z := rfl
  show Steps p.tables e below (T.setTop { method := m, pc := pc, locals := Ls, stack := _ :: rest, locked := none }) _
  jvm_step X.here [X.here.top, hx, hd, hm', hret, hn]
  first | (intro acts; rw [hl _ acts rfl rfl rfl]) | rw [hl _ _ rfl rfl rfl]
  exact Steps.refl _
end New
end Jvm.RoadKit
namespace Jvm.Pilot.@@N@@
open Jvm Jvm.ClassFile Sem Op Lib Jvm.Free Jvm.Stand Jvm.LawKit Jvm.RoadKit Bundle Jvm.Pilot.@@N@@.Jvm.D
theorem own_pd0 : parseMethodDescriptor "(I)I" = some ⟨[.int], some .int⟩ := by decide +kernel
theorem own_pd1 : parseMethodDescriptor "(I)V" = some ⟨[.int], none⟩ := by decide +kernel
theorem own_pd2 : parseMethodDescriptor "()V" = some ⟨[], none⟩ := by decide +kernel
theorem own_pd3 : parseMethodDescriptor "(II)V" = some ⟨[.int, .int], none⟩ := by decide +kernel
theorem own_pd4 : parseMethodDescriptor "(II)Z" = some ⟨[.int, .int], some .boolean⟩ := by decide +kernel
theorem own_pd5 : parseMethodDescriptor "(IIII)Z" = some ⟨[.int, .int, .int, .int], some .boolean⟩ := by decide +kernel
theorem own_pd6 : parseMethodDescriptor "(II)I" = some ⟨[.int, .int], some .int⟩ := by decide +kernel
theorem own_ni {a b : Addr} {n : Nat} (h : a < n) (g : b = n) : a ∉ [b] := fun q => absurd (List.mem_singleton.mp q) (Nat.ne_of_lt (g ▸ h))
theorem own_in0 (a : Addr) (l : List Addr) : a ∈ a :: l := List.mem_cons_self ..
/-- an array: its kind, its length, what each place holds -/
def Av (Z : State) (h : Heap) (a : Addr) (ty : FieldType) (N : Nat) (g : Nat → Value) : Prop := ∃ c : Cell, Arr Z h a c ty ∧ c.slots.size = N ∧ ∀ j, j < N → c.slots[j]? = some (g j)
theorem Av.lt {Z : State} {h : Heap} {a : Addr} {ty : FieldType} {N : Nat} {g : Nat → Value} (V : Av Z h a ty N g) : a < h.size := by obtain ⟨c, A, -⟩ := V; exact A.lt
theorem Av.ext {Z : State} {h h' : Heap} {a : Addr} {ty : FieldType} {N : Nat} {g : Nat → Value} (V : Av Z h a ty N g) (E : Ext h h') : Av Z h' a ty N g := by obtain ⟨c, A, r⟩ := V; exact ⟨c, A.ext E, r⟩
theorem Av.other {Z : State} {h h' : Heap} {a b : Addr} {ty : FieldType} {N sl : Nat} {v : Value} {g : Nat → Value} (V : Av Z h b ty N g) (W : Wr h h' a sl v) (q : b ≠ a) : Av Z h' b ty N g := by obtain ⟨c, A, r⟩ := V; exact ⟨c, A.other W q, r⟩
theorem Av.keep {Z : State} {h h' : Heap} {a : Addr} {ty : FieldType} {N : Nat} {g : Nat → Value} {ws : List Addr} (V : Av Z h a ty N g) (K : Keep h h' ws) (q : a ∉ ws) : Av Z h' a ty N g := by obtain ⟨c, A, r⟩ := V; exact ⟨c, ⟨K.2.1 a c A.1 q, A.2⟩, r⟩
theorem Av.congr {Z : State} {h : Heap} {a : Addr} {ty : FieldType} {N : Nat} {g g' : Nat → Value} (V : Av Z h a ty N g) (q : ∀ j, j < N → g j = g' j) : Av Z h a ty N g' := by obtain ⟨c, A, S, G⟩ := V; exact ⟨c, A, S, fun j hj => (G j hj).trans (congrArg some (q j hj))⟩
theorem Av.new {Z : State} {h : Heap} {a : Addr} {cA : ClassId} {ty : FieldType} {n : Int32} (A : Arr Z h a (newA cA ty n) ty) {N : Nat} (hN : n.toInt = N) : Av Z h a ty N (fun _ => defaultValue ty) := by
  have e : n.toNatClampNeg = N := by rw [Int32.toNatClampNeg, hN]; rfl
  refine ⟨_, A, (sz_new _ _ _).trans e, fun j hj => ?_⟩
  simp [newA, e, hj]
theorem own_tn {j : Int32} {i : Nat} (hj : j.toInt = i) : j.toNatClampNeg = i := by rw [Int32.toNatClampNeg, hj]; rfl
theorem own_hin {cl : Cell} {N i : Nat} {j : Int32} (S : cl.slots.size = N) (hj : j.toInt = i) (hi : i < N) : ¬ (j < 0 ∨ cl.slots.size ≤ j.toNatClampNeg) := by
  rw [S, own_tn hj, Int32.lt_iff_toInt_lt, hj, show (0 : Int32).toInt = 0 from rfl]
  omega
theorem own_hat {cl : Cell} {N i : Nat} {j : Int32} {g : Nat → Value} (G : ∀ j, j < N → cl.slots[j]? = some (g j)) (hj : j.toInt = i) (hi : i < N) : cl.slots[j.toNatClampNeg]? = some (g i) := by
  rw [own_tn hj]; exact G i hi
theorem Av.set {Z : State} {h h' : Heap} {a : Addr} {ty : FieldType} {N i : Nat} {g : Nat → Value} {v : Value} {c : Cell} {j : Int32} (A : Arr Z h a c ty) (S : c.slots.size = N) (G : ∀ j, j < N → c.slots[j]? = some (g j)) (hj : j.toInt = i) (W : Wr h h' a j.toNatClampNeg v) : Av Z h' a ty N (fun k => if k = i then v else g k) := by
  refine ⟨_, A.same W, (sz_set _ _ _).trans S, fun k hk => ?_⟩
  show (c.slots.setIfInBounds j.toNatClampNeg v)[k]? = some (if k = i then v else g k)
  rw [own_tn hj, Array.getElem?_setIfInBounds]
  by_cases q : i = k
  · subst q; simp [S, hk]
  · rw [if_neg q, if_neg (fun z => q z.symm)]; exact G k hk
theorem own_nneg {j : Int32} {i : Nat} (hj : j.toInt = i) : ¬ j < 0 := by
  rw [Int32.lt_iff_toInt_lt, hj, show (0 : Int32).toInt = 0 from rfl]; omega
theorem own_sz {cl : Cell} {N : Nat} {j : Int32} (S : cl.slots.size = N) (hj : j.toInt = N) : cl.slots.size = j.toNatClampNeg := by rw [S, own_tn hj]
theorem own_ni1 {a b : Addr} (h : a ≠ b) : a ∉ [b] := fun q => h (List.mem_singleton.mp q)
theorem own_nat {x : Int32} {n : Nat} (hx : x.toInt = n) : x.toBitVec.toNat = n := by
  have e : x.toInt = x.toBitVec.toInt := rfl
  rw [e, BitVec.toInt_eq_toNat_cond] at hx
  have := x.toBitVec.isLt
  split at hx <;> omega
theorem own_inc {x : Int32} {i : Nat} (hx : x.toInt = i) (hi : i < 2147483647) : (x + (1 : Int32)).toInt = ((i + 1 : Nat) : Int) := by
  have h := c_iadd x (1 : Int32)
  have := rng32 (x + (1 : Int32))
  rw [show (1 : Int32).toInt = 1 from by decide] at h
  omega
theorem own_lt {x y : Int32} {i j : Nat} (hx : x.toInt = i) (hy : y.toInt = j) : x < y ↔ i < j := by
  rw [Int32.lt_iff_toInt_lt, hx, hy]; omega
theorem own_eqi {x y : Int32} {i j : Nat} (hx : x.toInt = i) (hy : y.toInt = j) : x = y ↔ i = j := by
  rw [← Int32.toInt_inj, hx, hy]; omega
/-- the bit x of the words f -/
def own_bit (f : Nat → Int64) (x : Nat) : Bool := (f (x / 64)).toBitVec.getLsbD (x % 64)
def own_fm (x : Int32) : Int64 := (-1 : Int64) <<< (x &&& 0x3f).toInt64
def own_lm (x : Int32) : Int64 := (((-1 : Int64).toUInt64 >>> ((-x) &&& 0x3f).toInt64.toUInt64).toInt64)
theorem own_ones {i : Nat} (hi : i < 64) : (-1 : Int64).toBitVec.getLsbD i = true := by
  rw [show (-1 : Int64).toBitVec = BitVec.allOnes 64 from by decide, BitVec.getLsbD_allOnes]; exact decide_eq_true hi
theorem own_fmb {x : Int32} {n : Nat} (hx : x.toInt = n) {i : Nat} (hi : i < 64) : (own_fm x).toBitVec.getLsbD i = decide (n % 64 ≤ i) := by
  obtain ⟨e, l⟩ := sm64 x (n % 64) (by rw [own_nat hx])
  show ((-1 : Int64).toBitVec <<< ((x &&& 0x3f).toInt64.toBitVec.smod 64)).getLsbD i = _
  rw [BitVec.shiftLeft_eq', e, smod64 _ l, show (-1 : Int64).toBitVec = BitVec.allOnes 64 from by decide, BitVec.getLsbD_shiftLeft, BitVec.getLsbD_allOnes, decide_eq_true hi, decide_eq_true (show i - n % 64 < 64 by omega)]
  by_cases q : n % 64 ≤ i
  · simp [q, Nat.not_lt.mpr q]
  · simp [q, Nat.lt_of_not_le q]
theorem own_lmb {x : Int32} {n : Nat} (hx : x.toInt = n) (hn : 0 < n) {i : Nat} (hi : i < 64) : (own_lm x).toBitVec.getLsbD i = decide (i ≤ (n - 1) % 64) := by
  have r := rng32 x
  have hN : (-x).toBitVec.toNat % 64 = (64 - n % 64) % 64 := by
    show (-x.toBitVec).toNat % 64 = _
    rw [BitVec.toNat_neg, own_nat hx]
    omega
  obtain ⟨e, l⟩ := sm64 (-x) _ hN
  show ((-1 : Int64).toBitVec >>> (((-x) &&& 0x3f).toInt64.toBitVec % 64)).getLsbD i = _
  rw [BitVec.ushiftRight_eq', e, show (-1 : Int64).toBitVec = BitVec.allOnes 64 from by decide, BitVec.getLsbD_ushiftRight, BitVec.getLsbD_allOnes, BitVec.toNat_umod, BitVec.toNat_ofNat]
  apply decide_eq_decide.mpr
  rw [show (64 : BitVec 64).toNat = 64 from by decide]
  omega
/-- one word with a mask laid over it -/
def own_f1 (f : Nat → Int64) (q : Nat) (w : Int64) : Nat → Int64 := fun j => if j = q then (f q ||| w) else f j
/-- the words from i to l all ones -/
def own_f2 (f : Nat → Int64) (i l : Nat) : Nat → Int64 := fun j => if i ≤ j ∧ j < l then (-1 : Int64) else f j
theorem own_f2a {f : Nat → Int64} {i : Nat} (j : Nat) : (if j = i then Value.long (-1 : Int64) else Value.long (f j)) = Value.long (own_f2 f i (i + 1) j) := by
  unfold own_f2
  by_cases h : j = i
  · rw [if_pos h, if_pos (by omega)]
  · rw [if_neg h, if_neg (by omega)]
theorem own_f2s {f : Nat → Int64} {i l : Nat} (h : i < l) (j : Nat) : own_f2 (own_f2 f i (i + 1)) (i + 1) l j = own_f2 f i l j := by
  unfold own_f2
  by_cases h1 : i + 1 ≤ j ∧ j < l
  · rw [if_pos h1, if_pos (by omega)]
  · rw [if_neg h1]
    by_cases h2 : i ≤ j ∧ j < i + 1
    · rw [if_pos h2, if_pos (by omega)]
    · rw [if_neg h2, if_neg (by omega)]
theorem own_t1 {x y : Int32} {a b : Nat} (hx : x.toInt = a) (hy : y.toInt = b) (hab : a < b) (hq : a / 64 = (b - 1) / 64) (f : Nat → Int64) (z : Nat) : own_bit (own_f1 f (a / 64) (own_fm x &&& own_lm y)) z = (own_bit f z || decide (a ≤ z ∧ z < b)) := by
  have hz : z % 64 < 64 := Nat.mod_lt _ (by decide)
  unfold own_bit own_f1
  by_cases h : z / 64 = a / 64
  · rw [if_pos h, Int64.toBitVec_or, Int64.toBitVec_and, BitVec.getLsbD_or, BitVec.getLsbD_and, own_fmb hx hz, own_lmb hy (by omega) hz, ← h]
    congr 1
    rw [← Bool.decide_and]
    exact decide_eq_decide.mpr (by omega)
  · rw [if_neg h, decide_eq_false (show ¬ (a ≤ z ∧ z < b) by omega), Bool.or_false]
theorem own_t2 {x y : Int32} {a b : Nat} (hx : x.toInt = a) (hy : y.toInt = b) (hab : a < b) (hq : ¬ a / 64 = (b - 1) / 64) (f : Nat → Int64) (z : Nat) :
    own_bit (own_f1 (own_f2 (own_f1 f (a / 64) (own_fm x)) (a / 64 + 1) ((b - 1) / 64)) ((b - 1) / 64) (own_lm y)) z = (own_bit f z || decide (a ≤ z ∧ z < b)) := by
  have hz : z % 64 < 64 := Nat.mod_lt _ (by decide)
  unfold own_bit own_f1 own_f2
  dsimp only
  by_cases h : z / 64 = (b - 1) / 64
  · rw [if_pos h, if_neg (show ¬ (a / 64 + 1 ≤ (b - 1) / 64 ∧ (b - 1) / 64 < (b - 1) / 64) by omega), if_neg (show ¬ (b - 1) / 64 = a / 64 by omega), Int64.toBitVec_or, BitVec.getLsbD_or, own_lmb hy (by omega) hz, ← h]
    congr 1
    exact decide_eq_decide.mpr (by omega)
  · rw [if_neg h]
    by_cases h2 : a / 64 + 1 ≤ z / 64 ∧ z / 64 < (b - 1) / 64
    · rw [if_pos h2, own_ones hz, decide_eq_true (show a ≤ z ∧ z < b by omega), Bool.or_true]
    · rw [if_neg h2]
      by_cases h3 : z / 64 = a / 64
      · rw [if_pos h3, Int64.toBitVec_or, BitVec.getLsbD_or, own_fmb hx hz, ← h3]
        congr 1
        exact decide_eq_decide.mpr (by omega)
      · rw [if_neg h3, decide_eq_false (show ¬ (a ≤ z ∧ z < b) by omega), Bool.or_false]
theorem own_t0 {a b : Nat} (h : ¬ a < b) (f : Nat → Int64) (z : Nat) : own_bit f z = (own_bit f z || decide (a ≤ z ∧ z < b)) := by
  rw [decide_eq_false (show ¬ (a ≤ z ∧ z < b) by omega), Bool.or_false]
/-- some byte from a to b is taken -/
def own_any (f : Nat → Int64) (a b : Nat) : Bool := (List.range b).any fun z => decide (a ≤ z) && own_bit f z
theorem own_any_iff {f : Nat → Int64} {a b : Nat} : own_any f a b = true ↔ ∃ z, a ≤ z ∧ z < b ∧ own_bit f z = true := by
  simp only [own_any, List.any_eq_true, List.mem_range, Bool.and_eq_true, decide_eq_true_eq]
  exact ⟨fun ⟨z, h1, h2, h3⟩ => ⟨z, h2, h1, h3⟩, fun ⟨z, h1, h2, h3⟩ => ⟨z, h2, h1, h3⟩⟩
def own_ab (f : Nat → Int64) (a b : Nat) : Int32 := if own_any f a b = true then 1 else 0
theorem own_ab1 {f : Nat → Int64} {a b : Nat} (h : ∃ z, a ≤ z ∧ z < b ∧ own_bit f z = true) : own_ab f a b = 1 := if_pos (own_any_iff.mpr h)
theorem own_ab0 {f : Nat → Int64} {a b : Nat} (h : ¬ ∃ z, a ≤ z ∧ z < b ∧ own_bit f z = true) : own_ab f a b = 0 := if_neg fun q => h (own_any_iff.mp q)
theorem own_zero (w : Int64) : w = 0 ↔ ∀ i, i < 64 → w.toBitVec.getLsbD i = false := by
  constructor
  · intro h i _
    rw [h]; show (0 : BitVec 64).getLsbD i = false
    simp
  · intro h
    apply Int64.toBitVec_inj.mp
    apply BitVec.eq_of_getLsbD_eq
    intro i hi
    rw [h i hi]; show false = (0 : BitVec 64).getLsbD i
    simp
theorem own_nz {w : Int64} (h : ¬ w = 0) : ∃ i, i < 64 ∧ w.toBitVec.getLsbD i = true := by
  apply Classical.byContradiction
  intro q
  exact h ((own_zero w).mpr fun i hi => by
    cases e : w.toBitVec.getLsbD i
    · rfl
    · exact absurd ⟨i, hi, e⟩ q)
theorem own_mk (f : Nat → Int64) (q : Nat) {i : Nat} (hi : i < 64) : own_bit f (64 * q + i) = (f q).toBitVec.getLsbD i := by
  rw [own_bit, show (64 * q + i) / 64 = q by omega, show (64 * q + i) % 64 = i by omega]
section Any
variable {x y : Int32} {a b : Nat} (hx : x.toInt = a) (hy : y.toInt = b) (hab : a < b) {f : Nat → Int64}
theorem own_a1 (hx : x.toInt = a) (hy : y.toInt = b) (hab : a < b) (hq : a / 64 = (b - 1) / 64) : ((f (a / 64) &&& own_fm x) &&& own_lm y) = 0 ↔ ¬ ∃ z, a ≤ z ∧ z < b ∧ own_bit f z = true := by
  rw [own_zero]
  constructor
  · rintro h ⟨z, h1, h2, h3⟩
    have hz : z % 64 < 64 := Nat.mod_lt _ (by decide)
    have g := h (z % 64) hz
    rw [Int64.toBitVec_and, Int64.toBitVec_and, BitVec.getLsbD_and, BitVec.getLsbD_and, own_fmb hx hz, own_lmb hy (by omega) hz, decide_eq_true (show a % 64 ≤ z % 64 by omega), decide_eq_true (show z % 64 ≤ (b - 1) % 64 by omega), Bool.and_true, Bool.and_true] at g
    rw [own_bit, show z / 64 = a / 64 by omega, g] at h3
    cases h3
  · intro h i hi
    rw [Int64.toBitVec_and, Int64.toBitVec_and, BitVec.getLsbD_and, BitVec.getLsbD_and, own_fmb hx hi, own_lmb hy (by omega) hi]
    cases e : (f (a / 64)).toBitVec.getLsbD i
    · rfl
    · by_cases h1 : a % 64 ≤ i
      · by_cases h2 : i ≤ (b - 1) % 64
        · exact absurd ⟨64 * (a / 64) + i, by omega, by omega, by rw [own_mk f _ hi]; exact e⟩ h
        · simp [h2]
      · simp [h1]
theorem own_a2 (hx : x.toInt = a) (hab : a < b) (hq : ¬ a / 64 = (b - 1) / 64) (h : ¬ (f (a / 64) &&& own_fm x) = 0) : ∃ z, a ≤ z ∧ z < b ∧ own_bit f z = true := by
  obtain ⟨i, hi, g⟩ := own_nz h
  rw [Int64.toBitVec_and, BitVec.getLsbD_and, own_fmb hx hi, Bool.and_eq_true, decide_eq_true_eq] at g
  exact ⟨64 * (a / 64) + i, by omega, by omega, by rw [own_mk f _ hi]; exact g.1⟩
theorem own_a3 (hy : y.toInt = b) (hab : a < b) (hq : ¬ a / 64 = (b - 1) / 64) (h : ¬ (f ((b - 1) / 64) &&& own_lm y) = 0) : ∃ z, a ≤ z ∧ z < b ∧ own_bit f z = true := by
  obtain ⟨i, hi, g⟩ := own_nz h
  rw [Int64.toBitVec_and, BitVec.getLsbD_and, own_lmb hy (by omega) hi, Bool.and_eq_true, decide_eq_true_eq] at g
  exact ⟨64 * ((b - 1) / 64) + i, by omega, by omega, by rw [own_mk f _ hi]; exact g.1⟩
theorem own_a4 (hab : a < b) {j : Nat} (h1 : a / 64 < j) (h2 : j < (b - 1) / 64) (h : ¬ f j = 0) : ∃ z, a ≤ z ∧ z < b ∧ own_bit f z = true := by
  obtain ⟨i, hi, g⟩ := own_nz h
  exact ⟨64 * j + i, by omega, by omega, by rw [own_mk f _ hi]; exact g⟩
theorem own_a5 (hx : x.toInt = a) (hy : y.toInt = b) (hab : a < b) (hq : ¬ a / 64 = (b - 1) / 64) (h1 : (f (a / 64) &&& own_fm x) = 0) (h2 : (f ((b - 1) / 64) &&& own_lm y) = 0) (h3 : ∀ j, a / 64 + 1 ≤ j → j < (b - 1) / 64 → f j = 0) : ¬ ∃ z, a ≤ z ∧ z < b ∧ own_bit f z = true := by
  rintro ⟨z, g1, g2, g3⟩
  have hz : z % 64 < 64 := Nat.mod_lt _ (by decide)
  rw [own_zero] at h1 h2
  by_cases c1 : z / 64 = a / 64
  · have g := h1 _ hz
    rw [Int64.toBitVec_and, BitVec.getLsbD_and, own_fmb hx hz, decide_eq_true (show a % 64 ≤ z % 64 by omega), Bool.and_true] at g
    rw [own_bit, c1, g] at g3; cases g3
  · by_cases c2 : z / 64 = (b - 1) / 64
    · have g := h2 _ hz
      rw [Int64.toBitVec_and, BitVec.getLsbD_and, own_lmb hy (by omega) hz, decide_eq_true (show z % 64 ≤ (b - 1) % 64 by omega), Bool.and_true] at g
      rw [own_bit, c2, g] at g3; cases g3
    · have g := (own_zero _).mp (h3 (z / 64) (by omega) (by omega)) _ hz
      rw [own_bit, g] at g3; cases g3
end Any
theorem own_d64 {x : Int32} {a : Nat} (hx : x.toInt = a) : (x / (64 : Int32)).toInt = ((a / 64 : Nat) : Int) := by
  have h := (c_idiv x (64 : Int32) 64 (by decide) (by decide)).1 (by omega)
  rw [h, hx]; omega
theorem own_d65 {x : Int32} {a : Nat} (hx : x.toInt = a) (ha : 0 < a) : ((x - (1 : Int32)) / (64 : Int32)).toInt = (((a - 1) / 64 : Nat) : Int) := by
  have h := c_isub x (1 : Int32)
  have := rng32 x; have := rng32 (x - (1 : Int32))
  rw [show (1 : Int32).toInt = 1 from by decide] at h
  exact own_d64 (by omega)
theorem d2_0 : decode prog_69_method_1_code 0 = .ok (.aload_n 0, 1) := by decide +kernel
theorem d2_1 : decode prog_69_method_1_code 1 = .ok (.invokespecial 1, 3) := by decide +kernel
theorem d2_4 : decode prog_69_method_1_code 4 = .ok (.aload_n 0, 1) := by decide +kernel
theorem d2_5 : decode prog_69_method_1_code 5 = .ok (.iload_n 1, 1) := by decide +kernel
theorem d2_6 : decode prog_69_method_1_code 6 = .ok (.bipush 64, 2) := by decide +kernel
theorem d2_8 : decode prog_69_method_1_code 8 = .ok (.iadd, 1) := by decide +kernel
theorem d2_9 : decode prog_69_method_1_code 9 = .ok (.iconst 1, 1) := by decide +kernel
theorem d2_10 : decode prog_69_method_1_code 10 = .ok (.isub, 1) := by decide +kernel
theorem d2_11 : decode prog_69_method_1_code 11 = .ok (.bipush 64, 2) := by decide +kernel
theorem d2_13 : decode prog_69_method_1_code 13 = .ok (.idiv, 1) := by decide +kernel
theorem d2_14 : decode prog_69_method_1_code 14 = .ok (.newarray .long, 2) := by decide +kernel
theorem d2_16 : decode prog_69_method_1_code 16 = .ok (.putfield 9, 3) := by decide +kernel
theorem d2_19 : decode prog_69_method_1_code 19 = .ok (.return_, 1) := by decide +kernel
theorem pn_2 : plainName "com/example/opword/opword/dex/TakenBytes" = true := by first | (simp [plainName, overriddenIn]; done) | decide +kernel
theorem ef_2 (m : MethodId) (x0 : Addr) (x1 : Int32) : entryFrame m #[(.ref x0), (.int x1)] 2 = mkF m 0 #[.val (.ref x0), .val (.int x1)] [] := by first | (simp [entryFrame, mkF, argsToLocals, Value.category]; done) | rfl
def Q2 (Z : State) (a1 : Addr) (N : Nat) (h0 : Heap) (n0 : Nat) (v : Option Value) (h : Heap) (L : List Loc) : Prop := v = none ∧ Fr n0 L ∧ Keep h0 h [a1] ∧ Exa Z h a1 "com/example/opword/opword/dex/TakenBytes" ∧ ∃ b : Addr, n0 ≤ b ∧ a1 ≠ b ∧ Fld Z h a1 "com/example/opword/opword/dex/TakenBytes" "words" "[J" (.ref b) ∧ Av Z h b .long N (fun _ => .long 0)
set_option maxRecDepth 65536 in
set_option maxHeartbeats 40000000 in
theorem rm2 (l : Launch) (Z : State) (a0 : Array Value) (hw : ∀ d ∈ tables_1, d.before a0 Z = true) (ws : List Jvm.Cond) (a1 : Addr) (p2 : Int32) (N : Nat) (h0 : Heap) (n0 : Nat) (Z0 : n0 ≤ h0.size) (E : Exa Z h0 a1 "com/example/opword/opword/dex/TakenBytes") (F : Fld Z h0 a1 "com/example/opword/opword/dex/TakenBytes" "words" "[J" .null) (ge : n0 ≤ a1) (hN : (((p2 + (64 : Int32)) - (1 : Int32)) / (64 : Int32)).toInt = N) (hN5 : N ≤ 5) :
    MetFree l (⟨"com/example/opword/opword/dex/TakenBytes", "<init>", "(I)V"⟩ : MethodName) (head1 (Jvm.Cond.code (⟨"com/example/opword/opword/dex/TakenBytes", "<init>", "(I)V"⟩ : MethodName) prog_69_method_1_code 2 none :: ws) ({ frames := 1, cells := 1, slots := 5, locals := 12 } : Room)) (fun a U => a = #[(.ref a1), (.int p2)] ∧ Z.Warmed39 U.vm ∧ U.heap = h0) (fun _ _ _ _ _ => True) (fun _ U o U' => ∃ v L, o = .returned v ∧ Q2 Z a1 N h0 n0 v U'.heap L ∧ FrameEnd U o U' L ({ frames := 1, cells := 1, slots := 5, locals := 12 } : Room).cells ({ frames := 1, cells := 1, slots := 5, locals := 12 } : Room).slots) := by
  refine MetFree.of_bodySF (plainFor_of_name pn_2) hisR ?_
  intro p e s m args below meth c s₁ Bd hml0 hP hK
  obtain ⟨rfl, hZ, hh⟩ := hP
  have hx := Bd.exec
  have hby := Bd.bytes
  have hml : c.maxLocals = 2 := hml0
  have hown : s.vm.findClass "com/example/opword/opword/dex/TakenBytes" = some m.cls := findClass_of_methodNamed Bd.named
  have hnm := (name_of_methodNamed Bd.named Bd.method).1
  have X0 : Stand p l e ({ frames := 1, cells := 1, slots := 5, locals := 12 } : Room) s m #[(.ref a1), (.int p2)] below meth c s₁ [] 0 0 := Stand.of_body Bd
  have e0 : s₁.heap = h0 := by rw [← hh, Bd.state]; rfl
  have N0 := Fr.nil n0
  have pre0 : ∀ tg, Steps p.tables e below (s₁.setTop (mkF m 0 #[.val (.ref a1), .val (.int p2)] [])) tg → Steps p.tables e below (s₁.setTop (entryFrame m #[(.ref a1), (.int p2)] 2)) tg := fun tg kg => castTop (ef_2 m a1 p2) kg
  have k1 : ∀ tg, Steps p.tables e below (s₁.setTop (mkF m 1 #[.val (.ref a1), .val (.int p2)] [(.ref a1)])) tg → Steps p.tables e below (s₁.setTop (entryFrame m #[(.ref a1), (.int p2)] 2)) tg := fun tg kg => pre0 tg (by
      show Steps p.tables e below (s₁.setTop (mkF m 0 #[.val (.ref a1), .val (.int p2)] [])) _
      refine XS.aloadN X0.here hx rfl (hb hby d2_0) rfl rfl ?_
      exact kg)
  obtain ⟨T2, X2, e2, st2⟩ := initO X0 hx hZ hown (hw _ (List.mem_of_getElem? (i := 11) rfl)) (hw _ (List.mem_of_getElem? (i := 12) rfl)) (hw _ (List.mem_of_getElem? (i := 13) rfl)) e0 (g := (mkF m 1 #[.val (.ref a1), .val (.int p2)] [(.ref a1)])) rfl (by rw [hml]; rfl) rfl (hb hby d2_1) (by decide) (W := 0) (by show 2 * 0 + _ ≤ _; exact Nat.le_of_eq rfl) (by decide)
  have k3 : ∀ tg, Steps p.tables e below (T2.setTop (mkF m 4 #[.val (.ref a1), .val (.int p2)] [])) tg → Steps p.tables e below (s₁.setTop (entryFrame m #[(.ref a1), (.int p2)] 2)) tg := fun tg kg => k1 tg (st2 tg kg)
  have k4 : ∀ tg, Steps p.tables e below (T2.setTop (mkF m 14 #[.val (.ref a1), .val (.int p2)] [(.int (((p2 + (64 : Int32)) - (1 : Int32)) / (64 : Int32))), (.ref a1)])) tg → Steps p.tables e below (s₁.setTop (entryFrame m #[(.ref a1), (.int p2)] 2)) tg := fun tg kg => k3 tg (by
      show Steps p.tables e below (T2.setTop (mkF m 4 #[.val (.ref a1), .val (.int p2)] [])) _
      refine XS.aloadN X2.here hx rfl (hb hby d2_4) rfl rfl ?_
      show Steps p.tables e below (T2.setTop (mkF m 5 #[.val (.ref a1), .val (.int p2)] [(.ref a1)])) _
      refine XS.iloadN X2.here hx rfl (hb hby d2_5) rfl ?_
      show Steps p.tables e below (T2.setTop (mkF m 6 #[.val (.ref a1), .val (.int p2)] [(.int p2), (.ref a1)])) _
      refine XS.bipush X2.here hx rfl (hb hby d2_6) ?_
      show Steps p.tables e below (T2.setTop (mkF m 8 #[.val (.ref a1), .val (.int p2)] [(.int (64 : Int32)), (.int p2), (.ref a1)])) _
      refine XS.iadd X2.here hx rfl (hb hby d2_8) rfl ?_
      show Steps p.tables e below (T2.setTop (mkF m 9 #[.val (.ref a1), .val (.int p2)] [(.int (p2 + (64 : Int32))), (.ref a1)])) _
      refine XS.iconst X2.here hx rfl (hb hby d2_9) ?_
      show Steps p.tables e below (T2.setTop (mkF m 10 #[.val (.ref a1), .val (.int p2)] [(.int (1 : Int32)), (.int (p2 + (64 : Int32))), (.ref a1)])) _
      refine XS.isub X2.here hx rfl (hb hby d2_10) rfl ?_
      show Steps p.tables e below (T2.setTop (mkF m 11 #[.val (.ref a1), .val (.int p2)] [(.int ((p2 + (64 : Int32)) - (1 : Int32))), (.ref a1)])) _
      refine XS.bipush X2.here hx rfl (hb hby d2_11) ?_
      show Steps p.tables e below (T2.setTop (mkF m 13 #[.val (.ref a1), .val (.int p2)] [(.int (64 : Int32)), (.int ((p2 + (64 : Int32)) - (1 : Int32))), (.ref a1)])) _
      refine XS.idiv X2.here hx rfl (hb hby d2_13) rfl (by decide) ?_
      exact kg)
  obtain ⟨T5, h5, c5, X5, e5, E5, A5, st5⟩ := newP X2 hx hZ (hw _ (List.mem_of_getElem? (i := 14) rfl)) e2 (g := (mkF m 14 #[.val (.ref a1), .val (.int p2)] [(.int (((p2 + (64 : Int32)) - (1 : Int32)) / (64 : Int32))), (.ref a1)])) rfl (hb hby d2_14) rfl (own_nneg hN) (cap := 5) (by rw [own_tn hN]; exact hN5) (by decide) (by decide) (by decide)
  obtain ⟨b5, g5⟩ : ∃ z, z = h0.size := ⟨_, rfl⟩
  rw [← g5] at A5 st5
  have k6 : ∀ tg, Steps p.tables e below (T5.setTop (mkF m 16 #[.val (.ref a1), .val (.int p2)] [(.ref b5), (.ref a1)])) tg → Steps p.tables e below (s₁.setTop (entryFrame m #[(.ref a1), (.int p2)] 2)) tg := fun tg kg => k4 tg (st5 tg kg)
  have V := Av.new A5 hN
  have gb : n0 ≤ b5 := Nat.le_trans Z0 (Nat.le_of_eq g5.symm)
  have nb : a1 ≠ b5 := Nat.ne_of_lt (g5 ▸ E.lt)
  obtain ⟨T7, h7, X7, e7, W7, st7⟩ := putF X5 hx hZ hown (host := "") (Or.inl (hw _ (List.mem_of_getElem? (i := 15) rfl))) Via.refl e5 (F.ext E5) (E.ext E5) (Or.inr ⟨(hw _ (List.mem_of_getElem? (i := 16) rfl)), rfl, hnm⟩) (hw _ (List.mem_of_getElem? (i := 6) rfl)) (ty := (.array .long)) (by decide) rfl rfl (g := (mkF m 16 #[.val (.ref a1), .val (.int p2)] [(.ref b5), (.ref a1)])) rfl rfl (hb hby d2_16)
  have N7 := Fr.snoc X7 N0 ge
  have k8 : ∀ tg, Steps p.tables e below (T7.setTop (mkF m 19 #[.val (.ref a1), .val (.int p2)] [])) tg → Steps p.tables e below (s₁.setTop (entryFrame m #[(.ref a1), (.int p2)] 2)) tg := fun tg kg => k6 tg (st7 tg kg)
  obtain ⟨fs, hr, hrun, hended, hW, hsame⟩ := X7.leave (v := none) (fun _ => rfl)
  refine ⟨_, _, k8 _ ?_, hrun, hended, _, _, rfl, ?_, ⟨_, rfl⟩, hW, hsame.mono (by decide) (by decide)⟩
  · show Steps p.tables e below (T7.setTop (mkF m 19 #[.val (.ref a1), .val (.int p2)] [])) _
    exact X7.returnOut hx Bd.returns (hb hby d2_19) hr
  · show Q2 _ _ _ _ _ _ T7.heap _
    rw [e7]
    exact ⟨rfl, N7, ((Keep.refl h0 [a1]).ext E5).wr W7 (Or.inl (own_in0 _ _)), (E.ext E5).wr W7, b5, gb, nb, (F.ext E5).same W7, V.other W7 nb.symm⟩
theorem d4_0 : decode prog_69_method_3_code 0 = .ok (.iload_n 1, 1) := by decide +kernel
theorem d4_1 : decode prog_69_method_3_code 1 = .ok (.iload_n 2, 1) := by decide +kernel
theorem d4_2 : decode prog_69_method_3_code 2 = .ok (.if_icmp .lt 4, 3) := by decide +kernel
theorem d4_5 : decode prog_69_method_3_code 5 = .ok (.return_, 1) := by decide +kernel
theorem d4_6 : decode prog_69_method_3_code 6 = .ok (.iload_n 1, 1) := by decide +kernel
theorem d4_7 : decode prog_69_method_3_code 7 = .ok (.bipush 64, 2) := by decide +kernel
theorem d4_9 : decode prog_69_method_3_code 9 = .ok (.idiv, 1) := by decide +kernel
theorem d4_10 : decode prog_69_method_3_code 10 = .ok (.istore_n 3, 1) := by decide +kernel
theorem d4_11 : decode prog_69_method_3_code 11 = .ok (.iload_n 2, 1) := by decide +kernel
theorem d4_12 : decode prog_69_method_3_code 12 = .ok (.iconst 1, 1) := by decide +kernel
theorem d4_13 : decode prog_69_method_3_code 13 = .ok (.isub, 1) := by decide +kernel
theorem d4_14 : decode prog_69_method_3_code 14 = .ok (.bipush 64, 2) := by decide +kernel
theorem d4_16 : decode prog_69_method_3_code 16 = .ok (.idiv, 1) := by decide +kernel
theorem d4_17 : decode prog_69_method_3_code 17 = .ok (.istore 4, 2) := by decide +kernel
theorem d4_19 : decode prog_69_method_3_code 19 = .ok (.ldc2_w 15, 3) := by decide +kernel
theorem d4_22 : decode prog_69_method_3_code 22 = .ok (.iload_n 1, 1) := by decide +kernel
theorem d4_23 : decode prog_69_method_3_code 23 = .ok (.lshl, 1) := by decide +kernel
theorem d4_24 : decode prog_69_method_3_code 24 = .ok (.lstore 5, 2) := by decide +kernel
theorem d4_26 : decode prog_69_method_3_code 26 = .ok (.ldc2_w 15, 3) := by decide +kernel
theorem d4_29 : decode prog_69_method_3_code 29 = .ok (.iload_n 2, 1) := by decide +kernel
theorem d4_30 : decode prog_69_method_3_code 30 = .ok (.ineg, 1) := by decide +kernel
theorem d4_31 : decode prog_69_method_3_code 31 = .ok (.lushr, 1) := by decide +kernel
theorem d4_32 : decode prog_69_method_3_code 32 = .ok (.lstore 7, 2) := by decide +kernel
theorem d4_34 : decode prog_69_method_3_code 34 = .ok (.iload_n 3, 1) := by decide +kernel
theorem d4_35 : decode prog_69_method_3_code 35 = .ok (.iload 4, 2) := by decide +kernel
theorem d4_37 : decode prog_69_method_3_code 37 = .ok (.if_icmp .ne 18, 3) := by decide +kernel
theorem d4_40 : decode prog_69_method_3_code 40 = .ok (.aload_n 0, 1) := by decide +kernel
theorem d4_41 : decode prog_69_method_3_code 41 = .ok (.getfield 9, 3) := by decide +kernel
theorem d4_44 : decode prog_69_method_3_code 44 = .ok (.iload_n 3, 1) := by decide +kernel
theorem d4_45 : decode prog_69_method_3_code 45 = .ok (.dup2, 1) := by decide +kernel
theorem d4_46 : decode prog_69_method_3_code 46 = .ok (.laload, 1) := by decide +kernel
theorem d4_47 : decode prog_69_method_3_code 47 = .ok (.lload 5, 2) := by decide +kernel
theorem d4_49 : decode prog_69_method_3_code 49 = .ok (.lload 7, 2) := by decide +kernel
theorem d4_51 : decode prog_69_method_3_code 51 = .ok (.land, 1) := by decide +kernel
theorem d4_52 : decode prog_69_method_3_code 52 = .ok (.lor, 1) := by decide +kernel
theorem d4_53 : decode prog_69_method_3_code 53 = .ok (.lastore, 1) := by decide +kernel
theorem d4_54 : decode prog_69_method_3_code 54 = .ok (.return_, 1) := by decide +kernel
theorem d4_55 : decode prog_69_method_3_code 55 = .ok (.aload_n 0, 1) := by decide +kernel
theorem d4_56 : decode prog_69_method_3_code 56 = .ok (.getfield 9, 3) := by decide +kernel
theorem d4_59 : decode prog_69_method_3_code 59 = .ok (.iload_n 3, 1) := by decide +kernel
theorem d4_60 : decode prog_69_method_3_code 60 = .ok (.dup2, 1) := by decide +kernel
theorem d4_61 : decode prog_69_method_3_code 61 = .ok (.laload, 1) := by decide +kernel
theorem d4_62 : decode prog_69_method_3_code 62 = .ok (.lload 5, 2) := by decide +kernel
theorem d4_64 : decode prog_69_method_3_code 64 = .ok (.lor, 1) := by decide +kernel
theorem d4_65 : decode prog_69_method_3_code 65 = .ok (.lastore, 1) := by decide +kernel
theorem d4_66 : decode prog_69_method_3_code 66 = .ok (.iload_n 3, 1) := by decide +kernel
theorem d4_67 : decode prog_69_method_3_code 67 = .ok (.iconst 1, 1) := by decide +kernel
theorem d4_68 : decode prog_69_method_3_code 68 = .ok (.iadd, 1) := by decide +kernel
theorem d4_69 : decode prog_69_method_3_code 69 = .ok (.istore 9, 2) := by decide +kernel
theorem d4_71 : decode prog_69_method_3_code 71 = .ok (.iload 9, 2) := by decide +kernel
theorem d4_73 : decode prog_69_method_3_code 73 = .ok (.iload 4, 2) := by decide +kernel
theorem d4_75 : decode prog_69_method_3_code 75 = .ok (.if_icmp .ge 19, 3) := by decide +kernel
theorem d4_78 : decode prog_69_method_3_code 78 = .ok (.aload_n 0, 1) := by decide +kernel
theorem d4_79 : decode prog_69_method_3_code 79 = .ok (.getfield 9, 3) := by decide +kernel
theorem d4_82 : decode prog_69_method_3_code 82 = .ok (.iload 9, 2) := by decide +kernel
theorem d4_84 : decode prog_69_method_3_code 84 = .ok (.ldc2_w 15, 3) := by decide +kernel
theorem d4_87 : decode prog_69_method_3_code 87 = .ok (.lastore, 1) := by decide +kernel
theorem d4_88 : decode prog_69_method_3_code 88 = .ok (.iinc 9 1, 3) := by decide +kernel
theorem d4_91 : decode prog_69_method_3_code 91 = .ok (.goto (-20), 3) := by decide +kernel
theorem d4_94 : decode prog_69_method_3_code 94 = .ok (.aload_n 0, 1) := by decide +kernel
theorem d4_95 : decode prog_69_method_3_code 95 = .ok (.getfield 9, 3) := by decide +kernel
theorem d4_98 : decode prog_69_method_3_code 98 = .ok (.iload 4, 2) := by decide +kernel
theorem d4_100 : decode prog_69_method_3_code 100 = .ok (.dup2, 1) := by decide +kernel
theorem d4_101 : decode prog_69_method_3_code 101 = .ok (.laload, 1) := by decide +kernel
theorem d4_102 : decode prog_69_method_3_code 102 = .ok (.lload 7, 2) := by decide +kernel
theorem d4_104 : decode prog_69_method_3_code 104 = .ok (.lor, 1) := by decide +kernel
theorem d4_105 : decode prog_69_method_3_code 105 = .ok (.lastore, 1) := by decide +kernel
theorem d4_106 : decode prog_69_method_3_code 106 = .ok (.return_, 1) := by decide +kernel
theorem pn_4 : plainName "com/example/opword/opword/dex/TakenBytes" = true := by first | (simp [plainName, overriddenIn]; done) | decide +kernel
set_option maxRecDepth 65536 in
set_option maxHeartbeats 40000000 in
theorem loopT {p : Program} {l : Launch} {e : Env} {R : Room} {s : State} {m : MethodId} {args : Array Value} {below : List Frame} {meth : Method} {c : Code} {cells slots : Nat} {Z : State} {a0 : Array Value} (hx : p.tables.exec = Jvm.exec) (hZ : Z.Warmed39 s.vm) (hw : ∀ d ∈ tables_1, d.before a0 Z = true) (hby : c.code = prog_69_method_3_code) (hml : c.maxLocals = 10) (hown : s.vm.findClass "com/example/opword/opword/dex/TakenBytes" = some m.cls) (a1 b : Addr) (p2 p3 x3 x4 : Int32) (fm lm : Int64) (N l0 n0 : Nat) (hx4 : x4.toInt = l0) (hl : l0 ≤ N) (hN : N ≤ 1000) (ne : a1 ≠ b) (ge : n0 ≤ b) :
    ∀ (k i : Nat) (x : Int32) (f : Nat → Int64) (T0 : State) (h : Heap) (locs : List Loc), i + k = l0 → x.toInt = i → Stand p l e R s m args below meth c T0 locs cells slots → T0.heap = h → Fr n0 locs → Fld Z h a1 "com/example/opword/opword/dex/TakenBytes" "words" "[J" (.ref b) → Av Z h b .long N (fun j => .long (f j)) →
      ∃ (x' : Int32) (T' : State) (h' : Heap) (locs' : List Loc), Stand p l e R s m args below meth c T' locs' cells slots ∧ T'.heap = h' ∧ Fr n0 locs' ∧ Keep h h' [b] ∧ Fld Z h' a1 "com/example/opword/opword/dex/TakenBytes" "words" "[J" (.ref b) ∧ Av Z h' b .long N (fun j => .long (own_f2 f i l0 j)) ∧ ∀ t, Steps p.tables e below (T'.setTop (mkF m 94 #[.val (.ref a1), .val (.int p2), .val (.int p3), .val (.int x3), .val (.int x4), .val (.long fm), .second, .val (.long lm), .second, .val (.int x')] [])) t → Steps p.tables e below (T0.setTop (mkF m 71 #[.val (.ref a1), .val (.int p2), .val (.int p3), .val (.int x3), .val (.int x4), .val (.long fm), .second, .val (.long lm), .second, .val (.int x)] [])) t := by
  intro k
  induction k with
  | zero =>
    intro i x f T0 h locs hk hxi X0 e0 N0 F V
    have kid : ∀ tg, Steps p.tables e below (T0.setTop (mkF m 71 #[.val (.ref a1), .val (.int p2), .val (.int p3), .val (.int x3), .val (.int x4), .val (.long fm), .second, .val (.long lm), .second, .val (.int x)] [])) tg → Steps p.tables e below (T0.setTop (mkF m 71 #[.val (.ref a1), .val (.int p2), .val (.int p3), .val (.int x3), .val (.int x4), .val (.long fm), .second, .val (.long lm), .second, .val (.int x)] [])) tg := fun _ kg => kg
    have hc : ¬ x < x4 := fun q => by rw [own_lt hxi hx4] at q; omega
    have k9 : ∀ tg, Steps p.tables e below (T0.setTop (mkF m 94 #[.val (.ref a1), .val (.int p2), .val (.int p3), .val (.int x3), .val (.int x4), .val (.long fm), .second, .val (.long lm), .second, .val (.int x)] [])) tg → Steps p.tables e below (T0.setTop (mkF m 71 #[.val (.ref a1), .val (.int p2), .val (.int p3), .val (.int x3), .val (.int x4), .val (.long fm), .second, .val (.long lm), .second, .val (.int x)] [])) tg := fun tg kg => kid tg (by
        show Steps p.tables e below (T0.setTop (mkF m 71 #[.val (.ref a1), .val (.int p2), .val (.int p3), .val (.int x3), .val (.int x4), .val (.long fm), .second, .val (.long lm), .second, .val (.int x)] [])) _
        refine XS.iload X0.here hx rfl (hb hby d4_71) rfl ?_
        show Steps p.tables e below (T0.setTop (mkF m 73 #[.val (.ref a1), .val (.int p2), .val (.int p3), .val (.int x3), .val (.int x4), .val (.long fm), .second, .val (.long lm), .second, .val (.int x)] [(.int x)])) _
        refine XS.iload X0.here hx rfl (hb hby d4_73) rfl ?_
        show Steps p.tables e below (T0.setTop (mkF m 75 #[.val (.ref a1), .val (.int p2), .val (.int p3), .val (.int x3), .val (.int x4), .val (.long fm), .second, .val (.long lm), .second, .val (.int x)] [(.int x4), (.int x)])) _
        refine XS.icmpYes X0.here hx rfl (pc0 := 75) (pc' := 94) rfl (hb hby d4_75) rfl (flt hc).2.1 (by decide) (by decide) ?_
        exact kg)
    exact ⟨x, T0, h, locs, X0, e0, N0, Keep.refl h [b], F, V.congr (fun j _ => by rw [own_f2, if_neg (by omega)]), k9⟩
  | succ k ih =>
    intro i x f T0 h locs hk hxi X0 e0 N0 F V
    have kid : ∀ tg, Steps p.tables e below (T0.setTop (mkF m 71 #[.val (.ref a1), .val (.int p2), .val (.int p3), .val (.int x3), .val (.int x4), .val (.long fm), .second, .val (.long lm), .second, .val (.int x)] [])) tg → Steps p.tables e below (T0.setTop (mkF m 71 #[.val (.ref a1), .val (.int p2), .val (.int p3), .val (.int x3), .val (.int x4), .val (.long fm), .second, .val (.long lm), .second, .val (.int x)] [])) tg := fun _ kg => kg
    have hc : x < x4 := (own_lt hxi hx4).mpr (by omega)
    obtain ⟨cl, Ar, S, G⟩ := V
    have k10 : ∀ tg, Steps p.tables e below (T0.setTop (mkF m 79 #[.val (.ref a1), .val (.int p2), .val (.int p3), .val (.int x3), .val (.int x4), .val (.long fm), .second, .val (.long lm), .second, .val (.int x)] [(.ref a1)])) tg → Steps p.tables e below (T0.setTop (mkF m 71 #[.val (.ref a1), .val (.int p2), .val (.int p3), .val (.int x3), .val (.int x4), .val (.long fm), .second, .val (.long lm), .second, .val (.int x)] [])) tg := fun tg kg => kid tg (by
        show Steps p.tables e below (T0.setTop (mkF m 71 #[.val (.ref a1), .val (.int p2), .val (.int p3), .val (.int x3), .val (.int x4), .val (.long fm), .second, .val (.long lm), .second, .val (.int x)] [])) _
        refine XS.iload X0.here hx rfl (hb hby d4_71) rfl ?_
        show Steps p.tables e below (T0.setTop (mkF m 73 #[.val (.ref a1), .val (.int p2), .val (.int p3), .val (.int x3), .val (.int x4), .val (.long fm), .second, .val (.long lm), .second, .val (.int x)] [(.int x)])) _
        refine XS.iload X0.here hx rfl (hb hby d4_73) rfl ?_
        show Steps p.tables e below (T0.setTop (mkF m 75 #[.val (.ref a1), .val (.int p2), .val (.int p3), .val (.int x3), .val (.int x4), .val (.long fm), .second, .val (.long lm), .second, .val (.int x)] [(.int x4), (.int x)])) _
        refine XS.icmpNo X0.here hx rfl (hb hby d4_75) rfl (tlt hc).2.1 ?_
        show Steps p.tables e below (T0.setTop (mkF m 78 #[.val (.ref a1), .val (.int p2), .val (.int p3), .val (.int x3), .val (.int x4), .val (.long fm), .second, .val (.long lm), .second, .val (.int x)] [])) _
        refine XS.aloadN X0.here hx rfl (hb hby d4_78) rfl rfl ?_
        exact kg)
    obtain ⟨T11, X11, e11, st11⟩ := getF X0 hx hZ hown (host := "") (Or.inl (hw _ (List.mem_of_getElem? (i := 15) rfl))) Via.refl e0 F (g := (mkF m 79 #[.val (.ref a1), .val (.int p2), .val (.int p3), .val (.int x3), .val (.int x4), .val (.long fm), .second, .val (.long lm), .second, .val (.int x)] [(.ref a1)])) rfl rfl (hb hby d4_79)
    have k12 : ∀ tg, Steps p.tables e below (T11.setTop (mkF m 82 #[.val (.ref a1), .val (.int p2), .val (.int p3), .val (.int x3), .val (.int x4), .val (.long fm), .second, .val (.long lm), .second, .val (.int x)] [(.ref b)])) tg → Steps p.tables e below (T0.setTop (mkF m 71 #[.val (.ref a1), .val (.int p2), .val (.int p3), .val (.int x3), .val (.int x4), .val (.long fm), .second, .val (.long lm), .second, .val (.int x)] [])) tg := fun tg kg => k10 tg (st11 tg kg)
    have k13 : ∀ tg, Steps p.tables e below (T11.setTop (mkF m 87 #[.val (.ref a1), .val (.int p2), .val (.int p3), .val (.int x3), .val (.int x4), .val (.long fm), .second, .val (.long lm), .second, .val (.int x)] [(.long (-1 : Int64)), (.int x), (.ref b)])) tg → Steps p.tables e below (T0.setTop (mkF m 71 #[.val (.ref a1), .val (.int p2), .val (.int p3), .val (.int x3), .val (.int x4), .val (.long fm), .second, .val (.long lm), .second, .val (.int x)] [])) tg := fun tg kg => k12 tg (by
        show Steps p.tables e below (T11.setTop (mkF m 82 #[.val (.ref a1), .val (.int p2), .val (.int p3), .val (.int x3), .val (.int x4), .val (.long fm), .second, .val (.long lm), .second, .val (.int x)] [(.ref b)])) _
        refine XS.iload X11.here hx rfl (hb hby d4_82) rfl ?_
        show Steps p.tables e below (T11.setTop (mkF m 84 #[.val (.ref a1), .val (.int p2), .val (.int p3), .val (.int x3), .val (.int x4), .val (.long fm), .second, .val (.long lm), .second, .val (.int x)] [(.int x), (.ref b)])) _
        refine X11.ldc2Long hx hown (mvT hZ (hw _ (List.mem_of_getElem? (i := 22) rfl))) (g := (mkF m 84 #[.val (.ref a1), .val (.int p2), .val (.int p3), .val (.int x3), .val (.int x4), .val (.long fm), .second, .val (.long lm), .second, .val (.int x)] [(.int x), (.ref b)])) rfl (hb hby d4_84) _ ?_
        exact kg)
    obtain ⟨T14, h14, X14, e14, W14, st14⟩ := stJ X11 hx hZ e11 Ar (j := x) (own_hin S hxi (by omega)) (g := (mkF m 87 #[.val (.ref a1), .val (.int p2), .val (.int p3), .val (.int x3), .val (.int x4), .val (.long fm), .second, .val (.long lm), .second, .val (.int x)] [(.long (-1 : Int64)), (.int x), (.ref b)])) rfl rfl (hb hby d4_87)
    have N14 := Fr.snoc X14 N0 ge
    have k15 : ∀ tg, Steps p.tables e below (T14.setTop (mkF m 88 #[.val (.ref a1), .val (.int p2), .val (.int p3), .val (.int x3), .val (.int x4), .val (.long fm), .second, .val (.long lm), .second, .val (.int x)] [])) tg → Steps p.tables e below (T0.setTop (mkF m 71 #[.val (.ref a1), .val (.int p2), .val (.int p3), .val (.int x3), .val (.int x4), .val (.long fm), .second, .val (.long lm), .second, .val (.int x)] [])) tg := fun tg kg => k13 tg (st14 tg kg)
    have V2 := (Av.set Ar S G hxi W14).congr (g' := fun j => .long (own_f2 f i (i + 1) j)) (fun j _ => own_f2a j)
    have k16 : ∀ tg, Steps p.tables e below (T14.setTop (mkF m 71 #[.val (.ref a1), .val (.int p2), .val (.int p3), .val (.int x3), .val (.int x4), .val (.long fm), .second, .val (.long lm), .second, .val (.int (x + (1 : Int32)))] [])) tg → Steps p.tables e below (T0.setTop (mkF m 71 #[.val (.ref a1), .val (.int p2), .val (.int p3), .val (.int x3), .val (.int x4), .val (.long fm), .second, .val (.long lm), .second, .val (.int x)] [])) tg := fun tg kg => k15 tg (by
        show Steps p.tables e below (T14.setTop (mkF m 88 #[.val (.ref a1), .val (.int p2), .val (.int p3), .val (.int x3), .val (.int x4), .val (.long fm), .second, .val (.long lm), .second, .val (.int x)] [])) _
        refine XS.iinc X14.here hx rfl (hb hby d4_88) rfl (l' := #[.val (.ref a1), .val (.int p2), .val (.int p3), .val (.int x3), .val (.int x4), .val (.long fm), .second, .val (.long lm), .second, .val (.int (x + (1 : Int32)))]) rfl ?_
        show Steps p.tables e below (T14.setTop (mkF m 91 #[.val (.ref a1), .val (.int p2), .val (.int p3), .val (.int x3), .val (.int x4), .val (.long fm), .second, .val (.long lm), .second, .val (.int (x + (1 : Int32)))] [])) _
        refine XS.goto X14.here hx rfl (pc0 := 91) (pc' := 71) rfl (hb hby d4_91) (by decide) (by decide) ?_
        exact kg)
    obtain ⟨x', T', h', locs', X', e', N', K', F', V', kk⟩ := ih (i + 1) _ _ _ _ _ (by omega) (own_inc hxi (by omega)) X14 e14 N14 (F.other W14 (Or.inl ne)) V2
    exact ⟨x', T', h', locs', X', e', N', (Keep.of_wr W14).trans K' (fun x hx => Or.inl hx), F', V'.congr (fun j _ => congrArg Value.long (own_f2s (by omega) j)), fun t k => k16 t (kk t k)⟩
theorem ef_4 (m : MethodId) (x0 : Addr) (x1 : Int32) (x2 : Int32) : entryFrame m #[(.ref x0), (.int x1), (.int x2)] 10 = mkF m 0 #[.val (.ref x0), .val (.int x1), .val (.int x2), .unset, .unset, .unset, .unset, .unset, .unset, .unset] [] := by first | (simp [entryFrame, mkF, argsToLocals, Value.category]; done) | rfl
def Q4 (Z : State) (a1 b : Addr) (a z N : Nat) (f : Nat → Int64) (h0 : Heap) (n0 : Nat) (v : Option Value) (h : Heap) (L : List Loc) : Prop := v = none ∧ Fr n0 L ∧ Keep h0 h [b] ∧ Fld Z h a1 "com/example/opword/opword/dex/TakenBytes" "words" "[J" (.ref b) ∧ ∃ g : Nat → Int64, Av Z h b .long N (fun j => .long (g j)) ∧ ∀ x, own_bit g x = (own_bit f x || decide (a ≤ x ∧ x < z))
set_option maxRecDepth 65536 in
set_option maxHeartbeats 40000000 in
theorem rm4 (l : Launch) (Z : State) (a0 : Array Value) (hw : ∀ d ∈ tables_1, d.before a0 Z = true) (ws : List Jvm.Cond) (a1 : Addr) (p2 : Int32) (p3 : Int32) (b : Addr) (a z N : Nat) (f : Nat → Int64) (h0 : Heap) (n0 : Nat) (Z0 : n0 ≤ h0.size) (hp : p2.toInt = a) (hq : p3.toInt = z) (hz : z ≤ 64 * N) (hN : N ≤ 1000) (ne : a1 ≠ b) (ge : n0 ≤ b) (F : Fld Z h0 a1 "com/example/opword/opword/dex/TakenBytes" "words" "[J" (.ref b)) (V : Av Z h0 b .long N (fun j => .long (f j))) :
    MetFree l (⟨"com/example/opword/opword/dex/TakenBytes", "take", "(II)V"⟩ : MethodName) (head1 (Jvm.Cond.code (⟨"com/example/opword/opword/dex/TakenBytes", "take", "(II)V"⟩ : MethodName) prog_69_method_3_code 10 none :: ws) ({ frames := 0, cells := 0, slots := 0, locals := 0 } : Room)) (fun a U => a = #[(.ref a1), (.int p2), (.int p3)] ∧ Z.Warmed39 U.vm ∧ U.heap = h0) (fun _ _ _ _ _ => True) (fun _ U o U' => ∃ v L, o = .returned v ∧ Q4 Z a1 b a z N f h0 n0 v U'.heap L ∧ FrameEnd U o U' L ({ frames := 0, cells := 0, slots := 0, locals := 0 } : Room).cells ({ frames := 0, cells := 0, slots := 0, locals := 0 } : Room).slots) := by
  refine MetFree.of_bodySF (plainFor_of_name pn_4) hisR ?_
  intro p e s m args below meth c s₁ Bd hml0 hP hK
  obtain ⟨rfl, hZ, hh⟩ := hP
  have hx := Bd.exec
  have hby := Bd.bytes
  have hml : c.maxLocals = 10 := hml0
  have hown : s.vm.findClass "com/example/opword/opword/dex/TakenBytes" = some m.cls := findClass_of_methodNamed Bd.named
  have hnm := (name_of_methodNamed Bd.named Bd.method).1
  have X0 : Stand p l e ({ frames := 0, cells := 0, slots := 0, locals := 0 } : Room) s m #[(.ref a1), (.int p2), (.int p3)] below meth c s₁ [] 0 0 := Stand.of_body Bd
  have e0 : s₁.heap = h0 := by rw [← hh, Bd.state]; rfl
  have N0 := Fr.nil n0
  have pre0 : ∀ tg, Steps p.tables e below (s₁.setTop (mkF m 0 #[.val (.ref a1), .val (.int p2), .val (.int p3), .unset, .unset, .unset, .unset, .unset, .unset, .unset] [])) tg → Steps p.tables e below (s₁.setTop (entryFrame m #[(.ref a1), (.int p2), (.int p3)] 10)) tg := fun tg kg => castTop (ef_4 m a1 p2 p3) kg
  have k17 : ∀ tg, Steps p.tables e below (s₁.setTop (mkF m 2 #[.val (.ref a1), .val (.int p2), .val (.int p3), .unset, .unset, .unset, .unset, .unset, .unset, .unset] [(.int p3), (.int p2)])) tg → Steps p.tables e below (s₁.setTop (entryFrame m #[(.ref a1), (.int p2), (.int p3)] 10)) tg := fun tg kg => pre0 tg (by
      show Steps p.tables e below (s₁.setTop (mkF m 0 #[.val (.ref a1), .val (.int p2), .val (.int p3), .unset, .unset, .unset, .unset, .unset, .unset, .unset] [])) _
      refine XS.iloadN X0.here hx rfl (hb hby d4_0) rfl ?_
      show Steps p.tables e below (s₁.setTop (mkF m 1 #[.val (.ref a1), .val (.int p2), .val (.int p3), .unset, .unset, .unset, .unset, .unset, .unset, .unset] [(.int p2)])) _
      refine XS.iloadN X0.here hx rfl (hb hby d4_1) rfl ?_
      exact kg)
  by_cases hc : p2 < p3
  · have hab : a < z := (own_lt hp hq).mp hc
    have k18 : ∀ tg, Steps p.tables e below (s₁.setTop (mkF m 6 #[.val (.ref a1), .val (.int p2), .val (.int p3), .unset, .unset, .unset, .unset, .unset, .unset, .unset] [])) tg → Steps p.tables e below (s₁.setTop (entryFrame m #[(.ref a1), (.int p2), (.int p3)] 10)) tg := fun tg kg => k17 tg (by
        show Steps p.tables e below (s₁.setTop (mkF m 2 #[.val (.ref a1), .val (.int p2), .val (.int p3), .unset, .unset, .unset, .unset, .unset, .unset, .unset] [(.int p3), (.int p2)])) _
        refine XS.icmpYes X0.here hx rfl (pc0 := 2) (pc' := 6) rfl (hb hby d4_2) rfl (tlt hc).1 (by decide) (by decide) ?_
        exact kg)
    have k19 : ∀ tg, Steps p.tables e below (s₁.setTop (mkF m 37 #[.val (.ref a1), .val (.int p2), .val (.int p3), .val (.int (p2 / (64 : Int32))), .val (.int ((p3 - (1 : Int32)) / (64 : Int32))), .val (.long ((-1 : Int64) <<< (p2 &&& 0x3f).toInt64)), .second, .val (.long (((-1 : Int64).toUInt64 >>> ((-p3) &&& 0x3f).toInt64.toUInt64).toInt64)), .second, .unset] [(.int ((p3 - (1 : Int32)) / (64 : Int32))), (.int (p2 / (64 : Int32)))])) tg → Steps p.tables e below (s₁.setTop (entryFrame m #[(.ref a1), (.int p2), (.int p3)] 10)) tg := fun tg kg => k18 tg (by
        show Steps p.tables e below (s₁.setTop (mkF m 6 #[.val (.ref a1), .val (.int p2), .val (.int p3), .unset, .unset, .unset, .unset, .unset, .unset, .unset] [])) _
        refine XS.iloadN X0.here hx rfl (hb hby d4_6) rfl ?_
        show Steps p.tables e below (s₁.setTop (mkF m 7 #[.val (.ref a1), .val (.int p2), .val (.int p3), .unset, .unset, .unset, .unset, .unset, .unset, .unset] [(.int p2)])) _
        refine XS.bipush X0.here hx rfl (hb hby d4_7) ?_
        show Steps p.tables e below (s₁.setTop (mkF m 9 #[.val (.ref a1), .val (.int p2), .val (.int p3), .unset, .unset, .unset, .unset, .unset, .unset, .unset] [(.int (64 : Int32)), (.int p2)])) _
        refine XS.idiv X0.here hx rfl (hb hby d4_9) rfl (by decide) ?_
        show Steps p.tables e below (s₁.setTop (mkF m 10 #[.val (.ref a1), .val (.int p2), .val (.int p3), .unset, .unset, .unset, .unset, .unset, .unset, .unset] [(.int (p2 / (64 : Int32)))])) _
        refine XS.istoreN X0.here hx rfl (hb hby d4_10) rfl (l' := #[.val (.ref a1), .val (.int p2), .val (.int p3), .val (.int (p2 / (64 : Int32))), .unset, .unset, .unset, .unset, .unset, .unset]) rfl ?_
        show Steps p.tables e below (s₁.setTop (mkF m 11 #[.val (.ref a1), .val (.int p2), .val (.int p3), .val (.int (p2 / (64 : Int32))), .unset, .unset, .unset, .unset, .unset, .unset] [])) _
        refine XS.iloadN X0.here hx rfl (hb hby d4_11) rfl ?_
        show Steps p.tables e below (s₁.setTop (mkF m 12 #[.val (.ref a1), .val (.int p2), .val (.int p3), .val (.int (p2 / (64 : Int32))), .unset, .unset, .unset, .unset, .unset, .unset] [(.int p3)])) _
        refine XS.iconst X0.here hx rfl (hb hby d4_12) ?_
        show Steps p.tables e below (s₁.setTop (mkF m 13 #[.val (.ref a1), .val (.int p2), .val (.int p3), .val (.int (p2 / (64 : Int32))), .unset, .unset, .unset, .unset, .unset, .unset] [(.int (1 : Int32)), (.int p3)])) _
        refine XS.isub X0.here hx rfl (hb hby d4_13) rfl ?_
        show Steps p.tables e below (s₁.setTop (mkF m 14 #[.val (.ref a1), .val (.int p2), .val (.int p3), .val (.int (p2 / (64 : Int32))), .unset, .unset, .unset, .unset, .unset, .unset] [(.int (p3 - (1 : Int32)))])) _
        refine XS.bipush X0.here hx rfl (hb hby d4_14) ?_
        show Steps p.tables e below (s₁.setTop (mkF m 16 #[.val (.ref a1), .val (.int p2), .val (.int p3), .val (.int (p2 / (64 : Int32))), .unset, .unset, .unset, .unset, .unset, .unset] [(.int (64 : Int32)), (.int (p3 - (1 : Int32)))])) _
        refine XS.idiv X0.here hx rfl (hb hby d4_16) rfl (by decide) ?_
        show Steps p.tables e below (s₁.setTop (mkF m 17 #[.val (.ref a1), .val (.int p2), .val (.int p3), .val (.int (p2 / (64 : Int32))), .unset, .unset, .unset, .unset, .unset, .unset] [(.int ((p3 - (1 : Int32)) / (64 : Int32)))])) _
        refine XS.istore X0.here hx rfl (hb hby d4_17) rfl (l' := #[.val (.ref a1), .val (.int p2), .val (.int p3), .val (.int (p2 / (64 : Int32))), .val (.int ((p3 - (1 : Int32)) / (64 : Int32))), .unset, .unset, .unset, .unset, .unset]) rfl ?_
        show Steps p.tables e below (s₁.setTop (mkF m 19 #[.val (.ref a1), .val (.int p2), .val (.int p3), .val (.int (p2 / (64 : Int32))), .val (.int ((p3 - (1 : Int32)) / (64 : Int32))), .unset, .unset, .unset, .unset, .unset] [])) _
        refine X0.ldc2Long hx hown (mvT hZ (hw _ (List.mem_of_getElem? (i := 22) rfl))) (g := (mkF m 19 #[.val (.ref a1), .val (.int p2), .val (.int p3), .val (.int (p2 / (64 : Int32))), .val (.int ((p3 - (1 : Int32)) / (64 : Int32))), .unset, .unset, .unset, .unset, .unset] [])) rfl (hb hby d4_19) _ ?_
        show Steps p.tables e below (s₁.setTop (mkF m 22 #[.val (.ref a1), .val (.int p2), .val (.int p3), .val (.int (p2 / (64 : Int32))), .val (.int ((p3 - (1 : Int32)) / (64 : Int32))), .unset, .unset, .unset, .unset, .unset] [(.long (-1 : Int64))])) _
        refine XS.iloadN X0.here hx rfl (hb hby d4_22) rfl ?_
        show Steps p.tables e below (s₁.setTop (mkF m 23 #[.val (.ref a1), .val (.int p2), .val (.int p3), .val (.int (p2 / (64 : Int32))), .val (.int ((p3 - (1 : Int32)) / (64 : Int32))), .unset, .unset, .unset, .unset, .unset] [(.int p2), (.long (-1 : Int64))])) _
        refine XS.lshl X0.here hx rfl (hb hby d4_23) rfl ?_
        show Steps p.tables e below (s₁.setTop (mkF m 24 #[.val (.ref a1), .val (.int p2), .val (.int p3), .val (.int (p2 / (64 : Int32))), .val (.int ((p3 - (1 : Int32)) / (64 : Int32))), .unset, .unset, .unset, .unset, .unset] [(.long ((-1 : Int64) <<< (p2 &&& 0x3f).toInt64))])) _
        refine XS.lstore X0.here hx rfl (hb hby d4_24) rfl (l' := #[.val (.ref a1), .val (.int p2), .val (.int p3), .val (.int (p2 / (64 : Int32))), .val (.int ((p3 - (1 : Int32)) / (64 : Int32))), .val (.long ((-1 : Int64) <<< (p2 &&& 0x3f).toInt64)), .second, .unset, .unset, .unset]) rfl ?_
        show Steps p.tables e below (s₁.setTop (mkF m 26 #[.val (.ref a1), .val (.int p2), .val (.int p3), .val (.int (p2 / (64 : Int32))), .val (.int ((p3 - (1 : Int32)) / (64 : Int32))), .val (.long ((-1 : Int64) <<< (p2 &&& 0x3f).toInt64)), .second, .unset, .unset, .unset] [])) _
        refine X0.ldc2Long hx hown (mvT hZ (hw _ (List.mem_of_getElem? (i := 22) rfl))) (g := (mkF m 26 #[.val (.ref a1), .val (.int p2), .val (.int p3), .val (.int (p2 / (64 : Int32))), .val (.int ((p3 - (1 : Int32)) / (64 : Int32))), .val (.long ((-1 : Int64) <<< (p2 &&& 0x3f).toInt64)), .second, .unset, .unset, .unset] [])) rfl (hb hby d4_26) _ ?_
        show Steps p.tables e below (s₁.setTop (mkF m 29 #[.val (.ref a1), .val (.int p2), .val (.int p3), .val (.int (p2 / (64 : Int32))), .val (.int ((p3 - (1 : Int32)) / (64 : Int32))), .val (.long ((-1 : Int64) <<< (p2 &&& 0x3f).toInt64)), .second, .unset, .unset, .unset] [(.long (-1 : Int64))])) _
        refine XS.iloadN X0.here hx rfl (hb hby d4_29) rfl ?_
        show Steps p.tables e below (s₁.setTop (mkF m 30 #[.val (.ref a1), .val (.int p2), .val (.int p3), .val (.int (p2 / (64 : Int32))), .val (.int ((p3 - (1 : Int32)) / (64 : Int32))), .val (.long ((-1 : Int64) <<< (p2 &&& 0x3f).toInt64)), .second, .unset, .unset, .unset] [(.int p3), (.long (-1 : Int64))])) _
        refine XS.ineg X0.here hx rfl (hb hby d4_30) rfl ?_
        show Steps p.tables e below (s₁.setTop (mkF m 31 #[.val (.ref a1), .val (.int p2), .val (.int p3), .val (.int (p2 / (64 : Int32))), .val (.int ((p3 - (1 : Int32)) / (64 : Int32))), .val (.long ((-1 : Int64) <<< (p2 &&& 0x3f).toInt64)), .second, .unset, .unset, .unset] [(.int (-p3)), (.long (-1 : Int64))])) _
        refine XS.lushr X0.here hx rfl (hb hby d4_31) rfl ?_
        show Steps p.tables e below (s₁.setTop (mkF m 32 #[.val (.ref a1), .val (.int p2), .val (.int p3), .val (.int (p2 / (64 : Int32))), .val (.int ((p3 - (1 : Int32)) / (64 : Int32))), .val (.long ((-1 : Int64) <<< (p2 &&& 0x3f).toInt64)), .second, .unset, .unset, .unset] [(.long (((-1 : Int64).toUInt64 >>> ((-p3) &&& 0x3f).toInt64.toUInt64).toInt64))])) _
        refine XS.lstore X0.here hx rfl (hb hby d4_32) rfl (l' := #[.val (.ref a1), .val (.int p2), .val (.int p3), .val (.int (p2 / (64 : Int32))), .val (.int ((p3 - (1 : Int32)) / (64 : Int32))), .val (.long ((-1 : Int64) <<< (p2 &&& 0x3f).toInt64)), .second, .val (.long (((-1 : Int64).toUInt64 >>> ((-p3) &&& 0x3f).toInt64.toUInt64).toInt64)), .second, .unset]) rfl ?_
        show Steps p.tables e below (s₁.setTop (mkF m 34 #[.val (.ref a1), .val (.int p2), .val (.int p3), .val (.int (p2 / (64 : Int32))), .val (.int ((p3 - (1 : Int32)) / (64 : Int32))), .val (.long ((-1 : Int64) <<< (p2 &&& 0x3f).toInt64)), .second, .val (.long (((-1 : Int64).toUInt64 >>> ((-p3) &&& 0x3f).toInt64.toUInt64).toInt64)), .second, .unset] [])) _
        refine XS.iloadN X0.here hx rfl (hb hby d4_34) rfl ?_
        show Steps p.tables e below (s₁.setTop (mkF m 35 #[.val (.ref a1), .val (.int p2), .val (.int p3), .val (.int (p2 / (64 : Int32))), .val (.int ((p3 - (1 : Int32)) / (64 : Int32))), .val (.long ((-1 : Int64) <<< (p2 &&& 0x3f).toInt64)), .second, .val (.long (((-1 : Int64).toUInt64 >>> ((-p3) &&& 0x3f).toInt64.toUInt64).toInt64)), .second, .unset] [(.int (p2 / (64 : Int32)))])) _
        refine XS.iload X0.here hx rfl (hb hby d4_35) rfl ?_
        exact kg)
    have h3 := own_d64 hp
    have h4 := own_d65 hq (by omega)
    obtain ⟨cl, Ar, S, G⟩ := V
    rw [show ((-1 : Int64) <<< (p2 &&& 0x3f).toInt64) = (own_fm p2) from rfl] at k19
    rw [show (((-1 : Int64).toUInt64 >>> ((-p3) &&& 0x3f).toInt64.toUInt64).toInt64) = (own_lm p3) from rfl] at k19
    obtain ⟨x3, e3⟩ : ∃ z, z = (p2 / (64 : Int32)) := ⟨_, rfl⟩
    rw [← e3] at k19
    obtain ⟨x4, e4⟩ : ∃ z, z = ((p3 - (1 : Int32)) / (64 : Int32)) := ⟨_, rfl⟩
    rw [← e4] at k19
    rw [← e3] at h3
    rw [← e4] at h4
    by_cases hs : x3 = x4
    · have hsn := (own_eqi h3 h4).mp hs
      have k20 : ∀ tg, Steps p.tables e below (s₁.setTop (mkF m 40 #[.val (.ref a1), .val (.int p2), .val (.int p3), .val (.int x3), .val (.int x4), .val (.long (own_fm p2)), .second, .val (.long (own_lm p3)), .second, .unset] [])) tg → Steps p.tables e below (s₁.setTop (entryFrame m #[(.ref a1), (.int p2), (.int p3)] 10)) tg := fun tg kg => k19 tg (by
          show Steps p.tables e below (s₁.setTop (mkF m 37 #[.val (.ref a1), .val (.int p2), .val (.int p3), .val (.int x3), .val (.int x4), .val (.long (own_fm p2)), .second, .val (.long (own_lm p3)), .second, .unset] [(.int x4), (.int x3)])) _
          refine XS.icmpNo X0.here hx rfl (hb hby d4_37) rfl (teq hs).2 ?_
          exact kg)
      have k21 : ∀ tg, Steps p.tables e below (s₁.setTop (mkF m 41 #[.val (.ref a1), .val (.int p2), .val (.int p3), .val (.int x3), .val (.int x4), .val (.long (own_fm p2)), .second, .val (.long (own_lm p3)), .second, .unset] [(.ref a1)])) tg → Steps p.tables e below (s₁.setTop (entryFrame m #[(.ref a1), (.int p2), (.int p3)] 10)) tg := fun tg kg => k20 tg (by
          show Steps p.tables e below (s₁.setTop (mkF m 40 #[.val (.ref a1), .val (.int p2), .val (.int p3), .val (.int x3), .val (.int x4), .val (.long (own_fm p2)), .second, .val (.long (own_lm p3)), .second, .unset] [])) _
          refine XS.aloadN X0.here hx rfl (hb hby d4_40) rfl rfl ?_
          exact kg)
      obtain ⟨T22, X22, e22, st22⟩ := getF X0 hx hZ hown (host := "") (Or.inl (hw _ (List.mem_of_getElem? (i := 15) rfl))) Via.refl e0 F (g := (mkF m 41 #[.val (.ref a1), .val (.int p2), .val (.int p3), .val (.int x3), .val (.int x4), .val (.long (own_fm p2)), .second, .val (.long (own_lm p3)), .second, .unset] [(.ref a1)])) rfl rfl (hb hby d4_41)
      have k23 : ∀ tg, Steps p.tables e below (T22.setTop (mkF m 44 #[.val (.ref a1), .val (.int p2), .val (.int p3), .val (.int x3), .val (.int x4), .val (.long (own_fm p2)), .second, .val (.long (own_lm p3)), .second, .unset] [(.ref b)])) tg → Steps p.tables e below (s₁.setTop (entryFrame m #[(.ref a1), (.int p2), (.int p3)] 10)) tg := fun tg kg => k21 tg (st22 tg kg)
      have k24 : ∀ tg, Steps p.tables e below (T22.setTop (mkF m 53 #[.val (.ref a1), .val (.int p2), .val (.int p3), .val (.int x3), .val (.int x4), .val (.long (own_fm p2)), .second, .val (.long (own_lm p3)), .second, .unset] [(.long ((f (a / 64)) ||| ((own_fm p2) &&& (own_lm p3)))), (.int x3), (.ref b)])) tg → Steps p.tables e below (s₁.setTop (entryFrame m #[(.ref a1), (.int p2), (.int p3)] 10)) tg := fun tg kg => k23 tg (by
          show Steps p.tables e below (T22.setTop (mkF m 44 #[.val (.ref a1), .val (.int p2), .val (.int p3), .val (.int x3), .val (.int x4), .val (.long (own_fm p2)), .second, .val (.long (own_lm p3)), .second, .unset] [(.ref b)])) _
          refine XS.iloadN X22.here hx rfl (hb hby d4_44) rfl ?_
          show Steps p.tables e below (T22.setTop (mkF m 45 #[.val (.ref a1), .val (.int p2), .val (.int p3), .val (.int x3), .val (.int x4), .val (.long (own_fm p2)), .second, .val (.long (own_lm p3)), .second, .unset] [(.int x3), (.ref b)])) _
          refine Jvm.Free.XT.dup2 X22.here hx rfl (hb hby d4_45) rfl rfl rfl ?_
          show Steps p.tables e below (T22.setTop (mkF m 46 #[.val (.ref a1), .val (.int p2), .val (.int p3), .val (.int x3), .val (.int x4), .val (.long (own_fm p2)), .second, .val (.long (own_lm p3)), .second, .unset] [(.int x3), (.ref b), (.int x3), (.ref b)])) _
          refine X22.laload hx (j := x3) (v := (.long (f (a / 64)))) (by rw [e22]; exact Ar.1) (State.isArrayOf_alike hZ.alike Ar.2.1) Ar.2.2 (own_hin S h3 (by omega)) (own_hat G h3 (by omega)) (g := (mkF m 46 #[.val (.ref a1), .val (.int p2), .val (.int p3), .val (.int x3), .val (.int x4), .val (.long (own_fm p2)), .second, .val (.long (own_lm p3)), .second, .unset] [(.int x3), (.ref b), (.int x3), (.ref b)])) rfl rfl (hb hby d4_46) _ ?_
          show Steps p.tables e below (T22.setTop (mkF m 47 #[.val (.ref a1), .val (.int p2), .val (.int p3), .val (.int x3), .val (.int x4), .val (.long (own_fm p2)), .second, .val (.long (own_lm p3)), .second, .unset] [(.long (f (a / 64))), (.int x3), (.ref b)])) _
          refine XS.lload X22.here hx rfl (hb hby d4_47) rfl ?_
          show Steps p.tables e below (T22.setTop (mkF m 49 #[.val (.ref a1), .val (.int p2), .val (.int p3), .val (.int x3), .val (.int x4), .val (.long (own_fm p2)), .second, .val (.long (own_lm p3)), .second, .unset] [(.long (own_fm p2)), (.long (f (a / 64))), (.int x3), (.ref b)])) _
          refine XS.lload X22.here hx rfl (hb hby d4_49) rfl ?_
          show Steps p.tables e below (T22.setTop (mkF m 51 #[.val (.ref a1), .val (.int p2), .val (.int p3), .val (.int x3), .val (.int x4), .val (.long (own_fm p2)), .second, .val (.long (own_lm p3)), .second, .unset] [(.long (own_lm p3)), (.long (own_fm p2)), (.long (f (a / 64))), (.int x3), (.ref b)])) _
          refine XS.land X22.here hx rfl (hb hby d4_51) rfl ?_
          show Steps p.tables e below (T22.setTop (mkF m 52 #[.val (.ref a1), .val (.int p2), .val (.int p3), .val (.int x3), .val (.int x4), .val (.long (own_fm p2)), .second, .val (.long (own_lm p3)), .second, .unset] [(.long ((own_fm p2) &&& (own_lm p3))), (.long (f (a / 64))), (.int x3), (.ref b)])) _
          refine XS.lor X22.here hx rfl (hb hby d4_52) rfl ?_
          exact kg)
      obtain ⟨T25, h25, X25, e25, W25, st25⟩ := stJ X22 hx hZ e22 Ar (j := x3) (own_hin S h3 (by omega)) (g := (mkF m 53 #[.val (.ref a1), .val (.int p2), .val (.int p3), .val (.int x3), .val (.int x4), .val (.long (own_fm p2)), .second, .val (.long (own_lm p3)), .second, .unset] [(.long ((f (a / 64)) ||| ((own_fm p2) &&& (own_lm p3)))), (.int x3), (.ref b)])) rfl rfl (hb hby d4_53)
      have N25 := Fr.snoc X25 N0 ge
      have k26 : ∀ tg, Steps p.tables e below (T25.setTop (mkF m 54 #[.val (.ref a1), .val (.int p2), .val (.int p3), .val (.int x3), .val (.int x4), .val (.long (own_fm p2)), .second, .val (.long (own_lm p3)), .second, .unset] [])) tg → Steps p.tables e below (s₁.setTop (entryFrame m #[(.ref a1), (.int p2), (.int p3)] 10)) tg := fun tg kg => k24 tg (st25 tg kg)
      have V2 := (Av.set Ar S G h3 W25).congr (g' := fun j => .long (own_f1 f (a / 64) (own_fm p2 &&& own_lm p3) j)) (fun j _ => by dsimp only [own_f1]; split <;> rfl)
      obtain ⟨fs, hr, hrun, hended, hW, hsame⟩ := X25.leave (v := none) (fun _ => rfl)
      refine ⟨_, _, k26 _ ?_, hrun, hended, _, _, rfl, ?_, ⟨_, rfl⟩, hW, hsame.mono (by decide) (by decide)⟩
      · show Steps p.tables e below (T25.setTop (mkF m 54 #[.val (.ref a1), .val (.int p2), .val (.int p3), .val (.int x3), .val (.int x4), .val (.long (own_fm p2)), .second, .val (.long (own_lm p3)), .second, .unset] [])) _
        exact X25.returnOut hx Bd.returns (hb hby d4_54) hr
      · show Q4 _ _ _ _ _ _ _ _ _ _ T25.heap _
        rw [e25]
        exact ⟨rfl, N25, Keep.of_wr W25, F.other W25 (Or.inl ne), _, V2, own_t1 hp hq hab hsn f⟩
    · have hsn : ¬ a / 64 = (z - 1) / 64 := fun q => hs ((own_eqi h3 h4).mpr q)
      have k27 : ∀ tg, Steps p.tables e below (s₁.setTop (mkF m 55 #[.val (.ref a1), .val (.int p2), .val (.int p3), .val (.int x3), .val (.int x4), .val (.long (own_fm p2)), .second, .val (.long (own_lm p3)), .second, .unset] [])) tg → Steps p.tables e below (s₁.setTop (entryFrame m #[(.ref a1), (.int p2), (.int p3)] 10)) tg := fun tg kg => k19 tg (by
          show Steps p.tables e below (s₁.setTop (mkF m 37 #[.val (.ref a1), .val (.int p2), .val (.int p3), .val (.int x3), .val (.int x4), .val (.long (own_fm p2)), .second, .val (.long (own_lm p3)), .second, .unset] [(.int x4), (.int x3)])) _
          refine XS.icmpYes X0.here hx rfl (pc0 := 37) (pc' := 55) rfl (hb hby d4_37) rfl (feq hs).2 (by decide) (by decide) ?_
          exact kg)
      have k28 : ∀ tg, Steps p.tables e below (s₁.setTop (mkF m 56 #[.val (.ref a1), .val (.int p2), .val (.int p3), .val (.int x3), .val (.int x4), .val (.long (own_fm p2)), .second, .val (.long (own_lm p3)), .second, .unset] [(.ref a1)])) tg → Steps p.tables e below (s₁.setTop (entryFrame m #[(.ref a1), (.int p2), (.int p3)] 10)) tg := fun tg kg => k27 tg (by
          show Steps p.tables e below (s₁.setTop (mkF m 55 #[.val (.ref a1), .val (.int p2), .val (.int p3), .val (.int x3), .val (.int x4), .val (.long (own_fm p2)), .second, .val (.long (own_lm p3)), .second, .unset] [])) _
          refine XS.aloadN X0.here hx rfl (hb hby d4_55) rfl rfl ?_
          exact kg)
      obtain ⟨T29, X29, e29, st29⟩ := getF X0 hx hZ hown (host := "") (Or.inl (hw _ (List.mem_of_getElem? (i := 15) rfl))) Via.refl e0 F (g := (mkF m 56 #[.val (.ref a1), .val (.int p2), .val (.int p3), .val (.int x3), .val (.int x4), .val (.long (own_fm p2)), .second, .val (.long (own_lm p3)), .second, .unset] [(.ref a1)])) rfl rfl (hb hby d4_56)
      have k30 : ∀ tg, Steps p.tables e below (T29.setTop (mkF m 59 #[.val (.ref a1), .val (.int p2), .val (.int p3), .val (.int x3), .val (.int x4), .val (.long (own_fm p2)), .second, .val (.long (own_lm p3)), .second, .unset] [(.ref b)])) tg → Steps p.tables e below (s₁.setTop (entryFrame m #[(.ref a1), (.int p2), (.int p3)] 10)) tg := fun tg kg => k28 tg (st29 tg kg)
      have k31 : ∀ tg, Steps p.tables e below (T29.setTop (mkF m 65 #[.val (.ref a1), .val (.int p2), .val (.int p3), .val (.int x3), .val (.int x4), .val (.long (own_fm p2)), .second, .val (.long (own_lm p3)), .second, .unset] [(.long ((f (a / 64)) ||| (own_fm p2))), (.int x3), (.ref b)])) tg → Steps p.tables e below (s₁.setTop (entryFrame m #[(.ref a1), (.int p2), (.int p3)] 10)) tg := fun tg kg => k30 tg (by
          show Steps p.tables e below (T29.setTop (mkF m 59 #[.val (.ref a1), .val (.int p2), .val (.int p3), .val (.int x3), .val (.int x4), .val (.long (own_fm p2)), .second, .val (.long (own_lm p3)), .second, .unset] [(.ref b)])) _
          refine XS.iloadN X29.here hx rfl (hb hby d4_59) rfl ?_
          show Steps p.tables e below (T29.setTop (mkF m 60 #[.val (.ref a1), .val (.int p2), .val (.int p3), .val (.int x3), .val (.int x4), .val (.long (own_fm p2)), .second, .val (.long (own_lm p3)), .second, .unset] [(.int x3), (.ref b)])) _
          refine Jvm.Free.XT.dup2 X29.here hx rfl (hb hby d4_60) rfl rfl rfl ?_
          show Steps p.tables e below (T29.setTop (mkF m 61 #[.val (.ref a1), .val (.int p2), .val (.int p3), .val (.int x3), .val (.int x4), .val (.long (own_fm p2)), .second, .val (.long (own_lm p3)), .second, .unset] [(.int x3), (.ref b), (.int x3), (.ref b)])) _
          refine X29.laload hx (j := x3) (v := (.long (f (a / 64)))) (by rw [e29]; exact Ar.1) (State.isArrayOf_alike hZ.alike Ar.2.1) Ar.2.2 (own_hin S h3 (by omega)) (own_hat G h3 (by omega)) (g := (mkF m 61 #[.val (.ref a1), .val (.int p2), .val (.int p3), .val (.int x3), .val (.int x4), .val (.long (own_fm p2)), .second, .val (.long (own_lm p3)), .second, .unset] [(.int x3), (.ref b), (.int x3), (.ref b)])) rfl rfl (hb hby d4_61) _ ?_
          show Steps p.tables e below (T29.setTop (mkF m 62 #[.val (.ref a1), .val (.int p2), .val (.int p3), .val (.int x3), .val (.int x4), .val (.long (own_fm p2)), .second, .val (.long (own_lm p3)), .second, .unset] [(.long (f (a / 64))), (.int x3), (.ref b)])) _
          refine XS.lload X29.here hx rfl (hb hby d4_62) rfl ?_
          show Steps p.tables e below (T29.setTop (mkF m 64 #[.val (.ref a1), .val (.int p2), .val (.int p3), .val (.int x3), .val (.int x4), .val (.long (own_fm p2)), .second, .val (.long (own_lm p3)), .second, .unset] [(.long (own_fm p2)), (.long (f (a / 64))), (.int x3), (.ref b)])) _
          refine XS.lor X29.here hx rfl (hb hby d4_64) rfl ?_
          exact kg)
      obtain ⟨T32, h32, X32, e32, W32, st32⟩ := stJ X29 hx hZ e29 Ar (j := x3) (own_hin S h3 (by omega)) (g := (mkF m 65 #[.val (.ref a1), .val (.int p2), .val (.int p3), .val (.int x3), .val (.int x4), .val (.long (own_fm p2)), .second, .val (.long (own_lm p3)), .second, .unset] [(.long ((f (a / 64)) ||| (own_fm p2))), (.int x3), (.ref b)])) rfl rfl (hb hby d4_65)
      have N32 := Fr.snoc X32 N0 ge
      have k33 : ∀ tg, Steps p.tables e below (T32.setTop (mkF m 66 #[.val (.ref a1), .val (.int p2), .val (.int p3), .val (.int x3), .val (.int x4), .val (.long (own_fm p2)), .second, .val (.long (own_lm p3)), .second, .unset] [])) tg → Steps p.tables e below (s₁.setTop (entryFrame m #[(.ref a1), (.int p2), (.int p3)] 10)) tg := fun tg kg => k31 tg (st32 tg kg)
      have V2 := (Av.set Ar S G h3 W32).congr (g' := fun j => .long (own_f1 f (a / 64) (own_fm p2) j)) (fun j _ => by dsimp only [own_f1]; split <;> rfl)
      have k34 : ∀ tg, Steps p.tables e below (T32.setTop (mkF m 71 #[.val (.ref a1), .val (.int p2), .val (.int p3), .val (.int x3), .val (.int x4), .val (.long (own_fm p2)), .second, .val (.long (own_lm p3)), .second, .val (.int (x3 + (1 : Int32)))] [])) tg → Steps p.tables e below (s₁.setTop (entryFrame m #[(.ref a1), (.int p2), (.int p3)] 10)) tg := fun tg kg => k33 tg (by
          show Steps p.tables e below (T32.setTop (mkF m 66 #[.val (.ref a1), .val (.int p2), .val (.int p3), .val (.int x3), .val (.int x4), .val (.long (own_fm p2)), .second, .val (.long (own_lm p3)), .second, .unset] [])) _
          refine XS.iloadN X32.here hx rfl (hb hby d4_66) rfl ?_
          show Steps p.tables e below (T32.setTop (mkF m 67 #[.val (.ref a1), .val (.int p2), .val (.int p3), .val (.int x3), .val (.int x4), .val (.long (own_fm p2)), .second, .val (.long (own_lm p3)), .second, .unset] [(.int x3)])) _
          refine XS.iconst X32.here hx rfl (hb hby d4_67) ?_
          show Steps p.tables e below (T32.setTop (mkF m 68 #[.val (.ref a1), .val (.int p2), .val (.int p3), .val (.int x3), .val (.int x4), .val (.long (own_fm p2)), .second, .val (.long (own_lm p3)), .second, .unset] [(.int (1 : Int32)), (.int x3)])) _
          refine XS.iadd X32.here hx rfl (hb hby d4_68) rfl ?_
          show Steps p.tables e below (T32.setTop (mkF m 69 #[.val (.ref a1), .val (.int p2), .val (.int p3), .val (.int x3), .val (.int x4), .val (.long (own_fm p2)), .second, .val (.long (own_lm p3)), .second, .unset] [(.int (x3 + (1 : Int32)))])) _
          refine XS.istore X32.here hx rfl (hb hby d4_69) rfl (l' := #[.val (.ref a1), .val (.int p2), .val (.int p3), .val (.int x3), .val (.int x4), .val (.long (own_fm p2)), .second, .val (.long (own_lm p3)), .second, .val (.int (x3 + (1 : Int32)))]) rfl ?_
          exact kg)
      obtain ⟨y35, T35, h35, L35, X35, e35, N35, K35, F35, V35, st35⟩ := loopT hx hZ hw hby hml hown a1 b p2 p3 x3 x4 (own_fm p2) (own_lm p3) N ((z - 1) / 64) n0 h4 (by omega) hN ne ge ((z - 1) / 64 - (a / 64 + 1)) (a / 64 + 1) _ _ _ _ _ (by omega) (own_inc h3 (by omega)) X32 e32 N32 (F.other W32 (Or.inl ne)) V2
      have k36 : ∀ tg, Steps p.tables e below (T35.setTop (mkF m 94 #[.val (.ref a1), .val (.int p2), .val (.int p3), .val (.int x3), .val (.int x4), .val (.long (own_fm p2)), .second, .val (.long (own_lm p3)), .second, .val (.int y35)] [])) tg → Steps p.tables e below (s₁.setTop (entryFrame m #[(.ref a1), (.int p2), (.int p3)] 10)) tg := fun tg kg => k34 tg (st35 tg kg)
      obtain ⟨cl2, Ar2, S2, G2⟩ := V35
      have k37 : ∀ tg, Steps p.tables e below (T35.setTop (mkF m 95 #[.val (.ref a1), .val (.int p2), .val (.int p3), .val (.int x3), .val (.int x4), .val (.long (own_fm p2)), .second, .val (.long (own_lm p3)), .second, .val (.int y35)] [(.ref a1)])) tg → Steps p.tables e below (s₁.setTop (entryFrame m #[(.ref a1), (.int p2), (.int p3)] 10)) tg := fun tg kg => k36 tg (by
          show Steps p.tables e below (T35.setTop (mkF m 94 #[.val (.ref a1), .val (.int p2), .val (.int p3), .val (.int x3), .val (.int x4), .val (.long (own_fm p2)), .second, .val (.long (own_lm p3)), .second, .val (.int y35)] [])) _
          refine XS.aloadN X35.here hx rfl (hb hby d4_94) rfl rfl ?_
          exact kg)
      obtain ⟨T38, X38, e38, st38⟩ := getF X35 hx hZ hown (host := "") (Or.inl (hw _ (List.mem_of_getElem? (i := 15) rfl))) Via.refl e35 F35 (g := (mkF m 95 #[.val (.ref a1), .val (.int p2), .val (.int p3), .val (.int x3), .val (.int x4), .val (.long (own_fm p2)), .second, .val (.long (own_lm p3)), .second, .val (.int y35)] [(.ref a1)])) rfl rfl (hb hby d4_95)
      have k39 : ∀ tg, Steps p.tables e below (T38.setTop (mkF m 98 #[.val (.ref a1), .val (.int p2), .val (.int p3), .val (.int x3), .val (.int x4), .val (.long (own_fm p2)), .second, .val (.long (own_lm p3)), .second, .val (.int y35)] [(.ref b)])) tg → Steps p.tables e below (s₁.setTop (entryFrame m #[(.ref a1), (.int p2), (.int p3)] 10)) tg := fun tg kg => k37 tg (st38 tg kg)
      have k40 : ∀ tg, Steps p.tables e below (T38.setTop (mkF m 105 #[.val (.ref a1), .val (.int p2), .val (.int p3), .val (.int x3), .val (.int x4), .val (.long (own_fm p2)), .second, .val (.long (own_lm p3)), .second, .val (.int y35)] [(.long ((own_f2 (own_f1 f (a / 64) (own_fm p2)) (a / 64 + 1) ((z - 1) / 64) ((z - 1) / 64)) ||| (own_lm p3))), (.int x4), (.ref b)])) tg → Steps p.tables e below (s₁.setTop (entryFrame m #[(.ref a1), (.int p2), (.int p3)] 10)) tg := fun tg kg => k39 tg (by
          show Steps p.tables e below (T38.setTop (mkF m 98 #[.val (.ref a1), .val (.int p2), .val (.int p3), .val (.int x3), .val (.int x4), .val (.long (own_fm p2)), .second, .val (.long (own_lm p3)), .second, .val (.int y35)] [(.ref b)])) _
          refine XS.iload X38.here hx rfl (hb hby d4_98) rfl ?_
          show Steps p.tables e below (T38.setTop (mkF m 100 #[.val (.ref a1), .val (.int p2), .val (.int p3), .val (.int x3), .val (.int x4), .val (.long (own_fm p2)), .second, .val (.long (own_lm p3)), .second, .val (.int y35)] [(.int x4), (.ref b)])) _
          refine Jvm.Free.XT.dup2 X38.here hx rfl (hb hby d4_100) rfl rfl rfl ?_
          show Steps p.tables e below (T38.setTop (mkF m 101 #[.val (.ref a1), .val (.int p2), .val (.int p3), .val (.int x3), .val (.int x4), .val (.long (own_fm p2)), .second, .val (.long (own_lm p3)), .second, .val (.int y35)] [(.int x4), (.ref b), (.int x4), (.ref b)])) _
          refine X38.laload hx (j := x4) (v := (.long (own_f2 (own_f1 f (a / 64) (own_fm p2)) (a / 64 + 1) ((z - 1) / 64) ((z - 1) / 64)))) (by rw [e38]; exact Ar2.1) (State.isArrayOf_alike hZ.alike Ar2.2.1) Ar2.2.2 (own_hin S2 h4 (by omega)) (own_hat G2 h4 (by omega)) (g := (mkF m 101 #[.val (.ref a1), .val (.int p2), .val (.int p3), .val (.int x3), .val (.int x4), .val (.long (own_fm p2)), .second, .val (.long (own_lm p3)), .second, .val (.int y35)] [(.int x4), (.ref b), (.int x4), (.ref b)])) rfl rfl (hb hby d4_101) _ ?_
          show Steps p.tables e below (T38.setTop (mkF m 102 #[.val (.ref a1), .val (.int p2), .val (.int p3), .val (.int x3), .val (.int x4), .val (.long (own_fm p2)), .second, .val (.long (own_lm p3)), .second, .val (.int y35)] [(.long (own_f2 (own_f1 f (a / 64) (own_fm p2)) (a / 64 + 1) ((z - 1) / 64) ((z - 1) / 64))), (.int x4), (.ref b)])) _
          refine XS.lload X38.here hx rfl (hb hby d4_102) rfl ?_
          show Steps p.tables e below (T38.setTop (mkF m 104 #[.val (.ref a1), .val (.int p2), .val (.int p3), .val (.int x3), .val (.int x4), .val (.long (own_fm p2)), .second, .val (.long (own_lm p3)), .second, .val (.int y35)] [(.long (own_lm p3)), (.long (own_f2 (own_f1 f (a / 64) (own_fm p2)) (a / 64 + 1) ((z - 1) / 64) ((z - 1) / 64))), (.int x4), (.ref b)])) _
          refine XS.lor X38.here hx rfl (hb hby d4_104) rfl ?_
          exact kg)
      obtain ⟨T41, h41, X41, e41, W41, st41⟩ := stJ X38 hx hZ e38 Ar2 (j := x4) (own_hin S2 h4 (by omega)) (g := (mkF m 105 #[.val (.ref a1), .val (.int p2), .val (.int p3), .val (.int x3), .val (.int x4), .val (.long (own_fm p2)), .second, .val (.long (own_lm p3)), .second, .val (.int y35)] [(.long ((own_f2 (own_f1 f (a / 64) (own_fm p2)) (a / 64 + 1) ((z - 1) / 64) ((z - 1) / 64)) ||| (own_lm p3))), (.int x4), (.ref b)])) rfl rfl (hb hby d4_105)
      have N41 := Fr.snoc X41 N35 ge
      have k42 : ∀ tg, Steps p.tables e below (T41.setTop (mkF m 106 #[.val (.ref a1), .val (.int p2), .val (.int p3), .val (.int x3), .val (.int x4), .val (.long (own_fm p2)), .second, .val (.long (own_lm p3)), .second, .val (.int y35)] [])) tg → Steps p.tables e below (s₁.setTop (entryFrame m #[(.ref a1), (.int p2), (.int p3)] 10)) tg := fun tg kg => k40 tg (st41 tg kg)
      have V4 := (Av.set Ar2 S2 G2 h4 W41).congr (g' := fun j => .long (own_f1 (own_f2 (own_f1 f (a / 64) (own_fm p2)) (a / 64 + 1) ((z - 1) / 64)) ((z - 1) / 64) (own_lm p3) j)) (fun j _ => by dsimp only [own_f1]; split <;> rfl)
      obtain ⟨fs, hr, hrun, hended, hW, hsame⟩ := X41.leave (v := none) (fun _ => rfl)
      refine ⟨_, _, k42 _ ?_, hrun, hended, _, _, rfl, ?_, ⟨_, rfl⟩, hW, hsame.mono (by decide) (by decide)⟩
      · show Steps p.tables e below (T41.setTop (mkF m 106 #[.val (.ref a1), .val (.int p2), .val (.int p3), .val (.int x3), .val (.int x4), .val (.long (own_fm p2)), .second, .val (.long (own_lm p3)), .second, .val (.int y35)] [])) _
        exact X41.returnOut hx Bd.returns (hb hby d4_106) hr
      · show Q4 _ _ _ _ _ _ _ _ _ _ T41.heap _
        rw [e41]
        exact ⟨rfl, N41, ((Keep.of_wr W32).trans K35 (fun x hx => Or.inl hx)).wr W41 (Or.inl (own_in0 _ _)), F35.other W41 (Or.inl ne), _, V4, own_t2 hp hq hab hsn f⟩
  · have k43 : ∀ tg, Steps p.tables e below (s₁.setTop (mkF m 5 #[.val (.ref a1), .val (.int p2), .val (.int p3), .unset, .unset, .unset, .unset, .unset, .unset, .unset] [])) tg → Steps p.tables e below (s₁.setTop (entryFrame m #[(.ref a1), (.int p2), (.int p3)] 10)) tg := fun tg kg => k17 tg (by
        show Steps p.tables e below (s₁.setTop (mkF m 2 #[.val (.ref a1), .val (.int p2), .val (.int p3), .unset, .unset, .unset, .unset, .unset, .unset, .unset] [(.int p3), (.int p2)])) _
        refine XS.icmpNo X0.here hx rfl (hb hby d4_2) rfl (flt hc).1 ?_
        exact kg)
    obtain ⟨fs, hr, hrun, hended, hW, hsame⟩ := X0.leave (v := none) (fun _ => rfl)
    refine ⟨_, _, k43 _ ?_, hrun, hended, _, _, rfl, ?_, ⟨_, rfl⟩, hW, hsame.mono (by decide) (by decide)⟩
    · show Steps p.tables e below (s₁.setTop (mkF m 5 #[.val (.ref a1), .val (.int p2), .val (.int p3), .unset, .unset, .unset, .unset, .unset, .unset, .unset] [])) _
      exact X0.returnOut hx Bd.returns (hb hby d4_5) hr
    · show Q4 _ _ _ _ _ _ _ _ _ _ s₁.heap _
      rw [e0]
      exact ⟨rfl, N0, Keep.refl h0 [b], F, f, V, own_t0 (fun q => hc ((own_lt hp hq).mpr q)) f⟩
theorem d5_0 : decode prog_69_method_2_code 0 = .ok (.iload_n 1, 1) := by decide +kernel
theorem d5_1 : decode prog_69_method_2_code 1 = .ok (.iload_n 2, 1) := by decide +kernel
theorem d5_2 : decode prog_69_method_2_code 2 = .ok (.if_icmp .lt 5, 3) := by decide +kernel
theorem d5_5 : decode prog_69_method_2_code 5 = .ok (.iconst 0, 1) := by decide +kernel
theorem d5_6 : decode prog_69_method_2_code 6 = .ok (.ireturn, 1) := by decide +kernel
theorem d5_7 : decode prog_69_method_2_code 7 = .ok (.iload_n 1, 1) := by decide +kernel
theorem d5_8 : decode prog_69_method_2_code 8 = .ok (.bipush 64, 2) := by decide +kernel
theorem d5_10 : decode prog_69_method_2_code 10 = .ok (.idiv, 1) := by decide +kernel
theorem d5_11 : decode prog_69_method_2_code 11 = .ok (.istore_n 3, 1) := by decide +kernel
theorem d5_12 : decode prog_69_method_2_code 12 = .ok (.iload_n 2, 1) := by decide +kernel
theorem d5_13 : decode prog_69_method_2_code 13 = .ok (.iconst 1, 1) := by decide +kernel
theorem d5_14 : decode prog_69_method_2_code 14 = .ok (.isub, 1) := by decide +kernel
theorem d5_15 : decode prog_69_method_2_code 15 = .ok (.bipush 64, 2) := by decide +kernel
theorem d5_17 : decode prog_69_method_2_code 17 = .ok (.idiv, 1) := by decide +kernel
theorem d5_18 : decode prog_69_method_2_code 18 = .ok (.istore 4, 2) := by decide +kernel
theorem d5_20 : decode prog_69_method_2_code 20 = .ok (.ldc2_w 15, 3) := by decide +kernel
theorem d5_23 : decode prog_69_method_2_code 23 = .ok (.iload_n 1, 1) := by decide +kernel
theorem d5_24 : decode prog_69_method_2_code 24 = .ok (.lshl, 1) := by decide +kernel
theorem d5_25 : decode prog_69_method_2_code 25 = .ok (.lstore 5, 2) := by decide +kernel
theorem d5_27 : decode prog_69_method_2_code 27 = .ok (.ldc2_w 15, 3) := by decide +kernel
theorem d5_30 : decode prog_69_method_2_code 30 = .ok (.iload_n 2, 1) := by decide +kernel
theorem d5_31 : decode prog_69_method_2_code 31 = .ok (.ineg, 1) := by decide +kernel
theorem d5_32 : decode prog_69_method_2_code 32 = .ok (.lushr, 1) := by decide +kernel
theorem d5_33 : decode prog_69_method_2_code 33 = .ok (.lstore 7, 2) := by decide +kernel
theorem d5_35 : decode prog_69_method_2_code 35 = .ok (.iload_n 3, 1) := by decide +kernel
theorem d5_36 : decode prog_69_method_2_code 36 = .ok (.iload 4, 2) := by decide +kernel
theorem d5_38 : decode prog_69_method_2_code 38 = .ok (.if_icmp .ne 26, 3) := by decide +kernel
theorem d5_41 : decode prog_69_method_2_code 41 = .ok (.aload_n 0, 1) := by decide +kernel
theorem d5_42 : decode prog_69_method_2_code 42 = .ok (.getfield 9, 3) := by decide +kernel
theorem d5_45 : decode prog_69_method_2_code 45 = .ok (.iload_n 3, 1) := by decide +kernel
theorem d5_46 : decode prog_69_method_2_code 46 = .ok (.laload, 1) := by decide +kernel
theorem d5_47 : decode prog_69_method_2_code 47 = .ok (.lload 5, 2) := by decide +kernel
theorem d5_49 : decode prog_69_method_2_code 49 = .ok (.land, 1) := by decide +kernel
theorem d5_50 : decode prog_69_method_2_code 50 = .ok (.lload 7, 2) := by decide +kernel
theorem d5_52 : decode prog_69_method_2_code 52 = .ok (.land, 1) := by decide +kernel
theorem d5_53 : decode prog_69_method_2_code 53 = .ok (.lconst 0, 1) := by decide +kernel
theorem d5_54 : decode prog_69_method_2_code 54 = .ok (.lcmp, 1) := by decide +kernel
theorem d5_55 : decode prog_69_method_2_code 55 = .ok (.ifCond .eq 7, 3) := by decide +kernel
theorem d5_58 : decode prog_69_method_2_code 58 = .ok (.iconst 1, 1) := by decide +kernel
theorem d5_59 : decode prog_69_method_2_code 59 = .ok (.goto 4, 3) := by decide +kernel
theorem d5_62 : decode prog_69_method_2_code 62 = .ok (.iconst 0, 1) := by decide +kernel
theorem d5_63 : decode prog_69_method_2_code 63 = .ok (.ireturn, 1) := by decide +kernel
theorem d5_64 : decode prog_69_method_2_code 64 = .ok (.aload_n 0, 1) := by decide +kernel
theorem d5_65 : decode prog_69_method_2_code 65 = .ok (.getfield 9, 3) := by decide +kernel
theorem d5_68 : decode prog_69_method_2_code 68 = .ok (.iload_n 3, 1) := by decide +kernel
theorem d5_69 : decode prog_69_method_2_code 69 = .ok (.laload, 1) := by decide +kernel
theorem d5_70 : decode prog_69_method_2_code 70 = .ok (.lload 5, 2) := by decide +kernel
theorem d5_72 : decode prog_69_method_2_code 72 = .ok (.land, 1) := by decide +kernel
theorem d5_73 : decode prog_69_method_2_code 73 = .ok (.lconst 0, 1) := by decide +kernel
theorem d5_74 : decode prog_69_method_2_code 74 = .ok (.lcmp, 1) := by decide +kernel
theorem d5_75 : decode prog_69_method_2_code 75 = .ok (.ifCond .ne 18, 3) := by decide +kernel
theorem d5_78 : decode prog_69_method_2_code 78 = .ok (.aload_n 0, 1) := by decide +kernel
theorem d5_79 : decode prog_69_method_2_code 79 = .ok (.getfield 9, 3) := by decide +kernel
theorem d5_82 : decode prog_69_method_2_code 82 = .ok (.iload 4, 2) := by decide +kernel
theorem d5_84 : decode prog_69_method_2_code 84 = .ok (.laload, 1) := by decide +kernel
theorem d5_85 : decode prog_69_method_2_code 85 = .ok (.lload 7, 2) := by decide +kernel
theorem d5_87 : decode prog_69_method_2_code 87 = .ok (.land, 1) := by decide +kernel
theorem d5_88 : decode prog_69_method_2_code 88 = .ok (.lconst 0, 1) := by decide +kernel
theorem d5_89 : decode prog_69_method_2_code 89 = .ok (.lcmp, 1) := by decide +kernel
theorem d5_90 : decode prog_69_method_2_code 90 = .ok (.ifCond .eq 5, 3) := by decide +kernel
theorem d5_93 : decode prog_69_method_2_code 93 = .ok (.iconst 1, 1) := by decide +kernel
theorem d5_94 : decode prog_69_method_2_code 94 = .ok (.ireturn, 1) := by decide +kernel
theorem d5_95 : decode prog_69_method_2_code 95 = .ok (.iload_n 3, 1) := by decide +kernel
theorem d5_96 : decode prog_69_method_2_code 96 = .ok (.iconst 1, 1) := by decide +kernel
theorem d5_97 : decode prog_69_method_2_code 97 = .ok (.iadd, 1) := by decide +kernel
theorem d5_98 : decode prog_69_method_2_code 98 = .ok (.istore 9, 2) := by decide +kernel
theorem d5_100 : decode prog_69_method_2_code 100 = .ok (.iload 9, 2) := by decide +kernel
theorem d5_102 : decode prog_69_method_2_code 102 = .ok (.iload 4, 2) := by decide +kernel
theorem d5_104 : decode prog_69_method_2_code 104 = .ok (.if_icmp .ge 23, 3) := by decide +kernel
theorem d5_107 : decode prog_69_method_2_code 107 = .ok (.aload_n 0, 1) := by decide +kernel
theorem d5_108 : decode prog_69_method_2_code 108 = .ok (.getfield 9, 3) := by decide +kernel
theorem d5_111 : decode prog_69_method_2_code 111 = .ok (.iload 9, 2) := by decide +kernel
theorem d5_113 : decode prog_69_method_2_code 113 = .ok (.laload, 1) := by decide +kernel
theorem d5_114 : decode prog_69_method_2_code 114 = .ok (.lconst 0, 1) := by decide +kernel
theorem d5_115 : decode prog_69_method_2_code 115 = .ok (.lcmp, 1) := by decide +kernel
theorem d5_116 : decode prog_69_method_2_code 116 = .ok (.ifCond .eq 5, 3) := by decide +kernel
theorem d5_119 : decode prog_69_method_2_code 119 = .ok (.iconst 1, 1) := by decide +kernel
theorem d5_120 : decode prog_69_method_2_code 120 = .ok (.ireturn, 1) := by decide +kernel
theorem d5_121 : decode prog_69_method_2_code 121 = .ok (.iinc 9 1, 3) := by decide +kernel
theorem d5_124 : decode prog_69_method_2_code 124 = .ok (.goto (-24), 3) := by decide +kernel
theorem d5_127 : decode prog_69_method_2_code 127 = .ok (.iconst 0, 1) := by decide +kernel
theorem d5_128 : decode prog_69_method_2_code 128 = .ok (.ireturn, 1) := by decide +kernel
theorem pn_5 : plainName "com/example/opword/opword/dex/TakenBytes" = true := by first | (simp [plainName, overriddenIn]; done) | decide +kernel
set_option maxRecDepth 65536 in
set_option maxHeartbeats 40000000 in
theorem loopA {p : Program} {l : Launch} {e : Env} {R : Room} {s : State} {m : MethodId} {args : Array Value} {below : List Frame} {meth : Method} {c : Code} {cells slots : Nat} {Z : State} {a0 : Array Value} (hx : p.tables.exec = Jvm.exec) (hZ : Z.Warmed39 s.vm) (hw : ∀ d ∈ tables_1, d.before a0 Z = true) (hby : c.code = prog_69_method_2_code) (hml : c.maxLocals = 10) (hown : s.vm.findClass "com/example/opword/opword/dex/TakenBytes" = some m.cls) (a1 b : Addr) (p2 p3 x3 x4 : Int32) (fm lm : Int64) (N l0 : Nat) (hx4 : x4.toInt = l0) (hl : l0 ≤ N) (hN : N ≤ 1000) (f : Nat → Int64) (h : Heap) (F : Fld Z h a1 "com/example/opword/opword/dex/TakenBytes" "words" "[J" (.ref b)) (V : Av Z h b .long N (fun j => .long (f j))) :
    ∀ (k i : Nat) (x : Int32) (T0 : State) (locs : List Loc), i + k = l0 → x.toInt = i → Stand p l e R s m args below meth c T0 locs cells slots → T0.heap = h →
      ∃ (x' : Int32) (T' : State), Stand p l e R s m args below meth c T' locs cells slots ∧ T'.heap = h ∧ (((∃ j, i ≤ j ∧ j < l0 ∧ ¬ f j = 0) ∧ ∀ t, Steps p.tables e below (T'.setTop (mkF m 119 #[.val (.ref a1), .val (.int p2), .val (.int p3), .val (.int x3), .val (.int x4), .val (.long fm), .second, .val (.long lm), .second, .val (.int x')] [])) t → Steps p.tables e below (T0.setTop (mkF m 100 #[.val (.ref a1), .val (.int p2), .val (.int p3), .val (.int x3), .val (.int x4), .val (.long fm), .second, .val (.long lm), .second, .val (.int x)] [])) t) ∨ ((∀ j, i ≤ j → j < l0 → f j = 0) ∧ ∀ t, Steps p.tables e below (T'.setTop (mkF m 127 #[.val (.ref a1), .val (.int p2), .val (.int p3), .val (.int x3), .val (.int x4), .val (.long fm), .second, .val (.long lm), .second, .val (.int x')] [])) t → Steps p.tables e below (T0.setTop (mkF m 100 #[.val (.ref a1), .val (.int p2), .val (.int p3), .val (.int x3), .val (.int x4), .val (.long fm), .second, .val (.long lm), .second, .val (.int x)] [])) t)) := by
  intro k
  induction k with
  | zero =>
    intro i x T0 locs hk hxi X0 e0
    have kid : ∀ tg, Steps p.tables e below (T0.setTop (mkF m 100 #[.val (.ref a1), .val (.int p2), .val (.int p3), .val (.int x3), .val (.int x4), .val (.long fm), .second, .val (.long lm), .second, .val (.int x)] [])) tg → Steps p.tables e below (T0.setTop (mkF m 100 #[.val (.ref a1), .val (.int p2), .val (.int p3), .val (.int x3), .val (.int x4), .val (.long fm), .second, .val (.long lm), .second, .val (.int x)] [])) tg := fun _ kg => kg
    have hc : ¬ x < x4 := fun q => by rw [own_lt hxi hx4] at q; omega
    have k44 : ∀ tg, Steps p.tables e below (T0.setTop (mkF m 127 #[.val (.ref a1), .val (.int p2), .val (.int p3), .val (.int x3), .val (.int x4), .val (.long fm), .second, .val (.long lm), .second, .val (.int x)] [])) tg → Steps p.tables e below (T0.setTop (mkF m 100 #[.val (.ref a1), .val (.int p2), .val (.int p3), .val (.int x3), .val (.int x4), .val (.long fm), .second, .val (.long lm), .second, .val (.int x)] [])) tg := fun tg kg => kid tg (by
        show Steps p.tables e below (T0.setTop (mkF m 100 #[.val (.ref a1), .val (.int p2), .val (.int p3), .val (.int x3), .val (.int x4), .val (.long fm), .second, .val (.long lm), .second, .val (.int x)] [])) _
        refine XS.iload X0.here hx rfl (hb hby d5_100) rfl ?_
        show Steps p.tables e below (T0.setTop (mkF m 102 #[.val (.ref a1), .val (.int p2), .val (.int p3), .val (.int x3), .val (.int x4), .val (.long fm), .second, .val (.long lm), .second, .val (.int x)] [(.int x)])) _
        refine XS.iload X0.here hx rfl (hb hby d5_102) rfl ?_
        show Steps p.tables e below (T0.setTop (mkF m 104 #[.val (.ref a1), .val (.int p2), .val (.int p3), .val (.int x3), .val (.int x4), .val (.long fm), .second, .val (.long lm), .second, .val (.int x)] [(.int x4), (.int x)])) _
        refine XS.icmpYes X0.here hx rfl (pc0 := 104) (pc' := 127) rfl (hb hby d5_104) rfl (flt hc).2.1 (by decide) (by decide) ?_
        exact kg)
    exact ⟨x, T0, X0, e0, Or.inr ⟨fun j h1 h2 => by omega, k44⟩⟩
  | succ k ih =>
    intro i x T0 locs hk hxi X0 e0
    have kid : ∀ tg, Steps p.tables e below (T0.setTop (mkF m 100 #[.val (.ref a1), .val (.int p2), .val (.int p3), .val (.int x3), .val (.int x4), .val (.long fm), .second, .val (.long lm), .second, .val (.int x)] [])) tg → Steps p.tables e below (T0.setTop (mkF m 100 #[.val (.ref a1), .val (.int p2), .val (.int p3), .val (.int x3), .val (.int x4), .val (.long fm), .second, .val (.long lm), .second, .val (.int x)] [])) tg := fun _ kg => kg
    have hc : x < x4 := (own_lt hxi hx4).mpr (by omega)
    obtain ⟨cl, Ar, S, G⟩ := V
    have k45 : ∀ tg, Steps p.tables e below (T0.setTop (mkF m 108 #[.val (.ref a1), .val (.int p2), .val (.int p3), .val (.int x3), .val (.int x4), .val (.long fm), .second, .val (.long lm), .second, .val (.int x)] [(.ref a1)])) tg → Steps p.tables e below (T0.setTop (mkF m 100 #[.val (.ref a1), .val (.int p2), .val (.int p3), .val (.int x3), .val (.int x4), .val (.long fm), .second, .val (.long lm), .second, .val (.int x)] [])) tg := fun tg kg => kid tg (by
        show Steps p.tables e below (T0.setTop (mkF m 100 #[.val (.ref a1), .val (.int p2), .val (.int p3), .val (.int x3), .val (.int x4), .val (.long fm), .second, .val (.long lm), .second, .val (.int x)] [])) _
        refine XS.iload X0.here hx rfl (hb hby d5_100) rfl ?_
        show Steps p.tables e below (T0.setTop (mkF m 102 #[.val (.ref a1), .val (.int p2), .val (.int p3), .val (.int x3), .val (.int x4), .val (.long fm), .second, .val (.long lm), .second, .val (.int x)] [(.int x)])) _
        refine XS.iload X0.here hx rfl (hb hby d5_102) rfl ?_
        show Steps p.tables e below (T0.setTop (mkF m 104 #[.val (.ref a1), .val (.int p2), .val (.int p3), .val (.int x3), .val (.int x4), .val (.long fm), .second, .val (.long lm), .second, .val (.int x)] [(.int x4), (.int x)])) _
        refine XS.icmpNo X0.here hx rfl (hb hby d5_104) rfl (tlt hc).2.1 ?_
        show Steps p.tables e below (T0.setTop (mkF m 107 #[.val (.ref a1), .val (.int p2), .val (.int p3), .val (.int x3), .val (.int x4), .val (.long fm), .second, .val (.long lm), .second, .val (.int x)] [])) _
        refine XS.aloadN X0.here hx rfl (hb hby d5_107) rfl rfl ?_
        exact kg)
    obtain ⟨T46, X46, e46, st46⟩ := getF X0 hx hZ hown (host := "") (Or.inl (hw _ (List.mem_of_getElem? (i := 15) rfl))) Via.refl e0 F (g := (mkF m 108 #[.val (.ref a1), .val (.int p2), .val (.int p3), .val (.int x3), .val (.int x4), .val (.long fm), .second, .val (.long lm), .second, .val (.int x)] [(.ref a1)])) rfl rfl (hb hby d5_108)
    have k47 : ∀ tg, Steps p.tables e below (T46.setTop (mkF m 111 #[.val (.ref a1), .val (.int p2), .val (.int p3), .val (.int x3), .val (.int x4), .val (.long fm), .second, .val (.long lm), .second, .val (.int x)] [(.ref b)])) tg → Steps p.tables e below (T0.setTop (mkF m 100 #[.val (.ref a1), .val (.int p2), .val (.int p3), .val (.int x3), .val (.int x4), .val (.long fm), .second, .val (.long lm), .second, .val (.int x)] [])) tg := fun tg kg => k45 tg (st46 tg kg)
    have k48 : ∀ tg, Steps p.tables e below (T46.setTop (mkF m 116 #[.val (.ref a1), .val (.int p2), .val (.int p3), .val (.int x3), .val (.int x4), .val (.long fm), .second, .val (.long lm), .second, .val (.int x)] [(.int (lcmpW (f i) (0 : Int64)))])) tg → Steps p.tables e below (T0.setTop (mkF m 100 #[.val (.ref a1), .val (.int p2), .val (.int p3), .val (.int x3), .val (.int x4), .val (.long fm), .second, .val (.long lm), .second, .val (.int x)] [])) tg := fun tg kg => k47 tg (by
        show Steps p.tables e below (T46.setTop (mkF m 111 #[.val (.ref a1), .val (.int p2), .val (.int p3), .val (.int x3), .val (.int x4), .val (.long fm), .second, .val (.long lm), .second, .val (.int x)] [(.ref b)])) _
        refine XS.iload X46.here hx rfl (hb hby d5_111) rfl ?_
        show Steps p.tables e below (T46.setTop (mkF m 113 #[.val (.ref a1), .val (.int p2), .val (.int p3), .val (.int x3), .val (.int x4), .val (.long fm), .second, .val (.long lm), .second, .val (.int x)] [(.int x), (.ref b)])) _
        refine X46.laload hx (j := x) (v := (.long (f i))) (by rw [e46]; exact Ar.1) (State.isArrayOf_alike hZ.alike Ar.2.1) Ar.2.2 (own_hin S hxi (by omega)) (own_hat G hxi (by omega)) (g := (mkF m 113 #[.val (.ref a1), .val (.int p2), .val (.int p3), .val (.int x3), .val (.int x4), .val (.long fm), .second, .val (.long lm), .second, .val (.int x)] [(.int x), (.ref b)])) rfl rfl (hb hby d5_113) _ ?_
        show Steps p.tables e below (T46.setTop (mkF m 114 #[.val (.ref a1), .val (.int p2), .val (.int p3), .val (.int x3), .val (.int x4), .val (.long fm), .second, .val (.long lm), .second, .val (.int x)] [(.long (f i))])) _
        refine XS.lconst X46.here hx rfl (hb hby d5_114) ?_
        show Steps p.tables e below (T46.setTop (mkF m 115 #[.val (.ref a1), .val (.int p2), .val (.int p3), .val (.int x3), .val (.int x4), .val (.long fm), .second, .val (.long lm), .second, .val (.int x)] [(.long (0 : Int64)), (.long (f i))])) _
        refine XS.lcmp X46.here hx rfl (hb hby d5_115) rfl ?_
        exact kg)
    by_cases hv : f i = (0 : Int64)
    · have k49 : ∀ tg, Steps p.tables e below (T46.setTop (mkF m 121 #[.val (.ref a1), .val (.int p2), .val (.int p3), .val (.int x3), .val (.int x4), .val (.long fm), .second, .val (.long lm), .second, .val (.int x)] [])) tg → Steps p.tables e below (T0.setTop (mkF m 100 #[.val (.ref a1), .val (.int p2), .val (.int p3), .val (.int x3), .val (.int x4), .val (.long fm), .second, .val (.long lm), .second, .val (.int x)] [])) tg := fun tg kg => k48 tg (by
          show Steps p.tables e below (T46.setTop (mkF m 116 #[.val (.ref a1), .val (.int p2), .val (.int p3), .val (.int x3), .val (.int x4), .val (.long fm), .second, .val (.long lm), .second, .val (.int x)] [(.int (lcmpW (f i) (0 : Int64)))])) _
          refine XS.ifYes X46.here hx rfl (pc0 := 116) (pc' := 121) rfl (hb hby d5_116) rfl ((if0 _ _).trans (teq ((lw_eq _ _).mpr hv)).1) (by decide) (by decide) ?_
          exact kg)
      have k50 : ∀ tg, Steps p.tables e below (T46.setTop (mkF m 100 #[.val (.ref a1), .val (.int p2), .val (.int p3), .val (.int x3), .val (.int x4), .val (.long fm), .second, .val (.long lm), .second, .val (.int (x + (1 : Int32)))] [])) tg → Steps p.tables e below (T0.setTop (mkF m 100 #[.val (.ref a1), .val (.int p2), .val (.int p3), .val (.int x3), .val (.int x4), .val (.long fm), .second, .val (.long lm), .second, .val (.int x)] [])) tg := fun tg kg => k49 tg (by
          show Steps p.tables e below (T46.setTop (mkF m 121 #[.val (.ref a1), .val (.int p2), .val (.int p3), .val (.int x3), .val (.int x4), .val (.long fm), .second, .val (.long lm), .second, .val (.int x)] [])) _
          refine XS.iinc X46.here hx rfl (hb hby d5_121) rfl (l' := #[.val (.ref a1), .val (.int p2), .val (.int p3), .val (.int x3), .val (.int x4), .val (.long fm), .second, .val (.long lm), .second, .val (.int (x + (1 : Int32)))]) rfl ?_
          show Steps p.tables e below (T46.setTop (mkF m 124 #[.val (.ref a1), .val (.int p2), .val (.int p3), .val (.int x3), .val (.int x4), .val (.long fm), .second, .val (.long lm), .second, .val (.int (x + (1 : Int32)))] [])) _
          refine XS.goto X46.here hx rfl (pc0 := 124) (pc' := 100) rfl (hb hby d5_124) (by decide) (by decide) ?_
          exact kg)
      obtain ⟨x', T', X', e', r⟩ := ih (i + 1) _ _ _ (by omega) (own_inc hxi (by omega)) X46 e46
      refine ⟨x', T', X', e', r.imp (fun ⟨⟨j, h1, h2, h3⟩, kk⟩ => ⟨⟨j, by omega, h2, h3⟩, fun t k => k50 t (kk t k)⟩) (fun ⟨hz, kk⟩ => ⟨fun j h1 h2 => ?_, fun t k => k50 t (kk t k)⟩)⟩
      by_cases q : j = i
      · rw [q]; exact hv
      · exact hz j (by omega) h2
    · have k51 : ∀ tg, Steps p.tables e below (T46.setTop (mkF m 119 #[.val (.ref a1), .val (.int p2), .val (.int p3), .val (.int x3), .val (.int x4), .val (.long fm), .second, .val (.long lm), .second, .val (.int x)] [])) tg → Steps p.tables e below (T0.setTop (mkF m 100 #[.val (.ref a1), .val (.int p2), .val (.int p3), .val (.int x3), .val (.int x4), .val (.long fm), .second, .val (.long lm), .second, .val (.int x)] [])) tg := fun tg kg => k48 tg (by
          show Steps p.tables e below (T46.setTop (mkF m 116 #[.val (.ref a1), .val (.int p2), .val (.int p3), .val (.int x3), .val (.int x4), .val (.long fm), .second, .val (.long lm), .second, .val (.int x)] [(.int (lcmpW (f i) (0 : Int64)))])) _
          refine XS.ifNo X46.here hx rfl (hb hby d5_116) rfl ((if0 _ _).trans (feq (fun q => hv ((lw_eq _ _).mp q))).1) ?_
          exact kg)
      exact ⟨x, _, X46, e46, Or.inl ⟨⟨i, Nat.le_refl _, by omega, hv⟩, k51⟩⟩
theorem ef_5 (m : MethodId) (x0 : Addr) (x1 : Int32) (x2 : Int32) : entryFrame m #[(.ref x0), (.int x1), (.int x2)] 10 = mkF m 0 #[.val (.ref x0), .val (.int x1), .val (.int x2), .unset, .unset, .unset, .unset, .unset, .unset, .unset] [] := by first | (simp [entryFrame, mkF, argsToLocals, Value.category]; done) | rfl
def Q5 (Z : State) (a z : Nat) (f : Nat → Int64) (h0 : Heap) (n0 : Nat) (v : Option Value) (h : Heap) (L : List Loc) : Prop := v = some (.int (own_ab f a z)) ∧ Fr n0 L ∧ h = h0
set_option maxRecDepth 65536 in
set_option maxHeartbeats 40000000 in
theorem rm5 (l : Launch) (Z : State) (a0 : Array Value) (hw : ∀ d ∈ tables_1, d.before a0 Z = true) (ws : List Jvm.Cond) (a1 : Addr) (p2 : Int32) (p3 : Int32) (b : Addr) (a z N : Nat) (f : Nat → Int64) (h0 : Heap) (n0 : Nat) (Z0 : n0 ≤ h0.size) (hp : p2.toInt = a) (hq : p3.toInt = z) (hz : z ≤ 64 * N) (hN : N ≤ 1000) (F : Fld Z h0 a1 "com/example/opword/opword/dex/TakenBytes" "words" "[J" (.ref b)) (V : Av Z h0 b .long N (fun j => .long (f j))) :
    MetFree l (⟨"com/example/opword/opword/dex/TakenBytes", "anyTaken", "(II)Z"⟩ : MethodName) (head1 (Jvm.Cond.code (⟨"com/example/opword/opword/dex/TakenBytes", "anyTaken", "(II)Z"⟩ : MethodName) prog_69_method_2_code 10 (some .boolean) :: ws) ({ frames := 0, cells := 0, slots := 0, locals := 0 } : Room)) (fun a U => a = #[(.ref a1), (.int p2), (.int p3)] ∧ Z.Warmed39 U.vm ∧ U.heap = h0) (fun _ _ _ _ _ => True) (fun _ U o U' => ∃ v L, o = .returned v ∧ Q5 Z a z f h0 n0 v U'.heap L ∧ FrameEnd U o U' L ({ frames := 0, cells := 0, slots := 0, locals := 0 } : Room).cells ({ frames := 0, cells := 0, slots := 0, locals := 0 } : Room).slots) := by
  refine MetFree.of_bodySF (plainFor_of_name pn_5) hisR ?_
  intro p e s m args below meth c s₁ Bd hml0 hP hK
  obtain ⟨rfl, hZ, hh⟩ := hP
  have hx := Bd.exec
  have hby := Bd.bytes
  have hml : c.maxLocals = 10 := hml0
  have hown : s.vm.findClass "com/example/opword/opword/dex/TakenBytes" = some m.cls := findClass_of_methodNamed Bd.named
  have hnm := (name_of_methodNamed Bd.named Bd.method).1
  have X0 : Stand p l e ({ frames := 0, cells := 0, slots := 0, locals := 0 } : Room) s m #[(.ref a1), (.int p2), (.int p3)] below meth c s₁ [] 0 0 := Stand.of_body Bd
  have e0 : s₁.heap = h0 := by rw [← hh, Bd.state]; rfl
  have N0 := Fr.nil n0
  have pre0 : ∀ tg, Steps p.tables e below (s₁.setTop (mkF m 0 #[.val (.ref a1), .val (.int p2), .val (.int p3), .unset, .unset, .unset, .unset, .unset, .unset, .unset] [])) tg → Steps p.tables e below (s₁.setTop (entryFrame m #[(.ref a1), (.int p2), (.int p3)] 10)) tg := fun tg kg => castTop (ef_5 m a1 p2 p3) kg
  have k52 : ∀ tg, Steps p.tables e below (s₁.setTop (mkF m 2 #[.val (.ref a1), .val (.int p2), .val (.int p3), .unset, .unset, .unset, .unset, .unset, .unset, .unset] [(.int p3), (.int p2)])) tg → Steps p.tables e below (s₁.setTop (entryFrame m #[(.ref a1), (.int p2), (.int p3)] 10)) tg := fun tg kg => pre0 tg (by
      show Steps p.tables e below (s₁.setTop (mkF m 0 #[.val (.ref a1), .val (.int p2), .val (.int p3), .unset, .unset, .unset, .unset, .unset, .unset, .unset] [])) _
      refine XS.iloadN X0.here hx rfl (hb hby d5_0) rfl ?_
      show Steps p.tables e below (s₁.setTop (mkF m 1 #[.val (.ref a1), .val (.int p2), .val (.int p3), .unset, .unset, .unset, .unset, .unset, .unset, .unset] [(.int p2)])) _
      refine XS.iloadN X0.here hx rfl (hb hby d5_1) rfl ?_
      exact kg)
  by_cases hc : p2 < p3
  · have hab : a < z := (own_lt hp hq).mp hc
    have k53 : ∀ tg, Steps p.tables e below (s₁.setTop (mkF m 7 #[.val (.ref a1), .val (.int p2), .val (.int p3), .unset, .unset, .unset, .unset, .unset, .unset, .unset] [])) tg → Steps p.tables e below (s₁.setTop (entryFrame m #[(.ref a1), (.int p2), (.int p3)] 10)) tg := fun tg kg => k52 tg (by
        show Steps p.tables e below (s₁.setTop (mkF m 2 #[.val (.ref a1), .val (.int p2), .val (.int p3), .unset, .unset, .unset, .unset, .unset, .unset, .unset] [(.int p3), (.int p2)])) _
        refine XS.icmpYes X0.here hx rfl (pc0 := 2) (pc' := 7) rfl (hb hby d5_2) rfl (tlt hc).1 (by decide) (by decide) ?_
        exact kg)
    have k54 : ∀ tg, Steps p.tables e below (s₁.setTop (mkF m 38 #[.val (.ref a1), .val (.int p2), .val (.int p3), .val (.int (p2 / (64 : Int32))), .val (.int ((p3 - (1 : Int32)) / (64 : Int32))), .val (.long ((-1 : Int64) <<< (p2 &&& 0x3f).toInt64)), .second, .val (.long (((-1 : Int64).toUInt64 >>> ((-p3) &&& 0x3f).toInt64.toUInt64).toInt64)), .second, .unset] [(.int ((p3 - (1 : Int32)) / (64 : Int32))), (.int (p2 / (64 : Int32)))])) tg → Steps p.tables e below (s₁.setTop (entryFrame m #[(.ref a1), (.int p2), (.int p3)] 10)) tg := fun tg kg => k53 tg (by
        show Steps p.tables e below (s₁.setTop (mkF m 7 #[.val (.ref a1), .val (.int p2), .val (.int p3), .unset, .unset, .unset, .unset, .unset, .unset, .unset] [])) _
        refine XS.iloadN X0.here hx rfl (hb hby d5_7) rfl ?_
        show Steps p.tables e below (s₁.setTop (mkF m 8 #[.val (.ref a1), .val (.int p2), .val (.int p3), .unset, .unset, .unset, .unset, .unset, .unset, .unset] [(.int p2)])) _
        refine XS.bipush X0.here hx rfl (hb hby d5_8) ?_
        show Steps p.tables e below (s₁.setTop (mkF m 10 #[.val (.ref a1), .val (.int p2), .val (.int p3), .unset, .unset, .unset, .unset, .unset, .unset, .unset] [(.int (64 : Int32)), (.int p2)])) _
        refine XS.idiv X0.here hx rfl (hb hby d5_10) rfl (by decide) ?_
        show Steps p.tables e below (s₁.setTop (mkF m 11 #[.val (.ref a1), .val (.int p2), .val (.int p3), .unset, .unset, .unset, .unset, .unset, .unset, .unset] [(.int (p2 / (64 : Int32)))])) _
        refine XS.istoreN X0.here hx rfl (hb hby d5_11) rfl (l' := #[.val (.ref a1), .val (.int p2), .val (.int p3), .val (.int (p2 / (64 : Int32))), .unset, .unset, .unset, .unset, .unset, .unset]) rfl ?_
        show Steps p.tables e below (s₁.setTop (mkF m 12 #[.val (.ref a1), .val (.int p2), .val (.int p3), .val (.int (p2 / (64 : Int32))), .unset, .unset, .unset, .unset, .unset, .unset] [])) _
        refine XS.iloadN X0.here hx rfl (hb hby d5_12) rfl ?_
        show Steps p.tables e below (s₁.setTop (mkF m 13 #[.val (.ref a1), .val (.int p2), .val (.int p3), .val (.int (p2 / (64 : Int32))), .unset, .unset, .unset, .unset, .unset, .unset] [(.int p3)])) _
        refine XS.iconst X0.here hx rfl (hb hby d5_13) ?_
        show Steps p.tables e below (s₁.setTop (mkF m 14 #[.val (.ref a1), .val (.int p2), .val (.int p3), .val (.int (p2 / (64 : Int32))), .unset, .unset, .unset, .unset, .unset, .unset] [(.int (1 : Int32)), (.int p3)])) _
        refine XS.isub X0.here hx rfl (hb hby d5_14) rfl ?_
        show Steps p.tables e below (s₁.setTop (mkF m 15 #[.val (.ref a1), .val (.int p2), .val (.int p3), .val (.int (p2 / (64 : Int32))), .unset, .unset, .unset, .unset, .unset, .unset] [(.int (p3 - (1 : Int32)))])) _
        refine XS.bipush X0.here hx rfl (hb hby d5_15) ?_
        show Steps p.tables e below (s₁.setTop (mkF m 17 #[.val (.ref a1), .val (.int p2), .val (.int p3), .val (.int (p2 / (64 : Int32))), .unset, .unset, .unset, .unset, .unset, .unset] [(.int (64 : Int32)), (.int (p3 - (1 : Int32)))])) _
        refine XS.idiv X0.here hx rfl (hb hby d5_17) rfl (by decide) ?_
        show Steps p.tables e below (s₁.setTop (mkF m 18 #[.val (.ref a1), .val (.int p2), .val (.int p3), .val (.int (p2 / (64 : Int32))), .unset, .unset, .unset, .unset, .unset, .unset] [(.int ((p3 - (1 : Int32)) / (64 : Int32)))])) _
        refine XS.istore X0.here hx rfl (hb hby d5_18) rfl (l' := #[.val (.ref a1), .val (.int p2), .val (.int p3), .val (.int (p2 / (64 : Int32))), .val (.int ((p3 - (1 : Int32)) / (64 : Int32))), .unset, .unset, .unset, .unset, .unset]) rfl ?_
        show Steps p.tables e below (s₁.setTop (mkF m 20 #[.val (.ref a1), .val (.int p2), .val (.int p3), .val (.int (p2 / (64 : Int32))), .val (.int ((p3 - (1 : Int32)) / (64 : Int32))), .unset, .unset, .unset, .unset, .unset] [])) _
        refine X0.ldc2Long hx hown (mvT hZ (hw _ (List.mem_of_getElem? (i := 22) rfl))) (g := (mkF m 20 #[.val (.ref a1), .val (.int p2), .val (.int p3), .val (.int (p2 / (64 : Int32))), .val (.int ((p3 - (1 : Int32)) / (64 : Int32))), .unset, .unset, .unset, .unset, .unset] [])) rfl (hb hby d5_20) _ ?_
        show Steps p.tables e below (s₁.setTop (mkF m 23 #[.val (.ref a1), .val (.int p2), .val (.int p3), .val (.int (p2 / (64 : Int32))), .val (.int ((p3 - (1 : Int32)) / (64 : Int32))), .unset, .unset, .unset, .unset, .unset] [(.long (-1 : Int64))])) _
        refine XS.iloadN X0.here hx rfl (hb hby d5_23) rfl ?_
        show Steps p.tables e below (s₁.setTop (mkF m 24 #[.val (.ref a1), .val (.int p2), .val (.int p3), .val (.int (p2 / (64 : Int32))), .val (.int ((p3 - (1 : Int32)) / (64 : Int32))), .unset, .unset, .unset, .unset, .unset] [(.int p2), (.long (-1 : Int64))])) _
        refine XS.lshl X0.here hx rfl (hb hby d5_24) rfl ?_
        show Steps p.tables e below (s₁.setTop (mkF m 25 #[.val (.ref a1), .val (.int p2), .val (.int p3), .val (.int (p2 / (64 : Int32))), .val (.int ((p3 - (1 : Int32)) / (64 : Int32))), .unset, .unset, .unset, .unset, .unset] [(.long ((-1 : Int64) <<< (p2 &&& 0x3f).toInt64))])) _
        refine XS.lstore X0.here hx rfl (hb hby d5_25) rfl (l' := #[.val (.ref a1), .val (.int p2), .val (.int p3), .val (.int (p2 / (64 : Int32))), .val (.int ((p3 - (1 : Int32)) / (64 : Int32))), .val (.long ((-1 : Int64) <<< (p2 &&& 0x3f).toInt64)), .second, .unset, .unset, .unset]) rfl ?_
        show Steps p.tables e below (s₁.setTop (mkF m 27 #[.val (.ref a1), .val (.int p2), .val (.int p3), .val (.int (p2 / (64 : Int32))), .val (.int ((p3 - (1 : Int32)) / (64 : Int32))), .val (.long ((-1 : Int64) <<< (p2 &&& 0x3f).toInt64)), .second, .unset, .unset, .unset] [])) _
        refine X0.ldc2Long hx hown (mvT hZ (hw _ (List.mem_of_getElem? (i := 22) rfl))) (g := (mkF m 27 #[.val (.ref a1), .val (.int p2), .val (.int p3), .val (.int (p2 / (64 : Int32))), .val (.int ((p3 - (1 : Int32)) / (64 : Int32))), .val (.long ((-1 : Int64) <<< (p2 &&& 0x3f).toInt64)), .second, .unset, .unset, .unset] [])) rfl (hb hby d5_27) _ ?_
        show Steps p.tables e below (s₁.setTop (mkF m 30 #[.val (.ref a1), .val (.int p2), .val (.int p3), .val (.int (p2 / (64 : Int32))), .val (.int ((p3 - (1 : Int32)) / (64 : Int32))), .val (.long ((-1 : Int64) <<< (p2 &&& 0x3f).toInt64)), .second, .unset, .unset, .unset] [(.long (-1 : Int64))])) _
        refine XS.iloadN X0.here hx rfl (hb hby d5_30) rfl ?_
        show Steps p.tables e below (s₁.setTop (mkF m 31 #[.val (.ref a1), .val (.int p2), .val (.int p3), .val (.int (p2 / (64 : Int32))), .val (.int ((p3 - (1 : Int32)) / (64 : Int32))), .val (.long ((-1 : Int64) <<< (p2 &&& 0x3f).toInt64)), .second, .unset, .unset, .unset] [(.int p3), (.long (-1 : Int64))])) _
        refine XS.ineg X0.here hx rfl (hb hby d5_31) rfl ?_
        show Steps p.tables e below (s₁.setTop (mkF m 32 #[.val (.ref a1), .val (.int p2), .val (.int p3), .val (.int (p2 / (64 : Int32))), .val (.int ((p3 - (1 : Int32)) / (64 : Int32))), .val (.long ((-1 : Int64) <<< (p2 &&& 0x3f).toInt64)), .second, .unset, .unset, .unset] [(.int (-p3)), (.long (-1 : Int64))])) _
        refine XS.lushr X0.here hx rfl (hb hby d5_32) rfl ?_
        show Steps p.tables e below (s₁.setTop (mkF m 33 #[.val (.ref a1), .val (.int p2), .val (.int p3), .val (.int (p2 / (64 : Int32))), .val (.int ((p3 - (1 : Int32)) / (64 : Int32))), .val (.long ((-1 : Int64) <<< (p2 &&& 0x3f).toInt64)), .second, .unset, .unset, .unset] [(.long (((-1 : Int64).toUInt64 >>> ((-p3) &&& 0x3f).toInt64.toUInt64).toInt64))])) _
        refine XS.lstore X0.here hx rfl (hb hby d5_33) rfl (l' := #[.val (.ref a1), .val (.int p2), .val (.int p3), .val (.int (p2 / (64 : Int32))), .val (.int ((p3 - (1 : Int32)) / (64 : Int32))), .val (.long ((-1 : Int64) <<< (p2 &&& 0x3f).toInt64)), .second, .val (.long (((-1 : Int64).toUInt64 >>> ((-p3) &&& 0x3f).toInt64.toUInt64).toInt64)), .second, .unset]) rfl ?_
        show Steps p.tables e below (s₁.setTop (mkF m 35 #[.val (.ref a1), .val (.int p2), .val (.int p3), .val (.int (p2 / (64 : Int32))), .val (.int ((p3 - (1 : Int32)) / (64 : Int32))), .val (.long ((-1 : Int64) <<< (p2 &&& 0x3f).toInt64)), .second, .val (.long (((-1 : Int64).toUInt64 >>> ((-p3) &&& 0x3f).toInt64.toUInt64).toInt64)), .second, .unset] [])) _
        refine XS.iloadN X0.here hx rfl (hb hby d5_35) rfl ?_
        show Steps p.tables e below (s₁.setTop (mkF m 36 #[.val (.ref a1), .val (.int p2), .val (.int p3), .val (.int (p2 / (64 : Int32))), .val (.int ((p3 - (1 : Int32)) / (64 : Int32))), .val (.long ((-1 : Int64) <<< (p2 &&& 0x3f).toInt64)), .second, .val (.long (((-1 : Int64).toUInt64 >>> ((-p3) &&& 0x3f).toInt64.toUInt64).toInt64)), .second, .unset] [(.int (p2 / (64 : Int32)))])) _
        refine XS.iload X0.here hx rfl (hb hby d5_36) rfl ?_
        exact kg)
    have h3 := own_d64 hp
    have h4 := own_d65 hq (by omega)
    have V0 := V
    obtain ⟨cl, Ar, S, G⟩ := V
    rw [show ((-1 : Int64) <<< (p2 &&& 0x3f).toInt64) = (own_fm p2) from rfl] at k54
    rw [show (((-1 : Int64).toUInt64 >>> ((-p3) &&& 0x3f).toInt64.toUInt64).toInt64) = (own_lm p3) from rfl] at k54
    obtain ⟨x3, e3⟩ : ∃ z, z = (p2 / (64 : Int32)) := ⟨_, rfl⟩
    rw [← e3] at k54
    obtain ⟨x4, e4⟩ : ∃ z, z = ((p3 - (1 : Int32)) / (64 : Int32)) := ⟨_, rfl⟩
    rw [← e4] at k54
    rw [← e3] at h3
    rw [← e4] at h4
    by_cases hs : x3 = x4
    · have hsn := (own_eqi h3 h4).mp hs
      have k55 : ∀ tg, Steps p.tables e below (s₁.setTop (mkF m 41 #[.val (.ref a1), .val (.int p2), .val (.int p3), .val (.int x3), .val (.int x4), .val (.long (own_fm p2)), .second, .val (.long (own_lm p3)), .second, .unset] [])) tg → Steps p.tables e below (s₁.setTop (entryFrame m #[(.ref a1), (.int p2), (.int p3)] 10)) tg := fun tg kg => k54 tg (by
          show Steps p.tables e below (s₁.setTop (mkF m 38 #[.val (.ref a1), .val (.int p2), .val (.int p3), .val (.int x3), .val (.int x4), .val (.long (own_fm p2)), .second, .val (.long (own_lm p3)), .second, .unset] [(.int x4), (.int x3)])) _
          refine XS.icmpNo X0.here hx rfl (hb hby d5_38) rfl (teq hs).2 ?_
          exact kg)
      have k56 : ∀ tg, Steps p.tables e below (s₁.setTop (mkF m 42 #[.val (.ref a1), .val (.int p2), .val (.int p3), .val (.int x3), .val (.int x4), .val (.long (own_fm p2)), .second, .val (.long (own_lm p3)), .second, .unset] [(.ref a1)])) tg → Steps p.tables e below (s₁.setTop (entryFrame m #[(.ref a1), (.int p2), (.int p3)] 10)) tg := fun tg kg => k55 tg (by
          show Steps p.tables e below (s₁.setTop (mkF m 41 #[.val (.ref a1), .val (.int p2), .val (.int p3), .val (.int x3), .val (.int x4), .val (.long (own_fm p2)), .second, .val (.long (own_lm p3)), .second, .unset] [])) _
          refine XS.aloadN X0.here hx rfl (hb hby d5_41) rfl rfl ?_
          exact kg)
      obtain ⟨T57, X57, e57, st57⟩ := getF X0 hx hZ hown (host := "") (Or.inl (hw _ (List.mem_of_getElem? (i := 15) rfl))) Via.refl e0 F (g := (mkF m 42 #[.val (.ref a1), .val (.int p2), .val (.int p3), .val (.int x3), .val (.int x4), .val (.long (own_fm p2)), .second, .val (.long (own_lm p3)), .second, .unset] [(.ref a1)])) rfl rfl (hb hby d5_42)
      have k58 : ∀ tg, Steps p.tables e below (T57.setTop (mkF m 45 #[.val (.ref a1), .val (.int p2), .val (.int p3), .val (.int x3), .val (.int x4), .val (.long (own_fm p2)), .second, .val (.long (own_lm p3)), .second, .unset] [(.ref b)])) tg → Steps p.tables e below (s₁.setTop (entryFrame m #[(.ref a1), (.int p2), (.int p3)] 10)) tg := fun tg kg => k56 tg (st57 tg kg)
      have k59 : ∀ tg, Steps p.tables e below (T57.setTop (mkF m 55 #[.val (.ref a1), .val (.int p2), .val (.int p3), .val (.int x3), .val (.int x4), .val (.long (own_fm p2)), .second, .val (.long (own_lm p3)), .second, .unset] [(.int (lcmpW (((f (a / 64)) &&& (own_fm p2)) &&& (own_lm p3)) (0 : Int64)))])) tg → Steps p.tables e below (s₁.setTop (entryFrame m #[(.ref a1), (.int p2), (.int p3)] 10)) tg := fun tg kg => k58 tg (by
          show Steps p.tables e below (T57.setTop (mkF m 45 #[.val (.ref a1), .val (.int p2), .val (.int p3), .val (.int x3), .val (.int x4), .val (.long (own_fm p2)), .second, .val (.long (own_lm p3)), .second, .unset] [(.ref b)])) _
          refine XS.iloadN X57.here hx rfl (hb hby d5_45) rfl ?_
          show Steps p.tables e below (T57.setTop (mkF m 46 #[.val (.ref a1), .val (.int p2), .val (.int p3), .val (.int x3), .val (.int x4), .val (.long (own_fm p2)), .second, .val (.long (own_lm p3)), .second, .unset] [(.int x3), (.ref b)])) _
          refine X57.laload hx (j := x3) (v := (.long (f (a / 64)))) (by rw [e57]; exact Ar.1) (State.isArrayOf_alike hZ.alike Ar.2.1) Ar.2.2 (own_hin S h3 (by omega)) (own_hat G h3 (by omega)) (g := (mkF m 46 #[.val (.ref a1), .val (.int p2), .val (.int p3), .val (.int x3), .val (.int x4), .val (.long (own_fm p2)), .second, .val (.long (own_lm p3)), .second, .unset] [(.int x3), (.ref b)])) rfl rfl (hb hby d5_46) _ ?_
          show Steps p.tables e below (T57.setTop (mkF m 47 #[.val (.ref a1), .val (.int p2), .val (.int p3), .val (.int x3), .val (.int x4), .val (.long (own_fm p2)), .second, .val (.long (own_lm p3)), .second, .unset] [(.long (f (a / 64)))])) _
          refine XS.lload X57.here hx rfl (hb hby d5_47) rfl ?_
          show Steps p.tables e below (T57.setTop (mkF m 49 #[.val (.ref a1), .val (.int p2), .val (.int p3), .val (.int x3), .val (.int x4), .val (.long (own_fm p2)), .second, .val (.long (own_lm p3)), .second, .unset] [(.long (own_fm p2)), (.long (f (a / 64)))])) _
          refine XS.land X57.here hx rfl (hb hby d5_49) rfl ?_
          show Steps p.tables e below (T57.setTop (mkF m 50 #[.val (.ref a1), .val (.int p2), .val (.int p3), .val (.int x3), .val (.int x4), .val (.long (own_fm p2)), .second, .val (.long (own_lm p3)), .second, .unset] [(.long ((f (a / 64)) &&& (own_fm p2)))])) _
          refine XS.lload X57.here hx rfl (hb hby d5_50) rfl ?_
          show Steps p.tables e below (T57.setTop (mkF m 52 #[.val (.ref a1), .val (.int p2), .val (.int p3), .val (.int x3), .val (.int x4), .val (.long (own_fm p2)), .second, .val (.long (own_lm p3)), .second, .unset] [(.long (own_lm p3)), (.long ((f (a / 64)) &&& (own_fm p2)))])) _
          refine XS.land X57.here hx rfl (hb hby d5_52) rfl ?_
          show Steps p.tables e below (T57.setTop (mkF m 53 #[.val (.ref a1), .val (.int p2), .val (.int p3), .val (.int x3), .val (.int x4), .val (.long (own_fm p2)), .second, .val (.long (own_lm p3)), .second, .unset] [(.long (((f (a / 64)) &&& (own_fm p2)) &&& (own_lm p3)))])) _
          refine XS.lconst X57.here hx rfl (hb hby d5_53) ?_
          show Steps p.tables e below (T57.setTop (mkF m 54 #[.val (.ref a1), .val (.int p2), .val (.int p3), .val (.int x3), .val (.int x4), .val (.long (own_fm p2)), .second, .val (.long (own_lm p3)), .second, .unset] [(.long (0 : Int64)), (.long (((f (a / 64)) &&& (own_fm p2)) &&& (own_lm p3)))])) _
          refine XS.lcmp X57.here hx rfl (hb hby d5_54) rfl ?_
          exact kg)
      by_cases hc60 : (((f (a / 64)) &&& (own_fm p2)) &&& (own_lm p3)) = (0 : Int64)
      · have k61 : ∀ tg, Steps p.tables e below (T57.setTop (mkF m 62 #[.val (.ref a1), .val (.int p2), .val (.int p3), .val (.int x3), .val (.int x4), .val (.long (own_fm p2)), .second, .val (.long (own_lm p3)), .second, .unset] [])) tg → Steps p.tables e below (s₁.setTop (entryFrame m #[(.ref a1), (.int p2), (.int p3)] 10)) tg := fun tg kg => k59 tg (by
            show Steps p.tables e below (T57.setTop (mkF m 55 #[.val (.ref a1), .val (.int p2), .val (.int p3), .val (.int x3), .val (.int x4), .val (.long (own_fm p2)), .second, .val (.long (own_lm p3)), .second, .unset] [(.int (lcmpW (((f (a / 64)) &&& (own_fm p2)) &&& (own_lm p3)) (0 : Int64)))])) _
            refine XS.ifYes X57.here hx rfl (pc0 := 55) (pc' := 62) rfl (hb hby d5_55) rfl ((if0 _ _).trans (teq ((lw_eq _ _).mpr hc60)).1) (by decide) (by decide) ?_
            exact kg)
        have k62 : ∀ tg, Steps p.tables e below (T57.setTop (mkF m 63 #[.val (.ref a1), .val (.int p2), .val (.int p3), .val (.int x3), .val (.int x4), .val (.long (own_fm p2)), .second, .val (.long (own_lm p3)), .second, .unset] [(.int (0 : Int32))])) tg → Steps p.tables e below (s₁.setTop (entryFrame m #[(.ref a1), (.int p2), (.int p3)] 10)) tg := fun tg kg => k61 tg (by
            show Steps p.tables e below (T57.setTop (mkF m 62 #[.val (.ref a1), .val (.int p2), .val (.int p3), .val (.int x3), .val (.int x4), .val (.long (own_fm p2)), .second, .val (.long (own_lm p3)), .second, .unset] [])) _
            refine XS.iconst X57.here hx rfl (hb hby d5_62) ?_
            exact kg)
        obtain ⟨fs, hr, hrun, hended, hW, hsame⟩ := X57.leave (v := some (.int (0 : Int32))) (fun h => by rw [Bd.returns] at h; cases h)
        refine ⟨_, _, k62 _ ?_, hrun, hended, _, _, rfl, ?_, ⟨_, rfl⟩, hW, hsame.mono (by decide) (by decide)⟩
        · show Steps p.tables e below (T57.setTop (mkF m 63 #[.val (.ref a1), .val (.int p2), .val (.int p3), .val (.int x3), .val (.int x4), .val (.long (own_fm p2)), .second, .val (.long (own_lm p3)), .second, .unset] [(.int (0 : Int32))])) _
          exact retN X57 hx (t := .boolean) Bd.returns (by simp) (hb hby d5_63) hr
        · show Q5 _ _ _ _ _ _ _ T57.heap _
          rw [e57]
          exact ⟨by rw [own_ab0 ((own_a1 hp hq hab hsn).mp hc60)], N0, rfl⟩
      · have k63 : ∀ tg, Steps p.tables e below (T57.setTop (mkF m 58 #[.val (.ref a1), .val (.int p2), .val (.int p3), .val (.int x3), .val (.int x4), .val (.long (own_fm p2)), .second, .val (.long (own_lm p3)), .second, .unset] [])) tg → Steps p.tables e below (s₁.setTop (entryFrame m #[(.ref a1), (.int p2), (.int p3)] 10)) tg := fun tg kg => k59 tg (by
            show Steps p.tables e below (T57.setTop (mkF m 55 #[.val (.ref a1), .val (.int p2), .val (.int p3), .val (.int x3), .val (.int x4), .val (.long (own_fm p2)), .second, .val (.long (own_lm p3)), .second, .unset] [(.int (lcmpW (((f (a / 64)) &&& (own_fm p2)) &&& (own_lm p3)) (0 : Int64)))])) _
            refine XS.ifNo X57.here hx rfl (hb hby d5_55) rfl ((if0 _ _).trans (feq (fun q => hc60 ((lw_eq _ _).mp q))).1) ?_
            exact kg)
        have k64 : ∀ tg, Steps p.tables e below (T57.setTop (mkF m 63 #[.val (.ref a1), .val (.int p2), .val (.int p3), .val (.int x3), .val (.int x4), .val (.long (own_fm p2)), .second, .val (.long (own_lm p3)), .second, .unset] [(.int (1 : Int32))])) tg → Steps p.tables e below (s₁.setTop (entryFrame m #[(.ref a1), (.int p2), (.int p3)] 10)) tg := fun tg kg => k63 tg (by
            show Steps p.tables e below (T57.setTop (mkF m 58 #[.val (.ref a1), .val (.int p2), .val (.int p3), .val (.int x3), .val (.int x4), .val (.long (own_fm p2)), .second, .val (.long (own_lm p3)), .second, .unset] [])) _
            refine XS.iconst X57.here hx rfl (hb hby d5_58) ?_
            show Steps p.tables e below (T57.setTop (mkF m 59 #[.val (.ref a1), .val (.int p2), .val (.int p3), .val (.int x3), .val (.int x4), .val (.long (own_fm p2)), .second, .val (.long (own_lm p3)), .second, .unset] [(.int (1 : Int32))])) _
            refine XS.goto X57.here hx rfl (pc0 := 59) (pc' := 63) rfl (hb hby d5_59) (by decide) (by decide) ?_
            exact kg)
        obtain ⟨fs, hr, hrun, hended, hW, hsame⟩ := X57.leave (v := some (.int (1 : Int32))) (fun h => by rw [Bd.returns] at h; cases h)
        refine ⟨_, _, k64 _ ?_, hrun, hended, _, _, rfl, ?_, ⟨_, rfl⟩, hW, hsame.mono (by decide) (by decide)⟩
        · show Steps p.tables e below (T57.setTop (mkF m 63 #[.val (.ref a1), .val (.int p2), .val (.int p3), .val (.int x3), .val (.int x4), .val (.long (own_fm p2)), .second, .val (.long (own_lm p3)), .second, .unset] [(.int (1 : Int32))])) _
          exact retN X57 hx (t := .boolean) Bd.returns (by simp) (hb hby d5_63) hr
        · show Q5 _ _ _ _ _ _ _ T57.heap _
          rw [e57]
          exact ⟨by rw [own_ab1 (Classical.byContradiction fun q => hc60 ((own_a1 hp hq hab hsn).mpr q))], N0, rfl⟩
    · have hsn : ¬ a / 64 = (z - 1) / 64 := fun q => hs ((own_eqi h3 h4).mpr q)
      have k65 : ∀ tg, Steps p.tables e below (s₁.setTop (mkF m 64 #[.val (.ref a1), .val (.int p2), .val (.int p3), .val (.int x3), .val (.int x4), .val (.long (own_fm p2)), .second, .val (.long (own_lm p3)), .second, .unset] [])) tg → Steps p.tables e below (s₁.setTop (entryFrame m #[(.ref a1), (.int p2), (.int p3)] 10)) tg := fun tg kg => k54 tg (by
          show Steps p.tables e below (s₁.setTop (mkF m 38 #[.val (.ref a1), .val (.int p2), .val (.int p3), .val (.int x3), .val (.int x4), .val (.long (own_fm p2)), .second, .val (.long (own_lm p3)), .second, .unset] [(.int x4), (.int x3)])) _
          refine XS.icmpYes X0.here hx rfl (pc0 := 38) (pc' := 64) rfl (hb hby d5_38) rfl (feq hs).2 (by decide) (by decide) ?_
          exact kg)
      have k66 : ∀ tg, Steps p.tables e below (s₁.setTop (mkF m 65 #[.val (.ref a1), .val (.int p2), .val (.int p3), .val (.int x3), .val (.int x4), .val (.long (own_fm p2)), .second, .val (.long (own_lm p3)), .second, .unset] [(.ref a1)])) tg → Steps p.tables e below (s₁.setTop (entryFrame m #[(.ref a1), (.int p2), (.int p3)] 10)) tg := fun tg kg => k65 tg (by
          show Steps p.tables e below (s₁.setTop (mkF m 64 #[.val (.ref a1), .val (.int p2), .val (.int p3), .val (.int x3), .val (.int x4), .val (.long (own_fm p2)), .second, .val (.long (own_lm p3)), .second, .unset] [])) _
          refine XS.aloadN X0.here hx rfl (hb hby d5_64) rfl rfl ?_
          exact kg)
      obtain ⟨T67, X67, e67, st67⟩ := getF X0 hx hZ hown (host := "") (Or.inl (hw _ (List.mem_of_getElem? (i := 15) rfl))) Via.refl e0 F (g := (mkF m 65 #[.val (.ref a1), .val (.int p2), .val (.int p3), .val (.int x3), .val (.int x4), .val (.long (own_fm p2)), .second, .val (.long (own_lm p3)), .second, .unset] [(.ref a1)])) rfl rfl (hb hby d5_65)
      have k68 : ∀ tg, Steps p.tables e below (T67.setTop (mkF m 68 #[.val (.ref a1), .val (.int p2), .val (.int p3), .val (.int x3), .val (.int x4), .val (.long (own_fm p2)), .second, .val (.long (own_lm p3)), .second, .unset] [(.ref b)])) tg → Steps p.tables e below (s₁.setTop (entryFrame m #[(.ref a1), (.int p2), (.int p3)] 10)) tg := fun tg kg => k66 tg (st67 tg kg)
      have k69 : ∀ tg, Steps p.tables e below (T67.setTop (mkF m 75 #[.val (.ref a1), .val (.int p2), .val (.int p3), .val (.int x3), .val (.int x4), .val (.long (own_fm p2)), .second, .val (.long (own_lm p3)), .second, .unset] [(.int (lcmpW ((f (a / 64)) &&& (own_fm p2)) (0 : Int64)))])) tg → Steps p.tables e below (s₁.setTop (entryFrame m #[(.ref a1), (.int p2), (.int p3)] 10)) tg := fun tg kg => k68 tg (by
          show Steps p.tables e below (T67.setTop (mkF m 68 #[.val (.ref a1), .val (.int p2), .val (.int p3), .val (.int x3), .val (.int x4), .val (.long (own_fm p2)), .second, .val (.long (own_lm p3)), .second, .unset] [(.ref b)])) _
          refine XS.iloadN X67.here hx rfl (hb hby d5_68) rfl ?_
          show Steps p.tables e below (T67.setTop (mkF m 69 #[.val (.ref a1), .val (.int p2), .val (.int p3), .val (.int x3), .val (.int x4), .val (.long (own_fm p2)), .second, .val (.long (own_lm p3)), .second, .unset] [(.int x3), (.ref b)])) _
          refine X67.laload hx (j := x3) (v := (.long (f (a / 64)))) (by rw [e67]; exact Ar.1) (State.isArrayOf_alike hZ.alike Ar.2.1) Ar.2.2 (own_hin S h3 (by omega)) (own_hat G h3 (by omega)) (g := (mkF m 69 #[.val (.ref a1), .val (.int p2), .val (.int p3), .val (.int x3), .val (.int x4), .val (.long (own_fm p2)), .second, .val (.long (own_lm p3)), .second, .unset] [(.int x3), (.ref b)])) rfl rfl (hb hby d5_69) _ ?_
          show Steps p.tables e below (T67.setTop (mkF m 70 #[.val (.ref a1), .val (.int p2), .val (.int p3), .val (.int x3), .val (.int x4), .val (.long (own_fm p2)), .second, .val (.long (own_lm p3)), .second, .unset] [(.long (f (a / 64)))])) _
          refine XS.lload X67.here hx rfl (hb hby d5_70) rfl ?_
          show Steps p.tables e below (T67.setTop (mkF m 72 #[.val (.ref a1), .val (.int p2), .val (.int p3), .val (.int x3), .val (.int x4), .val (.long (own_fm p2)), .second, .val (.long (own_lm p3)), .second, .unset] [(.long (own_fm p2)), (.long (f (a / 64)))])) _
          refine XS.land X67.here hx rfl (hb hby d5_72) rfl ?_
          show Steps p.tables e below (T67.setTop (mkF m 73 #[.val (.ref a1), .val (.int p2), .val (.int p3), .val (.int x3), .val (.int x4), .val (.long (own_fm p2)), .second, .val (.long (own_lm p3)), .second, .unset] [(.long ((f (a / 64)) &&& (own_fm p2)))])) _
          refine XS.lconst X67.here hx rfl (hb hby d5_73) ?_
          show Steps p.tables e below (T67.setTop (mkF m 74 #[.val (.ref a1), .val (.int p2), .val (.int p3), .val (.int x3), .val (.int x4), .val (.long (own_fm p2)), .second, .val (.long (own_lm p3)), .second, .unset] [(.long (0 : Int64)), (.long ((f (a / 64)) &&& (own_fm p2)))])) _
          refine XS.lcmp X67.here hx rfl (hb hby d5_74) rfl ?_
          exact kg)
      by_cases h1 : (f (a / 64) &&& own_fm p2) = (0 : Int64)
      · have k70 : ∀ tg, Steps p.tables e below (T67.setTop (mkF m 78 #[.val (.ref a1), .val (.int p2), .val (.int p3), .val (.int x3), .val (.int x4), .val (.long (own_fm p2)), .second, .val (.long (own_lm p3)), .second, .unset] [])) tg → Steps p.tables e below (s₁.setTop (entryFrame m #[(.ref a1), (.int p2), (.int p3)] 10)) tg := fun tg kg => k69 tg (by
            show Steps p.tables e below (T67.setTop (mkF m 75 #[.val (.ref a1), .val (.int p2), .val (.int p3), .val (.int x3), .val (.int x4), .val (.long (own_fm p2)), .second, .val (.long (own_lm p3)), .second, .unset] [(.int (lcmpW ((f (a / 64)) &&& (own_fm p2)) (0 : Int64)))])) _
            refine XS.ifNo X67.here hx rfl (hb hby d5_75) rfl ((if0 _ _).trans (teq ((lw_eq _ _).mpr h1)).2) ?_
            exact kg)
        have k71 : ∀ tg, Steps p.tables e below (T67.setTop (mkF m 79 #[.val (.ref a1), .val (.int p2), .val (.int p3), .val (.int x3), .val (.int x4), .val (.long (own_fm p2)), .second, .val (.long (own_lm p3)), .second, .unset] [(.ref a1)])) tg → Steps p.tables e below (s₁.setTop (entryFrame m #[(.ref a1), (.int p2), (.int p3)] 10)) tg := fun tg kg => k70 tg (by
            show Steps p.tables e below (T67.setTop (mkF m 78 #[.val (.ref a1), .val (.int p2), .val (.int p3), .val (.int x3), .val (.int x4), .val (.long (own_fm p2)), .second, .val (.long (own_lm p3)), .second, .unset] [])) _
            refine XS.aloadN X67.here hx rfl (hb hby d5_78) rfl rfl ?_
            exact kg)
        obtain ⟨T72, X72, e72, st72⟩ := getF X67 hx hZ hown (host := "") (Or.inl (hw _ (List.mem_of_getElem? (i := 15) rfl))) Via.refl e67 F (g := (mkF m 79 #[.val (.ref a1), .val (.int p2), .val (.int p3), .val (.int x3), .val (.int x4), .val (.long (own_fm p2)), .second, .val (.long (own_lm p3)), .second, .unset] [(.ref a1)])) rfl rfl (hb hby d5_79)
        have k73 : ∀ tg, Steps p.tables e below (T72.setTop (mkF m 82 #[.val (.ref a1), .val (.int p2), .val (.int p3), .val (.int x3), .val (.int x4), .val (.long (own_fm p2)), .second, .val (.long (own_lm p3)), .second, .unset] [(.ref b)])) tg → Steps p.tables e below (s₁.setTop (entryFrame m #[(.ref a1), (.int p2), (.int p3)] 10)) tg := fun tg kg => k71 tg (st72 tg kg)
        have k74 : ∀ tg, Steps p.tables e below (T72.setTop (mkF m 90 #[.val (.ref a1), .val (.int p2), .val (.int p3), .val (.int x3), .val (.int x4), .val (.long (own_fm p2)), .second, .val (.long (own_lm p3)), .second, .unset] [(.int (lcmpW ((f ((z - 1) / 64)) &&& (own_lm p3)) (0 : Int64)))])) tg → Steps p.tables e below (s₁.setTop (entryFrame m #[(.ref a1), (.int p2), (.int p3)] 10)) tg := fun tg kg => k73 tg (by
            show Steps p.tables e below (T72.setTop (mkF m 82 #[.val (.ref a1), .val (.int p2), .val (.int p3), .val (.int x3), .val (.int x4), .val (.long (own_fm p2)), .second, .val (.long (own_lm p3)), .second, .unset] [(.ref b)])) _
            refine XS.iload X72.here hx rfl (hb hby d5_82) rfl ?_
            show Steps p.tables e below (T72.setTop (mkF m 84 #[.val (.ref a1), .val (.int p2), .val (.int p3), .val (.int x3), .val (.int x4), .val (.long (own_fm p2)), .second, .val (.long (own_lm p3)), .second, .unset] [(.int x4), (.ref b)])) _
            refine X72.laload hx (j := x4) (v := (.long (f ((z - 1) / 64)))) (by rw [e72]; exact Ar.1) (State.isArrayOf_alike hZ.alike Ar.2.1) Ar.2.2 (own_hin S h4 (by omega)) (own_hat G h4 (by omega)) (g := (mkF m 84 #[.val (.ref a1), .val (.int p2), .val (.int p3), .val (.int x3), .val (.int x4), .val (.long (own_fm p2)), .second, .val (.long (own_lm p3)), .second, .unset] [(.int x4), (.ref b)])) rfl rfl (hb hby d5_84) _ ?_
            show Steps p.tables e below (T72.setTop (mkF m 85 #[.val (.ref a1), .val (.int p2), .val (.int p3), .val (.int x3), .val (.int x4), .val (.long (own_fm p2)), .second, .val (.long (own_lm p3)), .second, .unset] [(.long (f ((z - 1) / 64)))])) _
            refine XS.lload X72.here hx rfl (hb hby d5_85) rfl ?_
            show Steps p.tables e below (T72.setTop (mkF m 87 #[.val (.ref a1), .val (.int p2), .val (.int p3), .val (.int x3), .val (.int x4), .val (.long (own_fm p2)), .second, .val (.long (own_lm p3)), .second, .unset] [(.long (own_lm p3)), (.long (f ((z - 1) / 64)))])) _
            refine XS.land X72.here hx rfl (hb hby d5_87) rfl ?_
            show Steps p.tables e below (T72.setTop (mkF m 88 #[.val (.ref a1), .val (.int p2), .val (.int p3), .val (.int x3), .val (.int x4), .val (.long (own_fm p2)), .second, .val (.long (own_lm p3)), .second, .unset] [(.long ((f ((z - 1) / 64)) &&& (own_lm p3)))])) _
            refine XS.lconst X72.here hx rfl (hb hby d5_88) ?_
            show Steps p.tables e below (T72.setTop (mkF m 89 #[.val (.ref a1), .val (.int p2), .val (.int p3), .val (.int x3), .val (.int x4), .val (.long (own_fm p2)), .second, .val (.long (own_lm p3)), .second, .unset] [(.long (0 : Int64)), (.long ((f ((z - 1) / 64)) &&& (own_lm p3)))])) _
            refine XS.lcmp X72.here hx rfl (hb hby d5_89) rfl ?_
            exact kg)
        by_cases h2 : (f ((z - 1) / 64) &&& own_lm p3) = (0 : Int64)
        · have k75 : ∀ tg, Steps p.tables e below (T72.setTop (mkF m 95 #[.val (.ref a1), .val (.int p2), .val (.int p3), .val (.int x3), .val (.int x4), .val (.long (own_fm p2)), .second, .val (.long (own_lm p3)), .second, .unset] [])) tg → Steps p.tables e below (s₁.setTop (entryFrame m #[(.ref a1), (.int p2), (.int p3)] 10)) tg := fun tg kg => k74 tg (by
              show Steps p.tables e below (T72.setTop (mkF m 90 #[.val (.ref a1), .val (.int p2), .val (.int p3), .val (.int x3), .val (.int x4), .val (.long (own_fm p2)), .second, .val (.long (own_lm p3)), .second, .unset] [(.int (lcmpW ((f ((z - 1) / 64)) &&& (own_lm p3)) (0 : Int64)))])) _
              refine XS.ifYes X72.here hx rfl (pc0 := 90) (pc' := 95) rfl (hb hby d5_90) rfl ((if0 _ _).trans (teq ((lw_eq _ _).mpr h2)).1) (by decide) (by decide) ?_
              exact kg)
          have k76 : ∀ tg, Steps p.tables e below (T72.setTop (mkF m 100 #[.val (.ref a1), .val (.int p2), .val (.int p3), .val (.int x3), .val (.int x4), .val (.long (own_fm p2)), .second, .val (.long (own_lm p3)), .second, .val (.int (x3 + (1 : Int32)))] [])) tg → Steps p.tables e below (s₁.setTop (entryFrame m #[(.ref a1), (.int p2), (.int p3)] 10)) tg := fun tg kg => k75 tg (by
              show Steps p.tables e below (T72.setTop (mkF m 95 #[.val (.ref a1), .val (.int p2), .val (.int p3), .val (.int x3), .val (.int x4), .val (.long (own_fm p2)), .second, .val (.long (own_lm p3)), .second, .unset] [])) _
              refine XS.iloadN X72.here hx rfl (hb hby d5_95) rfl ?_
              show Steps p.tables e below (T72.setTop (mkF m 96 #[.val (.ref a1), .val (.int p2), .val (.int p3), .val (.int x3), .val (.int x4), .val (.long (own_fm p2)), .second, .val (.long (own_lm p3)), .second, .unset] [(.int x3)])) _
              refine XS.iconst X72.here hx rfl (hb hby d5_96) ?_
              show Steps p.tables e below (T72.setTop (mkF m 97 #[.val (.ref a1), .val (.int p2), .val (.int p3), .val (.int x3), .val (.int x4), .val (.long (own_fm p2)), .second, .val (.long (own_lm p3)), .second, .unset] [(.int (1 : Int32)), (.int x3)])) _
              refine XS.iadd X72.here hx rfl (hb hby d5_97) rfl ?_
              show Steps p.tables e below (T72.setTop (mkF m 98 #[.val (.ref a1), .val (.int p2), .val (.int p3), .val (.int x3), .val (.int x4), .val (.long (own_fm p2)), .second, .val (.long (own_lm p3)), .second, .unset] [(.int (x3 + (1 : Int32)))])) _
              refine XS.istore X72.here hx rfl (hb hby d5_98) rfl (l' := #[.val (.ref a1), .val (.int p2), .val (.int p3), .val (.int x3), .val (.int x4), .val (.long (own_fm p2)), .second, .val (.long (own_lm p3)), .second, .val (.int (x3 + (1 : Int32)))]) rfl ?_
              exact kg)
          obtain ⟨y77, T77, X77, e77, hr77⟩ := loopA hx hZ hw hby hml hown a1 b p2 p3 x3 x4 (own_fm p2) (own_lm p3) N ((z - 1) / 64) h4 (by omega) hN f h0 F V0 ((z - 1) / 64 - (a / 64 + 1)) (a / 64 + 1) _ _ _ (by omega) (own_inc h3 (by omega)) X72 e72
          rcases hr77 with ⟨⟨j, j1, j2, j3⟩, st77⟩ | ⟨hz0, st77⟩
          · have k78 : ∀ tg, Steps p.tables e below (T77.setTop (mkF m 119 #[.val (.ref a1), .val (.int p2), .val (.int p3), .val (.int x3), .val (.int x4), .val (.long (own_fm p2)), .second, .val (.long (own_lm p3)), .second, .val (.int y77)] [])) tg → Steps p.tables e below (s₁.setTop (entryFrame m #[(.ref a1), (.int p2), (.int p3)] 10)) tg := fun tg kg => k76 tg (st77 tg kg)
            have k79 : ∀ tg, Steps p.tables e below (T77.setTop (mkF m 120 #[.val (.ref a1), .val (.int p2), .val (.int p3), .val (.int x3), .val (.int x4), .val (.long (own_fm p2)), .second, .val (.long (own_lm p3)), .second, .val (.int y77)] [(.int (1 : Int32))])) tg → Steps p.tables e below (s₁.setTop (entryFrame m #[(.ref a1), (.int p2), (.int p3)] 10)) tg := fun tg kg => k78 tg (by
                show Steps p.tables e below (T77.setTop (mkF m 119 #[.val (.ref a1), .val (.int p2), .val (.int p3), .val (.int x3), .val (.int x4), .val (.long (own_fm p2)), .second, .val (.long (own_lm p3)), .second, .val (.int y77)] [])) _
                refine XS.iconst X77.here hx rfl (hb hby d5_119) ?_
                exact kg)
            obtain ⟨fs, hr, hrun, hended, hW, hsame⟩ := X77.leave (v := some (.int (1 : Int32))) (fun h => by rw [Bd.returns] at h; cases h)
            refine ⟨_, _, k79 _ ?_, hrun, hended, _, _, rfl, ?_, ⟨_, rfl⟩, hW, hsame.mono (by decide) (by decide)⟩
            · show Steps p.tables e below (T77.setTop (mkF m 120 #[.val (.ref a1), .val (.int p2), .val (.int p3), .val (.int x3), .val (.int x4), .val (.long (own_fm p2)), .second, .val (.long (own_lm p3)), .second, .val (.int y77)] [(.int (1 : Int32))])) _
              exact retN X77 hx (t := .boolean) Bd.returns (by simp) (hb hby d5_120) hr
            · show Q5 _ _ _ _ _ _ _ T77.heap _
              rw [e77]
              exact ⟨by rw [own_ab1 (own_a4 hab (by omega) j2 j3)], N0, rfl⟩
          · have k80 : ∀ tg, Steps p.tables e below (T77.setTop (mkF m 127 #[.val (.ref a1), .val (.int p2), .val (.int p3), .val (.int x3), .val (.int x4), .val (.long (own_fm p2)), .second, .val (.long (own_lm p3)), .second, .val (.int y77)] [])) tg → Steps p.tables e below (s₁.setTop (entryFrame m #[(.ref a1), (.int p2), (.int p3)] 10)) tg := fun tg kg => k76 tg (st77 tg kg)
            have k81 : ∀ tg, Steps p.tables e below (T77.setTop (mkF m 128 #[.val (.ref a1), .val (.int p2), .val (.int p3), .val (.int x3), .val (.int x4), .val (.long (own_fm p2)), .second, .val (.long (own_lm p3)), .second, .val (.int y77)] [(.int (0 : Int32))])) tg → Steps p.tables e below (s₁.setTop (entryFrame m #[(.ref a1), (.int p2), (.int p3)] 10)) tg := fun tg kg => k80 tg (by
                show Steps p.tables e below (T77.setTop (mkF m 127 #[.val (.ref a1), .val (.int p2), .val (.int p3), .val (.int x3), .val (.int x4), .val (.long (own_fm p2)), .second, .val (.long (own_lm p3)), .second, .val (.int y77)] [])) _
                refine XS.iconst X77.here hx rfl (hb hby d5_127) ?_
                exact kg)
            obtain ⟨fs, hr, hrun, hended, hW, hsame⟩ := X77.leave (v := some (.int (0 : Int32))) (fun h => by rw [Bd.returns] at h; cases h)
            refine ⟨_, _, k81 _ ?_, hrun, hended, _, _, rfl, ?_, ⟨_, rfl⟩, hW, hsame.mono (by decide) (by decide)⟩
            · show Steps p.tables e below (T77.setTop (mkF m 128 #[.val (.ref a1), .val (.int p2), .val (.int p3), .val (.int x3), .val (.int x4), .val (.long (own_fm p2)), .second, .val (.long (own_lm p3)), .second, .val (.int y77)] [(.int (0 : Int32))])) _
              exact retN X77 hx (t := .boolean) Bd.returns (by simp) (hb hby d5_128) hr
            · show Q5 _ _ _ _ _ _ _ T77.heap _
              rw [e77]
              exact ⟨by rw [own_ab0 (own_a5 hp hq hab hsn h1 h2 hz0)], N0, rfl⟩
        · have k82 : ∀ tg, Steps p.tables e below (T72.setTop (mkF m 93 #[.val (.ref a1), .val (.int p2), .val (.int p3), .val (.int x3), .val (.int x4), .val (.long (own_fm p2)), .second, .val (.long (own_lm p3)), .second, .unset] [])) tg → Steps p.tables e below (s₁.setTop (entryFrame m #[(.ref a1), (.int p2), (.int p3)] 10)) tg := fun tg kg => k74 tg (by
              show Steps p.tables e below (T72.setTop (mkF m 90 #[.val (.ref a1), .val (.int p2), .val (.int p3), .val (.int x3), .val (.int x4), .val (.long (own_fm p2)), .second, .val (.long (own_lm p3)), .second, .unset] [(.int (lcmpW ((f ((z - 1) / 64)) &&& (own_lm p3)) (0 : Int64)))])) _
              refine XS.ifNo X72.here hx rfl (hb hby d5_90) rfl ((if0 _ _).trans (feq (fun q => h2 ((lw_eq _ _).mp q))).1) ?_
              exact kg)
          have k83 : ∀ tg, Steps p.tables e below (T72.setTop (mkF m 94 #[.val (.ref a1), .val (.int p2), .val (.int p3), .val (.int x3), .val (.int x4), .val (.long (own_fm p2)), .second, .val (.long (own_lm p3)), .second, .unset] [(.int (1 : Int32))])) tg → Steps p.tables e below (s₁.setTop (entryFrame m #[(.ref a1), (.int p2), (.int p3)] 10)) tg := fun tg kg => k82 tg (by
              show Steps p.tables e below (T72.setTop (mkF m 93 #[.val (.ref a1), .val (.int p2), .val (.int p3), .val (.int x3), .val (.int x4), .val (.long (own_fm p2)), .second, .val (.long (own_lm p3)), .second, .unset] [])) _
              refine XS.iconst X72.here hx rfl (hb hby d5_93) ?_
              exact kg)
          obtain ⟨fs, hr, hrun, hended, hW, hsame⟩ := X72.leave (v := some (.int (1 : Int32))) (fun h => by rw [Bd.returns] at h; cases h)
          refine ⟨_, _, k83 _ ?_, hrun, hended, _, _, rfl, ?_, ⟨_, rfl⟩, hW, hsame.mono (by decide) (by decide)⟩
          · show Steps p.tables e below (T72.setTop (mkF m 94 #[.val (.ref a1), .val (.int p2), .val (.int p3), .val (.int x3), .val (.int x4), .val (.long (own_fm p2)), .second, .val (.long (own_lm p3)), .second, .unset] [(.int (1 : Int32))])) _
            exact retN X72 hx (t := .boolean) Bd.returns (by simp) (hb hby d5_94) hr
          · show Q5 _ _ _ _ _ _ _ T72.heap _
            rw [e72]
            exact ⟨by rw [own_ab1 (own_a3 hq hab hsn h2)], N0, rfl⟩
      · have k84 : ∀ tg, Steps p.tables e below (T67.setTop (mkF m 93 #[.val (.ref a1), .val (.int p2), .val (.int p3), .val (.int x3), .val (.int x4), .val (.long (own_fm p2)), .second, .val (.long (own_lm p3)), .second, .unset] [])) tg → Steps p.tables e below (s₁.setTop (entryFrame m #[(.ref a1), (.int p2), (.int p3)] 10)) tg := fun tg kg => k69 tg (by
            show Steps p.tables e below (T67.setTop (mkF m 75 #[.val (.ref a1), .val (.int p2), .val (.int p3), .val (.int x3), .val (.int x4), .val (.long (own_fm p2)), .second, .val (.long (own_lm p3)), .second, .unset] [(.int (lcmpW ((f (a / 64)) &&& (own_fm p2)) (0 : Int64)))])) _
            refine XS.ifYes X67.here hx rfl (pc0 := 75) (pc' := 93) rfl (hb hby d5_75) rfl ((if0 _ _).trans (feq (fun q => h1 ((lw_eq _ _).mp q))).2) (by decide) (by decide) ?_
            exact kg)
        have k85 : ∀ tg, Steps p.tables e below (T67.setTop (mkF m 94 #[.val (.ref a1), .val (.int p2), .val (.int p3), .val (.int x3), .val (.int x4), .val (.long (own_fm p2)), .second, .val (.long (own_lm p3)), .second, .unset] [(.int (1 : Int32))])) tg → Steps p.tables e below (s₁.setTop (entryFrame m #[(.ref a1), (.int p2), (.int p3)] 10)) tg := fun tg kg => k84 tg (by
            show Steps p.tables e below (T67.setTop (mkF m 93 #[.val (.ref a1), .val (.int p2), .val (.int p3), .val (.int x3), .val (.int x4), .val (.long (own_fm p2)), .second, .val (.long (own_lm p3)), .second, .unset] [])) _
            refine XS.iconst X67.here hx rfl (hb hby d5_93) ?_
            exact kg)
        obtain ⟨fs, hr, hrun, hended, hW, hsame⟩ := X67.leave (v := some (.int (1 : Int32))) (fun h => by rw [Bd.returns] at h; cases h)
        refine ⟨_, _, k85 _ ?_, hrun, hended, _, _, rfl, ?_, ⟨_, rfl⟩, hW, hsame.mono (by decide) (by decide)⟩
        · show Steps p.tables e below (T67.setTop (mkF m 94 #[.val (.ref a1), .val (.int p2), .val (.int p3), .val (.int x3), .val (.int x4), .val (.long (own_fm p2)), .second, .val (.long (own_lm p3)), .second, .unset] [(.int (1 : Int32))])) _
          exact retN X67 hx (t := .boolean) Bd.returns (by simp) (hb hby d5_94) hr
        · show Q5 _ _ _ _ _ _ _ T67.heap _
          rw [e67]
          exact ⟨by rw [own_ab1 (own_a2 hp hab hsn h1)], N0, rfl⟩
  · have k86 : ∀ tg, Steps p.tables e below (s₁.setTop (mkF m 5 #[.val (.ref a1), .val (.int p2), .val (.int p3), .unset, .unset, .unset, .unset, .unset, .unset, .unset] [])) tg → Steps p.tables e below (s₁.setTop (entryFrame m #[(.ref a1), (.int p2), (.int p3)] 10)) tg := fun tg kg => k52 tg (by
        show Steps p.tables e below (s₁.setTop (mkF m 2 #[.val (.ref a1), .val (.int p2), .val (.int p3), .unset, .unset, .unset, .unset, .unset, .unset, .unset] [(.int p3), (.int p2)])) _
        refine XS.icmpNo X0.here hx rfl (hb hby d5_2) rfl (flt hc).1 ?_
        exact kg)
    have k87 : ∀ tg, Steps p.tables e below (s₁.setTop (mkF m 6 #[.val (.ref a1), .val (.int p2), .val (.int p3), .unset, .unset, .unset, .unset, .unset, .unset, .unset] [(.int (0 : Int32))])) tg → Steps p.tables e below (s₁.setTop (entryFrame m #[(.ref a1), (.int p2), (.int p3)] 10)) tg := fun tg kg => k86 tg (by
        show Steps p.tables e below (s₁.setTop (mkF m 5 #[.val (.ref a1), .val (.int p2), .val (.int p3), .unset, .unset, .unset, .unset, .unset, .unset, .unset] [])) _
        refine XS.iconst X0.here hx rfl (hb hby d5_5) ?_
        exact kg)
    obtain ⟨fs, hr, hrun, hended, hW, hsame⟩ := X0.leave (v := some (.int (0 : Int32))) (fun h => by rw [Bd.returns] at h; cases h)
    refine ⟨_, _, k87 _ ?_, hrun, hended, _, _, rfl, ?_, ⟨_, rfl⟩, hW, hsame.mono (by decide) (by decide)⟩
    · show Steps p.tables e below (s₁.setTop (mkF m 6 #[.val (.ref a1), .val (.int p2), .val (.int p3), .unset, .unset, .unset, .unset, .unset, .unset, .unset] [(.int (0 : Int32))])) _
      exact retN X0 hx (t := .boolean) Bd.returns (by simp) (hb hby d5_6) hr
    · show Q5 _ _ _ _ _ _ _ s₁.heap _
      rw [e0]
      exact ⟨by rw [own_ab0 (fun ⟨x, h1, h2, _⟩ => hc ((own_lt hp hq).mpr (by omega)))], N0, rfl⟩
def own_max (a b : Int32) : Int32 := if a < b then b else a
def own_min (a b : Int32) : Int32 := if b < a then b else a
def own_pos (x : Int32) : Int32 := (x &&& (2147483647 : Int32)) % (321 : Int32)
theorem own_posr (x : Int32) : ∃ n : Nat, n ≤ 320 ∧ (own_pos x).toInt = n := by
  have h := c_and x (2147483647 : Int32) (by decide)
  have g := (c_irem (x &&& (2147483647 : Int32)) (321 : Int32) 321 (by decide)).1 h.1
  refine ⟨(own_pos x).toInt.toNat, ?_, ?_⟩ <;> rw [own_pos] <;> omega
/-- the law's own word for two overlapping ranges -/
def own_ov (a b c d : Int32) : Int32 := if a < b then (if c < d then (if own_max a c < own_min b d then 1 else 0) else 0) else 0
theorem own_ovp {x y z u : Int32} {a b c d : Nat} (hx : x.toInt = a) (hy : y.toInt = b) (hz : z.toInt = c) (hu : u.toInt = d) : own_ov x y z u = 1 ∧ (∃ t, (a ≤ t ∧ t < b) ∧ c ≤ t ∧ t < d) ∨ own_ov x y z u = 0 ∧ ¬ ∃ t, (a ≤ t ∧ t < b) ∧ c ≤ t ∧ t < d := by
  have e : (own_max x z).toInt = ((max a c : Nat) : Int) := by rw [own_max]; simp only [own_lt hx hz]; split <;> omega
  have e2 : (own_min y u).toInt = ((min b d : Nat) : Int) := by rw [own_min]; simp only [own_lt hu hy]; split <;> omega
  rw [own_ov]
  simp only [own_lt hx hy, own_lt hz hu, own_lt e e2]
  by_cases h1 : a < b
  · by_cases h2 : c < d
    · by_cases h3 : max a c < min b d
      · rw [if_pos h1, if_pos h2, if_pos h3]
        exact Or.inl ⟨rfl, max a c, by omega, by omega⟩
      · rw [if_pos h1, if_pos h2, if_neg h3]
        exact Or.inr ⟨rfl, fun ⟨t, h4, h5⟩ => by omega⟩
    · rw [if_pos h1, if_neg h2]
      exact Or.inr ⟨rfl, fun ⟨t, h4, h5⟩ => by omega⟩
  · rw [if_neg h1]
    exact Or.inr ⟨rfl, fun ⟨t, h4, h5⟩ => by omega⟩
theorem own_z0 (z : Nat) : own_bit (fun _ => (0 : Int64)) z = false := by
  show (0 : BitVec 64).getLsbD (z % 64) = false
  simp
theorem d7_0 : decode jdk_29_method_65_code 0 = .ok (.iload_n 0, 1) := by decide +kernel
theorem d7_1 : decode jdk_29_method_65_code 1 = .ok (.iload_n 1, 1) := by decide +kernel
theorem d7_2 : decode jdk_29_method_65_code 2 = .ok (.if_icmp .lt 7, 3) := by decide +kernel
theorem d7_5 : decode jdk_29_method_65_code 5 = .ok (.iload_n 0, 1) := by decide +kernel
theorem d7_6 : decode jdk_29_method_65_code 6 = .ok (.goto 4, 3) := by decide +kernel
theorem d7_9 : decode jdk_29_method_65_code 9 = .ok (.iload_n 1, 1) := by decide +kernel
theorem d7_10 : decode jdk_29_method_65_code 10 = .ok (.ireturn, 1) := by decide +kernel
theorem ef_7 (m : MethodId) (x0 : Int32) (x1 : Int32) : entryFrame m #[(.int x0), (.int x1)] 2 = mkF m 0 #[.val (.int x0), .val (.int x1)] [] := by first | (simp [entryFrame, mkF, argsToLocals, Value.category]; done) | rfl
def Q7 (Z : State) (p1 p2 : Int32) (h0 : Heap) (n0 : Nat) (v : Option Value) (h : Heap) (L : List Loc) : Prop := v = some (.int (own_max p1 p2)) ∧ Fr n0 L ∧ h = h0
set_option maxRecDepth 65536 in
set_option maxHeartbeats 40000000 in
theorem rm7 (l : Launch) (Z : State) (a0 : Array Value) (hw : ∀ d ∈ tables_1, d.before a0 Z = true) (ws : List Jvm.Cond) (p1 : Int32) (p2 : Int32)  (h0 : Heap) (n0 : Nat) (Z0 : n0 ≤ h0.size)  :
    MetFree l (⟨"java/lang/Math", "max", "(II)I"⟩ : MethodName) (head1 (Jvm.Cond.code (⟨"java/lang/Math", "max", "(II)I"⟩ : MethodName) jdk_29_method_65_code 2 (some .int) :: ws) ({ frames := 0, cells := 0, slots := 0, locals := 0 } : Room)) (fun a U => a = #[(.int p1), (.int p2)] ∧ Z.Warmed39 U.vm ∧ U.heap = h0) (fun _ _ _ _ _ => True) (fun _ U o U' => ∃ v L, o = .returned v ∧ Q7 Z p1 p2 h0 n0 v U'.heap L ∧ FrameEnd U o U' L ({ frames := 0, cells := 0, slots := 0, locals := 0 } : Room).cells ({ frames := 0, cells := 0, slots := 0, locals := 0 } : Room).slots) := by
  refine MetFree.of_bodySF (Jvm.Free.JP.mathPlain rfl (by decide +kernel)) hisR ?_
  intro p e s m args below meth c s₁ Bd hml0 hP hK
  obtain ⟨rfl, hZ, hh⟩ := hP
  have hx := Bd.exec
  have hby := Bd.bytes
  have hml : c.maxLocals = 2 := hml0
  have hown : s.vm.findClass "java/lang/Math" = some m.cls := findClass_of_methodNamed Bd.named
  have hnm := (name_of_methodNamed Bd.named Bd.method).1
  have X0 : Stand p l e ({ frames := 0, cells := 0, slots := 0, locals := 0 } : Room) s m #[(.int p1), (.int p2)] below meth c s₁ [] 0 0 := Stand.of_body Bd
  have e0 : s₁.heap = h0 := by rw [← hh, Bd.state]; rfl
  have N0 := Fr.nil n0
  have pre0 : ∀ tg, Steps p.tables e below (s₁.setTop (mkF m 0 #[.val (.int p1), .val (.int p2)] [])) tg → Steps p.tables e below (s₁.setTop (entryFrame m #[(.int p1), (.int p2)] 2)) tg := fun tg kg => castTop (ef_7 m p1 p2) kg
  have k88 : ∀ tg, Steps p.tables e below (s₁.setTop (mkF m 2 #[.val (.int p1), .val (.int p2)] [(.int p2), (.int p1)])) tg → Steps p.tables e below (s₁.setTop (entryFrame m #[(.int p1), (.int p2)] 2)) tg := fun tg kg => pre0 tg (by
      show Steps p.tables e below (s₁.setTop (mkF m 0 #[.val (.int p1), .val (.int p2)] [])) _
      refine XS.iloadN X0.here hx rfl (hb hby d7_0) rfl ?_
      show Steps p.tables e below (s₁.setTop (mkF m 1 #[.val (.int p1), .val (.int p2)] [(.int p1)])) _
      refine XS.iloadN X0.here hx rfl (hb hby d7_1) rfl ?_
      exact kg)
  by_cases hc89 : p1 < p2
  · have k90 : ∀ tg, Steps p.tables e below (s₁.setTop (mkF m 9 #[.val (.int p1), .val (.int p2)] [])) tg → Steps p.tables e below (s₁.setTop (entryFrame m #[(.int p1), (.int p2)] 2)) tg := fun tg kg => k88 tg (by
        show Steps p.tables e below (s₁.setTop (mkF m 2 #[.val (.int p1), .val (.int p2)] [(.int p2), (.int p1)])) _
        refine XS.icmpYes X0.here hx rfl (pc0 := 2) (pc' := 9) rfl (hb hby d7_2) rfl (tlt hc89).1 (by decide) (by decide) ?_
        exact kg)
    have k91 : ∀ tg, Steps p.tables e below (s₁.setTop (mkF m 10 #[.val (.int p1), .val (.int p2)] [(.int p2)])) tg → Steps p.tables e below (s₁.setTop (entryFrame m #[(.int p1), (.int p2)] 2)) tg := fun tg kg => k90 tg (by
        show Steps p.tables e below (s₁.setTop (mkF m 9 #[.val (.int p1), .val (.int p2)] [])) _
        refine XS.iloadN X0.here hx rfl (hb hby d7_9) rfl ?_
        exact kg)
    obtain ⟨fs, hr, hrun, hended, hW, hsame⟩ := X0.leave (v := some (.int p2)) (fun h => by rw [Bd.returns] at h; cases h)
    refine ⟨_, _, k91 _ ?_, hrun, hended, _, _, rfl, ?_, ⟨_, rfl⟩, hW, hsame.mono (by decide) (by decide)⟩
    · show Steps p.tables e below (s₁.setTop (mkF m 10 #[.val (.int p1), .val (.int p2)] [(.int p2)])) _
      exact retI X0 hx Bd.returns (hb hby d7_10) hr
    · show Q7 _ _ _ _ _ _ s₁.heap _
      rw [e0]
      exact ⟨by rw [own_max, if_pos hc89], N0, rfl⟩
  · have k92 : ∀ tg, Steps p.tables e below (s₁.setTop (mkF m 5 #[.val (.int p1), .val (.int p2)] [])) tg → Steps p.tables e below (s₁.setTop (entryFrame m #[(.int p1), (.int p2)] 2)) tg := fun tg kg => k88 tg (by
        show Steps p.tables e below (s₁.setTop (mkF m 2 #[.val (.int p1), .val (.int p2)] [(.int p2), (.int p1)])) _
        refine XS.icmpNo X0.here hx rfl (hb hby d7_2) rfl (flt hc89).1 ?_
        exact kg)
    have k93 : ∀ tg, Steps p.tables e below (s₁.setTop (mkF m 10 #[.val (.int p1), .val (.int p2)] [(.int p1)])) tg → Steps p.tables e below (s₁.setTop (entryFrame m #[(.int p1), (.int p2)] 2)) tg := fun tg kg => k92 tg (by
        show Steps p.tables e below (s₁.setTop (mkF m 5 #[.val (.int p1), .val (.int p2)] [])) _
        refine XS.iloadN X0.here hx rfl (hb hby d7_5) rfl ?_
        show Steps p.tables e below (s₁.setTop (mkF m 6 #[.val (.int p1), .val (.int p2)] [(.int p1)])) _
        refine XS.goto X0.here hx rfl (pc0 := 6) (pc' := 10) rfl (hb hby d7_6) (by decide) (by decide) ?_
        exact kg)
    obtain ⟨fs, hr, hrun, hended, hW, hsame⟩ := X0.leave (v := some (.int p1)) (fun h => by rw [Bd.returns] at h; cases h)
    refine ⟨_, _, k93 _ ?_, hrun, hended, _, _, rfl, ?_, ⟨_, rfl⟩, hW, hsame.mono (by decide) (by decide)⟩
    · show Steps p.tables e below (s₁.setTop (mkF m 10 #[.val (.int p1), .val (.int p2)] [(.int p1)])) _
      exact retI X0 hx Bd.returns (hb hby d7_10) hr
    · show Q7 _ _ _ _ _ _ s₁.heap _
      rw [e0]
      exact ⟨by rw [own_max, if_neg hc89], N0, rfl⟩
theorem d8_0 : decode jdk_29_method_69_code 0 = .ok (.iload_n 0, 1) := by decide +kernel
theorem d8_1 : decode jdk_29_method_69_code 1 = .ok (.iload_n 1, 1) := by decide +kernel
theorem d8_2 : decode jdk_29_method_69_code 2 = .ok (.if_icmp .gt 7, 3) := by decide +kernel
theorem d8_5 : decode jdk_29_method_69_code 5 = .ok (.iload_n 0, 1) := by decide +kernel
theorem d8_6 : decode jdk_29_method_69_code 6 = .ok (.goto 4, 3) := by decide +kernel
theorem d8_9 : decode jdk_29_method_69_code 9 = .ok (.iload_n 1, 1) := by decide +kernel
theorem d8_10 : decode jdk_29_method_69_code 10 = .ok (.ireturn, 1) := by decide +kernel
theorem ef_8 (m : MethodId) (x0 : Int32) (x1 : Int32) : entryFrame m #[(.int x0), (.int x1)] 2 = mkF m 0 #[.val (.int x0), .val (.int x1)] [] := by first | (simp [entryFrame, mkF, argsToLocals, Value.category]; done) | rfl
def Q8 (Z : State) (p1 p2 : Int32) (h0 : Heap) (n0 : Nat) (v : Option Value) (h : Heap) (L : List Loc) : Prop := v = some (.int (own_min p1 p2)) ∧ Fr n0 L ∧ h = h0
set_option maxRecDepth 65536 in
set_option maxHeartbeats 40000000 in
theorem rm8 (l : Launch) (Z : State) (a0 : Array Value) (hw : ∀ d ∈ tables_1, d.before a0 Z = true) (ws : List Jvm.Cond) (p1 : Int32) (p2 : Int32)  (h0 : Heap) (n0 : Nat) (Z0 : n0 ≤ h0.size)  :
    MetFree l (⟨"java/lang/Math", "min", "(II)I"⟩ : MethodName) (head1 (Jvm.Cond.code (⟨"java/lang/Math", "min", "(II)I"⟩ : MethodName) jdk_29_method_69_code 2 (some .int) :: ws) ({ frames := 0, cells := 0, slots := 0, locals := 0 } : Room)) (fun a U => a = #[(.int p1), (.int p2)] ∧ Z.Warmed39 U.vm ∧ U.heap = h0) (fun _ _ _ _ _ => True) (fun _ U o U' => ∃ v L, o = .returned v ∧ Q8 Z p1 p2 h0 n0 v U'.heap L ∧ FrameEnd U o U' L ({ frames := 0, cells := 0, slots := 0, locals := 0 } : Room).cells ({ frames := 0, cells := 0, slots := 0, locals := 0 } : Room).slots) := by
  refine MetFree.of_bodySF (Jvm.Free.JP.mathPlain rfl (by decide +kernel)) hisR ?_
  intro p e s m args below meth c s₁ Bd hml0 hP hK
  obtain ⟨rfl, hZ, hh⟩ := hP
  have hx := Bd.exec
  have hby := Bd.bytes
  have hml : c.maxLocals = 2 := hml0
  have hown : s.vm.findClass "java/lang/Math" = some m.cls := findClass_of_methodNamed Bd.named
  have hnm := (name_of_methodNamed Bd.named Bd.method).1
  have X0 : Stand p l e ({ frames := 0, cells := 0, slots := 0, locals := 0 } : Room) s m #[(.int p1), (.int p2)] below meth c s₁ [] 0 0 := Stand.of_body Bd
  have e0 : s₁.heap = h0 := by rw [← hh, Bd.state]; rfl
  have N0 := Fr.nil n0
  have pre0 : ∀ tg, Steps p.tables e below (s₁.setTop (mkF m 0 #[.val (.int p1), .val (.int p2)] [])) tg → Steps p.tables e below (s₁.setTop (entryFrame m #[(.int p1), (.int p2)] 2)) tg := fun tg kg => castTop (ef_8 m p1 p2) kg
  have k94 : ∀ tg, Steps p.tables e below (s₁.setTop (mkF m 2 #[.val (.int p1), .val (.int p2)] [(.int p2), (.int p1)])) tg → Steps p.tables e below (s₁.setTop (entryFrame m #[(.int p1), (.int p2)] 2)) tg := fun tg kg => pre0 tg (by
      show Steps p.tables e below (s₁.setTop (mkF m 0 #[.val (.int p1), .val (.int p2)] [])) _
      refine XS.iloadN X0.here hx rfl (hb hby d8_0) rfl ?_
      show Steps p.tables e below (s₁.setTop (mkF m 1 #[.val (.int p1), .val (.int p2)] [(.int p1)])) _
      refine XS.iloadN X0.here hx rfl (hb hby d8_1) rfl ?_
      exact kg)
  by_cases hc95 : p2 < p1
  · have k96 : ∀ tg, Steps p.tables e below (s₁.setTop (mkF m 9 #[.val (.int p1), .val (.int p2)] [])) tg → Steps p.tables e below (s₁.setTop (entryFrame m #[(.int p1), (.int p2)] 2)) tg := fun tg kg => k94 tg (by
        show Steps p.tables e below (s₁.setTop (mkF m 2 #[.val (.int p1), .val (.int p2)] [(.int p2), (.int p1)])) _
        refine XS.icmpYes X0.here hx rfl (pc0 := 2) (pc' := 9) rfl (hb hby d8_2) rfl (tlt hc95).2.2.1 (by decide) (by decide) ?_
        exact kg)
    have k97 : ∀ tg, Steps p.tables e below (s₁.setTop (mkF m 10 #[.val (.int p1), .val (.int p2)] [(.int p2)])) tg → Steps p.tables e below (s₁.setTop (entryFrame m #[(.int p1), (.int p2)] 2)) tg := fun tg kg => k96 tg (by
        show Steps p.tables e below (s₁.setTop (mkF m 9 #[.val (.int p1), .val (.int p2)] [])) _
        refine XS.iloadN X0.here hx rfl (hb hby d8_9) rfl ?_
        exact kg)
    obtain ⟨fs, hr, hrun, hended, hW, hsame⟩ := X0.leave (v := some (.int p2)) (fun h => by rw [Bd.returns] at h; cases h)
    refine ⟨_, _, k97 _ ?_, hrun, hended, _, _, rfl, ?_, ⟨_, rfl⟩, hW, hsame.mono (by decide) (by decide)⟩
    · show Steps p.tables e below (s₁.setTop (mkF m 10 #[.val (.int p1), .val (.int p2)] [(.int p2)])) _
      exact retI X0 hx Bd.returns (hb hby d8_10) hr
    · show Q8 _ _ _ _ _ _ s₁.heap _
      rw [e0]
      exact ⟨by rw [own_min, if_pos hc95], N0, rfl⟩
  · have k98 : ∀ tg, Steps p.tables e below (s₁.setTop (mkF m 5 #[.val (.int p1), .val (.int p2)] [])) tg → Steps p.tables e below (s₁.setTop (entryFrame m #[(.int p1), (.int p2)] 2)) tg := fun tg kg => k94 tg (by
        show Steps p.tables e below (s₁.setTop (mkF m 2 #[.val (.int p1), .val (.int p2)] [(.int p2), (.int p1)])) _
        refine XS.icmpNo X0.here hx rfl (hb hby d8_2) rfl (flt hc95).2.2.1 ?_
        exact kg)
    have k99 : ∀ tg, Steps p.tables e below (s₁.setTop (mkF m 10 #[.val (.int p1), .val (.int p2)] [(.int p1)])) tg → Steps p.tables e below (s₁.setTop (entryFrame m #[(.int p1), (.int p2)] 2)) tg := fun tg kg => k98 tg (by
        show Steps p.tables e below (s₁.setTop (mkF m 5 #[.val (.int p1), .val (.int p2)] [])) _
        refine XS.iloadN X0.here hx rfl (hb hby d8_5) rfl ?_
        show Steps p.tables e below (s₁.setTop (mkF m 6 #[.val (.int p1), .val (.int p2)] [(.int p1)])) _
        refine XS.goto X0.here hx rfl (pc0 := 6) (pc' := 10) rfl (hb hby d8_6) (by decide) (by decide) ?_
        exact kg)
    obtain ⟨fs, hr, hrun, hended, hW, hsame⟩ := X0.leave (v := some (.int p1)) (fun h => by rw [Bd.returns] at h; cases h)
    refine ⟨_, _, k99 _ ?_, hrun, hended, _, _, rfl, ?_, ⟨_, rfl⟩, hW, hsame.mono (by decide) (by decide)⟩
    · show Steps p.tables e below (s₁.setTop (mkF m 10 #[.val (.int p1), .val (.int p2)] [(.int p1)])) _
      exact retI X0 hx Bd.returns (hb hby d8_10) hr
    · show Q8 _ _ _ _ _ _ s₁.heap _
      rw [e0]
      exact ⟨by rw [own_min, if_neg hc95], N0, rfl⟩
theorem d1_0 : decode method_2_code 0 = .ok (.iload_n 0, 1) := by decide +kernel
theorem d1_1 : decode method_2_code 1 = .ok (.ldc 7, 2) := by decide +kernel
theorem d1_3 : decode method_2_code 3 = .ok (.iand, 1) := by decide +kernel
theorem d1_4 : decode method_2_code 4 = .ok (.sipush 321, 3) := by decide +kernel
theorem d1_7 : decode method_2_code 7 = .ok (.irem, 1) := by decide +kernel
theorem d1_8 : decode method_2_code 8 = .ok (.ireturn, 1) := by decide +kernel
theorem pn_1 : plainName "com/example/opword/opword/dex/TakenBytesAnyTakenPinLaw" = true := by first | (simp [plainName, overriddenIn]; done) | decide +kernel
theorem ef_1 (m : MethodId) (x0 : Int32) : entryFrame m #[(.int x0)] 1 = mkF m 0 #[.val (.int x0)] [] := by first | (simp [entryFrame, mkF, argsToLocals, Value.category]; done) | rfl
def Q1 (Z : State) (p1 : Int32) (h0 : Heap) (n0 : Nat) (v : Option Value) (h : Heap) (L : List Loc) : Prop := v = some (.int (own_pos p1)) ∧ Fr n0 L ∧ h = h0
set_option maxRecDepth 65536 in
set_option maxHeartbeats 40000000 in
theorem rm1 (l : Launch) (Z : State) (a0 : Array Value) (hw : ∀ d ∈ tables_1, d.before a0 Z = true) (ws : List Jvm.Cond) (p1 : Int32)  (h0 : Heap) (n0 : Nat) (Z0 : n0 ≤ h0.size)  :
    MetFree l (⟨"com/example/opword/opword/dex/TakenBytesAnyTakenPinLaw", "pos", "(I)I"⟩ : MethodName) (head1 (Jvm.Cond.code (⟨"com/example/opword/opword/dex/TakenBytesAnyTakenPinLaw", "pos", "(I)I"⟩ : MethodName) method_2_code 1 (some .int) :: ws) ({ frames := 0, cells := 0, slots := 0, locals := 0 } : Room)) (fun a U => a = #[(.int p1)] ∧ Z.Warmed39 U.vm ∧ U.heap = h0) (fun _ _ _ _ _ => True) (fun _ U o U' => ∃ v L, o = .returned v ∧ Q1 Z p1 h0 n0 v U'.heap L ∧ FrameEnd U o U' L ({ frames := 0, cells := 0, slots := 0, locals := 0 } : Room).cells ({ frames := 0, cells := 0, slots := 0, locals := 0 } : Room).slots) := by
  refine MetFree.of_bodySF (plainFor_of_name pn_1) hisR ?_
  intro p e s m args below meth c s₁ Bd hml0 hP hK
  obtain ⟨rfl, hZ, hh⟩ := hP
  have hx := Bd.exec
  have hby := Bd.bytes
  have hml : c.maxLocals = 1 := hml0
  have hown : s.vm.findClass "com/example/opword/opword/dex/TakenBytesAnyTakenPinLaw" = some m.cls := findClass_of_methodNamed Bd.named
  have hnm := (name_of_methodNamed Bd.named Bd.method).1
  have X0 : Stand p l e ({ frames := 0, cells := 0, slots := 0, locals := 0 } : Room) s m #[(.int p1)] below meth c s₁ [] 0 0 := Stand.of_body Bd
  have e0 : s₁.heap = h0 := by rw [← hh, Bd.state]; rfl
  have N0 := Fr.nil n0
  have pre0 : ∀ tg, Steps p.tables e below (s₁.setTop (mkF m 0 #[.val (.int p1)] [])) tg → Steps p.tables e below (s₁.setTop (entryFrame m #[(.int p1)] 1)) tg := fun tg kg => castTop (ef_1 m p1) kg
  have k100 : ∀ tg, Steps p.tables e below (s₁.setTop (mkF m 8 #[.val (.int p1)] [(.int ((p1 &&& (2147483647 : Int32)) % (321 : Int32)))])) tg → Steps p.tables e below (s₁.setTop (entryFrame m #[(.int p1)] 1)) tg := fun tg kg => pre0 tg (by
      show Steps p.tables e below (s₁.setTop (mkF m 0 #[.val (.int p1)] [])) _
      refine XS.iloadN X0.here hx rfl (hb hby d1_0) rfl ?_
      show Steps p.tables e below (s₁.setTop (mkF m 1 #[.val (.int p1)] [(.int p1)])) _
      refine X0.ldcInt hx hown (mvT hZ (hw _ (List.mem_of_getElem? (i := 4) rfl))) (g := (mkF m 1 #[.val (.int p1)] [(.int p1)])) rfl (hb hby d1_1) _ ?_
      show Steps p.tables e below (s₁.setTop (mkF m 3 #[.val (.int p1)] [(.int (2147483647 : Int32)), (.int p1)])) _
      refine XS.iand X0.here hx rfl (hb hby d1_3) rfl ?_
      show Steps p.tables e below (s₁.setTop (mkF m 4 #[.val (.int p1)] [(.int (p1 &&& (2147483647 : Int32)))])) _
      refine XS.sipush X0.here hx rfl (hb hby d1_4) ?_
      show Steps p.tables e below (s₁.setTop (mkF m 7 #[.val (.int p1)] [(.int (321 : Int32)), (.int (p1 &&& (2147483647 : Int32)))])) _
      refine iremM X0 hx rfl (hb hby d1_7) rfl (by decide) ?_
      exact kg)
  obtain ⟨fs, hr, hrun, hended, hW, hsame⟩ := X0.leave (v := some (.int ((p1 &&& (2147483647 : Int32)) % (321 : Int32)))) (fun h => by rw [Bd.returns] at h; cases h)
  refine ⟨_, _, k100 _ ?_, hrun, hended, _, _, rfl, ?_, ⟨_, rfl⟩, hW, hsame.mono (by decide) (by decide)⟩
  · show Steps p.tables e below (s₁.setTop (mkF m 8 #[.val (.int p1)] [(.int ((p1 &&& (2147483647 : Int32)) % (321 : Int32)))])) _
    exact retI X0 hx Bd.returns (hb hby d1_8) hr
  · show Q1 _ _ _ _ _ s₁.heap _
    rw [e0]
    exact ⟨rfl, N0, rfl⟩
theorem d6_0 : decode method_3_code 0 = .ok (.iload_n 0, 1) := by decide +kernel
theorem d6_1 : decode method_3_code 1 = .ok (.iload_n 1, 1) := by decide +kernel
theorem d6_2 : decode method_3_code 2 = .ok (.if_icmp .lt 5, 3) := by decide +kernel
theorem d6_5 : decode method_3_code 5 = .ok (.iconst 0, 1) := by decide +kernel
theorem d6_6 : decode method_3_code 6 = .ok (.ireturn, 1) := by decide +kernel
theorem d6_7 : decode method_3_code 7 = .ok (.iload_n 2, 1) := by decide +kernel
theorem d6_8 : decode method_3_code 8 = .ok (.iload_n 3, 1) := by decide +kernel
theorem d6_9 : decode method_3_code 9 = .ok (.if_icmp .lt 5, 3) := by decide +kernel
theorem d6_12 : decode method_3_code 12 = .ok (.iconst 0, 1) := by decide +kernel
theorem d6_13 : decode method_3_code 13 = .ok (.ireturn, 1) := by decide +kernel
theorem d6_14 : decode method_3_code 14 = .ok (.iload_n 0, 1) := by decide +kernel
theorem d6_15 : decode method_3_code 15 = .ok (.iload_n 2, 1) := by decide +kernel
theorem d6_16 : decode method_3_code 16 = .ok (.invokestatic 8, 3) := by decide +kernel
theorem d6_19 : decode method_3_code 19 = .ok (.iload_n 1, 1) := by decide +kernel
theorem d6_20 : decode method_3_code 20 = .ok (.iload_n 3, 1) := by decide +kernel
theorem d6_21 : decode method_3_code 21 = .ok (.invokestatic 14, 3) := by decide +kernel
theorem d6_24 : decode method_3_code 24 = .ok (.if_icmp .ge 7, 3) := by decide +kernel
theorem d6_27 : decode method_3_code 27 = .ok (.iconst 1, 1) := by decide +kernel
theorem d6_28 : decode method_3_code 28 = .ok (.goto 4, 3) := by decide +kernel
theorem d6_31 : decode method_3_code 31 = .ok (.iconst 0, 1) := by decide +kernel
theorem d6_32 : decode method_3_code 32 = .ok (.ireturn, 1) := by decide +kernel
theorem pn_6 : plainName "com/example/opword/opword/dex/TakenBytesAnyTakenPinLaw" = true := by first | (simp [plainName, overriddenIn]; done) | decide +kernel
theorem ef_6 (m : MethodId) (x0 : Int32) (x1 : Int32) (x2 : Int32) (x3 : Int32) : entryFrame m #[(.int x0), (.int x1), (.int x2), (.int x3)] 4 = mkF m 0 #[.val (.int x0), .val (.int x1), .val (.int x2), .val (.int x3)] [] := by first | (simp [entryFrame, mkF, argsToLocals, Value.category]; done) | rfl
def Q6 (Z : State) (p1 p2 p3 p4 : Int32) (h0 : Heap) (n0 : Nat) (v : Option Value) (h : Heap) (L : List Loc) : Prop := v = some (.int (own_ov p1 p2 p3 p4)) ∧ Fr n0 L ∧ h = h0
set_option maxRecDepth 65536 in
set_option maxHeartbeats 40000000 in
theorem rm6 (l : Launch) (Z : State) (a0 : Array Value) (hw : ∀ d ∈ tables_1, d.before a0 Z = true) (ws : List Jvm.Cond) (p1 : Int32) (p2 : Int32) (p3 : Int32) (p4 : Int32)  (h0 : Heap) (n0 : Nat) (Z0 : n0 ≤ h0.size)  :
    MetFree l (⟨"com/example/opword/opword/dex/TakenBytesAnyTakenPinLaw", "overlaps", "(IIII)Z"⟩ : MethodName) (head1 (Jvm.Cond.code (⟨"com/example/opword/opword/dex/TakenBytesAnyTakenPinLaw", "overlaps", "(IIII)Z"⟩ : MethodName) method_3_code 4 (some .boolean) :: ws) ({ frames := 1, cells := 0, slots := 0, locals := 14 } : Room)) (fun a U => a = #[(.int p1), (.int p2), (.int p3), (.int p4)] ∧ Z.Warmed39 U.vm ∧ U.heap = h0) (fun _ _ _ _ _ => True) (fun _ U o U' => ∃ v L, o = .returned v ∧ Q6 Z p1 p2 p3 p4 h0 n0 v U'.heap L ∧ FrameEnd U o U' L ({ frames := 1, cells := 0, slots := 0, locals := 14 } : Room).cells ({ frames := 1, cells := 0, slots := 0, locals := 14 } : Room).slots) := by
  refine MetFree.of_bodySF (plainFor_of_name pn_6) hisR ?_
  intro p e s m args below meth c s₁ Bd hml0 hP hK
  obtain ⟨rfl, hZ, hh⟩ := hP
  have hx := Bd.exec
  have hby := Bd.bytes
  have hml : c.maxLocals = 4 := hml0
  have hown : s.vm.findClass "com/example/opword/opword/dex/TakenBytesAnyTakenPinLaw" = some m.cls := findClass_of_methodNamed Bd.named
  have hnm := (name_of_methodNamed Bd.named Bd.method).1
  have X0 : Stand p l e ({ frames := 1, cells := 0, slots := 0, locals := 14 } : Room) s m #[(.int p1), (.int p2), (.int p3), (.int p4)] below meth c s₁ [] 0 0 := Stand.of_body Bd
  have e0 : s₁.heap = h0 := by rw [← hh, Bd.state]; rfl
  have N0 := Fr.nil n0
  have pre0 : ∀ tg, Steps p.tables e below (s₁.setTop (mkF m 0 #[.val (.int p1), .val (.int p2), .val (.int p3), .val (.int p4)] [])) tg → Steps p.tables e below (s₁.setTop (entryFrame m #[(.int p1), (.int p2), (.int p3), (.int p4)] 4)) tg := fun tg kg => castTop (ef_6 m p1 p2 p3 p4) kg
  have k101 : ∀ tg, Steps p.tables e below (s₁.setTop (mkF m 2 #[.val (.int p1), .val (.int p2), .val (.int p3), .val (.int p4)] [(.int p2), (.int p1)])) tg → Steps p.tables e below (s₁.setTop (entryFrame m #[(.int p1), (.int p2), (.int p3), (.int p4)] 4)) tg := fun tg kg => pre0 tg (by
      show Steps p.tables e below (s₁.setTop (mkF m 0 #[.val (.int p1), .val (.int p2), .val (.int p3), .val (.int p4)] [])) _
      refine XS.iloadN X0.here hx rfl (hb hby d6_0) rfl ?_
      show Steps p.tables e below (s₁.setTop (mkF m 1 #[.val (.int p1), .val (.int p2), .val (.int p3), .val (.int p4)] [(.int p1)])) _
      refine XS.iloadN X0.here hx rfl (hb hby d6_1) rfl ?_
      exact kg)
  by_cases hc102 : p1 < p2
  · have k103 : ∀ tg, Steps p.tables e below (s₁.setTop (mkF m 7 #[.val (.int p1), .val (.int p2), .val (.int p3), .val (.int p4)] [])) tg → Steps p.tables e below (s₁.setTop (entryFrame m #[(.int p1), (.int p2), (.int p3), (.int p4)] 4)) tg := fun tg kg => k101 tg (by
        show Steps p.tables e below (s₁.setTop (mkF m 2 #[.val (.int p1), .val (.int p2), .val (.int p3), .val (.int p4)] [(.int p2), (.int p1)])) _
        refine XS.icmpYes X0.here hx rfl (pc0 := 2) (pc' := 7) rfl (hb hby d6_2) rfl (tlt hc102).1 (by decide) (by decide) ?_
        exact kg)
    have k104 : ∀ tg, Steps p.tables e below (s₁.setTop (mkF m 9 #[.val (.int p1), .val (.int p2), .val (.int p3), .val (.int p4)] [(.int p4), (.int p3)])) tg → Steps p.tables e below (s₁.setTop (entryFrame m #[(.int p1), (.int p2), (.int p3), (.int p4)] 4)) tg := fun tg kg => k103 tg (by
        show Steps p.tables e below (s₁.setTop (mkF m 7 #[.val (.int p1), .val (.int p2), .val (.int p3), .val (.int p4)] [])) _
        refine XS.iloadN X0.here hx rfl (hb hby d6_7) rfl ?_
        show Steps p.tables e below (s₁.setTop (mkF m 8 #[.val (.int p1), .val (.int p2), .val (.int p3), .val (.int p4)] [(.int p3)])) _
        refine XS.iloadN X0.here hx rfl (hb hby d6_8) rfl ?_
        exact kg)
    by_cases hc105 : p3 < p4
    · have k106 : ∀ tg, Steps p.tables e below (s₁.setTop (mkF m 14 #[.val (.int p1), .val (.int p2), .val (.int p3), .val (.int p4)] [])) tg → Steps p.tables e below (s₁.setTop (entryFrame m #[(.int p1), (.int p2), (.int p3), (.int p4)] 4)) tg := fun tg kg => k104 tg (by
          show Steps p.tables e below (s₁.setTop (mkF m 9 #[.val (.int p1), .val (.int p2), .val (.int p3), .val (.int p4)] [(.int p4), (.int p3)])) _
          refine XS.icmpYes X0.here hx rfl (pc0 := 9) (pc' := 14) rfl (hb hby d6_9) rfl (tlt hc105).1 (by decide) (by decide) ?_
          exact kg)
      have k107 : ∀ tg, Steps p.tables e below (s₁.setTop (mkF m 16 #[.val (.int p1), .val (.int p2), .val (.int p3), .val (.int p4)] [(.int p3), (.int p1)])) tg → Steps p.tables e below (s₁.setTop (entryFrame m #[(.int p1), (.int p2), (.int p3), (.int p4)] 4)) tg := fun tg kg => k106 tg (by
          show Steps p.tables e below (s₁.setTop (mkF m 14 #[.val (.int p1), .val (.int p2), .val (.int p3), .val (.int p4)] [])) _
          refine XS.iloadN X0.here hx rfl (hb hby d6_14) rfl ?_
          show Steps p.tables e below (s₁.setTop (mkF m 15 #[.val (.int p1), .val (.int p2), .val (.int p3), .val (.int p4)] [(.int p1)])) _
          refine XS.iloadN X0.here hx rfl (hb hby d6_15) rfl ?_
          exact kg)
      obtain ⟨_, _, ⟨T108, L108, c108, n108⟩, -, X108, ⟨Lc108, hQ108, l108, y108, z108⟩, st108⟩ := Jvm.LawKit.callS X0 hx (y := (⟨"java/lang/Math", "max", "(II)I"⟩ : MethodName)) hown (mvT hZ (hw _ (List.mem_of_getElem? (i := 31) rfl))) (mvT hZ (hw _ (List.mem_of_getElem? (i := 32) rfl))) (mvT hZ (hw _ (List.mem_of_getElem? (i := 33) rfl))) (mvT hZ (hw _ (List.mem_of_getElem? (i := 34) rfl))) (by decide) (backOf (W := 0) (rm7 l Z a0 hw [] p1 p3 h0 n0 Z0) hZ (hw _ (List.mem_of_getElem? (i := 34) rfl)) (hw _ (List.mem_of_getElem? (i := 33) rfl)) (by decide) (by decide)) (g := (mkF m 16 #[.val (.int p1), .val (.int p2), .val (.int p3), .val (.int p4)] [(.int p3), (.int p1)])) rfl (by rw [hml]; rfl) (argsL := [(.int p1), (.int p3)]) (rest := []) (lenOf own_pd6 rfl) rfl (by show 2 * 0 + _ ≤ _; exact Nat.le_of_eq rfl) (hb hby d6_16) (fun _ _ => ⟨rfl, e0, (by decide : 0 + 0 ≤ _), (by decide : 0 + 0 ≤ _)⟩)
      dsimp only [Pt.U, Pt.locs, Pt.cells, Pt.slots] at X108 l108 y108 z108 st108 hQ108
      subst l108 y108 z108
      obtain ⟨rfl, N108q, e108⟩ := hQ108
      have N108 := Fr.app N0 N108q
      have k109 : ∀ tg, Steps p.tables e below (T108.setTop (mkF m 19 #[.val (.int p1), .val (.int p2), .val (.int p3), .val (.int p4)] [(.int (own_max p1 p3))])) tg → Steps p.tables e below (s₁.setTop (entryFrame m #[(.int p1), (.int p2), (.int p3), (.int p4)] 4)) tg := fun tg kg => k107 tg (st108 tg kg)
      have k110 : ∀ tg, Steps p.tables e below (T108.setTop (mkF m 21 #[.val (.int p1), .val (.int p2), .val (.int p3), .val (.int p4)] [(.int p4), (.int p2), (.int (own_max p1 p3))])) tg → Steps p.tables e below (s₁.setTop (entryFrame m #[(.int p1), (.int p2), (.int p3), (.int p4)] 4)) tg := fun tg kg => k109 tg (by
          show Steps p.tables e below (T108.setTop (mkF m 19 #[.val (.int p1), .val (.int p2), .val (.int p3), .val (.int p4)] [(.int (own_max p1 p3))])) _
          refine XS.iloadN X108.here hx rfl (hb hby d6_19) rfl ?_
          show Steps p.tables e below (T108.setTop (mkF m 20 #[.val (.int p1), .val (.int p2), .val (.int p3), .val (.int p4)] [(.int p2), (.int (own_max p1 p3))])) _
          refine XS.iloadN X108.here hx rfl (hb hby d6_20) rfl ?_
          exact kg)
      obtain ⟨_, _, ⟨T111, L111, c111, n111⟩, -, X111, ⟨Lc111, hQ111, l111, y111, z111⟩, st111⟩ := Jvm.LawKit.callS X108 hx (y := (⟨"java/lang/Math", "min", "(II)I"⟩ : MethodName)) hown (mvT hZ (hw _ (List.mem_of_getElem? (i := 35) rfl))) (mvT hZ (hw _ (List.mem_of_getElem? (i := 36) rfl))) (mvT hZ (hw _ (List.mem_of_getElem? (i := 33) rfl))) (mvT hZ (hw _ (List.mem_of_getElem? (i := 37) rfl))) (by decide) (backOf (W := 1) (rm8 l Z a0 hw [] p2 p4 h0 n0 Z0) hZ (hw _ (List.mem_of_getElem? (i := 37) rfl)) (hw _ (List.mem_of_getElem? (i := 33) rfl)) (by decide) (by decide)) (g := (mkF m 21 #[.val (.int p1), .val (.int p2), .val (.int p3), .val (.int p4)] [(.int p4), (.int p2), (.int (own_max p1 p3))])) rfl (by rw [hml]; rfl) (argsL := [(.int p2), (.int p4)]) (rest := [(.int (own_max p1 p3))]) (lenOf own_pd6 rfl) rfl (by show 2 * 0 + _ ≤ _; exact Nat.le_of_eq rfl) (hb hby d6_21) (fun _ _ => ⟨rfl, e108, (by decide : 0 + 0 ≤ _), (by decide : 0 + 0 ≤ _)⟩)
      dsimp only [Pt.U, Pt.locs, Pt.cells, Pt.slots] at X111 l111 y111 z111 st111 hQ111
      subst l111 y111 z111
      obtain ⟨rfl, N111q, e111⟩ := hQ111
      have N111 := Fr.app N108 N111q
      have k112 : ∀ tg, Steps p.tables e below (T111.setTop (mkF m 24 #[.val (.int p1), .val (.int p2), .val (.int p3), .val (.int p4)] [(.int (own_min p2 p4)), (.int (own_max p1 p3))])) tg → Steps p.tables e below (s₁.setTop (entryFrame m #[(.int p1), (.int p2), (.int p3), (.int p4)] 4)) tg := fun tg kg => k110 tg (st111 tg kg)
      by_cases hc113 : (own_max p1 p3) < (own_min p2 p4)
      · have k114 : ∀ tg, Steps p.tables e below (T111.setTop (mkF m 27 #[.val (.int p1), .val (.int p2), .val (.int p3), .val (.int p4)] [])) tg → Steps p.tables e below (s₁.setTop (entryFrame m #[(.int p1), (.int p2), (.int p3), (.int p4)] 4)) tg := fun tg kg => k112 tg (by
            show Steps p.tables e below (T111.setTop (mkF m 24 #[.val (.int p1), .val (.int p2), .val (.int p3), .val (.int p4)] [(.int (own_min p2 p4)), (.int (own_max p1 p3))])) _
            refine XS.icmpNo X111.here hx rfl (hb hby d6_24) rfl (tlt hc113).2.1 ?_
            exact kg)
        have k115 : ∀ tg, Steps p.tables e below (T111.setTop (mkF m 32 #[.val (.int p1), .val (.int p2), .val (.int p3), .val (.int p4)] [(.int (1 : Int32))])) tg → Steps p.tables e below (s₁.setTop (entryFrame m #[(.int p1), (.int p2), (.int p3), (.int p4)] 4)) tg := fun tg kg => k114 tg (by
            show Steps p.tables e below (T111.setTop (mkF m 27 #[.val (.int p1), .val (.int p2), .val (.int p3), .val (.int p4)] [])) _
            refine XS.iconst X111.here hx rfl (hb hby d6_27) ?_
            show Steps p.tables e below (T111.setTop (mkF m 28 #[.val (.int p1), .val (.int p2), .val (.int p3), .val (.int p4)] [(.int (1 : Int32))])) _
            refine XS.goto X111.here hx rfl (pc0 := 28) (pc' := 32) rfl (hb hby d6_28) (by decide) (by decide) ?_
            exact kg)
        obtain ⟨fs, hr, hrun, hended, hW, hsame⟩ := X111.leave (v := some (.int (1 : Int32))) (fun h => by rw [Bd.returns] at h; cases h)
        refine ⟨_, _, k115 _ ?_, hrun, hended, _, _, rfl, ?_, ⟨_, rfl⟩, hW, hsame.mono (by decide) (by decide)⟩
        · show Steps p.tables e below (T111.setTop (mkF m 32 #[.val (.int p1), .val (.int p2), .val (.int p3), .val (.int p4)] [(.int (1 : Int32))])) _
          exact retN X111 hx (t := .boolean) Bd.returns (by simp) (hb hby d6_32) hr
        · show Q6 _ _ _ _ _ _ _ _ T111.heap _
          rw [e111]
          exact ⟨by rw [own_ov, if_pos hc102, if_pos hc105, if_pos hc113], N111, rfl⟩
      · have k116 : ∀ tg, Steps p.tables e below (T111.setTop (mkF m 31 #[.val (.int p1), .val (.int p2), .val (.int p3), .val (.int p4)] [])) tg → Steps p.tables e below (s₁.setTop (entryFrame m #[(.int p1), (.int p2), (.int p3), (.int p4)] 4)) tg := fun tg kg => k112 tg (by
            show Steps p.tables e below (T111.setTop (mkF m 24 #[.val (.int p1), .val (.int p2), .val (.int p3), .val (.int p4)] [(.int (own_min p2 p4)), (.int (own_max p1 p3))])) _
            refine XS.icmpYes X111.here hx rfl (pc0 := 24) (pc' := 31) rfl (hb hby d6_24) rfl (flt hc113).2.1 (by decide) (by decide) ?_
            exact kg)
        have k117 : ∀ tg, Steps p.tables e below (T111.setTop (mkF m 32 #[.val (.int p1), .val (.int p2), .val (.int p3), .val (.int p4)] [(.int (0 : Int32))])) tg → Steps p.tables e below (s₁.setTop (entryFrame m #[(.int p1), (.int p2), (.int p3), (.int p4)] 4)) tg := fun tg kg => k116 tg (by
            show Steps p.tables e below (T111.setTop (mkF m 31 #[.val (.int p1), .val (.int p2), .val (.int p3), .val (.int p4)] [])) _
            refine XS.iconst X111.here hx rfl (hb hby d6_31) ?_
            exact kg)
        obtain ⟨fs, hr, hrun, hended, hW, hsame⟩ := X111.leave (v := some (.int (0 : Int32))) (fun h => by rw [Bd.returns] at h; cases h)
        refine ⟨_, _, k117 _ ?_, hrun, hended, _, _, rfl, ?_, ⟨_, rfl⟩, hW, hsame.mono (by decide) (by decide)⟩
        · show Steps p.tables e below (T111.setTop (mkF m 32 #[.val (.int p1), .val (.int p2), .val (.int p3), .val (.int p4)] [(.int (0 : Int32))])) _
          exact retN X111 hx (t := .boolean) Bd.returns (by simp) (hb hby d6_32) hr
        · show Q6 _ _ _ _ _ _ _ _ T111.heap _
          rw [e111]
          exact ⟨by rw [own_ov, if_pos hc102, if_pos hc105, if_neg hc113], N111, rfl⟩
    · have k118 : ∀ tg, Steps p.tables e below (s₁.setTop (mkF m 12 #[.val (.int p1), .val (.int p2), .val (.int p3), .val (.int p4)] [])) tg → Steps p.tables e below (s₁.setTop (entryFrame m #[(.int p1), (.int p2), (.int p3), (.int p4)] 4)) tg := fun tg kg => k104 tg (by
          show Steps p.tables e below (s₁.setTop (mkF m 9 #[.val (.int p1), .val (.int p2), .val (.int p3), .val (.int p4)] [(.int p4), (.int p3)])) _
          refine XS.icmpNo X0.here hx rfl (hb hby d6_9) rfl (flt hc105).1 ?_
          exact kg)
      have k119 : ∀ tg, Steps p.tables e below (s₁.setTop (mkF m 13 #[.val (.int p1), .val (.int p2), .val (.int p3), .val (.int p4)] [(.int (0 : Int32))])) tg → Steps p.tables e below (s₁.setTop (entryFrame m #[(.int p1), (.int p2), (.int p3), (.int p4)] 4)) tg := fun tg kg => k118 tg (by
          show Steps p.tables e below (s₁.setTop (mkF m 12 #[.val (.int p1), .val (.int p2), .val (.int p3), .val (.int p4)] [])) _
          refine XS.iconst X0.here hx rfl (hb hby d6_12) ?_
          exact kg)
      obtain ⟨fs, hr, hrun, hended, hW, hsame⟩ := X0.leave (v := some (.int (0 : Int32))) (fun h => by rw [Bd.returns] at h; cases h)
      refine ⟨_, _, k119 _ ?_, hrun, hended, _, _, rfl, ?_, ⟨_, rfl⟩, hW, hsame.mono (by decide) (by decide)⟩
      · show Steps p.tables e below (s₁.setTop (mkF m 13 #[.val (.int p1), .val (.int p2), .val (.int p3), .val (.int p4)] [(.int (0 : Int32))])) _
        exact retN X0 hx (t := .boolean) Bd.returns (by simp) (hb hby d6_13) hr
      · show Q6 _ _ _ _ _ _ _ _ s₁.heap _
        rw [e0]
        exact ⟨by rw [own_ov, if_pos hc102, if_neg hc105], N0, rfl⟩
  · have k120 : ∀ tg, Steps p.tables e below (s₁.setTop (mkF m 5 #[.val (.int p1), .val (.int p2), .val (.int p3), .val (.int p4)] [])) tg → Steps p.tables e below (s₁.setTop (entryFrame m #[(.int p1), (.int p2), (.int p3), (.int p4)] 4)) tg := fun tg kg => k101 tg (by
        show Steps p.tables e below (s₁.setTop (mkF m 2 #[.val (.int p1), .val (.int p2), .val (.int p3), .val (.int p4)] [(.int p2), (.int p1)])) _
        refine XS.icmpNo X0.here hx rfl (hb hby d6_2) rfl (flt hc102).1 ?_
        exact kg)
    have k121 : ∀ tg, Steps p.tables e below (s₁.setTop (mkF m 6 #[.val (.int p1), .val (.int p2), .val (.int p3), .val (.int p4)] [(.int (0 : Int32))])) tg → Steps p.tables e below (s₁.setTop (entryFrame m #[(.int p1), (.int p2), (.int p3), (.int p4)] 4)) tg := fun tg kg => k120 tg (by
        show Steps p.tables e below (s₁.setTop (mkF m 5 #[.val (.int p1), .val (.int p2), .val (.int p3), .val (.int p4)] [])) _
        refine XS.iconst X0.here hx rfl (hb hby d6_5) ?_
        exact kg)
    obtain ⟨fs, hr, hrun, hended, hW, hsame⟩ := X0.leave (v := some (.int (0 : Int32))) (fun h => by rw [Bd.returns] at h; cases h)
    refine ⟨_, _, k121 _ ?_, hrun, hended, _, _, rfl, ?_, ⟨_, rfl⟩, hW, hsame.mono (by decide) (by decide)⟩
    · show Steps p.tables e below (s₁.setTop (mkF m 6 #[.val (.int p1), .val (.int p2), .val (.int p3), .val (.int p4)] [(.int (0 : Int32))])) _
      exact retN X0 hx (t := .boolean) Bd.returns (by simp) (hb hby d6_6) hr
    · show Q6 _ _ _ _ _ _ _ _ s₁.heap _
      rw [e0]
      exact ⟨by rw [own_ov, if_neg hc102], N0, rfl⟩
theorem pn_0 : plainName "com/example/opword/opword/dex/TakenBytesAnyTakenPinLaw" = true := by first | (simp [plainName, overriddenIn]; done) | decide +kernel
theorem ef_0 (m : MethodId) (x0 : Int32) (x1 : Int32) (x2 : Int32) (x3 : Int32) (x4 : Int32) (x5 : Int32) : entryFrame m #[(.int x0), (.int x1), (.int x2), (.int x3), (.int x4), (.int x5)] maxLocals = mkF m 0 #[.val (.int x0), .val (.int x1), .val (.int x2), .val (.int x3), .val (.int x4), .val (.int x5), .unset, .unset, .unset, .unset, .unset, .unset, .unset, .unset, .unset] [] := by first | (simp [entryFrame, mkF, argsToLocals, Value.category, maxLocals]; done) | rfl
def Q0 (Z : State) (p1 p2 p3 p4 p5 p6 : Int32) (h0 : Heap) (n0 : Nat) (v : Option Value) (h : Heap) (L : List Loc) : Prop := v = some (.int 1) ∧ Fr n0 L
set_option maxRecDepth 65536 in
set_option maxHeartbeats 40000000 in
theorem rm0 (l : Launch) (Z : State) (a0 : Array Value) (hw : ∀ d ∈ tables_1, d.before a0 Z = true) (ws : List Jvm.Cond) (p1 : Int32) (p2 : Int32) (p3 : Int32) (p4 : Int32) (p5 : Int32) (p6 : Int32)  (h0 : Heap) (n0 : Nat) (Z0 : n0 ≤ h0.size)  :
    MetFree l x (head1 (Jvm.Cond.code x code maxLocals ret :: ws) room_1) (fun a U => a = #[(.int p1), (.int p2), (.int p3), (.int p4), (.int p5), (.int p6)] ∧ Z.Warmed39 U.vm ∧ U.heap = h0) (fun _ _ _ _ _ => True) (fun _ U o U' => ∃ v L, o = .returned v ∧ Q0 Z p1 p2 p3 p4 p5 p6 h0 n0 v U'.heap L ∧ FrameEnd U o U' L room_1.cells room_1.slots) := by
  refine MetFree.of_bodySF (plainFor_of_name pn_0) hisR ?_
  intro p e s m args below meth c s₁ Bd hml0 hP hK
  obtain ⟨rfl, hZ, hh⟩ := hP
  have hx := Bd.exec
  have hby := Bd.bytes
  have hml : c.maxLocals = 15 := hml0
  have hown : s.vm.findClass "com/example/opword/opword/dex/TakenBytesAnyTakenPinLaw" = some m.cls := findClass_of_methodNamed Bd.named
  have hnm := (name_of_methodNamed Bd.named Bd.method).1
  have X0 : Stand p l e room_1 s m #[(.int p1), (.int p2), (.int p3), (.int p4), (.int p5), (.int p6)] below meth c s₁ [] 0 0 := Stand.of_body Bd
  have e0 : s₁.heap = h0 := by rw [← hh, Bd.state]; rfl
  have N0 := Fr.nil n0
  have pre0 : ∀ tg, Steps p.tables e below (s₁.setTop (mkF m 0 #[.val (.int p1), .val (.int p2), .val (.int p3), .val (.int p4), .val (.int p5), .val (.int p6), .unset, .unset, .unset, .unset, .unset, .unset, .unset, .unset, .unset] [])) tg → Steps p.tables e below (s₁.setTop (entryFrame m #[(.int p1), (.int p2), (.int p3), (.int p4), (.int p5), (.int p6)] maxLocals)) tg := fun tg kg => castTop (ef_0 m p1 p2 p3 p4 p5 p6) kg
  have k122 : ∀ tg, Steps p.tables e below (s₁.setTop (mkF m 1 #[.val (.int p1), .val (.int p2), .val (.int p3), .val (.int p4), .val (.int p5), .val (.int p6), .unset, .unset, .unset, .unset, .unset, .unset, .unset, .unset, .unset] [(.int p1)])) tg → Steps p.tables e below (s₁.setTop (entryFrame m #[(.int p1), (.int p2), (.int p3), (.int p4), (.int p5), (.int p6)] maxLocals)) tg := fun tg kg => pre0 tg (by
      show Steps p.tables e below (s₁.setTop (mkF m 0 #[.val (.int p1), .val (.int p2), .val (.int p3), .val (.int p4), .val (.int p5), .val (.int p6), .unset, .unset, .unset, .unset, .unset, .unset, .unset, .unset, .unset] [])) _
      refine XS.iloadN X0.here hx rfl (hb hby at_0) rfl ?_
      exact kg)
  obtain ⟨_, _, ⟨T123, L123, c123, n123⟩, -, X123, ⟨Lc123, hQ123, l123, y123, z123⟩, st123⟩ := Jvm.LawKit.callS X0 hx (y := (⟨"com/example/opword/opword/dex/TakenBytesAnyTakenPinLaw", "pos", "(I)I"⟩ : MethodName)) hown (mvT hZ (hw _ (List.mem_of_getElem? (i := 0) rfl))) (mvT hZ (hw _ (List.mem_of_getElem? (i := 1) rfl))) (mvT hZ (hw _ (List.mem_of_getElem? (i := 2) rfl))) (mvT hZ (hw _ (List.mem_of_getElem? (i := 3) rfl))) (by decide) (backOf (W := 0) (rm1 l Z a0 hw [] p1 h0 n0 Z0) hZ (hw _ (List.mem_of_getElem? (i := 3) rfl)) (hw _ (List.mem_of_getElem? (i := 2) rfl)) (by decide) (by decide)) (g := (mkF m 1 #[.val (.int p1), .val (.int p2), .val (.int p3), .val (.int p4), .val (.int p5), .val (.int p6), .unset, .unset, .unset, .unset, .unset, .unset, .unset, .unset, .unset] [(.int p1)])) rfl (by rw [hml]; rfl) (argsL := [(.int p1)]) (rest := []) (lenOf own_pd0 rfl) rfl (by show 2 * 0 + _ ≤ _; exact Nat.le_of_eq rfl) (hb hby at_1) (fun _ _ => ⟨rfl, e0, (by decide : 0 + 0 ≤ _), (by decide : 0 + 0 ≤ _)⟩)
  dsimp only [Pt.U, Pt.locs, Pt.cells, Pt.slots] at X123 l123 y123 z123 st123 hQ123
  subst l123 y123 z123
  obtain ⟨rfl, N123q, e123⟩ := hQ123
  have N123 := Fr.app N0 N123q
  have k124 : ∀ tg, Steps p.tables e below (T123.setTop (mkF m 4 #[.val (.int p1), .val (.int p2), .val (.int p3), .val (.int p4), .val (.int p5), .val (.int p6), .unset, .unset, .unset, .unset, .unset, .unset, .unset, .unset, .unset] [(.int (own_pos p1))])) tg → Steps p.tables e below (s₁.setTop (entryFrame m #[(.int p1), (.int p2), (.int p3), (.int p4), (.int p5), (.int p6)] maxLocals)) tg := fun tg kg => k122 tg (st123 tg kg)
  have k125 : ∀ tg, Steps p.tables e below (T123.setTop (mkF m 7 #[.val (.int p1), .val (.int p2), .val (.int p3), .val (.int p4), .val (.int p5), .val (.int p6), .val (.int (own_pos p1)), .unset, .unset, .unset, .unset, .unset, .unset, .unset, .unset] [(.int p2)])) tg → Steps p.tables e below (s₁.setTop (entryFrame m #[(.int p1), (.int p2), (.int p3), (.int p4), (.int p5), (.int p6)] maxLocals)) tg := fun tg kg => k124 tg (by
      show Steps p.tables e below (T123.setTop (mkF m 4 #[.val (.int p1), .val (.int p2), .val (.int p3), .val (.int p4), .val (.int p5), .val (.int p6), .unset, .unset, .unset, .unset, .unset, .unset, .unset, .unset, .unset] [(.int (own_pos p1))])) _
      refine XS.istore X123.here hx rfl (hb hby at_4) rfl (l' := #[.val (.int p1), .val (.int p2), .val (.int p3), .val (.int p4), .val (.int p5), .val (.int p6), .val (.int (own_pos p1)), .unset, .unset, .unset, .unset, .unset, .unset, .unset, .unset]) rfl ?_
      show Steps p.tables e below (T123.setTop (mkF m 6 #[.val (.int p1), .val (.int p2), .val (.int p3), .val (.int p4), .val (.int p5), .val (.int p6), .val (.int (own_pos p1)), .unset, .unset, .unset, .unset, .unset, .unset, .unset, .unset] [])) _
      refine XS.iloadN X123.here hx rfl (hb hby at_6) rfl ?_
      exact kg)
  obtain ⟨_, _, ⟨T126, L126, c126, n126⟩, -, X126, ⟨Lc126, hQ126, l126, y126, z126⟩, st126⟩ := Jvm.LawKit.callS X123 hx (y := (⟨"com/example/opword/opword/dex/TakenBytesAnyTakenPinLaw", "pos", "(I)I"⟩ : MethodName)) hown (mvT hZ (hw _ (List.mem_of_getElem? (i := 0) rfl))) (mvT hZ (hw _ (List.mem_of_getElem? (i := 1) rfl))) (mvT hZ (hw _ (List.mem_of_getElem? (i := 2) rfl))) (mvT hZ (hw _ (List.mem_of_getElem? (i := 3) rfl))) (by decide) (backOf (W := 0) (rm1 l Z a0 hw [] p2 h0 n0 Z0) hZ (hw _ (List.mem_of_getElem? (i := 3) rfl)) (hw _ (List.mem_of_getElem? (i := 2) rfl)) (by decide) (by decide)) (g := (mkF m 7 #[.val (.int p1), .val (.int p2), .val (.int p3), .val (.int p4), .val (.int p5), .val (.int p6), .val (.int (own_pos p1)), .unset, .unset, .unset, .unset, .unset, .unset, .unset, .unset] [(.int p2)])) rfl (by rw [hml]; rfl) (argsL := [(.int p2)]) (rest := []) (lenOf own_pd0 rfl) rfl (by show 2 * 0 + _ ≤ _; exact Nat.le_of_eq rfl) (hb hby at_7) (fun _ _ => ⟨rfl, e123, (by decide : 0 + 0 ≤ _), (by decide : 0 + 0 ≤ _)⟩)
  dsimp only [Pt.U, Pt.locs, Pt.cells, Pt.slots] at X126 l126 y126 z126 st126 hQ126
  subst l126 y126 z126
  obtain ⟨rfl, N126q, e126⟩ := hQ126
  have N126 := Fr.app N123 N126q
  have k127 : ∀ tg, Steps p.tables e below (T126.setTop (mkF m 10 #[.val (.int p1), .val (.int p2), .val (.int p3), .val (.int p4), .val (.int p5), .val (.int p6), .val (.int (own_pos p1)), .unset, .unset, .unset, .unset, .unset, .unset, .unset, .unset] [(.int (own_pos p2))])) tg → Steps p.tables e below (s₁.setTop (entryFrame m #[(.int p1), (.int p2), (.int p3), (.int p4), (.int p5), (.int p6)] maxLocals)) tg := fun tg kg => k125 tg (st126 tg kg)
  have k128 : ∀ tg, Steps p.tables e below (T126.setTop (mkF m 13 #[.val (.int p1), .val (.int p2), .val (.int p3), .val (.int p4), .val (.int p5), .val (.int p6), .val (.int (own_pos p1)), .val (.int (own_pos p2)), .unset, .unset, .unset, .unset, .unset, .unset, .unset] [(.int p3)])) tg → Steps p.tables e below (s₁.setTop (entryFrame m #[(.int p1), (.int p2), (.int p3), (.int p4), (.int p5), (.int p6)] maxLocals)) tg := fun tg kg => k127 tg (by
      show Steps p.tables e below (T126.setTop (mkF m 10 #[.val (.int p1), .val (.int p2), .val (.int p3), .val (.int p4), .val (.int p5), .val (.int p6), .val (.int (own_pos p1)), .unset, .unset, .unset, .unset, .unset, .unset, .unset, .unset] [(.int (own_pos p2))])) _
      refine XS.istore X126.here hx rfl (hb hby at_10) rfl (l' := #[.val (.int p1), .val (.int p2), .val (.int p3), .val (.int p4), .val (.int p5), .val (.int p6), .val (.int (own_pos p1)), .val (.int (own_pos p2)), .unset, .unset, .unset, .unset, .unset, .unset, .unset]) rfl ?_
      show Steps p.tables e below (T126.setTop (mkF m 12 #[.val (.int p1), .val (.int p2), .val (.int p3), .val (.int p4), .val (.int p5), .val (.int p6), .val (.int (own_pos p1)), .val (.int (own_pos p2)), .unset, .unset, .unset, .unset, .unset, .unset, .unset] [])) _
      refine XS.iloadN X126.here hx rfl (hb hby at_12) rfl ?_
      exact kg)
  obtain ⟨_, _, ⟨T129, L129, c129, n129⟩, -, X129, ⟨Lc129, hQ129, l129, y129, z129⟩, st129⟩ := Jvm.LawKit.callS X126 hx (y := (⟨"com/example/opword/opword/dex/TakenBytesAnyTakenPinLaw", "pos", "(I)I"⟩ : MethodName)) hown (mvT hZ (hw _ (List.mem_of_getElem? (i := 0) rfl))) (mvT hZ (hw _ (List.mem_of_getElem? (i := 1) rfl))) (mvT hZ (hw _ (List.mem_of_getElem? (i := 2) rfl))) (mvT hZ (hw _ (List.mem_of_getElem? (i := 3) rfl))) (by decide) (backOf (W := 0) (rm1 l Z a0 hw [] p3 h0 n0 Z0) hZ (hw _ (List.mem_of_getElem? (i := 3) rfl)) (hw _ (List.mem_of_getElem? (i := 2) rfl)) (by decide) (by decide)) (g := (mkF m 13 #[.val (.int p1), .val (.int p2), .val (.int p3), .val (.int p4), .val (.int p5), .val (.int p6), .val (.int (own_pos p1)), .val (.int (own_pos p2)), .unset, .unset, .unset, .unset, .unset, .unset, .unset] [(.int p3)])) rfl (by rw [hml]; rfl) (argsL := [(.int p3)]) (rest := []) (lenOf own_pd0 rfl) rfl (by show 2 * 0 + _ ≤ _; exact Nat.le_of_eq rfl) (hb hby at_13) (fun _ _ => ⟨rfl, e126, (by decide : 0 + 0 ≤ _), (by decide : 0 + 0 ≤ _)⟩)
  dsimp only [Pt.U, Pt.locs, Pt.cells, Pt.slots] at X129 l129 y129 z129 st129 hQ129
  subst l129 y129 z129
  obtain ⟨rfl, N129q, e129⟩ := hQ129
  have N129 := Fr.app N126 N129q
  have k130 : ∀ tg, Steps p.tables e below (T129.setTop (mkF m 16 #[.val (.int p1), .val (.int p2), .val (.int p3), .val (.int p4), .val (.int p5), .val (.int p6), .val (.int (own_pos p1)), .val (.int (own_pos p2)), .unset, .unset, .unset, .unset, .unset, .unset, .unset] [(.int (own_pos p3))])) tg → Steps p.tables e below (s₁.setTop (entryFrame m #[(.int p1), (.int p2), (.int p3), (.int p4), (.int p5), (.int p6)] maxLocals)) tg := fun tg kg => k128 tg (st129 tg kg)
  have k131 : ∀ tg, Steps p.tables e below (T129.setTop (mkF m 19 #[.val (.int p1), .val (.int p2), .val (.int p3), .val (.int p4), .val (.int p5), .val (.int p6), .val (.int (own_pos p1)), .val (.int (own_pos p2)), .val (.int (own_pos p3)), .unset, .unset, .unset, .unset, .unset, .unset] [(.int p4)])) tg → Steps p.tables e below (s₁.setTop (entryFrame m #[(.int p1), (.int p2), (.int p3), (.int p4), (.int p5), (.int p6)] maxLocals)) tg := fun tg kg => k130 tg (by
      show Steps p.tables e below (T129.setTop (mkF m 16 #[.val (.int p1), .val (.int p2), .val (.int p3), .val (.int p4), .val (.int p5), .val (.int p6), .val (.int (own_pos p1)), .val (.int (own_pos p2)), .unset, .unset, .unset, .unset, .unset, .unset, .unset] [(.int (own_pos p3))])) _
      refine XS.istore X129.here hx rfl (hb hby at_16) rfl (l' := #[.val (.int p1), .val (.int p2), .val (.int p3), .val (.int p4), .val (.int p5), .val (.int p6), .val (.int (own_pos p1)), .val (.int (own_pos p2)), .val (.int (own_pos p3)), .unset, .unset, .unset, .unset, .unset, .unset]) rfl ?_
      show Steps p.tables e below (T129.setTop (mkF m 18 #[.val (.int p1), .val (.int p2), .val (.int p3), .val (.int p4), .val (.int p5), .val (.int p6), .val (.int (own_pos p1)), .val (.int (own_pos p2)), .val (.int (own_pos p3)), .unset, .unset, .unset, .unset, .unset, .unset] [])) _
      refine XS.iloadN X129.here hx rfl (hb hby at_18) rfl ?_
      exact kg)
  obtain ⟨_, _, ⟨T132, L132, c132, n132⟩, -, X132, ⟨Lc132, hQ132, l132, y132, z132⟩, st132⟩ := Jvm.LawKit.callS X129 hx (y := (⟨"com/example/opword/opword/dex/TakenBytesAnyTakenPinLaw", "pos", "(I)I"⟩ : MethodName)) hown (mvT hZ (hw _ (List.mem_of_getElem? (i := 0) rfl))) (mvT hZ (hw _ (List.mem_of_getElem? (i := 1) rfl))) (mvT hZ (hw _ (List.mem_of_getElem? (i := 2) rfl))) (mvT hZ (hw _ (List.mem_of_getElem? (i := 3) rfl))) (by decide) (backOf (W := 0) (rm1 l Z a0 hw [] p4 h0 n0 Z0) hZ (hw _ (List.mem_of_getElem? (i := 3) rfl)) (hw _ (List.mem_of_getElem? (i := 2) rfl)) (by decide) (by decide)) (g := (mkF m 19 #[.val (.int p1), .val (.int p2), .val (.int p3), .val (.int p4), .val (.int p5), .val (.int p6), .val (.int (own_pos p1)), .val (.int (own_pos p2)), .val (.int (own_pos p3)), .unset, .unset, .unset, .unset, .unset, .unset] [(.int p4)])) rfl (by rw [hml]; rfl) (argsL := [(.int p4)]) (rest := []) (lenOf own_pd0 rfl) rfl (by show 2 * 0 + _ ≤ _; exact Nat.le_of_eq rfl) (hb hby at_19) (fun _ _ => ⟨rfl, e129, (by decide : 0 + 0 ≤ _), (by decide : 0 + 0 ≤ _)⟩)
  dsimp only [Pt.U, Pt.locs, Pt.cells, Pt.slots] at X132 l132 y132 z132 st132 hQ132
  subst l132 y132 z132
  obtain ⟨rfl, N132q, e132⟩ := hQ132
  have N132 := Fr.app N129 N132q
  have k133 : ∀ tg, Steps p.tables e below (T132.setTop (mkF m 22 #[.val (.int p1), .val (.int p2), .val (.int p3), .val (.int p4), .val (.int p5), .val (.int p6), .val (.int (own_pos p1)), .val (.int (own_pos p2)), .val (.int (own_pos p3)), .unset, .unset, .unset, .unset, .unset, .unset] [(.int (own_pos p4))])) tg → Steps p.tables e below (s₁.setTop (entryFrame m #[(.int p1), (.int p2), (.int p3), (.int p4), (.int p5), (.int p6)] maxLocals)) tg := fun tg kg => k131 tg (st132 tg kg)
  have k134 : ∀ tg, Steps p.tables e below (T132.setTop (mkF m 26 #[.val (.int p1), .val (.int p2), .val (.int p3), .val (.int p4), .val (.int p5), .val (.int p6), .val (.int (own_pos p1)), .val (.int (own_pos p2)), .val (.int (own_pos p3)), .val (.int (own_pos p4)), .unset, .unset, .unset, .unset, .unset] [(.int p5)])) tg → Steps p.tables e below (s₁.setTop (entryFrame m #[(.int p1), (.int p2), (.int p3), (.int p4), (.int p5), (.int p6)] maxLocals)) tg := fun tg kg => k133 tg (by
      show Steps p.tables e below (T132.setTop (mkF m 22 #[.val (.int p1), .val (.int p2), .val (.int p3), .val (.int p4), .val (.int p5), .val (.int p6), .val (.int (own_pos p1)), .val (.int (own_pos p2)), .val (.int (own_pos p3)), .unset, .unset, .unset, .unset, .unset, .unset] [(.int (own_pos p4))])) _
      refine XS.istore X132.here hx rfl (hb hby at_22) rfl (l' := #[.val (.int p1), .val (.int p2), .val (.int p3), .val (.int p4), .val (.int p5), .val (.int p6), .val (.int (own_pos p1)), .val (.int (own_pos p2)), .val (.int (own_pos p3)), .val (.int (own_pos p4)), .unset, .unset, .unset, .unset, .unset]) rfl ?_
      show Steps p.tables e below (T132.setTop (mkF m 24 #[.val (.int p1), .val (.int p2), .val (.int p3), .val (.int p4), .val (.int p5), .val (.int p6), .val (.int (own_pos p1)), .val (.int (own_pos p2)), .val (.int (own_pos p3)), .val (.int (own_pos p4)), .unset, .unset, .unset, .unset, .unset] [])) _
      refine XS.iload X132.here hx rfl (hb hby at_24) rfl ?_
      exact kg)
  obtain ⟨_, _, ⟨T135, L135, c135, n135⟩, -, X135, ⟨Lc135, hQ135, l135, y135, z135⟩, st135⟩ := Jvm.LawKit.callS X132 hx (y := (⟨"com/example/opword/opword/dex/TakenBytesAnyTakenPinLaw", "pos", "(I)I"⟩ : MethodName)) hown (mvT hZ (hw _ (List.mem_of_getElem? (i := 0) rfl))) (mvT hZ (hw _ (List.mem_of_getElem? (i := 1) rfl))) (mvT hZ (hw _ (List.mem_of_getElem? (i := 2) rfl))) (mvT hZ (hw _ (List.mem_of_getElem? (i := 3) rfl))) (by decide) (backOf (W := 0) (rm1 l Z a0 hw [] p5 h0 n0 Z0) hZ (hw _ (List.mem_of_getElem? (i := 3) rfl)) (hw _ (List.mem_of_getElem? (i := 2) rfl)) (by decide) (by decide)) (g := (mkF m 26 #[.val (.int p1), .val (.int p2), .val (.int p3), .val (.int p4), .val (.int p5), .val (.int p6), .val (.int (own_pos p1)), .val (.int (own_pos p2)), .val (.int (own_pos p3)), .val (.int (own_pos p4)), .unset, .unset, .unset, .unset, .unset] [(.int p5)])) rfl (by rw [hml]; rfl) (argsL := [(.int p5)]) (rest := []) (lenOf own_pd0 rfl) rfl (by show 2 * 0 + _ ≤ _; exact Nat.le_of_eq rfl) (hb hby at_26) (fun _ _ => ⟨rfl, e132, (by decide : 0 + 0 ≤ _), (by decide : 0 + 0 ≤ _)⟩)
  dsimp only [Pt.U, Pt.locs, Pt.cells, Pt.slots] at X135 l135 y135 z135 st135 hQ135
  subst l135 y135 z135
  obtain ⟨rfl, N135q, e135⟩ := hQ135
  have N135 := Fr.app N132 N135q
  have k136 : ∀ tg, Steps p.tables e below (T135.setTop (mkF m 29 #[.val (.int p1), .val (.int p2), .val (.int p3), .val (.int p4), .val (.int p5), .val (.int p6), .val (.int (own_pos p1)), .val (.int (own_pos p2)), .val (.int (own_pos p3)), .val (.int (own_pos p4)), .unset, .unset, .unset, .unset, .unset] [(.int (own_pos p5))])) tg → Steps p.tables e below (s₁.setTop (entryFrame m #[(.int p1), (.int p2), (.int p3), (.int p4), (.int p5), (.int p6)] maxLocals)) tg := fun tg kg => k134 tg (st135 tg kg)
  have k137 : ∀ tg, Steps p.tables e below (T135.setTop (mkF m 33 #[.val (.int p1), .val (.int p2), .val (.int p3), .val (.int p4), .val (.int p5), .val (.int p6), .val (.int (own_pos p1)), .val (.int (own_pos p2)), .val (.int (own_pos p3)), .val (.int (own_pos p4)), .val (.int (own_pos p5)), .unset, .unset, .unset, .unset] [(.int p6)])) tg → Steps p.tables e below (s₁.setTop (entryFrame m #[(.int p1), (.int p2), (.int p3), (.int p4), (.int p5), (.int p6)] maxLocals)) tg := fun tg kg => k136 tg (by
      show Steps p.tables e below (T135.setTop (mkF m 29 #[.val (.int p1), .val (.int p2), .val (.int p3), .val (.int p4), .val (.int p5), .val (.int p6), .val (.int (own_pos p1)), .val (.int (own_pos p2)), .val (.int (own_pos p3)), .val (.int (own_pos p4)), .unset, .unset, .unset, .unset, .unset] [(.int (own_pos p5))])) _
      refine XS.istore X135.here hx rfl (hb hby at_29) rfl (l' := #[.val (.int p1), .val (.int p2), .val (.int p3), .val (.int p4), .val (.int p5), .val (.int p6), .val (.int (own_pos p1)), .val (.int (own_pos p2)), .val (.int (own_pos p3)), .val (.int (own_pos p4)), .val (.int (own_pos p5)), .unset, .unset, .unset, .unset]) rfl ?_
      show Steps p.tables e below (T135.setTop (mkF m 31 #[.val (.int p1), .val (.int p2), .val (.int p3), .val (.int p4), .val (.int p5), .val (.int p6), .val (.int (own_pos p1)), .val (.int (own_pos p2)), .val (.int (own_pos p3)), .val (.int (own_pos p4)), .val (.int (own_pos p5)), .unset, .unset, .unset, .unset] [])) _
      refine XS.iload X135.here hx rfl (hb hby at_31) rfl ?_
      exact kg)
  obtain ⟨_, _, ⟨T138, L138, c138, n138⟩, -, X138, ⟨Lc138, hQ138, l138, y138, z138⟩, st138⟩ := Jvm.LawKit.callS X135 hx (y := (⟨"com/example/opword/opword/dex/TakenBytesAnyTakenPinLaw", "pos", "(I)I"⟩ : MethodName)) hown (mvT hZ (hw _ (List.mem_of_getElem? (i := 0) rfl))) (mvT hZ (hw _ (List.mem_of_getElem? (i := 1) rfl))) (mvT hZ (hw _ (List.mem_of_getElem? (i := 2) rfl))) (mvT hZ (hw _ (List.mem_of_getElem? (i := 3) rfl))) (by decide) (backOf (W := 0) (rm1 l Z a0 hw [] p6 h0 n0 Z0) hZ (hw _ (List.mem_of_getElem? (i := 3) rfl)) (hw _ (List.mem_of_getElem? (i := 2) rfl)) (by decide) (by decide)) (g := (mkF m 33 #[.val (.int p1), .val (.int p2), .val (.int p3), .val (.int p4), .val (.int p5), .val (.int p6), .val (.int (own_pos p1)), .val (.int (own_pos p2)), .val (.int (own_pos p3)), .val (.int (own_pos p4)), .val (.int (own_pos p5)), .unset, .unset, .unset, .unset] [(.int p6)])) rfl (by rw [hml]; rfl) (argsL := [(.int p6)]) (rest := []) (lenOf own_pd0 rfl) rfl (by show 2 * 0 + _ ≤ _; exact Nat.le_of_eq rfl) (hb hby at_33) (fun _ _ => ⟨rfl, e135, (by decide : 0 + 0 ≤ _), (by decide : 0 + 0 ≤ _)⟩)
  dsimp only [Pt.U, Pt.locs, Pt.cells, Pt.slots] at X138 l138 y138 z138 st138 hQ138
  subst l138 y138 z138
  obtain ⟨rfl, N138q, e138⟩ := hQ138
  have N138 := Fr.app N135 N138q
  have k139 : ∀ tg, Steps p.tables e below (T138.setTop (mkF m 36 #[.val (.int p1), .val (.int p2), .val (.int p3), .val (.int p4), .val (.int p5), .val (.int p6), .val (.int (own_pos p1)), .val (.int (own_pos p2)), .val (.int (own_pos p3)), .val (.int (own_pos p4)), .val (.int (own_pos p5)), .unset, .unset, .unset, .unset] [(.int (own_pos p6))])) tg → Steps p.tables e below (s₁.setTop (entryFrame m #[(.int p1), (.int p2), (.int p3), (.int p4), (.int p5), (.int p6)] maxLocals)) tg := fun tg kg => k137 tg (st138 tg kg)
  have k140 : ∀ tg, Steps p.tables e below (T138.setTop (mkF m 38 #[.val (.int p1), .val (.int p2), .val (.int p3), .val (.int p4), .val (.int p5), .val (.int p6), .val (.int (own_pos p1)), .val (.int (own_pos p2)), .val (.int (own_pos p3)), .val (.int (own_pos p4)), .val (.int (own_pos p5)), .val (.int (own_pos p6)), .unset, .unset, .unset] [])) tg → Steps p.tables e below (s₁.setTop (entryFrame m #[(.int p1), (.int p2), (.int p3), (.int p4), (.int p5), (.int p6)] maxLocals)) tg := fun tg kg => k139 tg (by
      show Steps p.tables e below (T138.setTop (mkF m 36 #[.val (.int p1), .val (.int p2), .val (.int p3), .val (.int p4), .val (.int p5), .val (.int p6), .val (.int (own_pos p1)), .val (.int (own_pos p2)), .val (.int (own_pos p3)), .val (.int (own_pos p4)), .val (.int (own_pos p5)), .unset, .unset, .unset, .unset] [(.int (own_pos p6))])) _
      refine XS.istore X138.here hx rfl (hb hby at_36) rfl (l' := #[.val (.int p1), .val (.int p2), .val (.int p3), .val (.int p4), .val (.int p5), .val (.int p6), .val (.int (own_pos p1)), .val (.int (own_pos p2)), .val (.int (own_pos p3)), .val (.int (own_pos p4)), .val (.int (own_pos p5)), .val (.int (own_pos p6)), .unset, .unset, .unset]) rfl ?_
      exact kg)
  obtain ⟨a, hna, ia⟩ := own_posr p1
  obtain ⟨x1, ex1⟩ : ∃ z, z = (own_pos p1) := ⟨_, rfl⟩
  rw [← ex1] at k140
  rw [← ex1] at ia
  obtain ⟨b, hnb, ib⟩ := own_posr p2
  obtain ⟨x2, ex2⟩ : ∃ z, z = (own_pos p2) := ⟨_, rfl⟩
  rw [← ex2] at k140
  rw [← ex2] at ib
  obtain ⟨c1, hnc1, ic1⟩ := own_posr p3
  obtain ⟨x3, ex3⟩ : ∃ z, z = (own_pos p3) := ⟨_, rfl⟩
  rw [← ex3] at k140
  rw [← ex3] at ic1
  obtain ⟨d, hnd, id⟩ := own_posr p4
  obtain ⟨x4, ex4⟩ : ∃ z, z = (own_pos p4) := ⟨_, rfl⟩
  rw [← ex4] at k140
  rw [← ex4] at id
  obtain ⟨u, hnu, iu⟩ := own_posr p5
  obtain ⟨x5, ex5⟩ : ∃ z, z = (own_pos p5) := ⟨_, rfl⟩
  rw [← ex5] at k140
  rw [← ex5] at iu
  obtain ⟨v1, hnv1, iv1⟩ := own_posr p6
  obtain ⟨x6, ex6⟩ : ∃ z, z = (own_pos p6) := ⟨_, rfl⟩
  rw [← ex6] at k140
  rw [← ex6] at iv1
  obtain ⟨T141, h141, X141, e141, E141, A141, D141, -, st141⟩ := newO X138 hx hZ hown (hw _ (List.mem_of_getElem? (i := 5) rfl)) (hw _ (List.mem_of_getElem? (i := 6) rfl)) (hw _ (List.mem_of_getElem? (i := 7) rfl)) e138 (g := (mkF m 38 #[.val (.int p1), .val (.int p2), .val (.int p3), .val (.int p4), .val (.int p5), .val (.int p6), .val (.int x1), .val (.int x2), .val (.int x3), .val (.int x4), .val (.int x5), .val (.int x6), .unset, .unset, .unset] [])) rfl (hb hby at_38) (by decide) (by decide)
  obtain ⟨b141, g141⟩ : ∃ z, z = h0.size := ⟨_, rfl⟩
  rw [← g141] at A141 D141 st141
  have F141_words : Fld Z h141 b141 "com/example/opword/opword/dex/TakenBytes" "words" "[J" .null := D141 (Or.inr (hw _ (List.mem_of_getElem? (i := 16) rfl))) (ty := (.array .long)) (by decide)
  have k142 : ∀ tg, Steps p.tables e below (T141.setTop (mkF m 41 #[.val (.int p1), .val (.int p2), .val (.int p3), .val (.int p4), .val (.int p5), .val (.int p6), .val (.int x1), .val (.int x2), .val (.int x3), .val (.int x4), .val (.int x5), .val (.int x6), .unset, .unset, .unset] [(.ref b141)])) tg → Steps p.tables e below (s₁.setTop (entryFrame m #[(.int p1), (.int p2), (.int p3), (.int p4), (.int p5), (.int p6)] maxLocals)) tg := fun tg kg => k140 tg (st141 tg kg)
  have Za : n0 ≤ h141.size := Nat.le_trans Z0 E141.1
  have ge : n0 ≤ b141 := Nat.le_trans Z0 (Nat.le_of_eq g141.symm)
  have k143 : ∀ tg, Steps p.tables e below (T141.setTop (mkF m 45 #[.val (.int p1), .val (.int p2), .val (.int p3), .val (.int p4), .val (.int p5), .val (.int p6), .val (.int x1), .val (.int x2), .val (.int x3), .val (.int x4), .val (.int x5), .val (.int x6), .unset, .unset, .unset] [(.int (320 : Int32)), (.ref b141), (.ref b141)])) tg → Steps p.tables e below (s₁.setTop (entryFrame m #[(.int p1), (.int p2), (.int p3), (.int p4), (.int p5), (.int p6)] maxLocals)) tg := fun tg kg => k142 tg (by
      show Steps p.tables e below (T141.setTop (mkF m 41 #[.val (.int p1), .val (.int p2), .val (.int p3), .val (.int p4), .val (.int p5), .val (.int p6), .val (.int x1), .val (.int x2), .val (.int x3), .val (.int x4), .val (.int x5), .val (.int x6), .unset, .unset, .unset] [(.ref b141)])) _
      refine XS.dup X141.here hx rfl (hb hby at_41) rfl rfl ?_
      show Steps p.tables e below (T141.setTop (mkF m 42 #[.val (.int p1), .val (.int p2), .val (.int p3), .val (.int p4), .val (.int p5), .val (.int p6), .val (.int x1), .val (.int x2), .val (.int x3), .val (.int x4), .val (.int x5), .val (.int x6), .unset, .unset, .unset] [(.ref b141), (.ref b141)])) _
      refine XS.sipush X141.here hx rfl (hb hby at_42) ?_
      exact kg)
  obtain ⟨_, _, ⟨T144, L144, c144, n144⟩, -, X144, ⟨Lc144, hQ144, l144, y144, z144⟩, st144⟩ := X141.specialBack hx (y := (⟨"com/example/opword/opword/dex/TakenBytes", "<init>", "(I)V"⟩ : MethodName)) rfl hown (mvT hZ (hw _ (List.mem_of_getElem? (i := 8) rfl))) (mvT hZ (hw _ (List.mem_of_getElem? (i := 9) rfl))) (mvT hZ (hw _ (List.mem_of_getElem? (i := 10) rfl))) (by decide) (backOf (W := 1) (rm2 l Z a0 hw [] b141 (320 : Int32) 5 h141 n0 Za A141 F141_words ge (by decide +kernel) (by decide)) hZ (hw _ (List.mem_of_getElem? (i := 10) rfl)) (hw _ (List.mem_of_getElem? (i := 7) rfl)) (by decide) (by decide)) (g := (mkF m 45 #[.val (.int p1), .val (.int p2), .val (.int p3), .val (.int p4), .val (.int p5), .val (.int p6), .val (.int x1), .val (.int x2), .val (.int x3), .val (.int x4), .val (.int x5), .val (.int x6), .unset, .unset, .unset] [(.int (320 : Int32)), (.ref b141), (.ref b141)])) rfl (by rw [hml]; rfl) (Steps.refl _) (a := b141) (argsL := [(.int (320 : Int32))]) (rest := [(.ref b141)]) (lenOf own_pd1 rfl) rfl (by show 2 * 0 + _ ≤ _; exact Nat.le_of_eq rfl) (hb hby at_45) (fun _ _ => ⟨rfl, e141, (by decide : 1 + 1 ≤ _), (by decide : 1 + 5 ≤ _)⟩)
  dsimp only [Pt.U, Pt.locs, Pt.cells, Pt.slots] at X144 l144 y144 z144 st144 hQ144
  subst l144 y144 z144
  obtain ⟨rfl, N144q, Ka, Ea, bw, gb, nb, Fa, Va⟩ := hQ144
  have N144 := Fr.app N138 N144q
  have k145 : ∀ tg, Steps p.tables e below (T144.setTop (mkF m 48 #[.val (.int p1), .val (.int p2), .val (.int p3), .val (.int p4), .val (.int p5), .val (.int p6), .val (.int x1), .val (.int x2), .val (.int x3), .val (.int x4), .val (.int x5), .val (.int x6), .unset, .unset, .unset] [(.ref b141)])) tg → Steps p.tables e below (s₁.setTop (entryFrame m #[(.int p1), (.int p2), (.int p3), (.int p4), (.int p5), (.int p6)] maxLocals)) tg := fun tg kg => k143 tg (st144.trans kg)
  have Zb : n0 ≤ T144.heap.size := Nat.le_trans Za Ka.1
  have k146 : ∀ tg, Steps p.tables e below (T144.setTop (mkF m 56 #[.val (.int p1), .val (.int p2), .val (.int p3), .val (.int p4), .val (.int p5), .val (.int p6), .val (.int x1), .val (.int x2), .val (.int x3), .val (.int x4), .val (.int x5), .val (.int x6), .val (.ref b141), .unset, .unset] [(.int x2), (.int x1), (.ref b141)])) tg → Steps p.tables e below (s₁.setTop (entryFrame m #[(.int p1), (.int p2), (.int p3), (.int p4), (.int p5), (.int p6)] maxLocals)) tg := fun tg kg => k145 tg (by
      show Steps p.tables e below (T144.setTop (mkF m 48 #[.val (.int p1), .val (.int p2), .val (.int p3), .val (.int p4), .val (.int p5), .val (.int p6), .val (.int x1), .val (.int x2), .val (.int x3), .val (.int x4), .val (.int x5), .val (.int x6), .unset, .unset, .unset] [(.ref b141)])) _
      refine XS.astore X144.here hx rfl (hb hby at_48) rfl rfl (l' := #[.val (.int p1), .val (.int p2), .val (.int p3), .val (.int p4), .val (.int p5), .val (.int p6), .val (.int x1), .val (.int x2), .val (.int x3), .val (.int x4), .val (.int x5), .val (.int x6), .val (.ref b141), .unset, .unset]) rfl ?_
      show Steps p.tables e below (T144.setTop (mkF m 50 #[.val (.int p1), .val (.int p2), .val (.int p3), .val (.int p4), .val (.int p5), .val (.int p6), .val (.int x1), .val (.int x2), .val (.int x3), .val (.int x4), .val (.int x5), .val (.int x6), .val (.ref b141), .unset, .unset] [])) _
      refine XS.aload X144.here hx rfl (hb hby at_50) rfl rfl ?_
      show Steps p.tables e below (T144.setTop (mkF m 52 #[.val (.int p1), .val (.int p2), .val (.int p3), .val (.int p4), .val (.int p5), .val (.int p6), .val (.int x1), .val (.int x2), .val (.int x3), .val (.int x4), .val (.int x5), .val (.int x6), .val (.ref b141), .unset, .unset] [(.ref b141)])) _
      refine XS.iload X144.here hx rfl (hb hby at_52) rfl ?_
      show Steps p.tables e below (T144.setTop (mkF m 54 #[.val (.int p1), .val (.int p2), .val (.int p3), .val (.int p4), .val (.int p5), .val (.int p6), .val (.int x1), .val (.int x2), .val (.int x3), .val (.int x4), .val (.int x5), .val (.int x6), .val (.ref b141), .unset, .unset] [(.int x1), (.ref b141)])) _
      refine XS.iload X144.here hx rfl (hb hby at_54) rfl ?_
      exact kg)
  obtain ⟨cq147, kq147, q147a, q147b, q147c⟩ := isOf hZ rfl Ea
  obtain ⟨_, _, ⟨T147, L147, c147, n147⟩, -, X147, ⟨Lc147, hQ147, l147, y147, z147⟩, st147⟩ := X144.virtualBack hx (y := (⟨"com/example/opword/opword/dex/TakenBytes", "take", "(II)V"⟩ : MethodName)) (z := (⟨"com/example/opword/opword/dex/TakenBytes", "take", "(II)V"⟩ : MethodName)) hown (mvT hZ (hw _ (List.mem_of_getElem? (i := 17) rfl))) (mvT hZ (hw _ (List.mem_of_getElem? (i := 18) rfl))) (notFace_of_selects (args := #[]) (mvT hZ (hw _ (List.mem_of_getElem? (i := 20) rfl)))) (mvT hZ (hw _ (List.mem_of_getElem? (i := 20) rfl))) (mvT hZ (hw _ (List.mem_of_getElem? (i := 19) rfl))) (by decide) (backOf (W := 0) (rm4 l Z a0 hw [] b141 x1 x2 bw a b 5 (fun _ => 0) T144.heap n0 Zb ia ib (by omega) (by decide) nb gb Fa Va) hZ (hw _ (List.mem_of_getElem? (i := 21) rfl)) (hw _ (List.mem_of_getElem? (i := 7) rfl)) (by decide) (by decide)) q147a q147c (g := (mkF m 56 #[.val (.int p1), .val (.int p2), .val (.int p3), .val (.int p4), .val (.int p5), .val (.int p6), .val (.int x1), .val (.int x2), .val (.int x3), .val (.int x4), .val (.int x5), .val (.int x6), .val (.ref b141), .unset, .unset] [(.int x2), (.int x1), (.ref b141)])) rfl (by rw [hml]; rfl) (Steps.refl _) (argsL := [(.int x1), (.int x2)]) (rest := []) (lenOf own_pd3 rfl) rfl (by show 2 * 0 + _ ≤ _; exact Nat.le_of_eq rfl) (hb hby at_56) (fun _ _ => ⟨rfl, rfl, (by decide : 2 + 0 ≤ _), (by decide : 6 + 0 ≤ _)⟩)
  dsimp only [Pt.U, Pt.locs, Pt.cells, Pt.slots] at X147 l147 y147 z147 st147 hQ147
  subst l147 y147 z147
  obtain ⟨rfl, N147q, Kb, Fb, f1, Vb, hf1⟩ := hQ147
  have N147 := Fr.app N144 N147q
  have k148 : ∀ tg, Steps p.tables e below (T147.setTop (mkF m 59 #[.val (.int p1), .val (.int p2), .val (.int p3), .val (.int p4), .val (.int p5), .val (.int p6), .val (.int x1), .val (.int x2), .val (.int x3), .val (.int x4), .val (.int x5), .val (.int x6), .val (.ref b141), .unset, .unset] [])) tg → Steps p.tables e below (s₁.setTop (entryFrame m #[(.int p1), (.int p2), (.int p3), (.int p4), (.int p5), (.int p6)] maxLocals)) tg := fun tg kg => k146 tg (st147.trans kg)
  have Zc : n0 ≤ T147.heap.size := Nat.le_trans Zb Kb.1
  have Eb := Ea.keep Kb
  have k149 : ∀ tg, Steps p.tables e below (T147.setTop (mkF m 65 #[.val (.int p1), .val (.int p2), .val (.int p3), .val (.int p4), .val (.int p5), .val (.int p6), .val (.int x1), .val (.int x2), .val (.int x3), .val (.int x4), .val (.int x5), .val (.int x6), .val (.ref b141), .unset, .unset] [(.int x4), (.int x3), (.ref b141)])) tg → Steps p.tables e below (s₁.setTop (entryFrame m #[(.int p1), (.int p2), (.int p3), (.int p4), (.int p5), (.int p6)] maxLocals)) tg := fun tg kg => k148 tg (by
      show Steps p.tables e below (T147.setTop (mkF m 59 #[.val (.int p1), .val (.int p2), .val (.int p3), .val (.int p4), .val (.int p5), .val (.int p6), .val (.int x1), .val (.int x2), .val (.int x3), .val (.int x4), .val (.int x5), .val (.int x6), .val (.ref b141), .unset, .unset] [])) _
      refine XS.aload X147.here hx rfl (hb hby at_59) rfl rfl ?_
      show Steps p.tables e below (T147.setTop (mkF m 61 #[.val (.int p1), .val (.int p2), .val (.int p3), .val (.int p4), .val (.int p5), .val (.int p6), .val (.int x1), .val (.int x2), .val (.int x3), .val (.int x4), .val (.int x5), .val (.int x6), .val (.ref b141), .unset, .unset] [(.ref b141)])) _
      refine XS.iload X147.here hx rfl (hb hby at_61) rfl ?_
      show Steps p.tables e below (T147.setTop (mkF m 63 #[.val (.int p1), .val (.int p2), .val (.int p3), .val (.int p4), .val (.int p5), .val (.int p6), .val (.int x1), .val (.int x2), .val (.int x3), .val (.int x4), .val (.int x5), .val (.int x6), .val (.ref b141), .unset, .unset] [(.int x3), (.ref b141)])) _
      refine XS.iload X147.here hx rfl (hb hby at_63) rfl ?_
      exact kg)
  obtain ⟨cq150, kq150, q150a, q150b, q150c⟩ := isOf hZ rfl Eb
  obtain ⟨_, _, ⟨T150, L150, c150, n150⟩, -, X150, ⟨Lc150, hQ150, l150, y150, z150⟩, st150⟩ := X147.virtualBack hx (y := (⟨"com/example/opword/opword/dex/TakenBytes", "take", "(II)V"⟩ : MethodName)) (z := (⟨"com/example/opword/opword/dex/TakenBytes", "take", "(II)V"⟩ : MethodName)) hown (mvT hZ (hw _ (List.mem_of_getElem? (i := 17) rfl))) (mvT hZ (hw _ (List.mem_of_getElem? (i := 18) rfl))) (notFace_of_selects (args := #[]) (mvT hZ (hw _ (List.mem_of_getElem? (i := 20) rfl)))) (mvT hZ (hw _ (List.mem_of_getElem? (i := 20) rfl))) (mvT hZ (hw _ (List.mem_of_getElem? (i := 19) rfl))) (by decide) (backOf (W := 0) (rm4 l Z a0 hw [] b141 x3 x4 bw c1 d 5 f1 T147.heap n0 Zc ic1 id (by omega) (by decide) nb gb Fb Vb) hZ (hw _ (List.mem_of_getElem? (i := 21) rfl)) (hw _ (List.mem_of_getElem? (i := 7) rfl)) (by decide) (by decide)) q150a q150c (g := (mkF m 65 #[.val (.int p1), .val (.int p2), .val (.int p3), .val (.int p4), .val (.int p5), .val (.int p6), .val (.int x1), .val (.int x2), .val (.int x3), .val (.int x4), .val (.int x5), .val (.int x6), .val (.ref b141), .unset, .unset] [(.int x4), (.int x3), (.ref b141)])) rfl (by rw [hml]; rfl) (Steps.refl _) (argsL := [(.int x3), (.int x4)]) (rest := []) (lenOf own_pd3 rfl) rfl (by show 2 * 0 + _ ≤ _; exact Nat.le_of_eq rfl) (hb hby at_65) (fun _ _ => ⟨rfl, rfl, (by decide : 2 + 0 ≤ _), (by decide : 6 + 0 ≤ _)⟩)
  dsimp only [Pt.U, Pt.locs, Pt.cells, Pt.slots] at X150 l150 y150 z150 st150 hQ150
  subst l150 y150 z150
  obtain ⟨rfl, N150q, Kc, Fc, f2, Vc, hf2⟩ := hQ150
  have N150 := Fr.app N147 N150q
  have k151 : ∀ tg, Steps p.tables e below (T150.setTop (mkF m 68 #[.val (.int p1), .val (.int p2), .val (.int p3), .val (.int p4), .val (.int p5), .val (.int p6), .val (.int x1), .val (.int x2), .val (.int x3), .val (.int x4), .val (.int x5), .val (.int x6), .val (.ref b141), .unset, .unset] [])) tg → Steps p.tables e below (s₁.setTop (entryFrame m #[(.int p1), (.int p2), (.int p3), (.int p4), (.int p5), (.int p6)] maxLocals)) tg := fun tg kg => k149 tg (st150.trans kg)
  have Zd : n0 ≤ T150.heap.size := Nat.le_trans Zc Kc.1
  have Ec := Eb.keep Kc
  have k152 : ∀ tg, Steps p.tables e below (T150.setTop (mkF m 74 #[.val (.int p1), .val (.int p2), .val (.int p3), .val (.int p4), .val (.int p5), .val (.int p6), .val (.int x1), .val (.int x2), .val (.int x3), .val (.int x4), .val (.int x5), .val (.int x6), .val (.ref b141), .unset, .unset] [(.int x6), (.int x5), (.ref b141)])) tg → Steps p.tables e below (s₁.setTop (entryFrame m #[(.int p1), (.int p2), (.int p3), (.int p4), (.int p5), (.int p6)] maxLocals)) tg := fun tg kg => k151 tg (by
      show Steps p.tables e below (T150.setTop (mkF m 68 #[.val (.int p1), .val (.int p2), .val (.int p3), .val (.int p4), .val (.int p5), .val (.int p6), .val (.int x1), .val (.int x2), .val (.int x3), .val (.int x4), .val (.int x5), .val (.int x6), .val (.ref b141), .unset, .unset] [])) _
      refine XS.aload X150.here hx rfl (hb hby at_68) rfl rfl ?_
      show Steps p.tables e below (T150.setTop (mkF m 70 #[.val (.int p1), .val (.int p2), .val (.int p3), .val (.int p4), .val (.int p5), .val (.int p6), .val (.int x1), .val (.int x2), .val (.int x3), .val (.int x4), .val (.int x5), .val (.int x6), .val (.ref b141), .unset, .unset] [(.ref b141)])) _
      refine XS.iload X150.here hx rfl (hb hby at_70) rfl ?_
      show Steps p.tables e below (T150.setTop (mkF m 72 #[.val (.int p1), .val (.int p2), .val (.int p3), .val (.int p4), .val (.int p5), .val (.int p6), .val (.int x1), .val (.int x2), .val (.int x3), .val (.int x4), .val (.int x5), .val (.int x6), .val (.ref b141), .unset, .unset] [(.int x5), (.ref b141)])) _
      refine XS.iload X150.here hx rfl (hb hby at_72) rfl ?_
      exact kg)
  obtain ⟨cq153, kq153, q153a, q153b, q153c⟩ := isOf hZ rfl Ec
  obtain ⟨_, _, ⟨T153, L153, c153, n153⟩, -, X153, ⟨Lc153, hQ153, l153, y153, z153⟩, st153⟩ := X150.virtualBack hx (y := (⟨"com/example/opword/opword/dex/TakenBytes", "anyTaken", "(II)Z"⟩ : MethodName)) (z := (⟨"com/example/opword/opword/dex/TakenBytes", "anyTaken", "(II)Z"⟩ : MethodName)) hown (mvT hZ (hw _ (List.mem_of_getElem? (i := 23) rfl))) (mvT hZ (hw _ (List.mem_of_getElem? (i := 24) rfl))) (notFace_of_selects (args := #[]) (mvT hZ (hw _ (List.mem_of_getElem? (i := 26) rfl)))) (mvT hZ (hw _ (List.mem_of_getElem? (i := 26) rfl))) (mvT hZ (hw _ (List.mem_of_getElem? (i := 25) rfl))) (by decide) (backOf (W := 0) (rm5 l Z a0 hw [] b141 x5 x6 bw u v1 5 f2 T150.heap n0 Zd iu iv1 (by omega) (by decide) Fc Vc) hZ (hw _ (List.mem_of_getElem? (i := 27) rfl)) (hw _ (List.mem_of_getElem? (i := 7) rfl)) (by decide) (by decide)) q153a q153c (g := (mkF m 74 #[.val (.int p1), .val (.int p2), .val (.int p3), .val (.int p4), .val (.int p5), .val (.int p6), .val (.int x1), .val (.int x2), .val (.int x3), .val (.int x4), .val (.int x5), .val (.int x6), .val (.ref b141), .unset, .unset] [(.int x6), (.int x5), (.ref b141)])) rfl (by rw [hml]; rfl) (Steps.refl _) (argsL := [(.int x5), (.int x6)]) (rest := []) (lenOf own_pd4 rfl) rfl (by show 2 * 0 + _ ≤ _; exact Nat.le_of_eq rfl) (hb hby at_74) (fun _ _ => ⟨rfl, rfl, (by decide : 2 + 0 ≤ _), (by decide : 6 + 0 ≤ _)⟩)
  dsimp only [Pt.U, Pt.locs, Pt.cells, Pt.slots] at X153 l153 y153 z153 st153 hQ153
  subst l153 y153 z153
  obtain ⟨rfl, N153q, e153⟩ := hQ153
  have N153 := Fr.app N150 N153q
  have k154 : ∀ tg, Steps p.tables e below (T153.setTop (mkF m 77 #[.val (.int p1), .val (.int p2), .val (.int p3), .val (.int p4), .val (.int p5), .val (.int p6), .val (.int x1), .val (.int x2), .val (.int x3), .val (.int x4), .val (.int x5), .val (.int x6), .val (.ref b141), .unset, .unset] [(.int (own_ab f2 u v1))])) tg → Steps p.tables e below (s₁.setTop (entryFrame m #[(.int p1), (.int p2), (.int p3), (.int p4), (.int p5), (.int p6)] maxLocals)) tg := fun tg kg => k152 tg (st153.trans kg)
  have o1 := own_ovp ia ib iu iv1
  have o2 := own_ovp ic1 id iu iv1
  have hb2 : ∀ t, own_bit f2 t = true ↔ (a ≤ t ∧ t < b) ∨ (c1 ≤ t ∧ t < d) := fun t => by rw [hf2, hf1, own_z0, Bool.false_or, Bool.or_eq_true, decide_eq_true_eq, decide_eq_true_eq]
  have k155 : ∀ tg, Steps p.tables e below (T153.setTop (mkF m 87 #[.val (.int p1), .val (.int p2), .val (.int p3), .val (.int p4), .val (.int p5), .val (.int p6), .val (.int x1), .val (.int x2), .val (.int x3), .val (.int x4), .val (.int x5), .val (.int x6), .val (.ref b141), .val (.int (own_ab f2 u v1)), .unset] [(.int x6), (.int x5), (.int x2), (.int x1)])) tg → Steps p.tables e below (s₁.setTop (entryFrame m #[(.int p1), (.int p2), (.int p3), (.int p4), (.int p5), (.int p6)] maxLocals)) tg := fun tg kg => k154 tg (by
      show Steps p.tables e below (T153.setTop (mkF m 77 #[.val (.int p1), .val (.int p2), .val (.int p3), .val (.int p4), .val (.int p5), .val (.int p6), .val (.int x1), .val (.int x2), .val (.int x3), .val (.int x4), .val (.int x5), .val (.int x6), .val (.ref b141), .unset, .unset] [(.int (own_ab f2 u v1))])) _
      refine XS.istore X153.here hx rfl (hb hby at_77) rfl (l' := #[.val (.int p1), .val (.int p2), .val (.int p3), .val (.int p4), .val (.int p5), .val (.int p6), .val (.int x1), .val (.int x2), .val (.int x3), .val (.int x4), .val (.int x5), .val (.int x6), .val (.ref b141), .val (.int (own_ab f2 u v1)), .unset]) rfl ?_
      show Steps p.tables e below (T153.setTop (mkF m 79 #[.val (.int p1), .val (.int p2), .val (.int p3), .val (.int p4), .val (.int p5), .val (.int p6), .val (.int x1), .val (.int x2), .val (.int x3), .val (.int x4), .val (.int x5), .val (.int x6), .val (.ref b141), .val (.int (own_ab f2 u v1)), .unset] [])) _
      refine XS.iload X153.here hx rfl (hb hby at_79) rfl ?_
      show Steps p.tables e below (T153.setTop (mkF m 81 #[.val (.int p1), .val (.int p2), .val (.int p3), .val (.int p4), .val (.int p5), .val (.int p6), .val (.int x1), .val (.int x2), .val (.int x3), .val (.int x4), .val (.int x5), .val (.int x6), .val (.ref b141), .val (.int (own_ab f2 u v1)), .unset] [(.int x1)])) _
      refine XS.iload X153.here hx rfl (hb hby at_81) rfl ?_
      show Steps p.tables e below (T153.setTop (mkF m 83 #[.val (.int p1), .val (.int p2), .val (.int p3), .val (.int p4), .val (.int p5), .val (.int p6), .val (.int x1), .val (.int x2), .val (.int x3), .val (.int x4), .val (.int x5), .val (.int x6), .val (.ref b141), .val (.int (own_ab f2 u v1)), .unset] [(.int x2), (.int x1)])) _
      refine XS.iload X153.here hx rfl (hb hby at_83) rfl ?_
      show Steps p.tables e below (T153.setTop (mkF m 85 #[.val (.int p1), .val (.int p2), .val (.int p3), .val (.int p4), .val (.int p5), .val (.int p6), .val (.int x1), .val (.int x2), .val (.int x3), .val (.int x4), .val (.int x5), .val (.int x6), .val (.ref b141), .val (.int (own_ab f2 u v1)), .unset] [(.int x5), (.int x2), (.int x1)])) _
      refine XS.iload X153.here hx rfl (hb hby at_85) rfl ?_
      exact kg)
  obtain ⟨_, _, ⟨T156, L156, c156, n156⟩, -, X156, ⟨Lc156, hQ156, l156, y156, z156⟩, st156⟩ := Jvm.LawKit.callS X153 hx (y := (⟨"com/example/opword/opword/dex/TakenBytesAnyTakenPinLaw", "overlaps", "(IIII)Z"⟩ : MethodName)) hown (mvT hZ (hw _ (List.mem_of_getElem? (i := 28) rfl))) (mvT hZ (hw _ (List.mem_of_getElem? (i := 29) rfl))) (mvT hZ (hw _ (List.mem_of_getElem? (i := 2) rfl))) (mvT hZ (hw _ (List.mem_of_getElem? (i := 30) rfl))) (by decide) (backOf (W := 0) (rm6 l Z a0 hw [] x1 x2 x5 x6 T150.heap n0 Zd) hZ (hw _ (List.mem_of_getElem? (i := 30) rfl)) (hw _ (List.mem_of_getElem? (i := 2) rfl)) (by decide) (by decide)) (g := (mkF m 87 #[.val (.int p1), .val (.int p2), .val (.int p3), .val (.int p4), .val (.int p5), .val (.int p6), .val (.int x1), .val (.int x2), .val (.int x3), .val (.int x4), .val (.int x5), .val (.int x6), .val (.ref b141), .val (.int (own_ab f2 u v1)), .unset] [(.int x6), (.int x5), (.int x2), (.int x1)])) rfl (by rw [hml]; rfl) (argsL := [(.int x1), (.int x2), (.int x5), (.int x6)]) (rest := []) (lenOf own_pd5 rfl) rfl (by show 2 * 0 + _ ≤ _; exact Nat.le_of_eq rfl) (hb hby at_87) (fun _ _ => ⟨rfl, e153, (by decide : 2 + 0 ≤ _), (by decide : 6 + 0 ≤ _)⟩)
  dsimp only [Pt.U, Pt.locs, Pt.cells, Pt.slots] at X156 l156 y156 z156 st156 hQ156
  subst l156 y156 z156
  obtain ⟨rfl, N156q, e156⟩ := hQ156
  have N156 := Fr.app N153 N156q
  have k157 : ∀ tg, Steps p.tables e below (T156.setTop (mkF m 90 #[.val (.int p1), .val (.int p2), .val (.int p3), .val (.int p4), .val (.int p5), .val (.int p6), .val (.int x1), .val (.int x2), .val (.int x3), .val (.int x4), .val (.int x5), .val (.int x6), .val (.ref b141), .val (.int (own_ab f2 u v1)), .unset] [(.int (own_ov x1 x2 x5 x6))])) tg → Steps p.tables e below (s₁.setTop (entryFrame m #[(.int p1), (.int p2), (.int p3), (.int p4), (.int p5), (.int p6)] maxLocals)) tg := fun tg kg => k155 tg (st156 tg kg)
  by_cases q1 : own_ov x1 x2 x5 x6 = (0 : Int32)
  · have k158 : ∀ tg, Steps p.tables e below (T156.setTop (mkF m 93 #[.val (.int p1), .val (.int p2), .val (.int p3), .val (.int p4), .val (.int p5), .val (.int p6), .val (.int x1), .val (.int x2), .val (.int x3), .val (.int x4), .val (.int x5), .val (.int x6), .val (.ref b141), .val (.int (own_ab f2 u v1)), .unset] [])) tg → Steps p.tables e below (s₁.setTop (entryFrame m #[(.int p1), (.int p2), (.int p3), (.int p4), (.int p5), (.int p6)] maxLocals)) tg := fun tg kg => k157 tg (by
        show Steps p.tables e below (T156.setTop (mkF m 90 #[.val (.int p1), .val (.int p2), .val (.int p3), .val (.int p4), .val (.int p5), .val (.int p6), .val (.int x1), .val (.int x2), .val (.int x3), .val (.int x4), .val (.int x5), .val (.int x6), .val (.ref b141), .val (.int (own_ab f2 u v1)), .unset] [(.int (own_ov x1 x2 x5 x6))])) _
        refine XS.ifNo X156.here hx rfl (hb hby at_90) rfl ((if0 _ _).trans (teq q1).2) ?_
        exact kg)
    have k159 : ∀ tg, Steps p.tables e below (T156.setTop (mkF m 101 #[.val (.int p1), .val (.int p2), .val (.int p3), .val (.int p4), .val (.int p5), .val (.int p6), .val (.int x1), .val (.int x2), .val (.int x3), .val (.int x4), .val (.int x5), .val (.int x6), .val (.ref b141), .val (.int (own_ab f2 u v1)), .unset] [(.int x6), (.int x5), (.int x4), (.int x3)])) tg → Steps p.tables e below (s₁.setTop (entryFrame m #[(.int p1), (.int p2), (.int p3), (.int p4), (.int p5), (.int p6)] maxLocals)) tg := fun tg kg => k158 tg (by
        show Steps p.tables e below (T156.setTop (mkF m 93 #[.val (.int p1), .val (.int p2), .val (.int p3), .val (.int p4), .val (.int p5), .val (.int p6), .val (.int x1), .val (.int x2), .val (.int x3), .val (.int x4), .val (.int x5), .val (.int x6), .val (.ref b141), .val (.int (own_ab f2 u v1)), .unset] [])) _
        refine XS.iload X156.here hx rfl (hb hby at_93) rfl ?_
        show Steps p.tables e below (T156.setTop (mkF m 95 #[.val (.int p1), .val (.int p2), .val (.int p3), .val (.int p4), .val (.int p5), .val (.int p6), .val (.int x1), .val (.int x2), .val (.int x3), .val (.int x4), .val (.int x5), .val (.int x6), .val (.ref b141), .val (.int (own_ab f2 u v1)), .unset] [(.int x3)])) _
        refine XS.iload X156.here hx rfl (hb hby at_95) rfl ?_
        show Steps p.tables e below (T156.setTop (mkF m 97 #[.val (.int p1), .val (.int p2), .val (.int p3), .val (.int p4), .val (.int p5), .val (.int p6), .val (.int x1), .val (.int x2), .val (.int x3), .val (.int x4), .val (.int x5), .val (.int x6), .val (.ref b141), .val (.int (own_ab f2 u v1)), .unset] [(.int x4), (.int x3)])) _
        refine XS.iload X156.here hx rfl (hb hby at_97) rfl ?_
        show Steps p.tables e below (T156.setTop (mkF m 99 #[.val (.int p1), .val (.int p2), .val (.int p3), .val (.int p4), .val (.int p5), .val (.int p6), .val (.int x1), .val (.int x2), .val (.int x3), .val (.int x4), .val (.int x5), .val (.int x6), .val (.ref b141), .val (.int (own_ab f2 u v1)), .unset] [(.int x5), (.int x4), (.int x3)])) _
        refine XS.iload X156.here hx rfl (hb hby at_99) rfl ?_
        exact kg)
    obtain ⟨_, _, ⟨T160, L160, c160, n160⟩, -, X160, ⟨Lc160, hQ160, l160, y160, z160⟩, st160⟩ := Jvm.LawKit.callS X156 hx (y := (⟨"com/example/opword/opword/dex/TakenBytesAnyTakenPinLaw", "overlaps", "(IIII)Z"⟩ : MethodName)) hown (mvT hZ (hw _ (List.mem_of_getElem? (i := 28) rfl))) (mvT hZ (hw _ (List.mem_of_getElem? (i := 29) rfl))) (mvT hZ (hw _ (List.mem_of_getElem? (i := 2) rfl))) (mvT hZ (hw _ (List.mem_of_getElem? (i := 30) rfl))) (by decide) (backOf (W := 0) (rm6 l Z a0 hw [] x3 x4 x5 x6 T150.heap n0 Zd) hZ (hw _ (List.mem_of_getElem? (i := 30) rfl)) (hw _ (List.mem_of_getElem? (i := 2) rfl)) (by decide) (by decide)) (g := (mkF m 101 #[.val (.int p1), .val (.int p2), .val (.int p3), .val (.int p4), .val (.int p5), .val (.int p6), .val (.int x1), .val (.int x2), .val (.int x3), .val (.int x4), .val (.int x5), .val (.int x6), .val (.ref b141), .val (.int (own_ab f2 u v1)), .unset] [(.int x6), (.int x5), (.int x4), (.int x3)])) rfl (by rw [hml]; rfl) (argsL := [(.int x3), (.int x4), (.int x5), (.int x6)]) (rest := []) (lenOf own_pd5 rfl) rfl (by show 2 * 0 + _ ≤ _; exact Nat.le_of_eq rfl) (hb hby at_101) (fun _ _ => ⟨rfl, e156, (by decide : 2 + 0 ≤ _), (by decide : 6 + 0 ≤ _)⟩)
    dsimp only [Pt.U, Pt.locs, Pt.cells, Pt.slots] at X160 l160 y160 z160 st160 hQ160
    subst l160 y160 z160
    obtain ⟨rfl, N160q, e160⟩ := hQ160
    have N160 := Fr.app N156 N160q
    have k161 : ∀ tg, Steps p.tables e below (T160.setTop (mkF m 104 #[.val (.int p1), .val (.int p2), .val (.int p3), .val (.int p4), .val (.int p5), .val (.int p6), .val (.int x1), .val (.int x2), .val (.int x3), .val (.int x4), .val (.int x5), .val (.int x6), .val (.ref b141), .val (.int (own_ab f2 u v1)), .unset] [(.int (own_ov x3 x4 x5 x6))])) tg → Steps p.tables e below (s₁.setTop (entryFrame m #[(.int p1), (.int p2), (.int p3), (.int p4), (.int p5), (.int p6)] maxLocals)) tg := fun tg kg => k159 tg (st160 tg kg)
    by_cases q2 : own_ov x3 x4 x5 x6 = (0 : Int32)
    · have k162 : ∀ tg, Steps p.tables e below (T160.setTop (mkF m 111 #[.val (.int p1), .val (.int p2), .val (.int p3), .val (.int p4), .val (.int p5), .val (.int p6), .val (.int x1), .val (.int x2), .val (.int x3), .val (.int x4), .val (.int x5), .val (.int x6), .val (.ref b141), .val (.int (own_ab f2 u v1)), .unset] [])) tg → Steps p.tables e below (s₁.setTop (entryFrame m #[(.int p1), (.int p2), (.int p3), (.int p4), (.int p5), (.int p6)] maxLocals)) tg := fun tg kg => k161 tg (by
          show Steps p.tables e below (T160.setTop (mkF m 104 #[.val (.int p1), .val (.int p2), .val (.int p3), .val (.int p4), .val (.int p5), .val (.int p6), .val (.int x1), .val (.int x2), .val (.int x3), .val (.int x4), .val (.int x5), .val (.int x6), .val (.ref b141), .val (.int (own_ab f2 u v1)), .unset] [(.int (own_ov x3 x4 x5 x6))])) _
          refine XS.ifYes X160.here hx rfl (pc0 := 104) (pc' := 111) rfl (hb hby at_104) rfl ((if0 _ _).trans (teq q2).1) (by decide) (by decide) ?_
          exact kg)
      have k163 : ∀ tg, Steps p.tables e below (T160.setTop (mkF m 118 #[.val (.int p1), .val (.int p2), .val (.int p3), .val (.int p4), .val (.int p5), .val (.int p6), .val (.int x1), .val (.int x2), .val (.int x3), .val (.int x4), .val (.int x5), .val (.int x6), .val (.ref b141), .val (.int (own_ab f2 u v1)), .val (.int (0 : Int32))] [(.int (0 : Int32)), (.int (own_ab f2 u v1))])) tg → Steps p.tables e below (s₁.setTop (entryFrame m #[(.int p1), (.int p2), (.int p3), (.int p4), (.int p5), (.int p6)] maxLocals)) tg := fun tg kg => k162 tg (by
          show Steps p.tables e below (T160.setTop (mkF m 111 #[.val (.int p1), .val (.int p2), .val (.int p3), .val (.int p4), .val (.int p5), .val (.int p6), .val (.int x1), .val (.int x2), .val (.int x3), .val (.int x4), .val (.int x5), .val (.int x6), .val (.ref b141), .val (.int (own_ab f2 u v1)), .unset] [])) _
          refine XS.iconst X160.here hx rfl (hb hby at_111) ?_
          show Steps p.tables e below (T160.setTop (mkF m 112 #[.val (.int p1), .val (.int p2), .val (.int p3), .val (.int p4), .val (.int p5), .val (.int p6), .val (.int x1), .val (.int x2), .val (.int x3), .val (.int x4), .val (.int x5), .val (.int x6), .val (.ref b141), .val (.int (own_ab f2 u v1)), .unset] [(.int (0 : Int32))])) _
          refine XS.istore X160.here hx rfl (hb hby at_112) rfl (l' := #[.val (.int p1), .val (.int p2), .val (.int p3), .val (.int p4), .val (.int p5), .val (.int p6), .val (.int x1), .val (.int x2), .val (.int x3), .val (.int x4), .val (.int x5), .val (.int x6), .val (.ref b141), .val (.int (own_ab f2 u v1)), .val (.int (0 : Int32))]) rfl ?_
          show Steps p.tables e below (T160.setTop (mkF m 114 #[.val (.int p1), .val (.int p2), .val (.int p3), .val (.int p4), .val (.int p5), .val (.int p6), .val (.int x1), .val (.int x2), .val (.int x3), .val (.int x4), .val (.int x5), .val (.int x6), .val (.ref b141), .val (.int (own_ab f2 u v1)), .val (.int (0 : Int32))] [])) _
          refine XS.iload X160.here hx rfl (hb hby at_114) rfl ?_
          show Steps p.tables e below (T160.setTop (mkF m 116 #[.val (.int p1), .val (.int p2), .val (.int p3), .val (.int p4), .val (.int p5), .val (.int p6), .val (.int x1), .val (.int x2), .val (.int x3), .val (.int x4), .val (.int x5), .val (.int x6), .val (.ref b141), .val (.int (own_ab f2 u v1)), .val (.int (0 : Int32))] [(.int (own_ab f2 u v1))])) _
          refine XS.iload X160.here hx rfl (hb hby at_116) rfl ?_
          exact kg)
      have hv : own_ab f2 u v1 = 0 := own_ab0 fun ⟨t, t1, t2, t3⟩ => by
        rcases o1 with ⟨z, -⟩ | ⟨-, n1⟩
        · rw [q1] at z; exact absurd z (by decide)
        · rcases o2 with ⟨z, -⟩ | ⟨-, n2⟩
          · rw [q2] at z; exact absurd z (by decide)
          · exact ((hb2 t).mp t3).elim (fun r => n1 ⟨t, r, t1, t2⟩) (fun r => n2 ⟨t, r, t1, t2⟩)
      have k164 : ∀ tg, Steps p.tables e below (T160.setTop (mkF m 121 #[.val (.int p1), .val (.int p2), .val (.int p3), .val (.int p4), .val (.int p5), .val (.int p6), .val (.int x1), .val (.int x2), .val (.int x3), .val (.int x4), .val (.int x5), .val (.int x6), .val (.ref b141), .val (.int (own_ab f2 u v1)), .val (.int (0 : Int32))] [])) tg → Steps p.tables e below (s₁.setTop (entryFrame m #[(.int p1), (.int p2), (.int p3), (.int p4), (.int p5), (.int p6)] maxLocals)) tg := fun tg kg => k163 tg (by
          show Steps p.tables e below (T160.setTop (mkF m 118 #[.val (.int p1), .val (.int p2), .val (.int p3), .val (.int p4), .val (.int p5), .val (.int p6), .val (.int x1), .val (.int x2), .val (.int x3), .val (.int x4), .val (.int x5), .val (.int x6), .val (.ref b141), .val (.int (own_ab f2 u v1)), .val (.int (0 : Int32))] [(.int (0 : Int32)), (.int (own_ab f2 u v1))])) _
          refine XS.icmpNo X160.here hx rfl (hb hby at_118) rfl (teq hv).2 ?_
          exact kg)
      have k165 : ∀ tg, Steps p.tables e below (T160.setTop (mkF m 126 #[.val (.int p1), .val (.int p2), .val (.int p3), .val (.int p4), .val (.int p5), .val (.int p6), .val (.int x1), .val (.int x2), .val (.int x3), .val (.int x4), .val (.int x5), .val (.int x6), .val (.ref b141), .val (.int (own_ab f2 u v1)), .val (.int (0 : Int32))] [(.int (1 : Int32))])) tg → Steps p.tables e below (s₁.setTop (entryFrame m #[(.int p1), (.int p2), (.int p3), (.int p4), (.int p5), (.int p6)] maxLocals)) tg := fun tg kg => k164 tg (by
          show Steps p.tables e below (T160.setTop (mkF m 121 #[.val (.int p1), .val (.int p2), .val (.int p3), .val (.int p4), .val (.int p5), .val (.int p6), .val (.int x1), .val (.int x2), .val (.int x3), .val (.int x4), .val (.int x5), .val (.int x6), .val (.ref b141), .val (.int (own_ab f2 u v1)), .val (.int (0 : Int32))] [])) _
          refine XS.iconst X160.here hx rfl (hb hby at_121) ?_
          show Steps p.tables e below (T160.setTop (mkF m 122 #[.val (.int p1), .val (.int p2), .val (.int p3), .val (.int p4), .val (.int p5), .val (.int p6), .val (.int x1), .val (.int x2), .val (.int x3), .val (.int x4), .val (.int x5), .val (.int x6), .val (.ref b141), .val (.int (own_ab f2 u v1)), .val (.int (0 : Int32))] [(.int (1 : Int32))])) _
          refine XS.goto X160.here hx rfl (pc0 := 122) (pc' := 126) rfl (hb hby at_122) (by decide) (by decide) ?_
          exact kg)
      obtain ⟨fs, hr, hrun, hended, hW, hsame⟩ := X160.leave (v := some (.int (1 : Int32))) (fun h => by rw [Bd.returns] at h; cases h)
      refine ⟨_, _, k165 _ ?_, hrun, hended, _, _, rfl, ?_, ⟨_, rfl⟩, hW, hsame.mono (by decide) (by decide)⟩
      · show Steps p.tables e below (T160.setTop (mkF m 126 #[.val (.int p1), .val (.int p2), .val (.int p3), .val (.int p4), .val (.int p5), .val (.int p6), .val (.int x1), .val (.int x2), .val (.int x3), .val (.int x4), .val (.int x5), .val (.int x6), .val (.ref b141), .val (.int (own_ab f2 u v1)), .val (.int (0 : Int32))] [(.int (1 : Int32))])) _
        exact retN X160 hx (t := .boolean) Bd.returns (by simp) (hb hby at_126) hr
      · show Q0 _ _ _ _ _ _ _ _ _ _ T160.heap _
        rw [e160]
        exact ⟨rfl, N160⟩
    · have k166 : ∀ tg, Steps p.tables e below (T160.setTop (mkF m 107 #[.val (.int p1), .val (.int p2), .val (.int p3), .val (.int p4), .val (.int p5), .val (.int p6), .val (.int x1), .val (.int x2), .val (.int x3), .val (.int x4), .val (.int x5), .val (.int x6), .val (.ref b141), .val (.int (own_ab f2 u v1)), .unset] [])) tg → Steps p.tables e below (s₁.setTop (entryFrame m #[(.int p1), (.int p2), (.int p3), (.int p4), (.int p5), (.int p6)] maxLocals)) tg := fun tg kg => k161 tg (by
          show Steps p.tables e below (T160.setTop (mkF m 104 #[.val (.int p1), .val (.int p2), .val (.int p3), .val (.int p4), .val (.int p5), .val (.int p6), .val (.int x1), .val (.int x2), .val (.int x3), .val (.int x4), .val (.int x5), .val (.int x6), .val (.ref b141), .val (.int (own_ab f2 u v1)), .unset] [(.int (own_ov x3 x4 x5 x6))])) _
          refine XS.ifNo X160.here hx rfl (hb hby at_104) rfl ((if0 _ _).trans (feq q2).1) ?_
          exact kg)
      have k167 : ∀ tg, Steps p.tables e below (T160.setTop (mkF m 118 #[.val (.int p1), .val (.int p2), .val (.int p3), .val (.int p4), .val (.int p5), .val (.int p6), .val (.int x1), .val (.int x2), .val (.int x3), .val (.int x4), .val (.int x5), .val (.int x6), .val (.ref b141), .val (.int (own_ab f2 u v1)), .val (.int (1 : Int32))] [(.int (1 : Int32)), (.int (own_ab f2 u v1))])) tg → Steps p.tables e below (s₁.setTop (entryFrame m #[(.int p1), (.int p2), (.int p3), (.int p4), (.int p5), (.int p6)] maxLocals)) tg := fun tg kg => k166 tg (by
          show Steps p.tables e below (T160.setTop (mkF m 107 #[.val (.int p1), .val (.int p2), .val (.int p3), .val (.int p4), .val (.int p5), .val (.int p6), .val (.int x1), .val (.int x2), .val (.int x3), .val (.int x4), .val (.int x5), .val (.int x6), .val (.ref b141), .val (.int (own_ab f2 u v1)), .unset] [])) _
          refine XS.iconst X160.here hx rfl (hb hby at_107) ?_
          show Steps p.tables e below (T160.setTop (mkF m 108 #[.val (.int p1), .val (.int p2), .val (.int p3), .val (.int p4), .val (.int p5), .val (.int p6), .val (.int x1), .val (.int x2), .val (.int x3), .val (.int x4), .val (.int x5), .val (.int x6), .val (.ref b141), .val (.int (own_ab f2 u v1)), .unset] [(.int (1 : Int32))])) _
          refine XS.goto X160.here hx rfl (pc0 := 108) (pc' := 112) rfl (hb hby at_108) (by decide) (by decide) ?_
          show Steps p.tables e below (T160.setTop (mkF m 112 #[.val (.int p1), .val (.int p2), .val (.int p3), .val (.int p4), .val (.int p5), .val (.int p6), .val (.int x1), .val (.int x2), .val (.int x3), .val (.int x4), .val (.int x5), .val (.int x6), .val (.ref b141), .val (.int (own_ab f2 u v1)), .unset] [(.int (1 : Int32))])) _
          refine XS.istore X160.here hx rfl (hb hby at_112) rfl (l' := #[.val (.int p1), .val (.int p2), .val (.int p3), .val (.int p4), .val (.int p5), .val (.int p6), .val (.int x1), .val (.int x2), .val (.int x3), .val (.int x4), .val (.int x5), .val (.int x6), .val (.ref b141), .val (.int (own_ab f2 u v1)), .val (.int (1 : Int32))]) rfl ?_
          show Steps p.tables e below (T160.setTop (mkF m 114 #[.val (.int p1), .val (.int p2), .val (.int p3), .val (.int p4), .val (.int p5), .val (.int p6), .val (.int x1), .val (.int x2), .val (.int x3), .val (.int x4), .val (.int x5), .val (.int x6), .val (.ref b141), .val (.int (own_ab f2 u v1)), .val (.int (1 : Int32))] [])) _
          refine XS.iload X160.here hx rfl (hb hby at_114) rfl ?_
          show Steps p.tables e below (T160.setTop (mkF m 116 #[.val (.int p1), .val (.int p2), .val (.int p3), .val (.int p4), .val (.int p5), .val (.int p6), .val (.int x1), .val (.int x2), .val (.int x3), .val (.int x4), .val (.int x5), .val (.int x6), .val (.ref b141), .val (.int (own_ab f2 u v1)), .val (.int (1 : Int32))] [(.int (own_ab f2 u v1))])) _
          refine XS.iload X160.here hx rfl (hb hby at_116) rfl ?_
          exact kg)
      have hv : own_ab f2 u v1 = 1 := by
        rcases o2 with ⟨-, t, r, t1, t2⟩ | ⟨z, -⟩
        · exact own_ab1 ⟨t, t1, t2, (hb2 t).mpr (Or.inr r)⟩
        · exact absurd z q2
      have k168 : ∀ tg, Steps p.tables e below (T160.setTop (mkF m 121 #[.val (.int p1), .val (.int p2), .val (.int p3), .val (.int p4), .val (.int p5), .val (.int p6), .val (.int x1), .val (.int x2), .val (.int x3), .val (.int x4), .val (.int x5), .val (.int x6), .val (.ref b141), .val (.int (own_ab f2 u v1)), .val (.int (1 : Int32))] [])) tg → Steps p.tables e below (s₁.setTop (entryFrame m #[(.int p1), (.int p2), (.int p3), (.int p4), (.int p5), (.int p6)] maxLocals)) tg := fun tg kg => k167 tg (by
          show Steps p.tables e below (T160.setTop (mkF m 118 #[.val (.int p1), .val (.int p2), .val (.int p3), .val (.int p4), .val (.int p5), .val (.int p6), .val (.int x1), .val (.int x2), .val (.int x3), .val (.int x4), .val (.int x5), .val (.int x6), .val (.ref b141), .val (.int (own_ab f2 u v1)), .val (.int (1 : Int32))] [(.int (1 : Int32)), (.int (own_ab f2 u v1))])) _
          refine XS.icmpNo X160.here hx rfl (hb hby at_118) rfl (teq hv).2 ?_
          exact kg)
      have k169 : ∀ tg, Steps p.tables e below (T160.setTop (mkF m 126 #[.val (.int p1), .val (.int p2), .val (.int p3), .val (.int p4), .val (.int p5), .val (.int p6), .val (.int x1), .val (.int x2), .val (.int x3), .val (.int x4), .val (.int x5), .val (.int x6), .val (.ref b141), .val (.int (own_ab f2 u v1)), .val (.int (1 : Int32))] [(.int (1 : Int32))])) tg → Steps p.tables e below (s₁.setTop (entryFrame m #[(.int p1), (.int p2), (.int p3), (.int p4), (.int p5), (.int p6)] maxLocals)) tg := fun tg kg => k168 tg (by
          show Steps p.tables e below (T160.setTop (mkF m 121 #[.val (.int p1), .val (.int p2), .val (.int p3), .val (.int p4), .val (.int p5), .val (.int p6), .val (.int x1), .val (.int x2), .val (.int x3), .val (.int x4), .val (.int x5), .val (.int x6), .val (.ref b141), .val (.int (own_ab f2 u v1)), .val (.int (1 : Int32))] [])) _
          refine XS.iconst X160.here hx rfl (hb hby at_121) ?_
          show Steps p.tables e below (T160.setTop (mkF m 122 #[.val (.int p1), .val (.int p2), .val (.int p3), .val (.int p4), .val (.int p5), .val (.int p6), .val (.int x1), .val (.int x2), .val (.int x3), .val (.int x4), .val (.int x5), .val (.int x6), .val (.ref b141), .val (.int (own_ab f2 u v1)), .val (.int (1 : Int32))] [(.int (1 : Int32))])) _
          refine XS.goto X160.here hx rfl (pc0 := 122) (pc' := 126) rfl (hb hby at_122) (by decide) (by decide) ?_
          exact kg)
      obtain ⟨fs, hr, hrun, hended, hW, hsame⟩ := X160.leave (v := some (.int (1 : Int32))) (fun h => by rw [Bd.returns] at h; cases h)
      refine ⟨_, _, k169 _ ?_, hrun, hended, _, _, rfl, ?_, ⟨_, rfl⟩, hW, hsame.mono (by decide) (by decide)⟩
      · show Steps p.tables e below (T160.setTop (mkF m 126 #[.val (.int p1), .val (.int p2), .val (.int p3), .val (.int p4), .val (.int p5), .val (.int p6), .val (.int x1), .val (.int x2), .val (.int x3), .val (.int x4), .val (.int x5), .val (.int x6), .val (.ref b141), .val (.int (own_ab f2 u v1)), .val (.int (1 : Int32))] [(.int (1 : Int32))])) _
        exact retN X160 hx (t := .boolean) Bd.returns (by simp) (hb hby at_126) hr
      · show Q0 _ _ _ _ _ _ _ _ _ _ T160.heap _
        rw [e160]
        exact ⟨rfl, N160⟩
  · have k170 : ∀ tg, Steps p.tables e below (T156.setTop (mkF m 107 #[.val (.int p1), .val (.int p2), .val (.int p3), .val (.int p4), .val (.int p5), .val (.int p6), .val (.int x1), .val (.int x2), .val (.int x3), .val (.int x4), .val (.int x5), .val (.int x6), .val (.ref b141), .val (.int (own_ab f2 u v1)), .unset] [])) tg → Steps p.tables e below (s₁.setTop (entryFrame m #[(.int p1), (.int p2), (.int p3), (.int p4), (.int p5), (.int p6)] maxLocals)) tg := fun tg kg => k157 tg (by
        show Steps p.tables e below (T156.setTop (mkF m 90 #[.val (.int p1), .val (.int p2), .val (.int p3), .val (.int p4), .val (.int p5), .val (.int p6), .val (.int x1), .val (.int x2), .val (.int x3), .val (.int x4), .val (.int x5), .val (.int x6), .val (.ref b141), .val (.int (own_ab f2 u v1)), .unset] [(.int (own_ov x1 x2 x5 x6))])) _
        refine XS.ifYes X156.here hx rfl (pc0 := 90) (pc' := 107) rfl (hb hby at_90) rfl ((if0 _ _).trans (feq q1).2) (by decide) (by decide) ?_
        exact kg)
    have k171 : ∀ tg, Steps p.tables e below (T156.setTop (mkF m 118 #[.val (.int p1), .val (.int p2), .val (.int p3), .val (.int p4), .val (.int p5), .val (.int p6), .val (.int x1), .val (.int x2), .val (.int x3), .val (.int x4), .val (.int x5), .val (.int x6), .val (.ref b141), .val (.int (own_ab f2 u v1)), .val (.int (1 : Int32))] [(.int (1 : Int32)), (.int (own_ab f2 u v1))])) tg → Steps p.tables e below (s₁.setTop (entryFrame m #[(.int p1), (.int p2), (.int p3), (.int p4), (.int p5), (.int p6)] maxLocals)) tg := fun tg kg => k170 tg (by
        show Steps p.tables e below (T156.setTop (mkF m 107 #[.val (.int p1), .val (.int p2), .val (.int p3), .val (.int p4), .val (.int p5), .val (.int p6), .val (.int x1), .val (.int x2), .val (.int x3), .val (.int x4), .val (.int x5), .val (.int x6), .val (.ref b141), .val (.int (own_ab f2 u v1)), .unset] [])) _
        refine XS.iconst X156.here hx rfl (hb hby at_107) ?_
        show Steps p.tables e below (T156.setTop (mkF m 108 #[.val (.int p1), .val (.int p2), .val (.int p3), .val (.int p4), .val (.int p5), .val (.int p6), .val (.int x1), .val (.int x2), .val (.int x3), .val (.int x4), .val (.int x5), .val (.int x6), .val (.ref b141), .val (.int (own_ab f2 u v1)), .unset] [(.int (1 : Int32))])) _
        refine XS.goto X156.here hx rfl (pc0 := 108) (pc' := 112) rfl (hb hby at_108) (by decide) (by decide) ?_
        show Steps p.tables e below (T156.setTop (mkF m 112 #[.val (.int p1), .val (.int p2), .val (.int p3), .val (.int p4), .val (.int p5), .val (.int p6), .val (.int x1), .val (.int x2), .val (.int x3), .val (.int x4), .val (.int x5), .val (.int x6), .val (.ref b141), .val (.int (own_ab f2 u v1)), .unset] [(.int (1 : Int32))])) _
        refine XS.istore X156.here hx rfl (hb hby at_112) rfl (l' := #[.val (.int p1), .val (.int p2), .val (.int p3), .val (.int p4), .val (.int p5), .val (.int p6), .val (.int x1), .val (.int x2), .val (.int x3), .val (.int x4), .val (.int x5), .val (.int x6), .val (.ref b141), .val (.int (own_ab f2 u v1)), .val (.int (1 : Int32))]) rfl ?_
        show Steps p.tables e below (T156.setTop (mkF m 114 #[.val (.int p1), .val (.int p2), .val (.int p3), .val (.int p4), .val (.int p5), .val (.int p6), .val (.int x1), .val (.int x2), .val (.int x3), .val (.int x4), .val (.int x5), .val (.int x6), .val (.ref b141), .val (.int (own_ab f2 u v1)), .val (.int (1 : Int32))] [])) _
        refine XS.iload X156.here hx rfl (hb hby at_114) rfl ?_
        show Steps p.tables e below (T156.setTop (mkF m 116 #[.val (.int p1), .val (.int p2), .val (.int p3), .val (.int p4), .val (.int p5), .val (.int p6), .val (.int x1), .val (.int x2), .val (.int x3), .val (.int x4), .val (.int x5), .val (.int x6), .val (.ref b141), .val (.int (own_ab f2 u v1)), .val (.int (1 : Int32))] [(.int (own_ab f2 u v1))])) _
        refine XS.iload X156.here hx rfl (hb hby at_116) rfl ?_
        exact kg)
    have hv : own_ab f2 u v1 = 1 := by
      rcases o1 with ⟨-, t, r, t1, t2⟩ | ⟨z, -⟩
      · exact own_ab1 ⟨t, t1, t2, (hb2 t).mpr (Or.inl r)⟩
      · exact absurd z q1
    have k172 : ∀ tg, Steps p.tables e below (T156.setTop (mkF m 121 #[.val (.int p1), .val (.int p2), .val (.int p3), .val (.int p4), .val (.int p5), .val (.int p6), .val (.int x1), .val (.int x2), .val (.int x3), .val (.int x4), .val (.int x5), .val (.int x6), .val (.ref b141), .val (.int (own_ab f2 u v1)), .val (.int (1 : Int32))] [])) tg → Steps p.tables e below (s₁.setTop (entryFrame m #[(.int p1), (.int p2), (.int p3), (.int p4), (.int p5), (.int p6)] maxLocals)) tg := fun tg kg => k171 tg (by
        show Steps p.tables e below (T156.setTop (mkF m 118 #[.val (.int p1), .val (.int p2), .val (.int p3), .val (.int p4), .val (.int p5), .val (.int p6), .val (.int x1), .val (.int x2), .val (.int x3), .val (.int x4), .val (.int x5), .val (.int x6), .val (.ref b141), .val (.int (own_ab f2 u v1)), .val (.int (1 : Int32))] [(.int (1 : Int32)), (.int (own_ab f2 u v1))])) _
        refine XS.icmpNo X156.here hx rfl (hb hby at_118) rfl (teq hv).2 ?_
        exact kg)
    have k173 : ∀ tg, Steps p.tables e below (T156.setTop (mkF m 126 #[.val (.int p1), .val (.int p2), .val (.int p3), .val (.int p4), .val (.int p5), .val (.int p6), .val (.int x1), .val (.int x2), .val (.int x3), .val (.int x4), .val (.int x5), .val (.int x6), .val (.ref b141), .val (.int (own_ab f2 u v1)), .val (.int (1 : Int32))] [(.int (1 : Int32))])) tg → Steps p.tables e below (s₁.setTop (entryFrame m #[(.int p1), (.int p2), (.int p3), (.int p4), (.int p5), (.int p6)] maxLocals)) tg := fun tg kg => k172 tg (by
        show Steps p.tables e below (T156.setTop (mkF m 121 #[.val (.int p1), .val (.int p2), .val (.int p3), .val (.int p4), .val (.int p5), .val (.int p6), .val (.int x1), .val (.int x2), .val (.int x3), .val (.int x4), .val (.int x5), .val (.int x6), .val (.ref b141), .val (.int (own_ab f2 u v1)), .val (.int (1 : Int32))] [])) _
        refine XS.iconst X156.here hx rfl (hb hby at_121) ?_
        show Steps p.tables e below (T156.setTop (mkF m 122 #[.val (.int p1), .val (.int p2), .val (.int p3), .val (.int p4), .val (.int p5), .val (.int p6), .val (.int x1), .val (.int x2), .val (.int x3), .val (.int x4), .val (.int x5), .val (.int x6), .val (.ref b141), .val (.int (own_ab f2 u v1)), .val (.int (1 : Int32))] [(.int (1 : Int32))])) _
        refine XS.goto X156.here hx rfl (pc0 := 122) (pc' := 126) rfl (hb hby at_122) (by decide) (by decide) ?_
        exact kg)
    obtain ⟨fs, hr, hrun, hended, hW, hsame⟩ := X156.leave (v := some (.int (1 : Int32))) (fun h => by rw [Bd.returns] at h; cases h)
    refine ⟨_, _, k173 _ ?_, hrun, hended, _, _, rfl, ?_, ⟨_, rfl⟩, hW, hsame.mono (by decide) (by decide)⟩
    · show Steps p.tables e below (T156.setTop (mkF m 126 #[.val (.int p1), .val (.int p2), .val (.int p3), .val (.int p4), .val (.int p5), .val (.int p6), .val (.int x1), .val (.int x2), .val (.int x3), .val (.int x4), .val (.int x5), .val (.int x6), .val (.ref b141), .val (.int (own_ab f2 u v1)), .val (.int (1 : Int32))] [(.int (1 : Int32))])) _
      exact retN X156 hx (t := .boolean) Bd.returns (by simp) (hb hby at_126) hr
    · show Q0 _ _ _ _ _ _ _ _ _ _ T156.heap _
      rw [e156]
      exact ⟨rfl, N156⟩
set_option maxRecDepth 65536 in
set_option maxHeartbeats 40000000 in
theorem comes_1 {Post : Tables → Env → Array Value → State → Outcome → State → Prop} (hpost : ∀ tb e args s v u, (limb_1_1.after args s (.returned v) u = true ∧ limb_1_2.after args s (.returned v) u = true ∧ True) → FrameEnd s (.returned v) u (Jvm.fieldLocs frame_1_writes args s ++ Jvm.arrayLocs frame_1_arrays args s ++ Jvm.staticLocs frame_1_statics s) 16 128 → Post tb e args s (.returned v) u) :
    ArmFor flags0 classFile x code maxLocals ret World_1 tables_1 room_1 Calls_1 rest_1 Pre_1 Post := by
  intro l hfl _ _ p e ha hc hk s m args below hf hA hF happ hP
  obtain ⟨hcalls, hrest, hpre⟩ := hP
  obtain ⟨-, -, -, hnamed, -, -, -, hat⟩ := (Spec.applies_iff hf).mp happ
  obtain ⟨hg, hn⟩ := and_e (Cond.before_iff.mp (show (Jvm.Cond.and given_1 narrow_1).before args s = true from hpre))
  obtain ⟨g1a, g1b⟩ := and_e hg
  obtain ⟨g2a, g2b⟩ := and_e g1b
  obtain ⟨g3a, g3b⟩ := and_e g2b
  obtain ⟨g4a, g4b⟩ := and_e g3b
  obtain ⟨g5a, g5b⟩ := and_e g4b
  obtain ⟨g6a, g6b⟩ := and_e g5b
  obtain ⟨w0, w1, w2, w3, w4, w5, rfl⟩ : ∃ w0 w1 w2 w3 w4 w5 : Value, args = #[w0, w1, w2, w3, w4, w5] := by
    have hs : args.size = 6 := by simpa [Cond.value, given_1] using g1a
    obtain ⟨L⟩ := args
    match L, hs with
    | [w0, w1, w2, w3, w4, w5], _ => exact ⟨w0, w1, w2, w3, w4, w5, rfl⟩
  have hw := fun d (hd : d ∈ tables_1) => atoms_spec (ws := Jvm.Cond.code x code maxLocals ret :: tables_1) hat d (List.mem_cons_of_mem _ hd)
  obtain ⟨i0, ei0⟩ := is_v g2a
  obtain rfl : w0 = (.int i0) := Option.some.inj ei0
  obtain ⟨i1, ei1⟩ := is_v g3a
  obtain rfl : w1 = (.int i1) := Option.some.inj ei1
  obtain ⟨i2, ei2⟩ := is_v g4a
  obtain rfl : w2 = (.int i2) := Option.some.inj ei2
  obtain ⟨i3, ei3⟩ := is_v g5a
  obtain rfl : w3 = (.int i3) := Option.some.inj ei3
  obtain ⟨i4, ei4⟩ := is_v g6a
  obtain rfl : w4 = (.int i4) := Option.some.inj ei4
  obtain ⟨i5, ei5⟩ := is_v g6b
  obtain rfl : w5 = (.int i5) := Option.some.inj ei5
  obtain ⟨n, o, h1, h2, h3, _, L, rfl, ⟨rfl, N⟩, hq⟩ := rm0 l s _ hw tables_1 i0 i1 i2 i3 i4 i5  s.heap s.heap.size (Nat.le_refl _)  p e ha hc hk s m _ below hf ((Spec.applies_iff_loose hf).mp happ).1 ⟨rfl, State.Warmed39.refl s, rfl⟩ trivial
  refine ⟨n, _, h1, h2, h3, hpost _ _ _ _ _ _ ⟨Cond.after_iff.mpr rfl, Cond.after_iff.mpr (eq_i res_at (Term.int_eval (1)) rfl), trivial⟩ ⟨hq.1, hq.2.1, (hq.2.2.sift fun y hy => Or.inr (N y hy)).mono (by decide) (by decide)⟩⟩
theorem main_1_1 : Claimed_1_1 := comes_1 fun _ _ _ _ _ _ h hF => ⟨h.1, hF⟩
theorem main_1_2 : Claimed_1_2 := comes_1 fun _ _ _ _ _ _ h hF => ⟨h.2.1, hF⟩
end Jvm.Pilot.@@N@@
namespace Jvm.Pilot.@@N@@
open Jvm Jvm.ClassFile Sem Op Lib Jvm.Free Jvm.Stand Jvm.Pilot.@@N@@.Jvm.D
/-! MADE BY PROGRAM (witnessworld.py) out of the Statement's table words and the real class files: 12 classes; the members and pool entries that the words name. The judged class is class 1, her method 3. -/
namespace start1
open Jvm.ClassFile
def u (s : String) : CpInfo := .utf8 (stringToUtf16 s)
/-- a pool by its gaps: so many unusable entries, then the entry; so many at the end -/
def gap : Nat → List CpInfo → List CpInfo
  | 0, r => r
  | n + 1, r => .unusable :: gap n r
def poolList (es : List (Nat × CpInfo)) (last : Nat) : List CpInfo := es.foldr (fun e r => gap e.1 (e.2 :: r)) (gap last [])
def pool (es : List (Nat × CpInfo)) (last : Nat) : Array CpInfo := ⟨poolList es last⟩
def fileOf (pool : Array CpInfo) (this : Nat) (attrs : Array Attribute := #[]) (ms : Array MethodInfo := #[]) (fl : Nat := 33) (sup : Nat := 0) (ifs : Array Nat := #[]) (fds : Array FieldInfo := #[]) : ClassFile where
  minorVersion := 0
  majorVersion := 65
  constantPool := pool
  accessFlags := fl
  thisClass := this
  superClass := sup
  interfaces := ifs
  fields := fds
  methods := ms
  attributes := attrs
def plain (name : String) (sup : Option ClassId) : Class where
  name := name
  kind := .ordinary
  loader := none
  accessFlags := 33
  super := sup
  interfaces := #[]
  cf := none
  fields := #[]
  methods := #[]
  instanceTypes := #[]
  staticTypes := #[]
  resolved := #[]
  callSites := []
  init := .initialized
  statics := none
  mirror := none

def pool0 : Array CpInfo := pool [(5, u "<init>"), (0, u "()V"), (1, .class_ 10), (1, u "java/lang/Object")] 113

def k0c0 : Code := { maxStack := 0, maxLocals := 1, code := object_method_1_code, exceptionTable := #[], attributes := #[] }
def k0m0 : Method := { name := "<init>", desc := "()V", sig := { parameters := [], returnType := none }, accessFlags := 1, code := some k0c0 }
/-- java/lang/Object -/
def k0 : Class := { plain "java/lang/Object" none with
  accessFlags := 33
  interfaces := #[]
  cf := some (fileOf pool0 8 #[] #[{ accessFlags := 1, nameIndex := 5, descriptorIndex := 6, attributes := #[] }] 33 0 #[] #[])
  fields := #[]
  methods := #[k0m0]
  instanceTypes := #[]
  staticTypes := #[]
  resolved := Array.replicate 124 none
  statics := none }

def pool1 : Array CpInfo := pool [(2, .class_ 4), (1, u "java/lang/Object"), (0, u "<init>"), (0, u "()V"), (0, .integer 2147483647), (0, .methodref 9 10), (0, .class_ 11), (0, .nameAndType 12 13), (0, u "java/lang/Math"), (0, u "max"), (0, u "(II)I"), (0, .methodref 9 15), (0, .nameAndType 16 13), (0, u "min"), (0, .methodref 18 19), (0, .class_ 20), (0, .nameAndType 21 22), (0, u "com/example/opword/opword/dex/TakenBytesAnyTakenPinLaw"), (0, u "pos"), (0, u "(I)I"), (0, .class_ 24), (0, u "com/example/opword/opword/dex/TakenBytes"), (0, .methodref 23 26), (0, .nameAndType 5 27), (0, u "(I)V"), (0, .methodref 23 29), (0, .nameAndType 30 31), (0, u "take"), (0, u "(II)V"), (0, .methodref 23 33), (0, .nameAndType 34 35), (0, u "anyTaken"), (0, u "(II)Z"), (0, .methodref 18 37), (0, .nameAndType 38 39), (0, u "overlaps"), (0, u "(IIII)Z"), (3, u "law"), (0, u "(IIIIII)Z")] 2

def k1m0 : Method := { name := "<init>", desc := "()V", sig := { parameters := [], returnType := none }, accessFlags := 1, code := none }
def k1c1 : Code := { maxStack := 2, maxLocals := 1, code := method_2_code, exceptionTable := #[], attributes := #[] }
def k1m1 : Method := { name := "pos", desc := "(I)I", sig := { parameters := [.int], returnType := some .int }, accessFlags := 10, code := some k1c1 }
def k1c2 : Code := { maxStack := 3, maxLocals := 4, code := method_3_code, exceptionTable := #[], attributes := #[] }
def k1m2 : Method := { name := "overlaps", desc := "(IIII)Z", sig := { parameters := [.int, .int, .int, .int], returnType := some .boolean }, accessFlags := 10, code := some k1c2 }
def k1c3 : Code := { maxStack := 4, maxLocals := 15, code := code, exceptionTable := #[], attributes := #[] }
def k1m3 : Method := { name := "law", desc := "(IIIIII)Z", sig := { parameters := [.int, .int, .int, .int, .int, .int], returnType := some .boolean }, accessFlags := 9, code := some k1c3 }
/-- com/example/opword/opword/dex/TakenBytesAnyTakenPinLaw -/
def k1 : Class := { plain "com/example/opword/opword/dex/TakenBytesAnyTakenPinLaw" (some 0) with
  accessFlags := 49
  interfaces := #[]
  cf := some (fileOf pool1 18 #[] #[{ accessFlags := 1, nameIndex := 5, descriptorIndex := 6, attributes := #[] }, { accessFlags := 10, nameIndex := 21, descriptorIndex := 22, attributes := #[] }, { accessFlags := 10, nameIndex := 38, descriptorIndex := 39, attributes := #[] }, { accessFlags := 9, nameIndex := 43, descriptorIndex := 44, attributes := #[] }] 49 2 #[] #[])
  fields := #[]
  methods := #[k1m0, k1m1, k1m2, k1m3]
  instanceTypes := #[]
  staticTypes := #[]
  resolved := Array.replicate 47 none
  statics := none }

def pool2 : Array CpInfo := pool [(1, .methodref 2 3), (0, .class_ 4), (0, .nameAndType 5 6), (0, u "java/lang/Object"), (0, u "<init>"), (0, u "()V"), (2, .fieldref 10 11), (0, .class_ 12), (0, .nameAndType 13 14), (0, u "com/example/opword/opword/dex/TakenBytes"), (0, u "words"), (0, u "[J"), (0, .long 18446744073709551615), (1, u "(I)V"), (2, u "anyTaken"), (0, u "(II)Z"), (1, u "take"), (0, u "(II)V")] 2

def k2c0 : Code := { maxStack := 3, maxLocals := 2, code := prog_69_method_1_code, exceptionTable := #[], attributes := #[] }
def k2m0 : Method := { name := "<init>", desc := "(I)V", sig := { parameters := [.int], returnType := none }, accessFlags := 0, code := some k2c0 }
def k2c1 : Code := { maxStack := 4, maxLocals := 10, code := prog_69_method_2_code, exceptionTable := #[], attributes := #[] }
def k2m1 : Method := { name := "anyTaken", desc := "(II)Z", sig := { parameters := [.int, .int], returnType := some .boolean }, accessFlags := 0, code := some k2c1 }
def k2c2 : Code := { maxStack := 8, maxLocals := 10, code := prog_69_method_3_code, exceptionTable := #[], attributes := #[] }
def k2m2 : Method := { name := "take", desc := "(II)V", sig := { parameters := [.int, .int], returnType := none }, accessFlags := 0, code := some k2c2 }
/-- com/example/opword/opword/dex/TakenBytes -/
def k2 : Class := { plain "com/example/opword/opword/dex/TakenBytes" (some 0) with
  accessFlags := 48
  interfaces := #[]
  cf := some (fileOf pool2 10 #[] #[{ accessFlags := 0, nameIndex := 5, descriptorIndex := 17, attributes := #[] }, { accessFlags := 0, nameIndex := 20, descriptorIndex := 21, attributes := #[] }, { accessFlags := 0, nameIndex := 23, descriptorIndex := 24, attributes := #[] }] 48 2 #[] #[{ accessFlags := 18, nameIndex := 13, descriptorIndex := 14, attributes := #[] }])
  fields := #[{ name := "words", type := (.array .long), accessFlags := 18, slot := 0, constantValue := 0 }]
  methods := #[k2m0, k2m1, k2m2]
  instanceTypes := #[(.array .long)]
  staticTypes := #[]
  resolved := Array.replicate 27 none
  statics := none }

def pool3 : Array CpInfo := pool [(1, .class_ 2), (0, u "java/lang/Math"), (1, .class_ 6), (1, u "java/lang/Object"), (0, u "<init>"), (0, u "()V"), (89, .class_ 100), (1, u "java/lang/Math$RandomNumberGeneratorHolder"), (71, u "negativeZeroFloatBits"), (0, u "J"), (2, u "negativeZeroDoubleBits"), (21, u "max"), (2, u "min"), (43, u "$assertionsDisabled"), (0, u "Z"), (88, u "(II)I"), (2, u "twoToTheDoubleScaleDown"), (0, u "D"), (4, u "twoToTheDoubleScaleUp"), (9, u "E"), (3, u "PI"), (2, u "TAU"), (2, u "DEGREES_TO_RADIANS"), (0, u "RADIANS_TO_DEGREES")] 94

def k3m0 : Method := { name := "<init>", desc := "()V", sig := { parameters := [], returnType := none }, accessFlags := 2, code := none }
def k3c1 : Code := { maxStack := 2, maxLocals := 2, code := jdk_29_method_65_code, exceptionTable := #[], attributes := #[] }
def k3m1 : Method := { name := "max", desc := "(II)I", sig := { parameters := [.int, .int], returnType := some .int }, accessFlags := 9, code := some k3c1 }
def k3c2 : Code := { maxStack := 2, maxLocals := 2, code := jdk_29_method_69_code, exceptionTable := #[], attributes := #[] }
def k3m2 : Method := { name := "min", desc := "(II)I", sig := { parameters := [.int, .int], returnType := some .int }, accessFlags := 9, code := some k3c2 }
/-- java/lang/Math -/
def k3 : Class := { plain "java/lang/Math" (some 0) with
  accessFlags := 49
  interfaces := #[]
  cf := some (fileOf pool3 1 #[.nestMembers #[98]] #[{ accessFlags := 2, nameIndex := 7, descriptorIndex := 8, attributes := #[] }, { accessFlags := 9, nameIndex := 198, descriptorIndex := 335, attributes := #[] }, { accessFlags := 9, nameIndex := 201, descriptorIndex := 335, attributes := #[] }] 49 4 #[] #[{ accessFlags := 25, nameIndex := 354, descriptorIndex := 339, attributes := #[] }, { accessFlags := 25, nameIndex := 358, descriptorIndex := 339, attributes := #[] }, { accessFlags := 25, nameIndex := 361, descriptorIndex := 339, attributes := #[] }, { accessFlags := 26, nameIndex := 364, descriptorIndex := 339, attributes := #[] }, { accessFlags := 26, nameIndex := 365, descriptorIndex := 339, attributes := #[] }, { accessFlags := 26, nameIndex := 172, descriptorIndex := 173, attributes := #[] }, { accessFlags := 26, nameIndex := 176, descriptorIndex := 173, attributes := #[] }, { accessFlags := 8, nameIndex := 344, descriptorIndex := 339, attributes := #[] }, { accessFlags := 8, nameIndex := 338, descriptorIndex := 339, attributes := #[] }, { accessFlags := 4120, nameIndex := 245, descriptorIndex := 246, attributes := #[] }])
  fields := #[{ name := "E", type := .double, accessFlags := 25, slot := 0, constantValue := 0 }, { name := "PI", type := .double, accessFlags := 25, slot := 1, constantValue := 0 }, { name := "TAU", type := .double, accessFlags := 25, slot := 2, constantValue := 0 }, { name := "DEGREES_TO_RADIANS", type := .double, accessFlags := 26, slot := 3, constantValue := 0 }, { name := "RADIANS_TO_DEGREES", type := .double, accessFlags := 26, slot := 4, constantValue := 0 }, { name := "negativeZeroFloatBits", type := .long, accessFlags := 26, slot := 5, constantValue := 0 }, { name := "negativeZeroDoubleBits", type := .long, accessFlags := 26, slot := 6, constantValue := 0 }, { name := "twoToTheDoubleScaleUp", type := .double, accessFlags := 8, slot := 7, constantValue := 0 }, { name := "twoToTheDoubleScaleDown", type := .double, accessFlags := 8, slot := 8, constantValue := 0 }, { name := "$assertionsDisabled", type := .boolean, accessFlags := 4120, slot := 9, constantValue := 0 }]
  methods := #[k3m0, k3m1, k3m2]
  instanceTypes := #[]
  staticTypes := #[.double, .double, .double, .double, .double, .long, .long, .double, .double, .boolean]
  resolved := Array.replicate 460 none
  statics := none }

def pool4 : Array CpInfo := pool [(1, u "java/lang/Cloneable"), (0, .class_ 1), (0, u "java/lang/Object"), (0, .class_ 3)] 3

/-- java/lang/Cloneable -/
def k4 : Class := { plain "java/lang/Cloneable" (some 0) with
  accessFlags := 1537
  interfaces := #[]
  cf := some (fileOf pool4 2 #[] #[] 1537 4 #[] #[])
  fields := #[]
  methods := #[]
  instanceTypes := #[]
  staticTypes := #[]
  resolved := Array.replicate 8 none
  statics := none }

def pool5 : Array CpInfo := pool [(1, u "java/io/Serializable"), (0, .class_ 1), (0, u "java/lang/Object"), (0, .class_ 3)] 3

/-- java/io/Serializable -/
def k5 : Class := { plain "java/io/Serializable" (some 0) with
  accessFlags := 1537
  interfaces := #[]
  cf := some (fileOf pool5 2 #[] #[] 1537 4 #[] #[])
  fields := #[]
  methods := #[]
  instanceTypes := #[]
  staticTypes := #[]
  resolved := Array.replicate 8 none
  statics := none }

/-- the primitive byte -/
def k6 : Class := { plain "byte" none with kind := .primitive 'B', accessFlags := 0x411 }
/-- [B -/
def k7 : Class := { plain "[B" (some 0) with kind := .array 6 .byte, interfaces := #[4, 5], accessFlags := 1041 }

/-- the primitive int -/
def k8 : Class := { plain "int" none with kind := .primitive 'I', accessFlags := 0x411 }
/-- [I -/
def k9 : Class := { plain "[I" (some 0) with kind := .array 8 .int, interfaces := #[4, 5], accessFlags := 1041 }

/-- the primitive long -/
def k10 : Class := { plain "long" none with kind := .primitive 'J', accessFlags := 0x411 }
/-- [J -/
def k11 : Class := { plain "[J" (some 0) with kind := .array 10 .long, interfaces := #[4, 5], accessFlags := 1041 }

def heap : Heap := #[]
def classes : Array Class := #[k0, k1, k2, k3, k4, k5, k6, k7, k8, k9, k10, k11]
def interned : List (Array UInt16 × Addr) := []
def slotsUsed : Nat := 0
def theMethod : MethodId := ⟨1, 3⟩
def args0 : Array Value := #[.int 5, .int 70, .int 100, .int 200, .int 3, .int 90]
def aboutOver (below : List Frame) : State where
  vm := { classes := classes, interned := interned.toArray }
  heap := heap
  slotsUsed := slotsUsed
  threads := #[{ frames := .invoking theMethod args0 :: below }]
def below0 : List Frame := [.native { method := ⟨0, 0⟩, args := #[] }]
def about1 : State := aboutOver below0
def p0 : Program := .bare "" "" ""
def e0 : Env := launch0.env 0 0 0
theorem w_frames : about1.frames = Frame.invoking theMethod args0 :: below0 := rfl
set_option maxRecDepth 65536 in
theorem w_args : argsFit about1.vm theMethod args0 = true := by decide +kernel
set_option maxRecDepth 65536 in
theorem w_heap : heapFits about1 = true := by decide +kernel
set_option maxRecDepth 65536 in
theorem w_runnable : about1.curStatus? = some .runnable := by decide +kernel
set_option maxRecDepth 65536 in
theorem w_alone : about1.alone = true := by decide +kernel
set_option maxRecDepth 65536 in
theorem w_named : about1.methodNamed? x = some theMethod := by decide +kernel
set_option maxRecDepth 65536 in
theorem w_hears : about1.hears theMethod below0 = true := by decide +kernel
set_option maxRecDepth 65536 in
theorem w_ripe : about1.ripe theMethod args0 below0 = true := by decide +kernel
theorem w_running : about1.status = .running := rfl
set_option maxRecDepth 65536 in
theorem w_room : about1.hasRoom e0.platform room_1 = true :=
  launch0.hasRoom_least _ room_1 (by decide +kernel) (by decide +kernel) (by decide +kernel) (by decide +kernel) (by decide +kernel) (by decide +kernel)
theorem allAtoms_all (ts : List Jvm.Cond) (a : Array Jvm.Value) (st : Jvm.State) : (allAtoms ts).before a st = ts.all (fun c => c.before a st) := by
  induction ts with
  | nil => rfl
  | cons c t ih =>
    show (Jvm.Cond.and c (allAtoms t)).before a st = _
    rw [Jvm.Cond.before_and, ih, List.all_cons]
def words1 : List Jvm.Cond := Jvm.Cond.code x code maxLocals ret :: tables_1
/-- a 'code' word, met by the world's own term for the bytes: nothing is compared byte by byte -/
theorem code_word {y : MethodName} {bytes : ByteArray} {mx : Nat} {rt : Option FieldType} {a : Array Value} {s : State} {m : MethodId} {meth : Method} {c : Code} (h1 : s.methodNamed? y = some m) (h2 : s.vm.method? m = some meth) (h3 : meth.code = some c) (h4 : c.code = bytes)
    (h5 : (c.maxLocals == mx && c.exceptionTable.isEmpty && decide (c.maxStack ≤ mostOperands) && decide (meth.sig.returnType = rt) && !meth.locks && decide (parseMethodDescriptor y.desc = some meth.sig)) = true) : (Jvm.Cond.code y bytes mx rt).before a s = true := by
  simp only [Bool.and_eq_true, beq_iff_eq, Bool.not_eq_true', decide_eq_true_eq] at h5
  obtain ⟨⟨⟨⟨⟨g1, g2⟩, g3⟩, g4⟩, g5⟩, g6⟩ := h5
  simp [Cond.before, Cond.holds, Cond.value, h1, h2, h3, h4, g1, g2, g3, g4, g5, g6]
def isCode : Jvm.Cond → Bool
  | .code _ _ _ _ => true
  | _ => false
theorem all_split {L : List Jvm.Cond} {P : Jvm.Cond → Bool} (h1 : L.all (fun c => isCode c || P c) = true) (h2 : ∀ c ∈ L.filter isCode, P c = true) : L.all P = true := by
  refine List.all_eq_true.mpr fun c hc => ?_
  have h := List.all_eq_true.mp h1 c hc
  rcases Bool.eq_false_or_eq_true (isCode c) with hi | hi
  · exact h2 c (List.mem_filter.mpr ⟨hc, hi⟩)
  · simpa [hi] using h
set_option maxRecDepth 65536 in
theorem w_c0 : (Jvm.Cond.code x code maxLocals ret).before args0 about1 = true := code_word (m := ⟨1, 3⟩) (meth := k1m3) (c := k1c3) (by decide +kernel) rfl rfl rfl (by decide +kernel)
set_option maxRecDepth 65536 in
theorem w_c1 : (Jvm.Cond.code ({ cls := "com/example/opword/opword/dex/TakenBytesAnyTakenPinLaw", name := "pos", desc := "(I)I" } : Jvm.MethodName) method_2_code (1 : Nat) (Option.some Jvm.ClassFile.FieldType.int)).before args0 about1 = true := code_word (m := ⟨1, 1⟩) (meth := k1m1) (c := k1c1) (by decide +kernel) rfl rfl rfl (by decide +kernel)
set_option maxRecDepth 65536 in
theorem w_c2 : (Jvm.Cond.code ({ cls := "com/example/opword/opword/dex/TakenBytes", name := "<init>", desc := "(I)V" } : Jvm.MethodName) prog_69_method_1_code (2 : Nat) (Option.none : Option Jvm.ClassFile.FieldType)).before args0 about1 = true := code_word (m := ⟨2, 0⟩) (meth := k2m0) (c := k2c0) (by decide +kernel) rfl rfl rfl (by decide +kernel)
set_option maxRecDepth 65536 in
theorem w_c3 : (Jvm.Cond.code ({ cls := "java/lang/Object", name := "<init>", desc := "()V" } : Jvm.MethodName) object_method_1_code (1 : Nat) (Option.none : Option Jvm.ClassFile.FieldType)).before args0 about1 = true := code_word (m := ⟨0, 0⟩) (meth := k0m0) (c := k0c0) (by decide +kernel) rfl rfl rfl (by decide +kernel)
set_option maxRecDepth 65536 in
theorem w_c4 : (Jvm.Cond.code ({ cls := "com/example/opword/opword/dex/TakenBytes", name := "take", desc := "(II)V" } : Jvm.MethodName) prog_69_method_3_code (10 : Nat) (Option.none : Option Jvm.ClassFile.FieldType)).before args0 about1 = true := code_word (m := ⟨2, 2⟩) (meth := k2m2) (c := k2c2) (by decide +kernel) rfl rfl rfl (by decide +kernel)
set_option maxRecDepth 65536 in
theorem w_c5 : (Jvm.Cond.code ({ cls := "com/example/opword/opword/dex/TakenBytes", name := "anyTaken", desc := "(II)Z" } : Jvm.MethodName) prog_69_method_2_code (10 : Nat) (Option.some Jvm.ClassFile.FieldType.boolean)).before args0 about1 = true := code_word (m := ⟨2, 1⟩) (meth := k2m1) (c := k2c1) (by decide +kernel) rfl rfl rfl (by decide +kernel)
set_option maxRecDepth 65536 in
theorem w_c6 : (Jvm.Cond.code ({ cls := "com/example/opword/opword/dex/TakenBytesAnyTakenPinLaw", name := "overlaps", desc := "(IIII)Z" } : Jvm.MethodName) method_3_code (4 : Nat) (Option.some Jvm.ClassFile.FieldType.boolean)).before args0 about1 = true := code_word (m := ⟨1, 2⟩) (meth := k1m2) (c := k1c2) (by decide +kernel) rfl rfl rfl (by decide +kernel)
set_option maxRecDepth 65536 in
theorem w_c7 : (Jvm.Cond.code ({ cls := "java/lang/Math", name := "max", desc := "(II)I" } : Jvm.MethodName) jdk_29_method_65_code (2 : Nat) (Option.some Jvm.ClassFile.FieldType.int)).before args0 about1 = true := code_word (m := ⟨3, 1⟩) (meth := k3m1) (c := k3c1) (by decide +kernel) rfl rfl rfl (by decide +kernel)
set_option maxRecDepth 65536 in
theorem w_c8 : (Jvm.Cond.code ({ cls := "java/lang/Math", name := "min", desc := "(II)I" } : Jvm.MethodName) jdk_29_method_69_code (2 : Nat) (Option.some Jvm.ClassFile.FieldType.int)).before args0 about1 = true := code_word (m := ⟨3, 2⟩) (meth := k3m2) (c := k3c2) (by decide +kernel) rfl rfl rfl (by decide +kernel)
def codes1 : List Jvm.Cond := [Jvm.Cond.code x code maxLocals ret, Jvm.Cond.code ({ cls := "com/example/opword/opword/dex/TakenBytesAnyTakenPinLaw", name := "pos", desc := "(I)I" } : Jvm.MethodName) method_2_code (1 : Nat) (Option.some Jvm.ClassFile.FieldType.int), Jvm.Cond.code ({ cls := "com/example/opword/opword/dex/TakenBytes", name := "<init>", desc := "(I)V" } : Jvm.MethodName) prog_69_method_1_code (2 : Nat) (Option.none : Option Jvm.ClassFile.FieldType), Jvm.Cond.code ({ cls := "java/lang/Object", name := "<init>", desc := "()V" } : Jvm.MethodName) object_method_1_code (1 : Nat) (Option.none : Option Jvm.ClassFile.FieldType), Jvm.Cond.code ({ cls := "com/example/opword/opword/dex/TakenBytes", name := "take", desc := "(II)V" } : Jvm.MethodName) prog_69_method_3_code (10 : Nat) (Option.none : Option Jvm.ClassFile.FieldType), Jvm.Cond.code ({ cls := "com/example/opword/opword/dex/TakenBytes", name := "anyTaken", desc := "(II)Z" } : Jvm.MethodName) prog_69_method_2_code (10 : Nat) (Option.some Jvm.ClassFile.FieldType.boolean), Jvm.Cond.code ({ cls := "com/example/opword/opword/dex/TakenBytesAnyTakenPinLaw", name := "overlaps", desc := "(IIII)Z" } : Jvm.MethodName) method_3_code (4 : Nat) (Option.some Jvm.ClassFile.FieldType.boolean), Jvm.Cond.code ({ cls := "java/lang/Math", name := "max", desc := "(II)I" } : Jvm.MethodName) jdk_29_method_65_code (2 : Nat) (Option.some Jvm.ClassFile.FieldType.int), Jvm.Cond.code ({ cls := "java/lang/Math", name := "min", desc := "(II)I" } : Jvm.MethodName) jdk_29_method_69_code (2 : Nat) (Option.some Jvm.ClassFile.FieldType.int)]
set_option maxRecDepth 65536 in
theorem codes_eq : words1.filter isCode = codes1 := rfl
theorem w_codes : ∀ c ∈ words1.filter isCode, c.before args0 about1 = true := by
  rw [codes_eq]
  intro c hc
  simp only [codes1, List.mem_cons, List.not_mem_nil, or_false] at hc
  rcases hc with rfl | rfl | rfl | rfl | rfl | rfl | rfl | rfl | rfl
  · exact w_c0
  · exact w_c1
  · exact w_c2
  · exact w_c3
  · exact w_c4
  · exact w_c5
  · exact w_c6
  · exact w_c7
  · exact w_c8
set_option maxRecDepth 65536 in
theorem w_t1 : (words1.take 24).all (fun c => isCode c || c.before args0 about1) = true := by decide +kernel
set_option maxRecDepth 65536 in
theorem w_t2 : (words1.drop 24).all (fun c => isCode c || c.before args0 about1) = true := by decide +kernel
theorem w_tables : (allAtoms (Jvm.Cond.code x code maxLocals ret :: tables_1)).before args0 about1 = true := by
  rw [allAtoms_all]
  show words1.all (fun c => c.before args0 about1) = true
  refine all_split ?_ w_codes
  rw [← List.take_append_drop 24 words1, List.all_append, w_t1, w_t2]
  rfl
set_option maxRecDepth 65536 in
theorem w_case : (Jvm.Cond.and given_1 narrow_1).before args0 about1 = true := by decide +kernel
theorem w_applies : (headSpec (Jvm.Cond.code x code maxLocals ret :: tables_1) room_1).applies x e0.platform about1 = true :=
  (Spec.applies_iff w_frames).mpr ⟨w_running, w_runnable, w_alone, w_named, w_hears, w_ripe, w_room, w_tables⟩
theorem atStart : AtStart classFile x code maxLocals ret World_1 tables_1 room_1 Calls_1 rest_1 Pre_1 launch0 p0 e0 about1 theMethod args0 below0 :=
  ⟨lists_1, trivial, launch0.admits_env _ _ _, launch0.least_env, fairChoices_fair.cas, fairChoices_fair.clock, w_frames, w_args, w_heap, w_applies, trivial, trivial, w_case⟩
end start1
theorem witness_1 : WitnessClaimed_1 := ⟨start1.p0, start1.e0, start1.about1, start1.theMethod, start1.args0, start1.below0, start1.atStart⟩
end Jvm.Pilot.@@N@@
