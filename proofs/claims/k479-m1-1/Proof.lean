import JvmDerived
import JvmDerived.Pilot.@@N@@Statement
import JvmDerived.Pilot.@@N@@Code
set_option linter.unusedVariables false
set_option linter.unusedSimpArgs false
namespace Jvm.RoadKit
open Sem ClassFile Op Lib Jvm.Stand Jvm.Free Jvm.LawKit
section New
variable {p : Program} {l : Launch} {e : Env} {R : Room} {s : State} {m : MethodId} {args : Array Value} {below : List Frame} {meth : Method} {c : Code} {T : State} {locs : List Loc} {cells slots : Nat}
theorem retI (X : Stand p l e R s m args below meth c T locs cells slots) (hx : p.tables.exec = Jvm.exec) {pc : Nat} {Ls : Array Slot} {z : Int32} {rest : List Value} (hret : meth.sig.returnType = some .int) (hd : decode c.code pc = .ok (.ireturn, 1)) {fs : List Frame}
    (hl : ∀ (f : JFrame) (acts : List Action), f.method = m → f.locked = none → f.entered = [] → (doReturn e (T.setTop f) acts (some (.int z))).1 = T.setFrames fs) : Steps p.tables e below (T.setTop (mkF m pc Ls (.int z :: rest))) (T.setFrames fs) := by
  have hm' : T.vm.method? m = some meth := X.method'
  have hn : narrow .int (.int z) = .int z := rfl
  show Steps p.tables e below (T.setTop { method := m, pc := pc, locals := Ls, stack := _ :: rest, locked := none }) _
  jvm_step X.here [X.here.top, hx, hd, hm', hret, hn]
  first | (intro acts; rw [hl _ acts rfl rfl rfl]) | rw [hl _ _ rfl rfl rfl]
  exact Steps.refl _
end New
end Jvm.RoadKit
namespace Jvm.Pilot.@@N@@
open Jvm Jvm.ClassFile Sem Op Lib Jvm.Free Jvm.Stand Jvm.LawKit Jvm.RoadKit Bundle Jvm.Pilot.@@N@@.Jvm.D
theorem own_pd0 : parseMethodDescriptor "(I)I" = some ⟨[.int], some .int⟩ := by decide +kernel
theorem own_pd1 : parseMethodDescriptor "([II[II[ZI)V" = some ⟨[(.array .int), .int, (.array .int), .int, (.array .boolean), .int], none⟩ := by decide +kernel
theorem own_pd2 : parseMethodDescriptor "([II[II[ZII)V" = some ⟨[(.array .int), .int, (.array .int), .int, (.array .boolean), .int, .int], none⟩ := by decide +kernel
theorem own_pd3 : parseMethodDescriptor "([II)[I" = some ⟨[(.array .int), .int], some (.array .int)⟩ := by decide +kernel
theorem own_pd4 : parseMethodDescriptor "([I[I)Z" = some ⟨[(.array .int), (.array .int)], some .boolean⟩ := by decide +kernel
theorem own_frE {n : Nat} {L L' : List Loc} (h : L' = L) (f : Fr n L) : Fr n L' := h ▸ f
theorem own_ni {a b : Addr} {n : Nat} (h : a < n) (g : b = n) : a ∉ [b] := fun q => absurd (List.mem_singleton.mp q) (Nat.ne_of_lt (g ▸ h))
theorem own_in0 (a : Addr) (l : List Addr) : a ∈ a :: l := List.mem_cons_self ..
theorem own_fill {f : Nat → Int32} {k : Nat} (j : Nat) : (if j = k then Value.int (f k) else Value.int (if j < k then f j else 0)) = Value.int (if j < k + 1 then f j else 0) := by
  by_cases h : j = k
  · rw [if_pos h, if_pos (by omega), h]
  · rw [if_neg h]
    by_cases h2 : j < k
    · rw [if_pos h2, if_pos (by omega)]
    · rw [if_neg h2, if_neg (by omega)]
/-- an array: its kind, its length, what each place holds -/
def Av (Z : State) (h : Heap) (a : Addr) (ty : FieldType) (N : Nat) (g : Nat → Value) : Prop := ∃ c : Cell, Arr Z h a c ty ∧ c.slots.size = N ∧ ∀ j, j < N → c.slots[j]? = some (g j)
theorem Av.lt {Z : State} {h : Heap} {a : Addr} {ty : FieldType} {N : Nat} {g : Nat → Value} (V : Av Z h a ty N g) : a < h.size := by obtain ⟨c, A, -⟩ := V; exact A.lt
theorem Av.ext {Z : State} {h h' : Heap} {a : Addr} {ty : FieldType} {N : Nat} {g : Nat → Value} (V : Av Z h a ty N g) (E : Ext h h') : Av Z h' a ty N g := by obtain ⟨c, A, r⟩ := V; exact ⟨c, A.ext E, r⟩
theorem Av.other {Z : State} {h h' : Heap} {a b : Addr} {ty : FieldType} {N sl : Nat} {v : Value} {g : Nat → Value} (V : Av Z h b ty N g) (W : Wr h h' a sl v) (q : b ≠ a) : Av Z h' b ty N g := by obtain ⟨c, A, r⟩ := V; exact ⟨c, A.other W q, r⟩
theorem Av.keep {Z : State} {h h' : Heap} {a : Addr} {ty : FieldType} {N : Nat} {g : Nat → Value} {ws : List Addr} (V : Av Z h a ty N g) (K : Keep h h' ws) (q : a ∉ ws) : Av Z h' a ty N g := by obtain ⟨c, A, r⟩ := V; exact ⟨c, ⟨K.2.1 a c A.1 q, A.2⟩, r⟩
theorem Av.congr {Z : State} {h : Heap} {a : Addr} {ty : FieldType} {N : Nat} {g g' : Nat → Value} (V : Av Z h a ty N g) (q : ∀ j, j < N → g j = g' j) : Av Z h a ty N g' := by obtain ⟨c, A, S, G⟩ := V; exact ⟨c, A, S, fun j hj => (G j hj).trans (congrArg some (q j hj))⟩
theorem Av.new {Z : State} {h : Heap} {a : Addr} {cA : ClassId} {ty : FieldType} {n : Int32} (A : Arr Z h a (newA cA ty n) ty) {N : Nat} (hN : n.toInt = N) : Av Z h a ty N (fun _ => defaultValue ty) := by
  have e : n.toNatClampNeg = N := by rw [Int32.toNatClampNeg, hN]; rfl
  refine ⟨_, A, (sz_new _ _ _).trans e, fun j hj => ?_⟩
  simp [newA, e, hj]
theorem own_tn {j : Int32} {i : Nat} (hj : j.toInt = i) : j.toNatClampNeg = i := by rw [Int32.toNatClampNeg, hj]; rfl
theorem own_hin {cl : Cell} {N i : Nat} {j : Int32} (S : cl.slots.size = N) (hj : j.toInt = i) (hi : i < N) : ¬ (j < 0 ∨ cl.slots.size ≤ j.toNatClampNeg) := by
  rw [S, own_tn hj, Int32.lt_iff_toInt_lt, hj, show (0 : Int32).toInt = 0 from rfl]
  omega
theorem own_hat {cl : Cell} {N i : Nat} {j : Int32} {g : Nat → Value} (G : ∀ j, j < N → cl.slots[j]? = some (g j)) (hj : j.toInt = i) (hi : i < N) : cl.slots[j.toNatClampNeg]? = some (g i) := by
  rw [own_tn hj]; exact G i hi
theorem Av.set {Z : State} {h h' : Heap} {a : Addr} {ty : FieldType} {N i : Nat} {g : Nat → Value} {v : Value} {c : Cell} {j : Int32} (A : Arr Z h a c ty) (S : c.slots.size = N) (G : ∀ j, j < N → c.slots[j]? = some (g j)) (hj : j.toInt = i) (W : Wr h h' a j.toNatClampNeg v) : Av Z h' a ty N (fun k => if k = i then v else g k) := by
  refine ⟨_, A.same W, (sz_set _ _ _).trans S, fun k hk => ?_⟩
  show (c.slots.setIfInBounds j.toNatClampNeg v)[k]? = some (if k = i then v else g k)
  rw [own_tn hj, Array.getElem?_setIfInBounds]
  by_cases q : i = k
  · subst q; simp [S, hk]
  · rw [if_neg q, if_neg (fun z => q z.symm)]; exact G k hk
theorem own_nneg {j : Int32} {i : Nat} (hj : j.toInt = i) : ¬ j < 0 := by
  rw [Int32.lt_iff_toInt_lt, hj, show (0 : Int32).toInt = 0 from rfl]; omega
theorem own_sz {cl : Cell} {N : Nat} {j : Int32} (S : cl.slots.size = N) (hj : j.toInt = N) : cl.slots.size = j.toNatClampNeg := by rw [S, own_tn hj]
theorem own_ni1 {a b : Addr} (h : a ≠ b) : a ∉ [b] := fun q => h (List.mem_singleton.mp q)
theorem own_inc {x : Int32} {i : Nat} (hx : x.toInt = i) (hi : i < 2147483647) : (x + (1 : Int32)).toInt = ((i + 1 : Nat) : Int) := by
  have h := c_iadd x (1 : Int32)
  have := rng32 (x + (1 : Int32))
  rw [show (1 : Int32).toInt = 1 from by decide] at h
  omega
theorem own_addN {x y : Int32} {a b : Nat} (hx : x.toInt = a) (hy : y.toInt = b) (hi : a + b < 2147483648) : (x + y).toInt = ((a + b : Nat) : Int) := by
  have h := c_iadd x y
  have := rng32 (x + y)
  omega
theorem own_subN {x y : Int32} {a b : Nat} (hx : x.toInt = a) (hy : y.toInt = b) (hi : b ≤ a) : (x - y).toInt = ((a - b : Nat) : Int) := by
  have h := c_isub x y
  have := rng32 (x - y); have := rng32 x
  omega
theorem own_lt {x y : Int32} {i j : Nat} (hx : x.toInt = i) (hy : y.toInt = j) : x < y ↔ i < j := by
  rw [Int32.lt_iff_toInt_lt, hx, hy]; omega
theorem own_eqi {x y : Int32} {i j : Nat} (hx : x.toInt = i) (hy : y.toInt = j) : x = y ↔ i = j := by
  rw [← Int32.toInt_inj, hx, hy]; omega
theorem own_rem {x y : Int32} {a b : Nat} (hx : x.toInt = a) (hy : y.toInt = b) : (x % y).toInt = ((a % b : Nat) : Int) := by
  rw [(c_irem x y b hy).1 (by omega), hx, Int.natCast_emod]
theorem own_ne0 {x : Int32} {a : Nat} (hx : x.toInt = a) (ha : 0 < a) : x ≠ 0 := fun q => by
  rw [q, show (0 : Int32).toInt = 0 from by decide] at hx; omega
theorem own_of {x : Int32} {n : Nat} (h : x.toInt = n) : x = Int32.ofInt n := by
  rw [← h]; exact (Int32.ofInt_toInt x).symm
/-- does a pattern's rest match a text's rest: by the lengths of the two rests; p' and t' are read from the end -/
def own_star (g : Nat → Bool) : Nat → Bool
  | 0 => g 0
  | l + 1 => g (l + 1) || own_star g l
def own_lit (q : Int32) (t' : Nat → Int32) (g : Nat → Bool) : Nat → Bool
  | 0 => false
  | l + 1 => (decide (q = 63) || decide (q = t' (l + 1))) && g l
def own_M (p' t' : Nat → Int32) : Nat → Nat → Bool
  | 0 => fun l => decide (l = 0)
  | k + 1 => if p' (k + 1) = 42 then own_star (own_M p' t' k) else own_lit (p' (k + 1)) t' (own_M p' t' k)
/-- the pattern from place i on matches the text from place j on -/
def own_mm (pl tl : Nat) (p t : Nat → Int32) (i j : Nat) : Bool := own_M (fun k => p (pl - k)) (fun k => t (tl - k)) (pl - i) (tl - j)
def own_b (b : Bool) : Int32 := if b = true then 1 else 0
section Match
variable {pl tl : Nat} {p t : Nat → Int32}
theorem own_end (j : Nat) : own_mm pl tl p t pl j = decide (tl - j = 0) := by
  unfold own_mm; rw [Nat.sub_self]; rfl
theorem own_st {i j : Nat} (hi : i < pl) (hp : p i = 42) (hj : j ≤ tl) : own_mm pl tl p t i j = (own_mm pl tl p t (i + 1) j || (decide (j < tl) && own_mm pl tl p t i (j + 1))) := by
  unfold own_mm
  obtain ⟨k, hk⟩ : ∃ k, pl - i = k + 1 := ⟨pl - i - 1, by omega⟩
  have hk2 : pl - (i + 1) = k := by omega
  have e : own_M (fun k => p (pl - k)) (fun k => t (tl - k)) (k + 1) = own_star (own_M (fun k => p (pl - k)) (fun k => t (tl - k)) k) := by
    show (if p (pl - (k + 1)) = 42 then _ else _) = _
    rw [if_pos (by rw [show pl - (k + 1) = i by omega]; exact hp)]
  rw [hk, hk2, e]
  by_cases h : j < tl
  · obtain ⟨l, hl⟩ : ∃ l, tl - j = l + 1 := ⟨tl - j - 1, by omega⟩
    have hl2 : tl - (j + 1) = l := by omega
    rw [hl, hl2, decide_eq_true h, Bool.true_and]; rfl
  · rw [show tl - j = 0 by omega, decide_eq_false h, Bool.false_and, Bool.or_false]; rfl
theorem own_li {i j : Nat} (hi : i < pl) (hp : ¬ p i = 42) (hj : j ≤ tl) : own_mm pl tl p t i j = (decide (j < tl) && ((decide (p i = 63) || decide (p i = t j)) && own_mm pl tl p t (i + 1) (j + 1))) := by
  unfold own_mm
  obtain ⟨k, hk⟩ : ∃ k, pl - i = k + 1 := ⟨pl - i - 1, by omega⟩
  have hk2 : pl - (i + 1) = k := by omega
  have hk3 : pl - (k + 1) = i := by omega
  have e : own_M (fun k => p (pl - k)) (fun k => t (tl - k)) (k + 1) = own_lit (p i) (fun k => t (tl - k)) (own_M (fun k => p (pl - k)) (fun k => t (tl - k)) k) := by
    show (if p (pl - (k + 1)) = 42 then _ else own_lit (p (pl - (k + 1))) _ _) = _
    rw [hk3, if_neg hp]
  rw [hk, hk2, e]
  by_cases h : j < tl
  · obtain ⟨l, hl⟩ : ∃ l, tl - j = l + 1 := ⟨tl - j - 1, by omega⟩
    have hl2 : tl - (j + 1) = l := by omega
    rw [hl, hl2, decide_eq_true h, Bool.true_and]
    show ((decide (p i = 63) || decide (p i = t (tl - (l + 1)))) && _) = _
    rw [show tl - (l + 1) = j by omega]
  · rw [show tl - j = 0 by omega, decide_eq_false h, Bool.false_and]; rfl
/-- a star takes as much as one likes -/
theorem own_mono {i : Nat} (hi : i < pl) (hp : p i = 42) : ∀ d j, j + d ≤ tl → own_mm pl tl p t i (j + d) = true → own_mm pl tl p t i j = true := by
  intro d
  induction d with
  | zero => intro j _ h; exact h
  | succ d ih =>
    intro j hj h
    have h2 := ih (j + 1) (by omega) (by rw [show j + 1 + d = j + (d + 1) by omega]; exact h)
    rw [own_st hi hp (by omega), h2, decide_eq_true (show j < tl by omega), Bool.true_and, Bool.or_true]
theorem own_ex {i : Nat} (hi : i < pl) (hp : p i = 42) : ∀ d j, j + d = tl → (own_mm pl tl p t i j = true ↔ ∃ x, j ≤ x ∧ x ≤ tl ∧ own_mm pl tl p t (i + 1) x = true) := by
  intro d
  induction d with
  | zero =>
    intro j hj
    rw [own_st hi hp (by omega), decide_eq_false (show ¬ j < tl by omega), Bool.false_and, Bool.or_false]
    exact ⟨fun h => ⟨j, Nat.le_refl _, by omega, h⟩, fun ⟨x, h1, h2, h3⟩ => by rwa [show x = j by omega] at h3⟩
  | succ d ih =>
    intro j hj
    rw [own_st hi hp (by omega), decide_eq_true (show j < tl by omega), Bool.true_and, Bool.or_eq_true, ih (j + 1) (by omega)]
    constructor
    · rintro (h | ⟨x, h1, h2, h3⟩)
      · exact ⟨j, Nat.le_refl _, by omega, h⟩
      · exact ⟨x, by omega, h2, h3⟩
    · rintro ⟨x, h1, h2, h3⟩
      by_cases q : x = j
      · exact Or.inl (q ▸ h3)
      · exact Or.inr ⟨x, by omega, h2, h3⟩
/-- what has no star takes one sign a place -/
theorem own_eat : ∀ d i x, i + d ≤ pl → x ≤ tl → (∀ q, i ≤ q → q < i + d → ¬ p q = 42) → own_mm pl tl p t i x = true → x + d ≤ tl ∧ own_mm pl tl p t (i + d) (x + d) = true := by
  intro d
  induction d with
  | zero => intro i x _ hx _ h; exact ⟨hx, h⟩
  | succ d ih =>
    intro i x hd hx hq h
    rw [own_li (by omega) (hq i (Nat.le_refl _) (by omega)) hx, Bool.and_eq_true, Bool.and_eq_true, decide_eq_true_eq] at h
    obtain ⟨h1, -, h2⟩ := h
    have r := ih (i + 1) (x + 1) (by omega) (by omega) (fun q q1 q2 => hq q (by omega) (by omega)) h2
    rw [show i + 1 + d = i + (d + 1) by omega, show x + 1 + d = x + (d + 1) by omega] at r
    exact r
/-- the loop's invariant: s is the star's place and one more (0: none yet), u where its text began -/
def own_I (pl tl : Nat) (p t : Nat → Int32) (s u i j : Nat) : Prop :=
  (s = 0 ∧ u = 0 ∧ (own_mm pl tl p t 0 0 = true ↔ own_mm pl tl p t i j = true)) ∨
  (0 < s ∧ s ≤ i ∧ s ≤ pl ∧ p (s - 1) = 42 ∧ j = u + (i - s) ∧ (∀ q, s ≤ q → q < i → ¬ p q = 42) ∧ (own_mm pl tl p t 0 0 = true ↔ own_mm pl tl p t i j = true ∨ ∃ x, u < x ∧ x ≤ tl ∧ own_mm pl tl p t s x = true))
theorem own_i1 {s u i j : Nat} (H : own_I pl tl p t s u i j) (hi : i < pl) (hj : j ≤ tl) (hp : p i = 42) : own_I pl tl p t (i + 1) j (i + 1) j := by
  have e := own_ex (tl := tl) (p := p) (t := t) hi hp (tl - j) j (by omega)
  refine Or.inr ⟨by omega, Nat.le_refl _, by omega, hp, by omega, fun q q1 q2 => by omega, ?_⟩
  have e2 : own_mm pl tl p t i j = true ↔ own_mm pl tl p t (i + 1) j = true ∨ ∃ x, j < x ∧ x ≤ tl ∧ own_mm pl tl p t (i + 1) x = true := by
    rw [e]
    constructor
    · rintro ⟨x, h1, h2, h3⟩
      by_cases q : x = j
      · exact Or.inl (q ▸ h3)
      · exact Or.inr ⟨x, by omega, h2, h3⟩
    · rintro (h | ⟨x, h1, h2, h3⟩)
      · exact ⟨j, Nat.le_refl _, hj, h⟩
      · exact ⟨x, by omega, h2, h3⟩
  rw [← e2]
  rcases H with ⟨-, -, h⟩ | ⟨s1, s2, s3, s4, s5, s6, h⟩
  · exact h
  · rw [h]
    constructor
    · rintro (h | ⟨x, h1, h2, h3⟩)
      · exact h
      · obtain ⟨r1, r2⟩ := own_eat (i - s) s x (by omega) h2 (fun q q1 q2 => s6 q q1 (by omega)) h3
        rw [show s + (i - s) = i by omega] at r2
        exact own_mono (tl := tl) hi hp (x - u) j (by omega) (by rw [show j + (x - u) = x + (i - s) by omega]; exact r2)
    · exact Or.inl
theorem own_i2 {s u i j : Nat} (H : own_I pl tl p t s u i j) (hi : i < pl) (hj : j < tl) (hp : ¬ p i = 42) (hm : p i = 63 ∨ p i = t j) : own_I pl tl p t s u (i + 1) (j + 1) := by
  have e : own_mm pl tl p t i j = own_mm pl tl p t (i + 1) (j + 1) := by
    rw [own_li hi hp (by omega), decide_eq_true hj, Bool.true_and]
    rcases hm with h | h
    · rw [decide_eq_true h, Bool.true_or, Bool.true_and]
    · rw [decide_eq_true h, Bool.or_true, Bool.true_and]
  rcases H with ⟨h1, h2, h⟩ | ⟨s1, s2, s3, s4, s5, s6, h⟩
  · exact Or.inl ⟨h1, h2, by rw [← e]; exact h⟩
  · refine Or.inr ⟨s1, by omega, s3, s4, by omega, fun q q1 q2 => ?_, by rw [← e]; exact h⟩
    by_cases z : q = i
    · rw [z]; exact hp
    · exact s6 q q1 (by omega)
/-- no way on here -/
theorem own_no {i j : Nat} (hi : i ≤ pl) (hj : j < tl) (h : i < pl → ¬ p i = 42 ∧ ¬ p i = 63 ∧ ¬ p i = t j) : own_mm pl tl p t i j = false := by
  by_cases q : i < pl
  · obtain ⟨h1, h2, h3⟩ := h q
    rw [own_li q h1 (by omega), decide_eq_false h2, decide_eq_false h3, Bool.false_or, Bool.false_and, Bool.and_false]
  · obtain rfl : i = pl := by omega
    rw [own_end]; exact decide_eq_false (by omega)
theorem own_i3 {s u i j : Nat} (H : own_I pl tl p t s u i j) (hs : 0 < s) (hj : j < tl) (hn : own_mm pl tl p t i j = false) : own_I pl tl p t s (u + 1) s (u + 1) := by
  rcases H with ⟨h1, -⟩ | ⟨s1, s2, s3, s4, s5, s6, h⟩
  · omega
  · refine Or.inr ⟨s1, Nat.le_refl _, s3, s4, by omega, fun q q1 q2 => by omega, ?_⟩
    rw [h, hn]
    constructor
    · rintro (h | ⟨x, h1, h2, h3⟩)
      · cases h
      · by_cases q : x = u + 1
        · exact Or.inl (q ▸ h3)
        · exact Or.inr ⟨x, by omega, h2, h3⟩
    · rintro (h | ⟨x, h1, h2, h3⟩)
      · exact Or.inr ⟨u + 1, by omega, by omega, h⟩
      · exact Or.inr ⟨x, by omega, h2, h3⟩
theorem own_i4 {u i j : Nat} (H : own_I pl tl p t 0 u i j) (hn : own_mm pl tl p t i j = false) : own_mm pl tl p t 0 0 = false := by
  rcases H with ⟨-, -, h⟩ | ⟨s1, -⟩
  · rw [hn] at h
    cases e : own_mm pl tl p t 0 0
    · rfl
    · exact absurd (h.mp e) (by decide)
  · omega
/-- the text is read -/
theorem own_i5 {s u i j : Nat} (H : own_I pl tl p t s u i j) (hi : i ≤ pl) (hj : j = tl) : own_mm pl tl p t 0 0 = own_mm pl tl p t i tl := by
  subst hj
  have e : own_mm pl j p t 0 0 = true ↔ own_mm pl j p t i j = true := by
    rcases H with ⟨-, -, h⟩ | ⟨s1, s2, s3, s4, s5, s6, h⟩
    · exact h
    · rw [h]
      constructor
      · rintro (h | ⟨x, h1, h2, h3⟩)
        · exact h
        · have r := own_eat (i - s) s x (by omega) h2 (fun q q1 q2 => s6 q q1 (by omega)) h3
          omega
      · exact Or.inl
  cases e1 : own_mm pl j p t 0 0 <;> cases e2 : own_mm pl j p t i j <;> simp_all
end Match
/-- all places of the table from (i, j) on are done -/
def own_D (pl tl : Nat) (p t : Nat → Int32) (i j : Nat) (g : Nat → Int32) : Prop := ∀ i' j', i' ≤ pl → j' ≤ tl → (i < i' ∨ (i' = i ∧ j ≤ j')) → g (i' * 6 + j') = own_b (own_mm pl tl p t i' j')
def own_set (g : Nat → Int32) (k : Nat) (z : Int32) : Nat → Int32 := fun x => if x = k then z else g x
theorem own_D0 {pl tl : Nat} {p t : Nat → Int32} {i j : Nat} {g : Nat → Int32} (D : own_D pl tl p t i (j + 1) g) (h : pl < i ∨ tl < j) : own_D pl tl p t i j g := fun i' j' h1 h2 h3 => D i' j' h1 h2 (by omega)
theorem own_D1 {pl tl : Nat} {p t : Nat → Int32} {i j : Nat} {g : Nat → Int32} {z : Int32} (D : own_D pl tl p t i (j + 1) g) (hj : j ≤ 4) (htl : tl ≤ 4) (hz : own_b (own_mm pl tl p t i j) = z) : own_D pl tl p t i j (own_set g (i * 6 + j) z) := fun i' j' h1 h2 h3 => by
  unfold own_set
  by_cases q : i' = i ∧ j' = j
  · obtain ⟨rfl, rfl⟩ := q
    rw [if_pos rfl, hz]
  · rw [if_neg (by omega)]; exact D i' j' h1 h2 (by omega)
theorem own_Dr {pl tl : Nat} {p t : Nat → Int32} {i : Nat} {g : Nat → Int32} (D : own_D pl tl p t (i + 1) 0 g) (htl : tl ≤ 4) : own_D pl tl p t i 5 g := fun i' j' h1 h2 h3 => D i' j' h1 h2 (by omega)
theorem own_b1 {b : Bool} {x : Int32} (h : x = own_b b) (q : ¬ x = 0) : b = true := by cases b <;> simp_all [own_b]
theorem own_b0 {b : Bool} {x : Int32} (h : x = own_b b) (q : x = 0) : b = false := by cases b <;> simp_all [own_b]
theorem own_divs {pl tl : Nat} : True := trivial
def own_pc (x : Int32) : Int32 := if (x &&& (3 : Int32)) = (0 : Int32) then (42 : Int32) else if (x &&& (3 : Int32)) = (1 : Int32) then (63 : Int32) else if (x &&& (3 : Int32)) = (2 : Int32) then (97 : Int32) + (((x.toUInt32 >>> ((2 : Int32) &&& 31).toUInt32).toInt32) &&& (1 : Int32)) else x >>> ((2 : Int32) &&& 31)
def own_tc (x : Int32) : Int32 := if (x &&& (1 : Int32)) = (0 : Int32) then (97 : Int32) + (((x.toUInt32 >>> ((1 : Int32) &&& 31).toUInt32).toInt32) &&& (1 : Int32)) else x >>> ((1 : Int32) &&& 31)
theorem own_mulN {x y : Int32} {a b : Nat} (hx : x.toInt = a) (hy : y.toInt = b) (h : a * b < 2147483648) : (x * y).toInt = ((a * b : Nat) : Int) := by
  have e := c_imul x y
  have := rng32 (x * y)
  rw [hx, hy, ← Int.natCast_mul] at e
  generalize a * b = z at *
  omega
/-- four values, by place -/
def own_4 (x0 x1 x2 x3 : Int32) : Nat → Int32 := fun j => if j = 3 then x3 else if j = 2 then x2 else if j = 1 then x1 else if j = 0 then x0 else 0
theorem d1_0 : decode method_3_code 0 = .ok (.iload_n 0, 1) := by decide +kernel
theorem d1_1 : decode method_3_code 1 = .ok (.iconst 3, 1) := by decide +kernel
theorem d1_2 : decode method_3_code 2 = .ok (.iand, 1) := by decide +kernel
theorem d1_3 : decode method_3_code 3 = .ok (.istore_n 1, 1) := by decide +kernel
theorem d1_4 : decode method_3_code 4 = .ok (.iload_n 1, 1) := by decide +kernel
theorem d1_5 : decode method_3_code 5 = .ok (.ifCond .ne 6, 3) := by decide +kernel
theorem d1_8 : decode method_3_code 8 = .ok (.bipush 42, 2) := by decide +kernel
theorem d1_10 : decode method_3_code 10 = .ok (.ireturn, 1) := by decide +kernel
theorem d1_11 : decode method_3_code 11 = .ok (.iload_n 1, 1) := by decide +kernel
theorem d1_12 : decode method_3_code 12 = .ok (.iconst 1, 1) := by decide +kernel
theorem d1_13 : decode method_3_code 13 = .ok (.if_icmp .ne 6, 3) := by decide +kernel
theorem d1_16 : decode method_3_code 16 = .ok (.bipush 63, 2) := by decide +kernel
theorem d1_18 : decode method_3_code 18 = .ok (.ireturn, 1) := by decide +kernel
theorem d1_19 : decode method_3_code 19 = .ok (.iload_n 1, 1) := by decide +kernel
theorem d1_20 : decode method_3_code 20 = .ok (.iconst 2, 1) := by decide +kernel
theorem d1_21 : decode method_3_code 21 = .ok (.if_icmp .ne 12, 3) := by decide +kernel
theorem d1_24 : decode method_3_code 24 = .ok (.bipush 97, 2) := by decide +kernel
theorem d1_26 : decode method_3_code 26 = .ok (.iload_n 0, 1) := by decide +kernel
theorem d1_27 : decode method_3_code 27 = .ok (.iconst 2, 1) := by decide +kernel
theorem d1_28 : decode method_3_code 28 = .ok (.iushr, 1) := by decide +kernel
theorem d1_29 : decode method_3_code 29 = .ok (.iconst 1, 1) := by decide +kernel
theorem d1_30 : decode method_3_code 30 = .ok (.iand, 1) := by decide +kernel
theorem d1_31 : decode method_3_code 31 = .ok (.iadd, 1) := by decide +kernel
theorem d1_32 : decode method_3_code 32 = .ok (.ireturn, 1) := by decide +kernel
theorem d1_33 : decode method_3_code 33 = .ok (.iload_n 0, 1) := by decide +kernel
theorem d1_34 : decode method_3_code 34 = .ok (.iconst 2, 1) := by decide +kernel
theorem d1_35 : decode method_3_code 35 = .ok (.ishr, 1) := by decide +kernel
theorem d1_36 : decode method_3_code 36 = .ok (.ireturn, 1) := by decide +kernel
theorem pn_1 : plainName "com/example/modalis/modalis/dicom/service/WildcardMatchesPatternPinLaw" = true := by first | (simp [plainName, overriddenIn]; done) | decide +kernel
theorem ef_1 (m : MethodId) (x0 : Int32) : entryFrame m #[(.int x0)] 2 = mkF m 0 #[.val (.int x0), .unset] [] := by first | (simp [entryFrame, mkF, argsToLocals, Value.category]; done) | rfl
def Q1 (Z : State) (p1 : Int32) (h0 : Heap) (n0 : Nat) (v : Option Value) (h : Heap) (L : List Loc) : Prop := v = some (.int (own_pc p1)) ∧ Fr n0 L ∧ h = h0
set_option maxRecDepth 65536 in
set_option maxHeartbeats 40000000 in
theorem rm1 (l : Launch) (Z : State) (a0 : Array Value) (hw : ∀ d ∈ tables_1, d.before a0 Z = true) (ws : List Jvm.Cond) (p1 : Int32)  (h0 : Heap) (n0 : Nat) (Z0 : n0 ≤ h0.size)  :
    MetFree l (⟨"com/example/modalis/modalis/dicom/service/WildcardMatchesPatternPinLaw", "pc", "(I)I"⟩ : MethodName) (head1 (Jvm.Cond.code (⟨"com/example/modalis/modalis/dicom/service/WildcardMatchesPatternPinLaw", "pc", "(I)I"⟩ : MethodName) method_3_code 2 (some .int) :: ws) ({ frames := 0, cells := 0, slots := 0, locals := 0 } : Room)) (fun a U => a = #[(.int p1)] ∧ Z.Warmed39 U.vm ∧ U.heap = h0) (fun _ _ _ _ _ => True) (fun _ U o U' => ∃ v L, o = .returned v ∧ Q1 Z p1 h0 n0 v U'.heap L ∧ FrameEnd U o U' L ({ frames := 0, cells := 0, slots := 0, locals := 0 } : Room).cells ({ frames := 0, cells := 0, slots := 0, locals := 0 } : Room).slots) := by
  refine MetFree.of_bodySF (plainFor_of_name pn_1) hisR ?_
  intro p e s m args below meth c s₁ Bd hml0 hP hK
  obtain ⟨rfl, hZ, hh⟩ := hP
  have hx := Bd.exec
  have hby := Bd.bytes
  have hml : c.maxLocals = 2 := hml0
  have hown : s.vm.findClass "com/example/modalis/modalis/dicom/service/WildcardMatchesPatternPinLaw" = some m.cls := findClass_of_methodNamed Bd.named
  have hnm := (name_of_methodNamed Bd.named Bd.method).1
  have X0 : Stand p l e ({ frames := 0, cells := 0, slots := 0, locals := 0 } : Room) s m #[(.int p1)] below meth c s₁ [] 0 0 := Stand.of_body Bd
  have e0 : s₁.heap = h0 := by rw [← hh, Bd.state]; rfl
  have N0 := Fr.nil n0
  have pre0 : ∀ tg, Steps p.tables e below (s₁.setTop (mkF m 0 #[.val (.int p1), .unset] [])) tg → Steps p.tables e below (s₁.setTop (entryFrame m #[(.int p1)] 2)) tg := fun tg kg => castTop (ef_1 m p1) kg
  have k1 : ∀ tg, Steps p.tables e below (s₁.setTop (mkF m 5 #[.val (.int p1), .val (.int (p1 &&& (3 : Int32)))] [(.int (p1 &&& (3 : Int32)))])) tg → Steps p.tables e below (s₁.setTop (entryFrame m #[(.int p1)] 2)) tg := fun tg kg => pre0 tg (by
      show Steps p.tables e below (s₁.setTop (mkF m 0 #[.val (.int p1), .unset] [])) _
      refine XS.iloadN X0.here hx rfl (hb hby d1_0) rfl ?_
      show Steps p.tables e below (s₁.setTop (mkF m 1 #[.val (.int p1), .unset] [(.int p1)])) _
      refine XS.iconst X0.here hx rfl (hb hby d1_1) ?_
      show Steps p.tables e below (s₁.setTop (mkF m 2 #[.val (.int p1), .unset] [(.int (3 : Int32)), (.int p1)])) _
      refine XS.iand X0.here hx rfl (hb hby d1_2) rfl ?_
      show Steps p.tables e below (s₁.setTop (mkF m 3 #[.val (.int p1), .unset] [(.int (p1 &&& (3 : Int32)))])) _
      refine XS.istoreN X0.here hx rfl (hb hby d1_3) rfl (l' := #[.val (.int p1), .val (.int (p1 &&& (3 : Int32)))]) rfl ?_
      show Steps p.tables e below (s₁.setTop (mkF m 4 #[.val (.int p1), .val (.int (p1 &&& (3 : Int32)))] [])) _
      refine XS.iloadN X0.here hx rfl (hb hby d1_4) rfl ?_
      exact kg)
  by_cases hc2 : (p1 &&& (3 : Int32)) = (0 : Int32)
  · have k3 : ∀ tg, Steps p.tables e below (s₁.setTop (mkF m 8 #[.val (.int p1), .val (.int (p1 &&& (3 : Int32)))] [])) tg → Steps p.tables e below (s₁.setTop (entryFrame m #[(.int p1)] 2)) tg := fun tg kg => k1 tg (by
        show Steps p.tables e below (s₁.setTop (mkF m 5 #[.val (.int p1), .val (.int (p1 &&& (3 : Int32)))] [(.int (p1 &&& (3 : Int32)))])) _
        refine XS.ifNo X0.here hx rfl (hb hby d1_5) rfl ((if0 _ _).trans (teq hc2).2) ?_
        exact kg)
    have k4 : ∀ tg, Steps p.tables e below (s₁.setTop (mkF m 10 #[.val (.int p1), .val (.int (p1 &&& (3 : Int32)))] [(.int (42 : Int32))])) tg → Steps p.tables e below (s₁.setTop (entryFrame m #[(.int p1)] 2)) tg := fun tg kg => k3 tg (by
        show Steps p.tables e below (s₁.setTop (mkF m 8 #[.val (.int p1), .val (.int (p1 &&& (3 : Int32)))] [])) _
        refine XS.bipush X0.here hx rfl (hb hby d1_8) ?_
        exact kg)
    obtain ⟨fs, hr, hrun, hended, hW, hsame⟩ := X0.leave (v := some (.int (42 : Int32))) (fun h => by rw [Bd.returns] at h; cases h)
    refine ⟨_, _, k4 _ ?_, hrun, hended, _, _, rfl, ?_, ⟨_, rfl⟩, hW, hsame.mono (by decide) (by decide)⟩
    · show Steps p.tables e below (s₁.setTop (mkF m 10 #[.val (.int p1), .val (.int (p1 &&& (3 : Int32)))] [(.int (42 : Int32))])) _
      exact retI X0 hx Bd.returns (hb hby d1_10) hr
    · show Q1 _ _ _ _ _ s₁.heap _
      rw [e0]
      exact ⟨by rw [own_pc, if_pos hc2], N0, rfl⟩
  · have k5 : ∀ tg, Steps p.tables e below (s₁.setTop (mkF m 11 #[.val (.int p1), .val (.int (p1 &&& (3 : Int32)))] [])) tg → Steps p.tables e below (s₁.setTop (entryFrame m #[(.int p1)] 2)) tg := fun tg kg => k1 tg (by
        show Steps p.tables e below (s₁.setTop (mkF m 5 #[.val (.int p1), .val (.int (p1 &&& (3 : Int32)))] [(.int (p1 &&& (3 : Int32)))])) _
        refine XS.ifYes X0.here hx rfl (pc0 := 5) (pc' := 11) rfl (hb hby d1_5) rfl ((if0 _ _).trans (feq hc2).2) (by decide) (by decide) ?_
        exact kg)
    have k6 : ∀ tg, Steps p.tables e below (s₁.setTop (mkF m 13 #[.val (.int p1), .val (.int (p1 &&& (3 : Int32)))] [(.int (1 : Int32)), (.int (p1 &&& (3 : Int32)))])) tg → Steps p.tables e below (s₁.setTop (entryFrame m #[(.int p1)] 2)) tg := fun tg kg => k5 tg (by
        show Steps p.tables e below (s₁.setTop (mkF m 11 #[.val (.int p1), .val (.int (p1 &&& (3 : Int32)))] [])) _
        refine XS.iloadN X0.here hx rfl (hb hby d1_11) rfl ?_
        show Steps p.tables e below (s₁.setTop (mkF m 12 #[.val (.int p1), .val (.int (p1 &&& (3 : Int32)))] [(.int (p1 &&& (3 : Int32)))])) _
        refine XS.iconst X0.here hx rfl (hb hby d1_12) ?_
        exact kg)
    by_cases hc7 : (p1 &&& (3 : Int32)) = (1 : Int32)
    · have k8 : ∀ tg, Steps p.tables e below (s₁.setTop (mkF m 16 #[.val (.int p1), .val (.int (p1 &&& (3 : Int32)))] [])) tg → Steps p.tables e below (s₁.setTop (entryFrame m #[(.int p1)] 2)) tg := fun tg kg => k6 tg (by
          show Steps p.tables e below (s₁.setTop (mkF m 13 #[.val (.int p1), .val (.int (p1 &&& (3 : Int32)))] [(.int (1 : Int32)), (.int (p1 &&& (3 : Int32)))])) _
          refine XS.icmpNo X0.here hx rfl (hb hby d1_13) rfl (teq hc7).2 ?_
          exact kg)
      have k9 : ∀ tg, Steps p.tables e below (s₁.setTop (mkF m 18 #[.val (.int p1), .val (.int (p1 &&& (3 : Int32)))] [(.int (63 : Int32))])) tg → Steps p.tables e below (s₁.setTop (entryFrame m #[(.int p1)] 2)) tg := fun tg kg => k8 tg (by
          show Steps p.tables e below (s₁.setTop (mkF m 16 #[.val (.int p1), .val (.int (p1 &&& (3 : Int32)))] [])) _
          refine XS.bipush X0.here hx rfl (hb hby d1_16) ?_
          exact kg)
      obtain ⟨fs, hr, hrun, hended, hW, hsame⟩ := X0.leave (v := some (.int (63 : Int32))) (fun h => by rw [Bd.returns] at h; cases h)
      refine ⟨_, _, k9 _ ?_, hrun, hended, _, _, rfl, ?_, ⟨_, rfl⟩, hW, hsame.mono (by decide) (by decide)⟩
      · show Steps p.tables e below (s₁.setTop (mkF m 18 #[.val (.int p1), .val (.int (p1 &&& (3 : Int32)))] [(.int (63 : Int32))])) _
        exact retI X0 hx Bd.returns (hb hby d1_18) hr
      · show Q1 _ _ _ _ _ s₁.heap _
        rw [e0]
        exact ⟨by rw [own_pc, if_neg hc2, if_pos hc7], N0, rfl⟩
    · have k10 : ∀ tg, Steps p.tables e below (s₁.setTop (mkF m 19 #[.val (.int p1), .val (.int (p1 &&& (3 : Int32)))] [])) tg → Steps p.tables e below (s₁.setTop (entryFrame m #[(.int p1)] 2)) tg := fun tg kg => k6 tg (by
          show Steps p.tables e below (s₁.setTop (mkF m 13 #[.val (.int p1), .val (.int (p1 &&& (3 : Int32)))] [(.int (1 : Int32)), (.int (p1 &&& (3 : Int32)))])) _
          refine XS.icmpYes X0.here hx rfl (pc0 := 13) (pc' := 19) rfl (hb hby d1_13) rfl (feq hc7).2 (by decide) (by decide) ?_
          exact kg)
      have k11 : ∀ tg, Steps p.tables e below (s₁.setTop (mkF m 21 #[.val (.int p1), .val (.int (p1 &&& (3 : Int32)))] [(.int (2 : Int32)), (.int (p1 &&& (3 : Int32)))])) tg → Steps p.tables e below (s₁.setTop (entryFrame m #[(.int p1)] 2)) tg := fun tg kg => k10 tg (by
          show Steps p.tables e below (s₁.setTop (mkF m 19 #[.val (.int p1), .val (.int (p1 &&& (3 : Int32)))] [])) _
          refine XS.iloadN X0.here hx rfl (hb hby d1_19) rfl ?_
          show Steps p.tables e below (s₁.setTop (mkF m 20 #[.val (.int p1), .val (.int (p1 &&& (3 : Int32)))] [(.int (p1 &&& (3 : Int32)))])) _
          refine XS.iconst X0.here hx rfl (hb hby d1_20) ?_
          exact kg)
      by_cases hc12 : (p1 &&& (3 : Int32)) = (2 : Int32)
      · have k13 : ∀ tg, Steps p.tables e below (s₁.setTop (mkF m 24 #[.val (.int p1), .val (.int (p1 &&& (3 : Int32)))] [])) tg → Steps p.tables e below (s₁.setTop (entryFrame m #[(.int p1)] 2)) tg := fun tg kg => k11 tg (by
            show Steps p.tables e below (s₁.setTop (mkF m 21 #[.val (.int p1), .val (.int (p1 &&& (3 : Int32)))] [(.int (2 : Int32)), (.int (p1 &&& (3 : Int32)))])) _
            refine XS.icmpNo X0.here hx rfl (hb hby d1_21) rfl (teq hc12).2 ?_
            exact kg)
        have k14 : ∀ tg, Steps p.tables e below (s₁.setTop (mkF m 32 #[.val (.int p1), .val (.int (p1 &&& (3 : Int32)))] [(.int ((97 : Int32) + (((p1.toUInt32 >>> ((2 : Int32) &&& 31).toUInt32).toInt32) &&& (1 : Int32))))])) tg → Steps p.tables e below (s₁.setTop (entryFrame m #[(.int p1)] 2)) tg := fun tg kg => k13 tg (by
            show Steps p.tables e below (s₁.setTop (mkF m 24 #[.val (.int p1), .val (.int (p1 &&& (3 : Int32)))] [])) _
            refine XS.bipush X0.here hx rfl (hb hby d1_24) ?_
            show Steps p.tables e below (s₁.setTop (mkF m 26 #[.val (.int p1), .val (.int (p1 &&& (3 : Int32)))] [(.int (97 : Int32))])) _
            refine XS.iloadN X0.here hx rfl (hb hby d1_26) rfl ?_
            show Steps p.tables e below (s₁.setTop (mkF m 27 #[.val (.int p1), .val (.int (p1 &&& (3 : Int32)))] [(.int p1), (.int (97 : Int32))])) _
            refine XS.iconst X0.here hx rfl (hb hby d1_27) ?_
            show Steps p.tables e below (s₁.setTop (mkF m 28 #[.val (.int p1), .val (.int (p1 &&& (3 : Int32)))] [(.int (2 : Int32)), (.int p1), (.int (97 : Int32))])) _
            refine XS.iushr X0.here hx rfl (hb hby d1_28) rfl ?_
            show Steps p.tables e below (s₁.setTop (mkF m 29 #[.val (.int p1), .val (.int (p1 &&& (3 : Int32)))] [(.int ((p1.toUInt32 >>> ((2 : Int32) &&& 31).toUInt32).toInt32)), (.int (97 : Int32))])) _
            refine XS.iconst X0.here hx rfl (hb hby d1_29) ?_
            show Steps p.tables e below (s₁.setTop (mkF m 30 #[.val (.int p1), .val (.int (p1 &&& (3 : Int32)))] [(.int (1 : Int32)), (.int ((p1.toUInt32 >>> ((2 : Int32) &&& 31).toUInt32).toInt32)), (.int (97 : Int32))])) _
            refine XS.iand X0.here hx rfl (hb hby d1_30) rfl ?_
            show Steps p.tables e below (s₁.setTop (mkF m 31 #[.val (.int p1), .val (.int (p1 &&& (3 : Int32)))] [(.int (((p1.toUInt32 >>> ((2 : Int32) &&& 31).toUInt32).toInt32) &&& (1 : Int32))), (.int (97 : Int32))])) _
            refine XS.iadd X0.here hx rfl (hb hby d1_31) rfl ?_
            exact kg)
        obtain ⟨fs, hr, hrun, hended, hW, hsame⟩ := X0.leave (v := some (.int ((97 : Int32) + (((p1.toUInt32 >>> ((2 : Int32) &&& 31).toUInt32).toInt32) &&& (1 : Int32))))) (fun h => by rw [Bd.returns] at h; cases h)
        refine ⟨_, _, k14 _ ?_, hrun, hended, _, _, rfl, ?_, ⟨_, rfl⟩, hW, hsame.mono (by decide) (by decide)⟩
        · show Steps p.tables e below (s₁.setTop (mkF m 32 #[.val (.int p1), .val (.int (p1 &&& (3 : Int32)))] [(.int ((97 : Int32) + (((p1.toUInt32 >>> ((2 : Int32) &&& 31).toUInt32).toInt32) &&& (1 : Int32))))])) _
          exact retI X0 hx Bd.returns (hb hby d1_32) hr
        · show Q1 _ _ _ _ _ s₁.heap _
          rw [e0]
          exact ⟨by rw [own_pc, if_neg hc2, if_neg hc7, if_pos hc12], N0, rfl⟩
      · have k15 : ∀ tg, Steps p.tables e below (s₁.setTop (mkF m 33 #[.val (.int p1), .val (.int (p1 &&& (3 : Int32)))] [])) tg → Steps p.tables e below (s₁.setTop (entryFrame m #[(.int p1)] 2)) tg := fun tg kg => k11 tg (by
            show Steps p.tables e below (s₁.setTop (mkF m 21 #[.val (.int p1), .val (.int (p1 &&& (3 : Int32)))] [(.int (2 : Int32)), (.int (p1 &&& (3 : Int32)))])) _
            refine XS.icmpYes X0.here hx rfl (pc0 := 21) (pc' := 33) rfl (hb hby d1_21) rfl (feq hc12).2 (by decide) (by decide) ?_
            exact kg)
        have k16 : ∀ tg, Steps p.tables e below (s₁.setTop (mkF m 36 #[.val (.int p1), .val (.int (p1 &&& (3 : Int32)))] [(.int (p1 >>> ((2 : Int32) &&& 31)))])) tg → Steps p.tables e below (s₁.setTop (entryFrame m #[(.int p1)] 2)) tg := fun tg kg => k15 tg (by
            show Steps p.tables e below (s₁.setTop (mkF m 33 #[.val (.int p1), .val (.int (p1 &&& (3 : Int32)))] [])) _
            refine XS.iloadN X0.here hx rfl (hb hby d1_33) rfl ?_
            show Steps p.tables e below (s₁.setTop (mkF m 34 #[.val (.int p1), .val (.int (p1 &&& (3 : Int32)))] [(.int p1)])) _
            refine XS.iconst X0.here hx rfl (hb hby d1_34) ?_
            show Steps p.tables e below (s₁.setTop (mkF m 35 #[.val (.int p1), .val (.int (p1 &&& (3 : Int32)))] [(.int (2 : Int32)), (.int p1)])) _
            refine XS.ishr X0.here hx rfl (hb hby d1_35) rfl ?_
            exact kg)
        obtain ⟨fs, hr, hrun, hended, hW, hsame⟩ := X0.leave (v := some (.int (p1 >>> ((2 : Int32) &&& 31)))) (fun h => by rw [Bd.returns] at h; cases h)
        refine ⟨_, _, k16 _ ?_, hrun, hended, _, _, rfl, ?_, ⟨_, rfl⟩, hW, hsame.mono (by decide) (by decide)⟩
        · show Steps p.tables e below (s₁.setTop (mkF m 36 #[.val (.int p1), .val (.int (p1 &&& (3 : Int32)))] [(.int (p1 >>> ((2 : Int32) &&& 31)))])) _
          exact retI X0 hx Bd.returns (hb hby d1_36) hr
        · show Q1 _ _ _ _ _ s₁.heap _
          rw [e0]
          exact ⟨by rw [own_pc, if_neg hc2, if_neg hc7, if_neg hc12], N0, rfl⟩
theorem d2_0 : decode method_4_code 0 = .ok (.iload_n 0, 1) := by decide +kernel
theorem d2_1 : decode method_4_code 1 = .ok (.iconst 1, 1) := by decide +kernel
theorem d2_2 : decode method_4_code 2 = .ok (.iand, 1) := by decide +kernel
theorem d2_3 : decode method_4_code 3 = .ok (.ifCond .ne 12, 3) := by decide +kernel
theorem d2_6 : decode method_4_code 6 = .ok (.bipush 97, 2) := by decide +kernel
theorem d2_8 : decode method_4_code 8 = .ok (.iload_n 0, 1) := by decide +kernel
theorem d2_9 : decode method_4_code 9 = .ok (.iconst 1, 1) := by decide +kernel
theorem d2_10 : decode method_4_code 10 = .ok (.iushr, 1) := by decide +kernel
theorem d2_11 : decode method_4_code 11 = .ok (.iconst 1, 1) := by decide +kernel
theorem d2_12 : decode method_4_code 12 = .ok (.iand, 1) := by decide +kernel
theorem d2_13 : decode method_4_code 13 = .ok (.iadd, 1) := by decide +kernel
theorem d2_14 : decode method_4_code 14 = .ok (.ireturn, 1) := by decide +kernel
theorem d2_15 : decode method_4_code 15 = .ok (.iload_n 0, 1) := by decide +kernel
theorem d2_16 : decode method_4_code 16 = .ok (.iconst 1, 1) := by decide +kernel
theorem d2_17 : decode method_4_code 17 = .ok (.ishr, 1) := by decide +kernel
theorem d2_18 : decode method_4_code 18 = .ok (.ireturn, 1) := by decide +kernel
theorem pn_2 : plainName "com/example/modalis/modalis/dicom/service/WildcardMatchesPatternPinLaw" = true := by first | (simp [plainName, overriddenIn]; done) | decide +kernel
theorem ef_2 (m : MethodId) (x0 : Int32) : entryFrame m #[(.int x0)] 1 = mkF m 0 #[.val (.int x0)] [] := by first | (simp [entryFrame, mkF, argsToLocals, Value.category]; done) | rfl
def Q2 (Z : State) (p1 : Int32) (h0 : Heap) (n0 : Nat) (v : Option Value) (h : Heap) (L : List Loc) : Prop := v = some (.int (own_tc p1)) ∧ Fr n0 L ∧ h = h0
set_option maxRecDepth 65536 in
set_option maxHeartbeats 40000000 in
theorem rm2 (l : Launch) (Z : State) (a0 : Array Value) (hw : ∀ d ∈ tables_1, d.before a0 Z = true) (ws : List Jvm.Cond) (p1 : Int32)  (h0 : Heap) (n0 : Nat) (Z0 : n0 ≤ h0.size)  :
    MetFree l (⟨"com/example/modalis/modalis/dicom/service/WildcardMatchesPatternPinLaw", "tc", "(I)I"⟩ : MethodName) (head1 (Jvm.Cond.code (⟨"com/example/modalis/modalis/dicom/service/WildcardMatchesPatternPinLaw", "tc", "(I)I"⟩ : MethodName) method_4_code 1 (some .int) :: ws) ({ frames := 0, cells := 0, slots := 0, locals := 0 } : Room)) (fun a U => a = #[(.int p1)] ∧ Z.Warmed39 U.vm ∧ U.heap = h0) (fun _ _ _ _ _ => True) (fun _ U o U' => ∃ v L, o = .returned v ∧ Q2 Z p1 h0 n0 v U'.heap L ∧ FrameEnd U o U' L ({ frames := 0, cells := 0, slots := 0, locals := 0 } : Room).cells ({ frames := 0, cells := 0, slots := 0, locals := 0 } : Room).slots) := by
  refine MetFree.of_bodySF (plainFor_of_name pn_2) hisR ?_
  intro p e s m args below meth c s₁ Bd hml0 hP hK
  obtain ⟨rfl, hZ, hh⟩ := hP
  have hx := Bd.exec
  have hby := Bd.bytes
  have hml : c.maxLocals = 1 := hml0
  have hown : s.vm.findClass "com/example/modalis/modalis/dicom/service/WildcardMatchesPatternPinLaw" = some m.cls := findClass_of_methodNamed Bd.named
  have hnm := (name_of_methodNamed Bd.named Bd.method).1
  have X0 : Stand p l e ({ frames := 0, cells := 0, slots := 0, locals := 0 } : Room) s m #[(.int p1)] below meth c s₁ [] 0 0 := Stand.of_body Bd
  have e0 : s₁.heap = h0 := by rw [← hh, Bd.state]; rfl
  have N0 := Fr.nil n0
  have pre0 : ∀ tg, Steps p.tables e below (s₁.setTop (mkF m 0 #[.val (.int p1)] [])) tg → Steps p.tables e below (s₁.setTop (entryFrame m #[(.int p1)] 1)) tg := fun tg kg => castTop (ef_2 m p1) kg
  have k17 : ∀ tg, Steps p.tables e below (s₁.setTop (mkF m 3 #[.val (.int p1)] [(.int (p1 &&& (1 : Int32)))])) tg → Steps p.tables e below (s₁.setTop (entryFrame m #[(.int p1)] 1)) tg := fun tg kg => pre0 tg (by
      show Steps p.tables e below (s₁.setTop (mkF m 0 #[.val (.int p1)] [])) _
      refine XS.iloadN X0.here hx rfl (hb hby d2_0) rfl ?_
      show Steps p.tables e below (s₁.setTop (mkF m 1 #[.val (.int p1)] [(.int p1)])) _
      refine XS.iconst X0.here hx rfl (hb hby d2_1) ?_
      show Steps p.tables e below (s₁.setTop (mkF m 2 #[.val (.int p1)] [(.int (1 : Int32)), (.int p1)])) _
      refine XS.iand X0.here hx rfl (hb hby d2_2) rfl ?_
      exact kg)
  by_cases hc18 : (p1 &&& (1 : Int32)) = (0 : Int32)
  · have k19 : ∀ tg, Steps p.tables e below (s₁.setTop (mkF m 6 #[.val (.int p1)] [])) tg → Steps p.tables e below (s₁.setTop (entryFrame m #[(.int p1)] 1)) tg := fun tg kg => k17 tg (by
        show Steps p.tables e below (s₁.setTop (mkF m 3 #[.val (.int p1)] [(.int (p1 &&& (1 : Int32)))])) _
        refine XS.ifNo X0.here hx rfl (hb hby d2_3) rfl ((if0 _ _).trans (teq hc18).2) ?_
        exact kg)
    have k20 : ∀ tg, Steps p.tables e below (s₁.setTop (mkF m 14 #[.val (.int p1)] [(.int ((97 : Int32) + (((p1.toUInt32 >>> ((1 : Int32) &&& 31).toUInt32).toInt32) &&& (1 : Int32))))])) tg → Steps p.tables e below (s₁.setTop (entryFrame m #[(.int p1)] 1)) tg := fun tg kg => k19 tg (by
        show Steps p.tables e below (s₁.setTop (mkF m 6 #[.val (.int p1)] [])) _
        refine XS.bipush X0.here hx rfl (hb hby d2_6) ?_
        show Steps p.tables e below (s₁.setTop (mkF m 8 #[.val (.int p1)] [(.int (97 : Int32))])) _
        refine XS.iloadN X0.here hx rfl (hb hby d2_8) rfl ?_
        show Steps p.tables e below (s₁.setTop (mkF m 9 #[.val (.int p1)] [(.int p1), (.int (97 : Int32))])) _
        refine XS.iconst X0.here hx rfl (hb hby d2_9) ?_
        show Steps p.tables e below (s₁.setTop (mkF m 10 #[.val (.int p1)] [(.int (1 : Int32)), (.int p1), (.int (97 : Int32))])) _
        refine XS.iushr X0.here hx rfl (hb hby d2_10) rfl ?_
        show Steps p.tables e below (s₁.setTop (mkF m 11 #[.val (.int p1)] [(.int ((p1.toUInt32 >>> ((1 : Int32) &&& 31).toUInt32).toInt32)), (.int (97 : Int32))])) _
        refine XS.iconst X0.here hx rfl (hb hby d2_11) ?_
        show Steps p.tables e below (s₁.setTop (mkF m 12 #[.val (.int p1)] [(.int (1 : Int32)), (.int ((p1.toUInt32 >>> ((1 : Int32) &&& 31).toUInt32).toInt32)), (.int (97 : Int32))])) _
        refine XS.iand X0.here hx rfl (hb hby d2_12) rfl ?_
        show Steps p.tables e below (s₁.setTop (mkF m 13 #[.val (.int p1)] [(.int (((p1.toUInt32 >>> ((1 : Int32) &&& 31).toUInt32).toInt32) &&& (1 : Int32))), (.int (97 : Int32))])) _
        refine XS.iadd X0.here hx rfl (hb hby d2_13) rfl ?_
        exact kg)
    obtain ⟨fs, hr, hrun, hended, hW, hsame⟩ := X0.leave (v := some (.int ((97 : Int32) + (((p1.toUInt32 >>> ((1 : Int32) &&& 31).toUInt32).toInt32) &&& (1 : Int32))))) (fun h => by rw [Bd.returns] at h; cases h)
    refine ⟨_, _, k20 _ ?_, hrun, hended, _, _, rfl, ?_, ⟨_, rfl⟩, hW, hsame.mono (by decide) (by decide)⟩
    · show Steps p.tables e below (s₁.setTop (mkF m 14 #[.val (.int p1)] [(.int ((97 : Int32) + (((p1.toUInt32 >>> ((1 : Int32) &&& 31).toUInt32).toInt32) &&& (1 : Int32))))])) _
      exact retI X0 hx Bd.returns (hb hby d2_14) hr
    · show Q2 _ _ _ _ _ s₁.heap _
      rw [e0]
      exact ⟨by rw [own_tc, if_pos hc18], N0, rfl⟩
  · have k21 : ∀ tg, Steps p.tables e below (s₁.setTop (mkF m 15 #[.val (.int p1)] [])) tg → Steps p.tables e below (s₁.setTop (entryFrame m #[(.int p1)] 1)) tg := fun tg kg => k17 tg (by
        show Steps p.tables e below (s₁.setTop (mkF m 3 #[.val (.int p1)] [(.int (p1 &&& (1 : Int32)))])) _
        refine XS.ifYes X0.here hx rfl (pc0 := 3) (pc' := 15) rfl (hb hby d2_3) rfl ((if0 _ _).trans (feq hc18).2) (by decide) (by decide) ?_
        exact kg)
    have k22 : ∀ tg, Steps p.tables e below (s₁.setTop (mkF m 18 #[.val (.int p1)] [(.int (p1 >>> ((1 : Int32) &&& 31)))])) tg → Steps p.tables e below (s₁.setTop (entryFrame m #[(.int p1)] 1)) tg := fun tg kg => k21 tg (by
        show Steps p.tables e below (s₁.setTop (mkF m 15 #[.val (.int p1)] [])) _
        refine XS.iloadN X0.here hx rfl (hb hby d2_15) rfl ?_
        show Steps p.tables e below (s₁.setTop (mkF m 16 #[.val (.int p1)] [(.int p1)])) _
        refine XS.iconst X0.here hx rfl (hb hby d2_16) ?_
        show Steps p.tables e below (s₁.setTop (mkF m 17 #[.val (.int p1)] [(.int (1 : Int32)), (.int p1)])) _
        refine XS.ishr X0.here hx rfl (hb hby d2_17) rfl ?_
        exact kg)
    obtain ⟨fs, hr, hrun, hended, hW, hsame⟩ := X0.leave (v := some (.int (p1 >>> ((1 : Int32) &&& 31)))) (fun h => by rw [Bd.returns] at h; cases h)
    refine ⟨_, _, k22 _ ?_, hrun, hended, _, _, rfl, ?_, ⟨_, rfl⟩, hW, hsame.mono (by decide) (by decide)⟩
    · show Steps p.tables e below (s₁.setTop (mkF m 18 #[.val (.int p1)] [(.int (p1 >>> ((1 : Int32) &&& 31)))])) _
      exact retI X0 hx Bd.returns (hb hby d2_18) hr
    · show Q2 _ _ _ _ _ s₁.heap _
      rw [e0]
      exact ⟨by rw [own_tc, if_neg hc18], N0, rfl⟩
theorem d4_0 : decode method_7_code 0 = .ok (.iload 5, 2) := by decide +kernel
theorem d4_2 : decode method_7_code 2 = .ok (.iload_n 1, 1) := by decide +kernel
theorem d4_3 : decode method_7_code 3 = .ok (.if_icmp .gt 9, 3) := by decide +kernel
theorem d4_6 : decode method_7_code 6 = .ok (.iload 6, 2) := by decide +kernel
theorem d4_8 : decode method_7_code 8 = .ok (.iload_n 3, 1) := by decide +kernel
theorem d4_9 : decode method_7_code 9 = .ok (.if_icmp .le 4, 3) := by decide +kernel
theorem d4_12 : decode method_7_code 12 = .ok (.return_, 1) := by decide +kernel
theorem d4_13 : decode method_7_code 13 = .ok (.iload 5, 2) := by decide +kernel
theorem d4_15 : decode method_7_code 15 = .ok (.bipush 6, 2) := by decide +kernel
theorem d4_17 : decode method_7_code 17 = .ok (.imul, 1) := by decide +kernel
theorem d4_18 : decode method_7_code 18 = .ok (.iload 6, 2) := by decide +kernel
theorem d4_20 : decode method_7_code 20 = .ok (.iadd, 1) := by decide +kernel
theorem d4_21 : decode method_7_code 21 = .ok (.istore 7, 2) := by decide +kernel
theorem d4_23 : decode method_7_code 23 = .ok (.iload 5, 2) := by decide +kernel
theorem d4_25 : decode method_7_code 25 = .ok (.iload_n 1, 1) := by decide +kernel
theorem d4_26 : decode method_7_code 26 = .ok (.if_icmp .ne 20, 3) := by decide +kernel
theorem d4_29 : decode method_7_code 29 = .ok (.aload 4, 2) := by decide +kernel
theorem d4_31 : decode method_7_code 31 = .ok (.iload 7, 2) := by decide +kernel
theorem d4_33 : decode method_7_code 33 = .ok (.iload 6, 2) := by decide +kernel
theorem d4_35 : decode method_7_code 35 = .ok (.iload_n 3, 1) := by decide +kernel
theorem d4_36 : decode method_7_code 36 = .ok (.if_icmp .ne 7, 3) := by decide +kernel
theorem d4_39 : decode method_7_code 39 = .ok (.iconst 1, 1) := by decide +kernel
theorem d4_40 : decode method_7_code 40 = .ok (.goto 4, 3) := by decide +kernel
theorem d4_43 : decode method_7_code 43 = .ok (.iconst 0, 1) := by decide +kernel
theorem d4_44 : decode method_7_code 44 = .ok (.bastore, 1) := by decide +kernel
theorem d4_45 : decode method_7_code 45 = .ok (.return_, 1) := by decide +kernel
theorem d4_46 : decode method_7_code 46 = .ok (.aload_n 0, 1) := by decide +kernel
theorem d4_47 : decode method_7_code 47 = .ok (.iload 5, 2) := by decide +kernel
theorem d4_49 : decode method_7_code 49 = .ok (.iaload, 1) := by decide +kernel
theorem d4_50 : decode method_7_code 50 = .ok (.bipush 42, 2) := by decide +kernel
theorem d4_52 : decode method_7_code 52 = .ok (.if_icmp .ne 54, 3) := by decide +kernel
theorem d4_55 : decode method_7_code 55 = .ok (.aload 4, 2) := by decide +kernel
theorem d4_57 : decode method_7_code 57 = .ok (.iload 7, 2) := by decide +kernel
theorem d4_59 : decode method_7_code 59 = .ok (.aload 4, 2) := by decide +kernel
theorem d4_61 : decode method_7_code 61 = .ok (.iload 5, 2) := by decide +kernel
theorem d4_63 : decode method_7_code 63 = .ok (.iconst 1, 1) := by decide +kernel
theorem d4_64 : decode method_7_code 64 = .ok (.iadd, 1) := by decide +kernel
theorem d4_65 : decode method_7_code 65 = .ok (.bipush 6, 2) := by decide +kernel
theorem d4_67 : decode method_7_code 67 = .ok (.imul, 1) := by decide +kernel
theorem d4_68 : decode method_7_code 68 = .ok (.iload 6, 2) := by decide +kernel
theorem d4_70 : decode method_7_code 70 = .ok (.iadd, 1) := by decide +kernel
theorem d4_71 : decode method_7_code 71 = .ok (.baload, 1) := by decide +kernel
theorem d4_72 : decode method_7_code 72 = .ok (.ifCond .ne 25, 3) := by decide +kernel
theorem d4_75 : decode method_7_code 75 = .ok (.iload 6, 2) := by decide +kernel
theorem d4_77 : decode method_7_code 77 = .ok (.iload_n 3, 1) := by decide +kernel
theorem d4_78 : decode method_7_code 78 = .ok (.if_icmp .ge 23, 3) := by decide +kernel
theorem d4_81 : decode method_7_code 81 = .ok (.aload 4, 2) := by decide +kernel
theorem d4_83 : decode method_7_code 83 = .ok (.iload 5, 2) := by decide +kernel
theorem d4_85 : decode method_7_code 85 = .ok (.bipush 6, 2) := by decide +kernel
theorem d4_87 : decode method_7_code 87 = .ok (.imul, 1) := by decide +kernel
theorem d4_88 : decode method_7_code 88 = .ok (.iload 6, 2) := by decide +kernel
theorem d4_90 : decode method_7_code 90 = .ok (.iadd, 1) := by decide +kernel
theorem d4_91 : decode method_7_code 91 = .ok (.iconst 1, 1) := by decide +kernel
theorem d4_92 : decode method_7_code 92 = .ok (.iadd, 1) := by decide +kernel
theorem d4_93 : decode method_7_code 93 = .ok (.baload, 1) := by decide +kernel
theorem d4_94 : decode method_7_code 94 = .ok (.ifCond .eq 7, 3) := by decide +kernel
theorem d4_97 : decode method_7_code 97 = .ok (.iconst 1, 1) := by decide +kernel
theorem d4_98 : decode method_7_code 98 = .ok (.goto 4, 3) := by decide +kernel
theorem d4_101 : decode method_7_code 101 = .ok (.iconst 0, 1) := by decide +kernel
theorem d4_102 : decode method_7_code 102 = .ok (.bastore, 1) := by decide +kernel
theorem d4_103 : decode method_7_code 103 = .ok (.goto 57, 3) := by decide +kernel
theorem d4_106 : decode method_7_code 106 = .ok (.aload 4, 2) := by decide +kernel
theorem d4_108 : decode method_7_code 108 = .ok (.iload 7, 2) := by decide +kernel
theorem d4_110 : decode method_7_code 110 = .ok (.iload 6, 2) := by decide +kernel
theorem d4_112 : decode method_7_code 112 = .ok (.iload_n 3, 1) := by decide +kernel
theorem d4_113 : decode method_7_code 113 = .ok (.if_icmp .ge 45, 3) := by decide +kernel
theorem d4_116 : decode method_7_code 116 = .ok (.aload_n 0, 1) := by decide +kernel
theorem d4_117 : decode method_7_code 117 = .ok (.iload 5, 2) := by decide +kernel
theorem d4_119 : decode method_7_code 119 = .ok (.iaload, 1) := by decide +kernel
theorem d4_120 : decode method_7_code 120 = .ok (.bipush 63, 2) := by decide +kernel
theorem d4_122 : decode method_7_code 122 = .ok (.if_icmp .eq 14, 3) := by decide +kernel
theorem d4_125 : decode method_7_code 125 = .ok (.aload_n 0, 1) := by decide +kernel
theorem d4_126 : decode method_7_code 126 = .ok (.iload 5, 2) := by decide +kernel
theorem d4_128 : decode method_7_code 128 = .ok (.iaload, 1) := by decide +kernel
theorem d4_129 : decode method_7_code 129 = .ok (.aload_n 2, 1) := by decide +kernel
theorem d4_130 : decode method_7_code 130 = .ok (.iload 6, 2) := by decide +kernel
theorem d4_132 : decode method_7_code 132 = .ok (.iaload, 1) := by decide +kernel
theorem d4_133 : decode method_7_code 133 = .ok (.if_icmp .ne 25, 3) := by decide +kernel
theorem d4_136 : decode method_7_code 136 = .ok (.aload 4, 2) := by decide +kernel
theorem d4_138 : decode method_7_code 138 = .ok (.iload 5, 2) := by decide +kernel
theorem d4_140 : decode method_7_code 140 = .ok (.iconst 1, 1) := by decide +kernel
theorem d4_141 : decode method_7_code 141 = .ok (.iadd, 1) := by decide +kernel
theorem d4_142 : decode method_7_code 142 = .ok (.bipush 6, 2) := by decide +kernel
theorem d4_144 : decode method_7_code 144 = .ok (.imul, 1) := by decide +kernel
theorem d4_145 : decode method_7_code 145 = .ok (.iload 6, 2) := by decide +kernel
theorem d4_147 : decode method_7_code 147 = .ok (.iadd, 1) := by decide +kernel
theorem d4_148 : decode method_7_code 148 = .ok (.iconst 1, 1) := by decide +kernel
theorem d4_149 : decode method_7_code 149 = .ok (.iadd, 1) := by decide +kernel
theorem d4_150 : decode method_7_code 150 = .ok (.baload, 1) := by decide +kernel
theorem d4_151 : decode method_7_code 151 = .ok (.ifCond .eq 7, 3) := by decide +kernel
theorem d4_154 : decode method_7_code 154 = .ok (.iconst 1, 1) := by decide +kernel
theorem d4_155 : decode method_7_code 155 = .ok (.goto 4, 3) := by decide +kernel
theorem d4_158 : decode method_7_code 158 = .ok (.iconst 0, 1) := by decide +kernel
theorem d4_159 : decode method_7_code 159 = .ok (.bastore, 1) := by decide +kernel
theorem d4_160 : decode method_7_code 160 = .ok (.return_, 1) := by decide +kernel
theorem pn_4 : plainName "com/example/modalis/modalis/dicom/service/WildcardMatchesPatternPinLaw" = true := by first | (simp [plainName, overriddenIn]; done) | decide +kernel
theorem ef_4 (m : MethodId) (x0 : Addr) (x1 : Int32) (x2 : Addr) (x3 : Int32) (x4 : Addr) (x5 : Int32) (x6 : Int32) : entryFrame m #[(.ref x0), (.int x1), (.ref x2), (.int x3), (.ref x4), (.int x5), (.int x6)] 8 = mkF m 0 #[.val (.ref x0), .val (.int x1), .val (.ref x2), .val (.int x3), .val (.ref x4), .val (.int x5), .val (.int x6), .unset] [] := by first | (simp [entryFrame, mkF, argsToLocals, Value.category]; done) | rfl
def Q4 (Z : State) (mb : Addr) (pl tl i j : Nat) (pf tf : Nat → Int32) (h0 : Heap) (n0 : Nat) (v : Option Value) (h : Heap) (L : List Loc) : Prop := v = none ∧ Fr n0 L ∧ Keep h0 h [mb] ∧ ∃ g : Nat → Int32, Av Z h mb .boolean 36 (fun k => .int (g k)) ∧ own_D pl tl pf tf i j g
set_option maxRecDepth 65536 in
set_option maxHeartbeats 40000000 in
theorem rm4 (l : Launch) (Z : State) (a0 : Array Value) (hw : ∀ d ∈ tables_1, d.before a0 Z = true) (ws : List Jvm.Cond) (pa : Addr) (p1 : Int32) (ta : Addr) (p3 : Int32) (mb : Addr) (p5 : Int32) (p6 : Int32) (pl tl i j : Nat) (pf tf g : Nat → Int32) (h0 : Heap) (n0 : Nat) (Z0 : n0 ≤ h0.size) (h1 : p1.toInt = pl) (h3 : p3.toInt = tl) (h5 : p5.toInt = i) (h6 : p6.toInt = j) (hpl : pl ≤ 4) (htl : tl ≤ 4) (hi4 : i ≤ 4) (hj4 : j ≤ 4) (ge : n0 ≤ mb) (Vp : Av Z h0 pa .int 4 (fun k => .int (pf k))) (Vt : Av Z h0 ta .int 4 (fun k => .int (tf k))) (Vm : Av Z h0 mb .boolean 36 (fun k => .int (g k))) (D : own_D pl tl pf tf i (j + 1) g) :
    MetFree l (⟨"com/example/modalis/modalis/dicom/service/WildcardMatchesPatternPinLaw", "cell", "([II[II[ZII)V"⟩ : MethodName) (head1 (Jvm.Cond.code (⟨"com/example/modalis/modalis/dicom/service/WildcardMatchesPatternPinLaw", "cell", "([II[II[ZII)V"⟩ : MethodName) method_7_code 8 none :: ws) ({ frames := 0, cells := 0, slots := 0, locals := 0 } : Room)) (fun a U => a = #[(.ref pa), (.int p1), (.ref ta), (.int p3), (.ref mb), (.int p5), (.int p6)] ∧ Z.Warmed39 U.vm ∧ U.heap = h0) (fun _ _ _ _ _ => True) (fun _ U o U' => ∃ v L, o = .returned v ∧ Q4 Z mb pl tl i j pf tf h0 n0 v U'.heap L ∧ FrameEnd U o U' L ({ frames := 0, cells := 0, slots := 0, locals := 0 } : Room).cells ({ frames := 0, cells := 0, slots := 0, locals := 0 } : Room).slots) := by
  refine MetFree.of_bodySF (plainFor_of_name pn_4) hisR ?_
  intro p e s m args below meth c s₁ Bd hml0 hP hK
  obtain ⟨rfl, hZ, hh⟩ := hP
  have hx := Bd.exec
  have hby := Bd.bytes
  have hml : c.maxLocals = 8 := hml0
  have hown : s.vm.findClass "com/example/modalis/modalis/dicom/service/WildcardMatchesPatternPinLaw" = some m.cls := findClass_of_methodNamed Bd.named
  have hnm := (name_of_methodNamed Bd.named Bd.method).1
  have X0 : Stand p l e ({ frames := 0, cells := 0, slots := 0, locals := 0 } : Room) s m #[(.ref pa), (.int p1), (.ref ta), (.int p3), (.ref mb), (.int p5), (.int p6)] below meth c s₁ [] 0 0 := Stand.of_body Bd
  have e0 : s₁.heap = h0 := by rw [← hh, Bd.state]; rfl
  have N0 := Fr.nil n0
  have pre0 : ∀ tg, Steps p.tables e below (s₁.setTop (mkF m 0 #[.val (.ref pa), .val (.int p1), .val (.ref ta), .val (.int p3), .val (.ref mb), .val (.int p5), .val (.int p6), .unset] [])) tg → Steps p.tables e below (s₁.setTop (entryFrame m #[(.ref pa), (.int p1), (.ref ta), (.int p3), (.ref mb), (.int p5), (.int p6)] 8)) tg := fun tg kg => castTop (ef_4 m pa p1 ta p3 mb p5 p6) kg
  have Vm0 := Vm
  obtain ⟨cp, Ap, Sp, Gp⟩ := Vp
  obtain ⟨ct, At, St, Gt⟩ := Vt
  obtain ⟨cm, Am, Sm, Gm⟩ := Vm
  have x0 := own_addN (own_mulN h5 (y := (6 : Int32)) (b := 6) (by decide) (by omega)) h6 (by omega)
  have x1 := own_addN (own_mulN (own_inc h5 (by omega)) (y := (6 : Int32)) (b := 6) (by decide) (by omega)) h6 (by omega)
  have x2 := own_inc x0 (by omega)
  have x3 := own_inc x1 (by omega)
  have k23 : ∀ tg, Steps p.tables e below (s₁.setTop (mkF m 3 #[.val (.ref pa), .val (.int p1), .val (.ref ta), .val (.int p3), .val (.ref mb), .val (.int p5), .val (.int p6), .unset] [(.int p1), (.int p5)])) tg → Steps p.tables e below (s₁.setTop (entryFrame m #[(.ref pa), (.int p1), (.ref ta), (.int p3), (.ref mb), (.int p5), (.int p6)] 8)) tg := fun tg kg => pre0 tg (by
      show Steps p.tables e below (s₁.setTop (mkF m 0 #[.val (.ref pa), .val (.int p1), .val (.ref ta), .val (.int p3), .val (.ref mb), .val (.int p5), .val (.int p6), .unset] [])) _
      refine XS.iload X0.here hx rfl (hb hby d4_0) rfl ?_
      show Steps p.tables e below (s₁.setTop (mkF m 2 #[.val (.ref pa), .val (.int p1), .val (.ref ta), .val (.int p3), .val (.ref mb), .val (.int p5), .val (.int p6), .unset] [(.int p5)])) _
      refine XS.iloadN X0.here hx rfl (hb hby d4_2) rfl ?_
      exact kg)
  by_cases hc24 : p1 < p5
  · have k25 : ∀ tg, Steps p.tables e below (s₁.setTop (mkF m 12 #[.val (.ref pa), .val (.int p1), .val (.ref ta), .val (.int p3), .val (.ref mb), .val (.int p5), .val (.int p6), .unset] [])) tg → Steps p.tables e below (s₁.setTop (entryFrame m #[(.ref pa), (.int p1), (.ref ta), (.int p3), (.ref mb), (.int p5), (.int p6)] 8)) tg := fun tg kg => k23 tg (by
        show Steps p.tables e below (s₁.setTop (mkF m 3 #[.val (.ref pa), .val (.int p1), .val (.ref ta), .val (.int p3), .val (.ref mb), .val (.int p5), .val (.int p6), .unset] [(.int p1), (.int p5)])) _
        refine XS.icmpYes X0.here hx rfl (pc0 := 3) (pc' := 12) rfl (hb hby d4_3) rfl (tlt hc24).2.2.1 (by decide) (by decide) ?_
        exact kg)
    obtain ⟨fs, hr, hrun, hended, hW, hsame⟩ := X0.leave (v := none) (fun _ => rfl)
    refine ⟨_, _, k25 _ ?_, hrun, hended, _, _, rfl, ?_, ⟨_, rfl⟩, hW, hsame.mono (by decide) (by decide)⟩
    · show Steps p.tables e below (s₁.setTop (mkF m 12 #[.val (.ref pa), .val (.int p1), .val (.ref ta), .val (.int p3), .val (.ref mb), .val (.int p5), .val (.int p6), .unset] [])) _
      exact X0.returnOut hx Bd.returns (hb hby d4_12) hr
    · show Q4 _ _ _ _ _ _ _ _ _ _ _ s₁.heap _
      rw [e0]
      exact ⟨rfl, N0, Keep.refl h0 [mb], g, Vm0, own_D0 D (by have := (own_lt h1 h5).mp hc24; omega)⟩
  · have k26 : ∀ tg, Steps p.tables e below (s₁.setTop (mkF m 6 #[.val (.ref pa), .val (.int p1), .val (.ref ta), .val (.int p3), .val (.ref mb), .val (.int p5), .val (.int p6), .unset] [])) tg → Steps p.tables e below (s₁.setTop (entryFrame m #[(.ref pa), (.int p1), (.ref ta), (.int p3), (.ref mb), (.int p5), (.int p6)] 8)) tg := fun tg kg => k23 tg (by
        show Steps p.tables e below (s₁.setTop (mkF m 3 #[.val (.ref pa), .val (.int p1), .val (.ref ta), .val (.int p3), .val (.ref mb), .val (.int p5), .val (.int p6), .unset] [(.int p1), (.int p5)])) _
        refine XS.icmpNo X0.here hx rfl (hb hby d4_3) rfl (flt hc24).2.2.1 ?_
        exact kg)
    have k27 : ∀ tg, Steps p.tables e below (s₁.setTop (mkF m 9 #[.val (.ref pa), .val (.int p1), .val (.ref ta), .val (.int p3), .val (.ref mb), .val (.int p5), .val (.int p6), .unset] [(.int p3), (.int p6)])) tg → Steps p.tables e below (s₁.setTop (entryFrame m #[(.ref pa), (.int p1), (.ref ta), (.int p3), (.ref mb), (.int p5), (.int p6)] 8)) tg := fun tg kg => k26 tg (by
        show Steps p.tables e below (s₁.setTop (mkF m 6 #[.val (.ref pa), .val (.int p1), .val (.ref ta), .val (.int p3), .val (.ref mb), .val (.int p5), .val (.int p6), .unset] [])) _
        refine XS.iload X0.here hx rfl (hb hby d4_6) rfl ?_
        show Steps p.tables e below (s₁.setTop (mkF m 8 #[.val (.ref pa), .val (.int p1), .val (.ref ta), .val (.int p3), .val (.ref mb), .val (.int p5), .val (.int p6), .unset] [(.int p6)])) _
        refine XS.iloadN X0.here hx rfl (hb hby d4_8) rfl ?_
        exact kg)
    by_cases hc28 : p3 < p6
    · have k29 : ∀ tg, Steps p.tables e below (s₁.setTop (mkF m 12 #[.val (.ref pa), .val (.int p1), .val (.ref ta), .val (.int p3), .val (.ref mb), .val (.int p5), .val (.int p6), .unset] [])) tg → Steps p.tables e below (s₁.setTop (entryFrame m #[(.ref pa), (.int p1), (.ref ta), (.int p3), (.ref mb), (.int p5), (.int p6)] 8)) tg := fun tg kg => k27 tg (by
          show Steps p.tables e below (s₁.setTop (mkF m 9 #[.val (.ref pa), .val (.int p1), .val (.ref ta), .val (.int p3), .val (.ref mb), .val (.int p5), .val (.int p6), .unset] [(.int p3), (.int p6)])) _
          refine XS.icmpNo X0.here hx rfl (hb hby d4_9) rfl (tlt hc28).2.2.2 ?_
          exact kg)
      obtain ⟨fs, hr, hrun, hended, hW, hsame⟩ := X0.leave (v := none) (fun _ => rfl)
      refine ⟨_, _, k29 _ ?_, hrun, hended, _, _, rfl, ?_, ⟨_, rfl⟩, hW, hsame.mono (by decide) (by decide)⟩
      · show Steps p.tables e below (s₁.setTop (mkF m 12 #[.val (.ref pa), .val (.int p1), .val (.ref ta), .val (.int p3), .val (.ref mb), .val (.int p5), .val (.int p6), .unset] [])) _
        exact X0.returnOut hx Bd.returns (hb hby d4_12) hr
      · show Q4 _ _ _ _ _ _ _ _ _ _ _ s₁.heap _
        rw [e0]
        exact ⟨rfl, N0, Keep.refl h0 [mb], g, Vm0, own_D0 D (by have := (own_lt h3 h6).mp hc28; omega)⟩
    · have k30 : ∀ tg, Steps p.tables e below (s₁.setTop (mkF m 13 #[.val (.ref pa), .val (.int p1), .val (.ref ta), .val (.int p3), .val (.ref mb), .val (.int p5), .val (.int p6), .unset] [])) tg → Steps p.tables e below (s₁.setTop (entryFrame m #[(.ref pa), (.int p1), (.ref ta), (.int p3), (.ref mb), (.int p5), (.int p6)] 8)) tg := fun tg kg => k27 tg (by
          show Steps p.tables e below (s₁.setTop (mkF m 9 #[.val (.ref pa), .val (.int p1), .val (.ref ta), .val (.int p3), .val (.ref mb), .val (.int p5), .val (.int p6), .unset] [(.int p3), (.int p6)])) _
          refine XS.icmpYes X0.here hx rfl (pc0 := 9) (pc' := 13) rfl (hb hby d4_9) rfl (flt hc28).2.2.2 (by decide) (by decide) ?_
          exact kg)
      have k31 : ∀ tg, Steps p.tables e below (s₁.setTop (mkF m 26 #[.val (.ref pa), .val (.int p1), .val (.ref ta), .val (.int p3), .val (.ref mb), .val (.int p5), .val (.int p6), .val (.int ((p5 * (6 : Int32)) + p6))] [(.int p1), (.int p5)])) tg → Steps p.tables e below (s₁.setTop (entryFrame m #[(.ref pa), (.int p1), (.ref ta), (.int p3), (.ref mb), (.int p5), (.int p6)] 8)) tg := fun tg kg => k30 tg (by
          show Steps p.tables e below (s₁.setTop (mkF m 13 #[.val (.ref pa), .val (.int p1), .val (.ref ta), .val (.int p3), .val (.ref mb), .val (.int p5), .val (.int p6), .unset] [])) _
          refine XS.iload X0.here hx rfl (hb hby d4_13) rfl ?_
          show Steps p.tables e below (s₁.setTop (mkF m 15 #[.val (.ref pa), .val (.int p1), .val (.ref ta), .val (.int p3), .val (.ref mb), .val (.int p5), .val (.int p6), .unset] [(.int p5)])) _
          refine XS.bipush X0.here hx rfl (hb hby d4_15) ?_
          show Steps p.tables e below (s₁.setTop (mkF m 17 #[.val (.ref pa), .val (.int p1), .val (.ref ta), .val (.int p3), .val (.ref mb), .val (.int p5), .val (.int p6), .unset] [(.int (6 : Int32)), (.int p5)])) _
          refine XS.imul X0.here hx rfl (hb hby d4_17) rfl ?_
          show Steps p.tables e below (s₁.setTop (mkF m 18 #[.val (.ref pa), .val (.int p1), .val (.ref ta), .val (.int p3), .val (.ref mb), .val (.int p5), .val (.int p6), .unset] [(.int (p5 * (6 : Int32)))])) _
          refine XS.iload X0.here hx rfl (hb hby d4_18) rfl ?_
          show Steps p.tables e below (s₁.setTop (mkF m 20 #[.val (.ref pa), .val (.int p1), .val (.ref ta), .val (.int p3), .val (.ref mb), .val (.int p5), .val (.int p6), .unset] [(.int p6), (.int (p5 * (6 : Int32)))])) _
          refine XS.iadd X0.here hx rfl (hb hby d4_20) rfl ?_
          show Steps p.tables e below (s₁.setTop (mkF m 21 #[.val (.ref pa), .val (.int p1), .val (.ref ta), .val (.int p3), .val (.ref mb), .val (.int p5), .val (.int p6), .unset] [(.int ((p5 * (6 : Int32)) + p6))])) _
          refine XS.istore X0.here hx rfl (hb hby d4_21) rfl (l' := #[.val (.ref pa), .val (.int p1), .val (.ref ta), .val (.int p3), .val (.ref mb), .val (.int p5), .val (.int p6), .val (.int ((p5 * (6 : Int32)) + p6))]) rfl ?_
          show Steps p.tables e below (s₁.setTop (mkF m 23 #[.val (.ref pa), .val (.int p1), .val (.ref ta), .val (.int p3), .val (.ref mb), .val (.int p5), .val (.int p6), .val (.int ((p5 * (6 : Int32)) + p6))] [])) _
          refine XS.iload X0.here hx rfl (hb hby d4_23) rfl ?_
          show Steps p.tables e below (s₁.setTop (mkF m 25 #[.val (.ref pa), .val (.int p1), .val (.ref ta), .val (.int p3), .val (.ref mb), .val (.int p5), .val (.int p6), .val (.int ((p5 * (6 : Int32)) + p6))] [(.int p5)])) _
          refine XS.iloadN X0.here hx rfl (hb hby d4_25) rfl ?_
          exact kg)
      by_cases hc32 : p5 = p1
      · have k33 : ∀ tg, Steps p.tables e below (s₁.setTop (mkF m 29 #[.val (.ref pa), .val (.int p1), .val (.ref ta), .val (.int p3), .val (.ref mb), .val (.int p5), .val (.int p6), .val (.int ((p5 * (6 : Int32)) + p6))] [])) tg → Steps p.tables e below (s₁.setTop (entryFrame m #[(.ref pa), (.int p1), (.ref ta), (.int p3), (.ref mb), (.int p5), (.int p6)] 8)) tg := fun tg kg => k31 tg (by
            show Steps p.tables e below (s₁.setTop (mkF m 26 #[.val (.ref pa), .val (.int p1), .val (.ref ta), .val (.int p3), .val (.ref mb), .val (.int p5), .val (.int p6), .val (.int ((p5 * (6 : Int32)) + p6))] [(.int p1), (.int p5)])) _
            refine XS.icmpNo X0.here hx rfl (hb hby d4_26) rfl (teq hc32).2 ?_
            exact kg)
        have k34 : ∀ tg, Steps p.tables e below (s₁.setTop (mkF m 36 #[.val (.ref pa), .val (.int p1), .val (.ref ta), .val (.int p3), .val (.ref mb), .val (.int p5), .val (.int p6), .val (.int ((p5 * (6 : Int32)) + p6))] [(.int p3), (.int p6), (.int ((p5 * (6 : Int32)) + p6)), (.ref mb)])) tg → Steps p.tables e below (s₁.setTop (entryFrame m #[(.ref pa), (.int p1), (.ref ta), (.int p3), (.ref mb), (.int p5), (.int p6)] 8)) tg := fun tg kg => k33 tg (by
            show Steps p.tables e below (s₁.setTop (mkF m 29 #[.val (.ref pa), .val (.int p1), .val (.ref ta), .val (.int p3), .val (.ref mb), .val (.int p5), .val (.int p6), .val (.int ((p5 * (6 : Int32)) + p6))] [])) _
            refine XS.aload X0.here hx rfl (hb hby d4_29) rfl rfl ?_
            show Steps p.tables e below (s₁.setTop (mkF m 31 #[.val (.ref pa), .val (.int p1), .val (.ref ta), .val (.int p3), .val (.ref mb), .val (.int p5), .val (.int p6), .val (.int ((p5 * (6 : Int32)) + p6))] [(.ref mb)])) _
            refine XS.iload X0.here hx rfl (hb hby d4_31) rfl ?_
            show Steps p.tables e below (s₁.setTop (mkF m 33 #[.val (.ref pa), .val (.int p1), .val (.ref ta), .val (.int p3), .val (.ref mb), .val (.int p5), .val (.int p6), .val (.int ((p5 * (6 : Int32)) + p6))] [(.int ((p5 * (6 : Int32)) + p6)), (.ref mb)])) _
            refine XS.iload X0.here hx rfl (hb hby d4_33) rfl ?_
            show Steps p.tables e below (s₁.setTop (mkF m 35 #[.val (.ref pa), .val (.int p1), .val (.ref ta), .val (.int p3), .val (.ref mb), .val (.int p5), .val (.int p6), .val (.int ((p5 * (6 : Int32)) + p6))] [(.int p6), (.int ((p5 * (6 : Int32)) + p6)), (.ref mb)])) _
            refine XS.iloadN X0.here hx rfl (hb hby d4_35) rfl ?_
            exact kg)
        by_cases hc35 : p6 = p3
        · have k36 : ∀ tg, Steps p.tables e below (s₁.setTop (mkF m 39 #[.val (.ref pa), .val (.int p1), .val (.ref ta), .val (.int p3), .val (.ref mb), .val (.int p5), .val (.int p6), .val (.int ((p5 * (6 : Int32)) + p6))] [(.int ((p5 * (6 : Int32)) + p6)), (.ref mb)])) tg → Steps p.tables e below (s₁.setTop (entryFrame m #[(.ref pa), (.int p1), (.ref ta), (.int p3), (.ref mb), (.int p5), (.int p6)] 8)) tg := fun tg kg => k34 tg (by
              show Steps p.tables e below (s₁.setTop (mkF m 36 #[.val (.ref pa), .val (.int p1), .val (.ref ta), .val (.int p3), .val (.ref mb), .val (.int p5), .val (.int p6), .val (.int ((p5 * (6 : Int32)) + p6))] [(.int p3), (.int p6), (.int ((p5 * (6 : Int32)) + p6)), (.ref mb)])) _
              refine XS.icmpNo X0.here hx rfl (hb hby d4_36) rfl (teq hc35).2 ?_
              exact kg)
          have k37 : ∀ tg, Steps p.tables e below (s₁.setTop (mkF m 44 #[.val (.ref pa), .val (.int p1), .val (.ref ta), .val (.int p3), .val (.ref mb), .val (.int p5), .val (.int p6), .val (.int ((p5 * (6 : Int32)) + p6))] [(.int (1 : Int32)), (.int ((p5 * (6 : Int32)) + p6)), (.ref mb)])) tg → Steps p.tables e below (s₁.setTop (entryFrame m #[(.ref pa), (.int p1), (.ref ta), (.int p3), (.ref mb), (.int p5), (.int p6)] 8)) tg := fun tg kg => k36 tg (by
              show Steps p.tables e below (s₁.setTop (mkF m 39 #[.val (.ref pa), .val (.int p1), .val (.ref ta), .val (.int p3), .val (.ref mb), .val (.int p5), .val (.int p6), .val (.int ((p5 * (6 : Int32)) + p6))] [(.int ((p5 * (6 : Int32)) + p6)), (.ref mb)])) _
              refine XS.iconst X0.here hx rfl (hb hby d4_39) ?_
              show Steps p.tables e below (s₁.setTop (mkF m 40 #[.val (.ref pa), .val (.int p1), .val (.ref ta), .val (.int p3), .val (.ref mb), .val (.int p5), .val (.int p6), .val (.int ((p5 * (6 : Int32)) + p6))] [(.int (1 : Int32)), (.int ((p5 * (6 : Int32)) + p6)), (.ref mb)])) _
              refine XS.goto X0.here hx rfl (pc0 := 40) (pc' := 44) rfl (hb hby d4_40) (by decide) (by decide) ?_
              exact kg)
          have il : i ≤ pl := by have q := hc24; rw [own_lt h1 h5] at q; omega
          have jl : j ≤ tl := by have q := hc28; rw [own_lt h3 h6] at q; omega
          have hz : own_b (own_mm pl tl pf tf i j) = (1 : Int32) := by
            obtain rfl : i = pl := (own_eqi h5 h1).mp hc32
            rw [own_end]
            rw [decide_eq_true (by have := (own_eqi h6 h3).mp hc35; omega)]; rfl
          obtain ⟨T38, h38, X38, e38, W38, st38⟩ := stZ X0 hx hZ e0 Am (j := ((p5 * (6 : Int32)) + p6)) (own_hin Sm x0 (by omega)) (g := (mkF m 44 #[.val (.ref pa), .val (.int p1), .val (.ref ta), .val (.int p3), .val (.ref mb), .val (.int p5), .val (.int p6), .val (.int ((p5 * (6 : Int32)) + p6))] [(.int (1 : Int32)), (.int ((p5 * (6 : Int32)) + p6)), (.ref mb)])) rfl rfl (hb hby d4_44)
          have N38 := Fr.snoc X38 N0 ge
          have k39 : ∀ tg, Steps p.tables e below (T38.setTop (mkF m 45 #[.val (.ref pa), .val (.int p1), .val (.ref ta), .val (.int p3), .val (.ref mb), .val (.int p5), .val (.int p6), .val (.int ((p5 * (6 : Int32)) + p6))] [])) tg → Steps p.tables e below (s₁.setTop (entryFrame m #[(.ref pa), (.int p1), (.ref ta), (.int p3), (.ref mb), (.int p5), (.int p6)] 8)) tg := fun tg kg => k37 tg (st38 tg kg)
          have Vn := (Av.set Am Sm Gm x0 W38).congr (g' := fun k => .int (own_set g (i * 6 + j) (1 : Int32) k)) (fun k _ => by dsimp only [own_set]; split <;> rfl)
          obtain ⟨fs, hr, hrun, hended, hW, hsame⟩ := X38.leave (v := none) (fun _ => rfl)
          refine ⟨_, _, k39 _ ?_, hrun, hended, _, _, rfl, ?_, ⟨_, rfl⟩, hW, hsame.mono (by decide) (by decide)⟩
          · show Steps p.tables e below (T38.setTop (mkF m 45 #[.val (.ref pa), .val (.int p1), .val (.ref ta), .val (.int p3), .val (.ref mb), .val (.int p5), .val (.int p6), .val (.int ((p5 * (6 : Int32)) + p6))] [])) _
            exact X38.returnOut hx Bd.returns (hb hby d4_45) hr
          · show Q4 _ _ _ _ _ _ _ _ _ _ _ T38.heap _
            rw [e38]
            exact ⟨rfl, N38, Keep.of_wr W38, _, Vn, own_D1 D hj4 htl hz⟩
        · have k40 : ∀ tg, Steps p.tables e below (s₁.setTop (mkF m 43 #[.val (.ref pa), .val (.int p1), .val (.ref ta), .val (.int p3), .val (.ref mb), .val (.int p5), .val (.int p6), .val (.int ((p5 * (6 : Int32)) + p6))] [(.int ((p5 * (6 : Int32)) + p6)), (.ref mb)])) tg → Steps p.tables e below (s₁.setTop (entryFrame m #[(.ref pa), (.int p1), (.ref ta), (.int p3), (.ref mb), (.int p5), (.int p6)] 8)) tg := fun tg kg => k34 tg (by
              show Steps p.tables e below (s₁.setTop (mkF m 36 #[.val (.ref pa), .val (.int p1), .val (.ref ta), .val (.int p3), .val (.ref mb), .val (.int p5), .val (.int p6), .val (.int ((p5 * (6 : Int32)) + p6))] [(.int p3), (.int p6), (.int ((p5 * (6 : Int32)) + p6)), (.ref mb)])) _
              refine XS.icmpYes X0.here hx rfl (pc0 := 36) (pc' := 43) rfl (hb hby d4_36) rfl (feq hc35).2 (by decide) (by decide) ?_
              exact kg)
          have k41 : ∀ tg, Steps p.tables e below (s₁.setTop (mkF m 44 #[.val (.ref pa), .val (.int p1), .val (.ref ta), .val (.int p3), .val (.ref mb), .val (.int p5), .val (.int p6), .val (.int ((p5 * (6 : Int32)) + p6))] [(.int (0 : Int32)), (.int ((p5 * (6 : Int32)) + p6)), (.ref mb)])) tg → Steps p.tables e below (s₁.setTop (entryFrame m #[(.ref pa), (.int p1), (.ref ta), (.int p3), (.ref mb), (.int p5), (.int p6)] 8)) tg := fun tg kg => k40 tg (by
              show Steps p.tables e below (s₁.setTop (mkF m 43 #[.val (.ref pa), .val (.int p1), .val (.ref ta), .val (.int p3), .val (.ref mb), .val (.int p5), .val (.int p6), .val (.int ((p5 * (6 : Int32)) + p6))] [(.int ((p5 * (6 : Int32)) + p6)), (.ref mb)])) _
              refine XS.iconst X0.here hx rfl (hb hby d4_43) ?_
              exact kg)
          have il : i ≤ pl := by have q := hc24; rw [own_lt h1 h5] at q; omega
          have jl : j ≤ tl := by have q := hc28; rw [own_lt h3 h6] at q; omega
          have hz : own_b (own_mm pl tl pf tf i j) = (0 : Int32) := by
            obtain rfl : i = pl := (own_eqi h5 h1).mp hc32
            rw [own_end]
            rw [decide_eq_false (fun q => hc35 ((own_eqi h6 h3).mpr (by omega)))]; rfl
          obtain ⟨T42, h42, X42, e42, W42, st42⟩ := stZ X0 hx hZ e0 Am (j := ((p5 * (6 : Int32)) + p6)) (own_hin Sm x0 (by omega)) (g := (mkF m 44 #[.val (.ref pa), .val (.int p1), .val (.ref ta), .val (.int p3), .val (.ref mb), .val (.int p5), .val (.int p6), .val (.int ((p5 * (6 : Int32)) + p6))] [(.int (0 : Int32)), (.int ((p5 * (6 : Int32)) + p6)), (.ref mb)])) rfl rfl (hb hby d4_44)
          have N42 := Fr.snoc X42 N0 ge
          have k43 : ∀ tg, Steps p.tables e below (T42.setTop (mkF m 45 #[.val (.ref pa), .val (.int p1), .val (.ref ta), .val (.int p3), .val (.ref mb), .val (.int p5), .val (.int p6), .val (.int ((p5 * (6 : Int32)) + p6))] [])) tg → Steps p.tables e below (s₁.setTop (entryFrame m #[(.ref pa), (.int p1), (.ref ta), (.int p3), (.ref mb), (.int p5), (.int p6)] 8)) tg := fun tg kg => k41 tg (st42 tg kg)
          have Vn := (Av.set Am Sm Gm x0 W42).congr (g' := fun k => .int (own_set g (i * 6 + j) (0 : Int32) k)) (fun k _ => by dsimp only [own_set]; split <;> rfl)
          obtain ⟨fs, hr, hrun, hended, hW, hsame⟩ := X42.leave (v := none) (fun _ => rfl)
          refine ⟨_, _, k43 _ ?_, hrun, hended, _, _, rfl, ?_, ⟨_, rfl⟩, hW, hsame.mono (by decide) (by decide)⟩
          · show Steps p.tables e below (T42.setTop (mkF m 45 #[.val (.ref pa), .val (.int p1), .val (.ref ta), .val (.int p3), .val (.ref mb), .val (.int p5), .val (.int p6), .val (.int ((p5 * (6 : Int32)) + p6))] [])) _
            exact X42.returnOut hx Bd.returns (hb hby d4_45) hr
          · show Q4 _ _ _ _ _ _ _ _ _ _ _ T42.heap _
            rw [e42]
            exact ⟨rfl, N42, Keep.of_wr W42, _, Vn, own_D1 D hj4 htl hz⟩
      · have k44 : ∀ tg, Steps p.tables e below (s₁.setTop (mkF m 46 #[.val (.ref pa), .val (.int p1), .val (.ref ta), .val (.int p3), .val (.ref mb), .val (.int p5), .val (.int p6), .val (.int ((p5 * (6 : Int32)) + p6))] [])) tg → Steps p.tables e below (s₁.setTop (entryFrame m #[(.ref pa), (.int p1), (.ref ta), (.int p3), (.ref mb), (.int p5), (.int p6)] 8)) tg := fun tg kg => k31 tg (by
            show Steps p.tables e below (s₁.setTop (mkF m 26 #[.val (.ref pa), .val (.int p1), .val (.ref ta), .val (.int p3), .val (.ref mb), .val (.int p5), .val (.int p6), .val (.int ((p5 * (6 : Int32)) + p6))] [(.int p1), (.int p5)])) _
            refine XS.icmpYes X0.here hx rfl (pc0 := 26) (pc' := 46) rfl (hb hby d4_26) rfl (feq hc32).2 (by decide) (by decide) ?_
            exact kg)
        have k45 : ∀ tg, Steps p.tables e below (s₁.setTop (mkF m 52 #[.val (.ref pa), .val (.int p1), .val (.ref ta), .val (.int p3), .val (.ref mb), .val (.int p5), .val (.int p6), .val (.int ((p5 * (6 : Int32)) + p6))] [(.int (42 : Int32)), (.int (pf i))])) tg → Steps p.tables e below (s₁.setTop (entryFrame m #[(.ref pa), (.int p1), (.ref ta), (.int p3), (.ref mb), (.int p5), (.int p6)] 8)) tg := fun tg kg => k44 tg (by
            show Steps p.tables e below (s₁.setTop (mkF m 46 #[.val (.ref pa), .val (.int p1), .val (.ref ta), .val (.int p3), .val (.ref mb), .val (.int p5), .val (.int p6), .val (.int ((p5 * (6 : Int32)) + p6))] [])) _
            refine XS.aloadN X0.here hx rfl (hb hby d4_46) rfl rfl ?_
            show Steps p.tables e below (s₁.setTop (mkF m 47 #[.val (.ref pa), .val (.int p1), .val (.ref ta), .val (.int p3), .val (.ref mb), .val (.int p5), .val (.int p6), .val (.int ((p5 * (6 : Int32)) + p6))] [(.ref pa)])) _
            refine XS.iload X0.here hx rfl (hb hby d4_47) rfl ?_
            show Steps p.tables e below (s₁.setTop (mkF m 49 #[.val (.ref pa), .val (.int p1), .val (.ref ta), .val (.int p3), .val (.ref mb), .val (.int p5), .val (.int p6), .val (.int ((p5 * (6 : Int32)) + p6))] [(.int p5), (.ref pa)])) _
            refine X0.iaload hx (j := p5) (v := (.int (pf i))) (by rw [e0]; exact Ap.1) (State.isArrayOf_alike hZ.alike Ap.2.1) Ap.2.2 (own_hin Sp h5 (by have q1 := hc24; rw [own_lt h1 h5] at q1; have q2 : i ≠ pl := fun q => hc32 ((own_eqi h5 h1).mpr q); omega)) (own_hat Gp h5 (by have q1 := hc24; rw [own_lt h1 h5] at q1; have q2 : i ≠ pl := fun q => hc32 ((own_eqi h5 h1).mpr q); omega)) (g := (mkF m 49 #[.val (.ref pa), .val (.int p1), .val (.ref ta), .val (.int p3), .val (.ref mb), .val (.int p5), .val (.int p6), .val (.int ((p5 * (6 : Int32)) + p6))] [(.int p5), (.ref pa)])) rfl rfl (hb hby d4_49) _ ?_
            show Steps p.tables e below (s₁.setTop (mkF m 50 #[.val (.ref pa), .val (.int p1), .val (.ref ta), .val (.int p3), .val (.ref mb), .val (.int p5), .val (.int p6), .val (.int ((p5 * (6 : Int32)) + p6))] [(.int (pf i))])) _
            refine XS.bipush X0.here hx rfl (hb hby d4_50) ?_
            exact kg)
        by_cases hc46 : (pf i) = (42 : Int32)
        · have k47 : ∀ tg, Steps p.tables e below (s₁.setTop (mkF m 55 #[.val (.ref pa), .val (.int p1), .val (.ref ta), .val (.int p3), .val (.ref mb), .val (.int p5), .val (.int p6), .val (.int ((p5 * (6 : Int32)) + p6))] [])) tg → Steps p.tables e below (s₁.setTop (entryFrame m #[(.ref pa), (.int p1), (.ref ta), (.int p3), (.ref mb), (.int p5), (.int p6)] 8)) tg := fun tg kg => k45 tg (by
              show Steps p.tables e below (s₁.setTop (mkF m 52 #[.val (.ref pa), .val (.int p1), .val (.ref ta), .val (.int p3), .val (.ref mb), .val (.int p5), .val (.int p6), .val (.int ((p5 * (6 : Int32)) + p6))] [(.int (42 : Int32)), (.int (pf i))])) _
              refine XS.icmpNo X0.here hx rfl (hb hby d4_52) rfl (teq hc46).2 ?_
              exact kg)
          have k48 : ∀ tg, Steps p.tables e below (s₁.setTop (mkF m 72 #[.val (.ref pa), .val (.int p1), .val (.ref ta), .val (.int p3), .val (.ref mb), .val (.int p5), .val (.int p6), .val (.int ((p5 * (6 : Int32)) + p6))] [(.int (g ((i + 1) * 6 + j))), (.int ((p5 * (6 : Int32)) + p6)), (.ref mb)])) tg → Steps p.tables e below (s₁.setTop (entryFrame m #[(.ref pa), (.int p1), (.ref ta), (.int p3), (.ref mb), (.int p5), (.int p6)] 8)) tg := fun tg kg => k47 tg (by
              show Steps p.tables e below (s₁.setTop (mkF m 55 #[.val (.ref pa), .val (.int p1), .val (.ref ta), .val (.int p3), .val (.ref mb), .val (.int p5), .val (.int p6), .val (.int ((p5 * (6 : Int32)) + p6))] [])) _
              refine XS.aload X0.here hx rfl (hb hby d4_55) rfl rfl ?_
              show Steps p.tables e below (s₁.setTop (mkF m 57 #[.val (.ref pa), .val (.int p1), .val (.ref ta), .val (.int p3), .val (.ref mb), .val (.int p5), .val (.int p6), .val (.int ((p5 * (6 : Int32)) + p6))] [(.ref mb)])) _
              refine XS.iload X0.here hx rfl (hb hby d4_57) rfl ?_
              show Steps p.tables e below (s₁.setTop (mkF m 59 #[.val (.ref pa), .val (.int p1), .val (.ref ta), .val (.int p3), .val (.ref mb), .val (.int p5), .val (.int p6), .val (.int ((p5 * (6 : Int32)) + p6))] [(.int ((p5 * (6 : Int32)) + p6)), (.ref mb)])) _
              refine XS.aload X0.here hx rfl (hb hby d4_59) rfl rfl ?_
              show Steps p.tables e below (s₁.setTop (mkF m 61 #[.val (.ref pa), .val (.int p1), .val (.ref ta), .val (.int p3), .val (.ref mb), .val (.int p5), .val (.int p6), .val (.int ((p5 * (6 : Int32)) + p6))] [(.ref mb), (.int ((p5 * (6 : Int32)) + p6)), (.ref mb)])) _
              refine XS.iload X0.here hx rfl (hb hby d4_61) rfl ?_
              show Steps p.tables e below (s₁.setTop (mkF m 63 #[.val (.ref pa), .val (.int p1), .val (.ref ta), .val (.int p3), .val (.ref mb), .val (.int p5), .val (.int p6), .val (.int ((p5 * (6 : Int32)) + p6))] [(.int p5), (.ref mb), (.int ((p5 * (6 : Int32)) + p6)), (.ref mb)])) _
              refine XS.iconst X0.here hx rfl (hb hby d4_63) ?_
              show Steps p.tables e below (s₁.setTop (mkF m 64 #[.val (.ref pa), .val (.int p1), .val (.ref ta), .val (.int p3), .val (.ref mb), .val (.int p5), .val (.int p6), .val (.int ((p5 * (6 : Int32)) + p6))] [(.int (1 : Int32)), (.int p5), (.ref mb), (.int ((p5 * (6 : Int32)) + p6)), (.ref mb)])) _
              refine XS.iadd X0.here hx rfl (hb hby d4_64) rfl ?_
              show Steps p.tables e below (s₁.setTop (mkF m 65 #[.val (.ref pa), .val (.int p1), .val (.ref ta), .val (.int p3), .val (.ref mb), .val (.int p5), .val (.int p6), .val (.int ((p5 * (6 : Int32)) + p6))] [(.int (p5 + (1 : Int32))), (.ref mb), (.int ((p5 * (6 : Int32)) + p6)), (.ref mb)])) _
              refine XS.bipush X0.here hx rfl (hb hby d4_65) ?_
              show Steps p.tables e below (s₁.setTop (mkF m 67 #[.val (.ref pa), .val (.int p1), .val (.ref ta), .val (.int p3), .val (.ref mb), .val (.int p5), .val (.int p6), .val (.int ((p5 * (6 : Int32)) + p6))] [(.int (6 : Int32)), (.int (p5 + (1 : Int32))), (.ref mb), (.int ((p5 * (6 : Int32)) + p6)), (.ref mb)])) _
              refine XS.imul X0.here hx rfl (hb hby d4_67) rfl ?_
              show Steps p.tables e below (s₁.setTop (mkF m 68 #[.val (.ref pa), .val (.int p1), .val (.ref ta), .val (.int p3), .val (.ref mb), .val (.int p5), .val (.int p6), .val (.int ((p5 * (6 : Int32)) + p6))] [(.int ((p5 + (1 : Int32)) * (6 : Int32))), (.ref mb), (.int ((p5 * (6 : Int32)) + p6)), (.ref mb)])) _
              refine XS.iload X0.here hx rfl (hb hby d4_68) rfl ?_
              show Steps p.tables e below (s₁.setTop (mkF m 70 #[.val (.ref pa), .val (.int p1), .val (.ref ta), .val (.int p3), .val (.ref mb), .val (.int p5), .val (.int p6), .val (.int ((p5 * (6 : Int32)) + p6))] [(.int p6), (.int ((p5 + (1 : Int32)) * (6 : Int32))), (.ref mb), (.int ((p5 * (6 : Int32)) + p6)), (.ref mb)])) _
              refine XS.iadd X0.here hx rfl (hb hby d4_70) rfl ?_
              show Steps p.tables e below (s₁.setTop (mkF m 71 #[.val (.ref pa), .val (.int p1), .val (.ref ta), .val (.int p3), .val (.ref mb), .val (.int p5), .val (.int p6), .val (.int ((p5 * (6 : Int32)) + p6))] [(.int (((p5 + (1 : Int32)) * (6 : Int32)) + p6)), (.ref mb), (.int ((p5 * (6 : Int32)) + p6)), (.ref mb)])) _
              refine X0.baloadBooleans hx (j := (((p5 + (1 : Int32)) * (6 : Int32)) + p6)) (v := (.int (g ((i + 1) * 6 + j)))) (by rw [e0]; exact Am.1) (State.isArrayOf_alike hZ.alike Am.2.1) Am.2.2 (own_hin Sm x1 (by omega)) (own_hat Gm x1 (by omega)) (g := (mkF m 71 #[.val (.ref pa), .val (.int p1), .val (.ref ta), .val (.int p3), .val (.ref mb), .val (.int p5), .val (.int p6), .val (.int ((p5 * (6 : Int32)) + p6))] [(.int (((p5 + (1 : Int32)) * (6 : Int32)) + p6)), (.ref mb), (.int ((p5 * (6 : Int32)) + p6)), (.ref mb)])) rfl rfl (hb hby d4_71) _ ?_
              exact kg)
          by_cases hc49 : (g ((i + 1) * 6 + j)) = (0 : Int32)
          · have k50 : ∀ tg, Steps p.tables e below (s₁.setTop (mkF m 75 #[.val (.ref pa), .val (.int p1), .val (.ref ta), .val (.int p3), .val (.ref mb), .val (.int p5), .val (.int p6), .val (.int ((p5 * (6 : Int32)) + p6))] [(.int ((p5 * (6 : Int32)) + p6)), (.ref mb)])) tg → Steps p.tables e below (s₁.setTop (entryFrame m #[(.ref pa), (.int p1), (.ref ta), (.int p3), (.ref mb), (.int p5), (.int p6)] 8)) tg := fun tg kg => k48 tg (by
                show Steps p.tables e below (s₁.setTop (mkF m 72 #[.val (.ref pa), .val (.int p1), .val (.ref ta), .val (.int p3), .val (.ref mb), .val (.int p5), .val (.int p6), .val (.int ((p5 * (6 : Int32)) + p6))] [(.int (g ((i + 1) * 6 + j))), (.int ((p5 * (6 : Int32)) + p6)), (.ref mb)])) _
                refine XS.ifNo X0.here hx rfl (hb hby d4_72) rfl ((if0 _ _).trans (teq hc49).2) ?_
                exact kg)
            have k51 : ∀ tg, Steps p.tables e below (s₁.setTop (mkF m 78 #[.val (.ref pa), .val (.int p1), .val (.ref ta), .val (.int p3), .val (.ref mb), .val (.int p5), .val (.int p6), .val (.int ((p5 * (6 : Int32)) + p6))] [(.int p3), (.int p6), (.int ((p5 * (6 : Int32)) + p6)), (.ref mb)])) tg → Steps p.tables e below (s₁.setTop (entryFrame m #[(.ref pa), (.int p1), (.ref ta), (.int p3), (.ref mb), (.int p5), (.int p6)] 8)) tg := fun tg kg => k50 tg (by
                show Steps p.tables e below (s₁.setTop (mkF m 75 #[.val (.ref pa), .val (.int p1), .val (.ref ta), .val (.int p3), .val (.ref mb), .val (.int p5), .val (.int p6), .val (.int ((p5 * (6 : Int32)) + p6))] [(.int ((p5 * (6 : Int32)) + p6)), (.ref mb)])) _
                refine XS.iload X0.here hx rfl (hb hby d4_75) rfl ?_
                show Steps p.tables e below (s₁.setTop (mkF m 77 #[.val (.ref pa), .val (.int p1), .val (.ref ta), .val (.int p3), .val (.ref mb), .val (.int p5), .val (.int p6), .val (.int ((p5 * (6 : Int32)) + p6))] [(.int p6), (.int ((p5 * (6 : Int32)) + p6)), (.ref mb)])) _
                refine XS.iloadN X0.here hx rfl (hb hby d4_77) rfl ?_
                exact kg)
            by_cases hc52 : p6 < p3
            · have k53 : ∀ tg, Steps p.tables e below (s₁.setTop (mkF m 81 #[.val (.ref pa), .val (.int p1), .val (.ref ta), .val (.int p3), .val (.ref mb), .val (.int p5), .val (.int p6), .val (.int ((p5 * (6 : Int32)) + p6))] [(.int ((p5 * (6 : Int32)) + p6)), (.ref mb)])) tg → Steps p.tables e below (s₁.setTop (entryFrame m #[(.ref pa), (.int p1), (.ref ta), (.int p3), (.ref mb), (.int p5), (.int p6)] 8)) tg := fun tg kg => k51 tg (by
                  show Steps p.tables e below (s₁.setTop (mkF m 78 #[.val (.ref pa), .val (.int p1), .val (.ref ta), .val (.int p3), .val (.ref mb), .val (.int p5), .val (.int p6), .val (.int ((p5 * (6 : Int32)) + p6))] [(.int p3), (.int p6), (.int ((p5 * (6 : Int32)) + p6)), (.ref mb)])) _
                  refine XS.icmpNo X0.here hx rfl (hb hby d4_78) rfl (tlt hc52).2.1 ?_
                  exact kg)
              have k54 : ∀ tg, Steps p.tables e below (s₁.setTop (mkF m 94 #[.val (.ref pa), .val (.int p1), .val (.ref ta), .val (.int p3), .val (.ref mb), .val (.int p5), .val (.int p6), .val (.int ((p5 * (6 : Int32)) + p6))] [(.int (g (i * 6 + j + 1))), (.int ((p5 * (6 : Int32)) + p6)), (.ref mb)])) tg → Steps p.tables e below (s₁.setTop (entryFrame m #[(.ref pa), (.int p1), (.ref ta), (.int p3), (.ref mb), (.int p5), (.int p6)] 8)) tg := fun tg kg => k53 tg (by
                  show Steps p.tables e below (s₁.setTop (mkF m 81 #[.val (.ref pa), .val (.int p1), .val (.ref ta), .val (.int p3), .val (.ref mb), .val (.int p5), .val (.int p6), .val (.int ((p5 * (6 : Int32)) + p6))] [(.int ((p5 * (6 : Int32)) + p6)), (.ref mb)])) _
                  refine XS.aload X0.here hx rfl (hb hby d4_81) rfl rfl ?_
                  show Steps p.tables e below (s₁.setTop (mkF m 83 #[.val (.ref pa), .val (.int p1), .val (.ref ta), .val (.int p3), .val (.ref mb), .val (.int p5), .val (.int p6), .val (.int ((p5 * (6 : Int32)) + p6))] [(.ref mb), (.int ((p5 * (6 : Int32)) + p6)), (.ref mb)])) _
                  refine XS.iload X0.here hx rfl (hb hby d4_83) rfl ?_
                  show Steps p.tables e below (s₁.setTop (mkF m 85 #[.val (.ref pa), .val (.int p1), .val (.ref ta), .val (.int p3), .val (.ref mb), .val (.int p5), .val (.int p6), .val (.int ((p5 * (6 : Int32)) + p6))] [(.int p5), (.ref mb), (.int ((p5 * (6 : Int32)) + p6)), (.ref mb)])) _
                  refine XS.bipush X0.here hx rfl (hb hby d4_85) ?_
                  show Steps p.tables e below (s₁.setTop (mkF m 87 #[.val (.ref pa), .val (.int p1), .val (.ref ta), .val (.int p3), .val (.ref mb), .val (.int p5), .val (.int p6), .val (.int ((p5 * (6 : Int32)) + p6))] [(.int (6 : Int32)), (.int p5), (.ref mb), (.int ((p5 * (6 : Int32)) + p6)), (.ref mb)])) _
                  refine XS.imul X0.here hx rfl (hb hby d4_87) rfl ?_
                  show Steps p.tables e below (s₁.setTop (mkF m 88 #[.val (.ref pa), .val (.int p1), .val (.ref ta), .val (.int p3), .val (.ref mb), .val (.int p5), .val (.int p6), .val (.int ((p5 * (6 : Int32)) + p6))] [(.int (p5 * (6 : Int32))), (.ref mb), (.int ((p5 * (6 : Int32)) + p6)), (.ref mb)])) _
                  refine XS.iload X0.here hx rfl (hb hby d4_88) rfl ?_
                  show Steps p.tables e below (s₁.setTop (mkF m 90 #[.val (.ref pa), .val (.int p1), .val (.ref ta), .val (.int p3), .val (.ref mb), .val (.int p5), .val (.int p6), .val (.int ((p5 * (6 : Int32)) + p6))] [(.int p6), (.int (p5 * (6 : Int32))), (.ref mb), (.int ((p5 * (6 : Int32)) + p6)), (.ref mb)])) _
                  refine XS.iadd X0.here hx rfl (hb hby d4_90) rfl ?_
                  show Steps p.tables e below (s₁.setTop (mkF m 91 #[.val (.ref pa), .val (.int p1), .val (.ref ta), .val (.int p3), .val (.ref mb), .val (.int p5), .val (.int p6), .val (.int ((p5 * (6 : Int32)) + p6))] [(.int ((p5 * (6 : Int32)) + p6)), (.ref mb), (.int ((p5 * (6 : Int32)) + p6)), (.ref mb)])) _
                  refine XS.iconst X0.here hx rfl (hb hby d4_91) ?_
                  show Steps p.tables e below (s₁.setTop (mkF m 92 #[.val (.ref pa), .val (.int p1), .val (.ref ta), .val (.int p3), .val (.ref mb), .val (.int p5), .val (.int p6), .val (.int ((p5 * (6 : Int32)) + p6))] [(.int (1 : Int32)), (.int ((p5 * (6 : Int32)) + p6)), (.ref mb), (.int ((p5 * (6 : Int32)) + p6)), (.ref mb)])) _
                  refine XS.iadd X0.here hx rfl (hb hby d4_92) rfl ?_
                  show Steps p.tables e below (s₁.setTop (mkF m 93 #[.val (.ref pa), .val (.int p1), .val (.ref ta), .val (.int p3), .val (.ref mb), .val (.int p5), .val (.int p6), .val (.int ((p5 * (6 : Int32)) + p6))] [(.int (((p5 * (6 : Int32)) + p6) + (1 : Int32))), (.ref mb), (.int ((p5 * (6 : Int32)) + p6)), (.ref mb)])) _
                  refine X0.baloadBooleans hx (j := (((p5 * (6 : Int32)) + p6) + (1 : Int32))) (v := (.int (g (i * 6 + j + 1)))) (by rw [e0]; exact Am.1) (State.isArrayOf_alike hZ.alike Am.2.1) Am.2.2 (own_hin Sm x2 (by omega)) (own_hat Gm x2 (by omega)) (g := (mkF m 93 #[.val (.ref pa), .val (.int p1), .val (.ref ta), .val (.int p3), .val (.ref mb), .val (.int p5), .val (.int p6), .val (.int ((p5 * (6 : Int32)) + p6))] [(.int (((p5 * (6 : Int32)) + p6) + (1 : Int32))), (.ref mb), (.int ((p5 * (6 : Int32)) + p6)), (.ref mb)])) rfl rfl (hb hby d4_93) _ ?_
                  exact kg)
              by_cases hc55 : (g (i * 6 + j + 1)) = (0 : Int32)
              · have k56 : ∀ tg, Steps p.tables e below (s₁.setTop (mkF m 101 #[.val (.ref pa), .val (.int p1), .val (.ref ta), .val (.int p3), .val (.ref mb), .val (.int p5), .val (.int p6), .val (.int ((p5 * (6 : Int32)) + p6))] [(.int ((p5 * (6 : Int32)) + p6)), (.ref mb)])) tg → Steps p.tables e below (s₁.setTop (entryFrame m #[(.ref pa), (.int p1), (.ref ta), (.int p3), (.ref mb), (.int p5), (.int p6)] 8)) tg := fun tg kg => k54 tg (by
                    show Steps p.tables e below (s₁.setTop (mkF m 94 #[.val (.ref pa), .val (.int p1), .val (.ref ta), .val (.int p3), .val (.ref mb), .val (.int p5), .val (.int p6), .val (.int ((p5 * (6 : Int32)) + p6))] [(.int (g (i * 6 + j + 1))), (.int ((p5 * (6 : Int32)) + p6)), (.ref mb)])) _
                    refine XS.ifYes X0.here hx rfl (pc0 := 94) (pc' := 101) rfl (hb hby d4_94) rfl ((if0 _ _).trans (teq hc55).1) (by decide) (by decide) ?_
                    exact kg)
                have k57 : ∀ tg, Steps p.tables e below (s₁.setTop (mkF m 102 #[.val (.ref pa), .val (.int p1), .val (.ref ta), .val (.int p3), .val (.ref mb), .val (.int p5), .val (.int p6), .val (.int ((p5 * (6 : Int32)) + p6))] [(.int (0 : Int32)), (.int ((p5 * (6 : Int32)) + p6)), (.ref mb)])) tg → Steps p.tables e below (s₁.setTop (entryFrame m #[(.ref pa), (.int p1), (.ref ta), (.int p3), (.ref mb), (.int p5), (.int p6)] 8)) tg := fun tg kg => k56 tg (by
                    show Steps p.tables e below (s₁.setTop (mkF m 101 #[.val (.ref pa), .val (.int p1), .val (.ref ta), .val (.int p3), .val (.ref mb), .val (.int p5), .val (.int p6), .val (.int ((p5 * (6 : Int32)) + p6))] [(.int ((p5 * (6 : Int32)) + p6)), (.ref mb)])) _
                    refine XS.iconst X0.here hx rfl (hb hby d4_101) ?_
                    exact kg)
                have il : i ≤ pl := by have q := hc24; rw [own_lt h1 h5] at q; omega
                have jl : j ≤ tl := by have q := hc28; rw [own_lt h3 h6] at q; omega
                have hz : own_b (own_mm pl tl pf tf i j) = (0 : Int32) := by
                  have hip : i < pl := by have : i ≠ pl := fun q => hc32 ((own_eqi h5 h1).mpr q); omega
                  have d1 := own_b0 (D (i + 1) j (by omega) jl (Or.inl (by omega))) hc49
                  rw [own_st hip hc46 jl, d1]
                  have jt := (own_lt h6 h3).mp hc52
                  have d2 := own_b0 (D i (j + 1) il (by omega) (Or.inr ⟨rfl, Nat.le_refl _⟩)) hc55
                  rw [decide_eq_true jt, d2]; rfl
                obtain ⟨T58, h58, X58, e58, W58, st58⟩ := stZ X0 hx hZ e0 Am (j := ((p5 * (6 : Int32)) + p6)) (own_hin Sm x0 (by omega)) (g := (mkF m 102 #[.val (.ref pa), .val (.int p1), .val (.ref ta), .val (.int p3), .val (.ref mb), .val (.int p5), .val (.int p6), .val (.int ((p5 * (6 : Int32)) + p6))] [(.int (0 : Int32)), (.int ((p5 * (6 : Int32)) + p6)), (.ref mb)])) rfl rfl (hb hby d4_102)
                have N58 := Fr.snoc X58 N0 ge
                have k59 : ∀ tg, Steps p.tables e below (T58.setTop (mkF m 103 #[.val (.ref pa), .val (.int p1), .val (.ref ta), .val (.int p3), .val (.ref mb), .val (.int p5), .val (.int p6), .val (.int ((p5 * (6 : Int32)) + p6))] [])) tg → Steps p.tables e below (s₁.setTop (entryFrame m #[(.ref pa), (.int p1), (.ref ta), (.int p3), (.ref mb), (.int p5), (.int p6)] 8)) tg := fun tg kg => k57 tg (st58 tg kg)
                have Vn := (Av.set Am Sm Gm x0 W58).congr (g' := fun k => .int (own_set g (i * 6 + j) (0 : Int32) k)) (fun k _ => by dsimp only [own_set]; split <;> rfl)
                have k60 : ∀ tg, Steps p.tables e below (T58.setTop (mkF m 160 #[.val (.ref pa), .val (.int p1), .val (.ref ta), .val (.int p3), .val (.ref mb), .val (.int p5), .val (.int p6), .val (.int ((p5 * (6 : Int32)) + p6))] [])) tg → Steps p.tables e below (s₁.setTop (entryFrame m #[(.ref pa), (.int p1), (.ref ta), (.int p3), (.ref mb), (.int p5), (.int p6)] 8)) tg := fun tg kg => k59 tg (by
                    show Steps p.tables e below (T58.setTop (mkF m 103 #[.val (.ref pa), .val (.int p1), .val (.ref ta), .val (.int p3), .val (.ref mb), .val (.int p5), .val (.int p6), .val (.int ((p5 * (6 : Int32)) + p6))] [])) _
                    refine XS.goto X58.here hx rfl (pc0 := 103) (pc' := 160) rfl (hb hby d4_103) (by decide) (by decide) ?_
                    exact kg)
                obtain ⟨fs, hr, hrun, hended, hW, hsame⟩ := X58.leave (v := none) (fun _ => rfl)
                refine ⟨_, _, k60 _ ?_, hrun, hended, _, _, rfl, ?_, ⟨_, rfl⟩, hW, hsame.mono (by decide) (by decide)⟩
                · show Steps p.tables e below (T58.setTop (mkF m 160 #[.val (.ref pa), .val (.int p1), .val (.ref ta), .val (.int p3), .val (.ref mb), .val (.int p5), .val (.int p6), .val (.int ((p5 * (6 : Int32)) + p6))] [])) _
                  exact X58.returnOut hx Bd.returns (hb hby d4_160) hr
                · show Q4 _ _ _ _ _ _ _ _ _ _ _ T58.heap _
                  rw [e58]
                  exact ⟨rfl, N58, Keep.of_wr W58, _, Vn, own_D1 D hj4 htl hz⟩
              · have k61 : ∀ tg, Steps p.tables e below (s₁.setTop (mkF m 97 #[.val (.ref pa), .val (.int p1), .val (.ref ta), .val (.int p3), .val (.ref mb), .val (.int p5), .val (.int p6), .val (.int ((p5 * (6 : Int32)) + p6))] [(.int ((p5 * (6 : Int32)) + p6)), (.ref mb)])) tg → Steps p.tables e below (s₁.setTop (entryFrame m #[(.ref pa), (.int p1), (.ref ta), (.int p3), (.ref mb), (.int p5), (.int p6)] 8)) tg := fun tg kg => k54 tg (by
                    show Steps p.tables e below (s₁.setTop (mkF m 94 #[.val (.ref pa), .val (.int p1), .val (.ref ta), .val (.int p3), .val (.ref mb), .val (.int p5), .val (.int p6), .val (.int ((p5 * (6 : Int32)) + p6))] [(.int (g (i * 6 + j + 1))), (.int ((p5 * (6 : Int32)) + p6)), (.ref mb)])) _
                    refine XS.ifNo X0.here hx rfl (hb hby d4_94) rfl ((if0 _ _).trans (feq hc55).1) ?_
                    exact kg)
                have k62 : ∀ tg, Steps p.tables e below (s₁.setTop (mkF m 102 #[.val (.ref pa), .val (.int p1), .val (.ref ta), .val (.int p3), .val (.ref mb), .val (.int p5), .val (.int p6), .val (.int ((p5 * (6 : Int32)) + p6))] [(.int (1 : Int32)), (.int ((p5 * (6 : Int32)) + p6)), (.ref mb)])) tg → Steps p.tables e below (s₁.setTop (entryFrame m #[(.ref pa), (.int p1), (.ref ta), (.int p3), (.ref mb), (.int p5), (.int p6)] 8)) tg := fun tg kg => k61 tg (by
                    show Steps p.tables e below (s₁.setTop (mkF m 97 #[.val (.ref pa), .val (.int p1), .val (.ref ta), .val (.int p3), .val (.ref mb), .val (.int p5), .val (.int p6), .val (.int ((p5 * (6 : Int32)) + p6))] [(.int ((p5 * (6 : Int32)) + p6)), (.ref mb)])) _
                    refine XS.iconst X0.here hx rfl (hb hby d4_97) ?_
                    show Steps p.tables e below (s₁.setTop (mkF m 98 #[.val (.ref pa), .val (.int p1), .val (.ref ta), .val (.int p3), .val (.ref mb), .val (.int p5), .val (.int p6), .val (.int ((p5 * (6 : Int32)) + p6))] [(.int (1 : Int32)), (.int ((p5 * (6 : Int32)) + p6)), (.ref mb)])) _
                    refine XS.goto X0.here hx rfl (pc0 := 98) (pc' := 102) rfl (hb hby d4_98) (by decide) (by decide) ?_
                    exact kg)
                have il : i ≤ pl := by have q := hc24; rw [own_lt h1 h5] at q; omega
                have jl : j ≤ tl := by have q := hc28; rw [own_lt h3 h6] at q; omega
                have hz : own_b (own_mm pl tl pf tf i j) = (1 : Int32) := by
                  have hip : i < pl := by have : i ≠ pl := fun q => hc32 ((own_eqi h5 h1).mpr q); omega
                  have d1 := own_b0 (D (i + 1) j (by omega) jl (Or.inl (by omega))) hc49
                  rw [own_st hip hc46 jl, d1]
                  have jt := (own_lt h6 h3).mp hc52
                  have d2 := own_b1 (D i (j + 1) il (by omega) (Or.inr ⟨rfl, Nat.le_refl _⟩)) hc55
                  rw [decide_eq_true jt, d2]; rfl
                obtain ⟨T63, h63, X63, e63, W63, st63⟩ := stZ X0 hx hZ e0 Am (j := ((p5 * (6 : Int32)) + p6)) (own_hin Sm x0 (by omega)) (g := (mkF m 102 #[.val (.ref pa), .val (.int p1), .val (.ref ta), .val (.int p3), .val (.ref mb), .val (.int p5), .val (.int p6), .val (.int ((p5 * (6 : Int32)) + p6))] [(.int (1 : Int32)), (.int ((p5 * (6 : Int32)) + p6)), (.ref mb)])) rfl rfl (hb hby d4_102)
                have N63 := Fr.snoc X63 N0 ge
                have k64 : ∀ tg, Steps p.tables e below (T63.setTop (mkF m 103 #[.val (.ref pa), .val (.int p1), .val (.ref ta), .val (.int p3), .val (.ref mb), .val (.int p5), .val (.int p6), .val (.int ((p5 * (6 : Int32)) + p6))] [])) tg → Steps p.tables e below (s₁.setTop (entryFrame m #[(.ref pa), (.int p1), (.ref ta), (.int p3), (.ref mb), (.int p5), (.int p6)] 8)) tg := fun tg kg => k62 tg (st63 tg kg)
                have Vn := (Av.set Am Sm Gm x0 W63).congr (g' := fun k => .int (own_set g (i * 6 + j) (1 : Int32) k)) (fun k _ => by dsimp only [own_set]; split <;> rfl)
                have k65 : ∀ tg, Steps p.tables e below (T63.setTop (mkF m 160 #[.val (.ref pa), .val (.int p1), .val (.ref ta), .val (.int p3), .val (.ref mb), .val (.int p5), .val (.int p6), .val (.int ((p5 * (6 : Int32)) + p6))] [])) tg → Steps p.tables e below (s₁.setTop (entryFrame m #[(.ref pa), (.int p1), (.ref ta), (.int p3), (.ref mb), (.int p5), (.int p6)] 8)) tg := fun tg kg => k64 tg (by
                    show Steps p.tables e below (T63.setTop (mkF m 103 #[.val (.ref pa), .val (.int p1), .val (.ref ta), .val (.int p3), .val (.ref mb), .val (.int p5), .val (.int p6), .val (.int ((p5 * (6 : Int32)) + p6))] [])) _
                    refine XS.goto X63.here hx rfl (pc0 := 103) (pc' := 160) rfl (hb hby d4_103) (by decide) (by decide) ?_
                    exact kg)
                obtain ⟨fs, hr, hrun, hended, hW, hsame⟩ := X63.leave (v := none) (fun _ => rfl)
                refine ⟨_, _, k65 _ ?_, hrun, hended, _, _, rfl, ?_, ⟨_, rfl⟩, hW, hsame.mono (by decide) (by decide)⟩
                · show Steps p.tables e below (T63.setTop (mkF m 160 #[.val (.ref pa), .val (.int p1), .val (.ref ta), .val (.int p3), .val (.ref mb), .val (.int p5), .val (.int p6), .val (.int ((p5 * (6 : Int32)) + p6))] [])) _
                  exact X63.returnOut hx Bd.returns (hb hby d4_160) hr
                · show Q4 _ _ _ _ _ _ _ _ _ _ _ T63.heap _
                  rw [e63]
                  exact ⟨rfl, N63, Keep.of_wr W63, _, Vn, own_D1 D hj4 htl hz⟩
            · have k66 : ∀ tg, Steps p.tables e below (s₁.setTop (mkF m 101 #[.val (.ref pa), .val (.int p1), .val (.ref ta), .val (.int p3), .val (.ref mb), .val (.int p5), .val (.int p6), .val (.int ((p5 * (6 : Int32)) + p6))] [(.int ((p5 * (6 : Int32)) + p6)), (.ref mb)])) tg → Steps p.tables e below (s₁.setTop (entryFrame m #[(.ref pa), (.int p1), (.ref ta), (.int p3), (.ref mb), (.int p5), (.int p6)] 8)) tg := fun tg kg => k51 tg (by
                  show Steps p.tables e below (s₁.setTop (mkF m 78 #[.val (.ref pa), .val (.int p1), .val (.ref ta), .val (.int p3), .val (.ref mb), .val (.int p5), .val (.int p6), .val (.int ((p5 * (6 : Int32)) + p6))] [(.int p3), (.int p6), (.int ((p5 * (6 : Int32)) + p6)), (.ref mb)])) _
                  refine XS.icmpYes X0.here hx rfl (pc0 := 78) (pc' := 101) rfl (hb hby d4_78) rfl (flt hc52).2.1 (by decide) (by decide) ?_
                  exact kg)
              have k67 : ∀ tg, Steps p.tables e below (s₁.setTop (mkF m 102 #[.val (.ref pa), .val (.int p1), .val (.ref ta), .val (.int p3), .val (.ref mb), .val (.int p5), .val (.int p6), .val (.int ((p5 * (6 : Int32)) + p6))] [(.int (0 : Int32)), (.int ((p5 * (6 : Int32)) + p6)), (.ref mb)])) tg → Steps p.tables e below (s₁.setTop (entryFrame m #[(.ref pa), (.int p1), (.ref ta), (.int p3), (.ref mb), (.int p5), (.int p6)] 8)) tg := fun tg kg => k66 tg (by
                  show Steps p.tables e below (s₁.setTop (mkF m 101 #[.val (.ref pa), .val (.int p1), .val (.ref ta), .val (.int p3), .val (.ref mb), .val (.int p5), .val (.int p6), .val (.int ((p5 * (6 : Int32)) + p6))] [(.int ((p5 * (6 : Int32)) + p6)), (.ref mb)])) _
                  refine XS.iconst X0.here hx rfl (hb hby d4_101) ?_
                  exact kg)
              have il : i ≤ pl := by have q := hc24; rw [own_lt h1 h5] at q; omega
              have jl : j ≤ tl := by have q := hc28; rw [own_lt h3 h6] at q; omega
              have hz : own_b (own_mm pl tl pf tf i j) = (0 : Int32) := by
                have hip : i < pl := by have : i ≠ pl := fun q => hc32 ((own_eqi h5 h1).mpr q); omega
                have d1 := own_b0 (D (i + 1) j (by omega) jl (Or.inl (by omega))) hc49
                rw [own_st hip hc46 jl, d1]
                rw [decide_eq_false (fun q => hc52 ((own_lt h6 h3).mpr q))]; rfl
              obtain ⟨T68, h68, X68, e68, W68, st68⟩ := stZ X0 hx hZ e0 Am (j := ((p5 * (6 : Int32)) + p6)) (own_hin Sm x0 (by omega)) (g := (mkF m 102 #[.val (.ref pa), .val (.int p1), .val (.ref ta), .val (.int p3), .val (.ref mb), .val (.int p5), .val (.int p6), .val (.int ((p5 * (6 : Int32)) + p6))] [(.int (0 : Int32)), (.int ((p5 * (6 : Int32)) + p6)), (.ref mb)])) rfl rfl (hb hby d4_102)
              have N68 := Fr.snoc X68 N0 ge
              have k69 : ∀ tg, Steps p.tables e below (T68.setTop (mkF m 103 #[.val (.ref pa), .val (.int p1), .val (.ref ta), .val (.int p3), .val (.ref mb), .val (.int p5), .val (.int p6), .val (.int ((p5 * (6 : Int32)) + p6))] [])) tg → Steps p.tables e below (s₁.setTop (entryFrame m #[(.ref pa), (.int p1), (.ref ta), (.int p3), (.ref mb), (.int p5), (.int p6)] 8)) tg := fun tg kg => k67 tg (st68 tg kg)
              have Vn := (Av.set Am Sm Gm x0 W68).congr (g' := fun k => .int (own_set g (i * 6 + j) (0 : Int32) k)) (fun k _ => by dsimp only [own_set]; split <;> rfl)
              have k70 : ∀ tg, Steps p.tables e below (T68.setTop (mkF m 160 #[.val (.ref pa), .val (.int p1), .val (.ref ta), .val (.int p3), .val (.ref mb), .val (.int p5), .val (.int p6), .val (.int ((p5 * (6 : Int32)) + p6))] [])) tg → Steps p.tables e below (s₁.setTop (entryFrame m #[(.ref pa), (.int p1), (.ref ta), (.int p3), (.ref mb), (.int p5), (.int p6)] 8)) tg := fun tg kg => k69 tg (by
                  show Steps p.tables e below (T68.setTop (mkF m 103 #[.val (.ref pa), .val (.int p1), .val (.ref ta), .val (.int p3), .val (.ref mb), .val (.int p5), .val (.int p6), .val (.int ((p5 * (6 : Int32)) + p6))] [])) _
                  refine XS.goto X68.here hx rfl (pc0 := 103) (pc' := 160) rfl (hb hby d4_103) (by decide) (by decide) ?_
                  exact kg)
              obtain ⟨fs, hr, hrun, hended, hW, hsame⟩ := X68.leave (v := none) (fun _ => rfl)
              refine ⟨_, _, k70 _ ?_, hrun, hended, _, _, rfl, ?_, ⟨_, rfl⟩, hW, hsame.mono (by decide) (by decide)⟩
              · show Steps p.tables e below (T68.setTop (mkF m 160 #[.val (.ref pa), .val (.int p1), .val (.ref ta), .val (.int p3), .val (.ref mb), .val (.int p5), .val (.int p6), .val (.int ((p5 * (6 : Int32)) + p6))] [])) _
                exact X68.returnOut hx Bd.returns (hb hby d4_160) hr
              · show Q4 _ _ _ _ _ _ _ _ _ _ _ T68.heap _
                rw [e68]
                exact ⟨rfl, N68, Keep.of_wr W68, _, Vn, own_D1 D hj4 htl hz⟩
          · have k71 : ∀ tg, Steps p.tables e below (s₁.setTop (mkF m 97 #[.val (.ref pa), .val (.int p1), .val (.ref ta), .val (.int p3), .val (.ref mb), .val (.int p5), .val (.int p6), .val (.int ((p5 * (6 : Int32)) + p6))] [(.int ((p5 * (6 : Int32)) + p6)), (.ref mb)])) tg → Steps p.tables e below (s₁.setTop (entryFrame m #[(.ref pa), (.int p1), (.ref ta), (.int p3), (.ref mb), (.int p5), (.int p6)] 8)) tg := fun tg kg => k48 tg (by
                show Steps p.tables e below (s₁.setTop (mkF m 72 #[.val (.ref pa), .val (.int p1), .val (.ref ta), .val (.int p3), .val (.ref mb), .val (.int p5), .val (.int p6), .val (.int ((p5 * (6 : Int32)) + p6))] [(.int (g ((i + 1) * 6 + j))), (.int ((p5 * (6 : Int32)) + p6)), (.ref mb)])) _
                refine XS.ifYes X0.here hx rfl (pc0 := 72) (pc' := 97) rfl (hb hby d4_72) rfl ((if0 _ _).trans (feq hc49).2) (by decide) (by decide) ?_
                exact kg)
            have k72 : ∀ tg, Steps p.tables e below (s₁.setTop (mkF m 102 #[.val (.ref pa), .val (.int p1), .val (.ref ta), .val (.int p3), .val (.ref mb), .val (.int p5), .val (.int p6), .val (.int ((p5 * (6 : Int32)) + p6))] [(.int (1 : Int32)), (.int ((p5 * (6 : Int32)) + p6)), (.ref mb)])) tg → Steps p.tables e below (s₁.setTop (entryFrame m #[(.ref pa), (.int p1), (.ref ta), (.int p3), (.ref mb), (.int p5), (.int p6)] 8)) tg := fun tg kg => k71 tg (by
                show Steps p.tables e below (s₁.setTop (mkF m 97 #[.val (.ref pa), .val (.int p1), .val (.ref ta), .val (.int p3), .val (.ref mb), .val (.int p5), .val (.int p6), .val (.int ((p5 * (6 : Int32)) + p6))] [(.int ((p5 * (6 : Int32)) + p6)), (.ref mb)])) _
                refine XS.iconst X0.here hx rfl (hb hby d4_97) ?_
                show Steps p.tables e below (s₁.setTop (mkF m 98 #[.val (.ref pa), .val (.int p1), .val (.ref ta), .val (.int p3), .val (.ref mb), .val (.int p5), .val (.int p6), .val (.int ((p5 * (6 : Int32)) + p6))] [(.int (1 : Int32)), (.int ((p5 * (6 : Int32)) + p6)), (.ref mb)])) _
                refine XS.goto X0.here hx rfl (pc0 := 98) (pc' := 102) rfl (hb hby d4_98) (by decide) (by decide) ?_
                exact kg)
            have il : i ≤ pl := by have q := hc24; rw [own_lt h1 h5] at q; omega
            have jl : j ≤ tl := by have q := hc28; rw [own_lt h3 h6] at q; omega
            have hz : own_b (own_mm pl tl pf tf i j) = (1 : Int32) := by
              have hip : i < pl := by have : i ≠ pl := fun q => hc32 ((own_eqi h5 h1).mpr q); omega
              have d1 := own_b1 (D (i + 1) j (by omega) jl (Or.inl (by omega))) hc49
              rw [own_st hip hc46 jl, d1]
              rw [Bool.true_or]; rfl
            obtain ⟨T73, h73, X73, e73, W73, st73⟩ := stZ X0 hx hZ e0 Am (j := ((p5 * (6 : Int32)) + p6)) (own_hin Sm x0 (by omega)) (g := (mkF m 102 #[.val (.ref pa), .val (.int p1), .val (.ref ta), .val (.int p3), .val (.ref mb), .val (.int p5), .val (.int p6), .val (.int ((p5 * (6 : Int32)) + p6))] [(.int (1 : Int32)), (.int ((p5 * (6 : Int32)) + p6)), (.ref mb)])) rfl rfl (hb hby d4_102)
            have N73 := Fr.snoc X73 N0 ge
            have k74 : ∀ tg, Steps p.tables e below (T73.setTop (mkF m 103 #[.val (.ref pa), .val (.int p1), .val (.ref ta), .val (.int p3), .val (.ref mb), .val (.int p5), .val (.int p6), .val (.int ((p5 * (6 : Int32)) + p6))] [])) tg → Steps p.tables e below (s₁.setTop (entryFrame m #[(.ref pa), (.int p1), (.ref ta), (.int p3), (.ref mb), (.int p5), (.int p6)] 8)) tg := fun tg kg => k72 tg (st73 tg kg)
            have Vn := (Av.set Am Sm Gm x0 W73).congr (g' := fun k => .int (own_set g (i * 6 + j) (1 : Int32) k)) (fun k _ => by dsimp only [own_set]; split <;> rfl)
            have k75 : ∀ tg, Steps p.tables e below (T73.setTop (mkF m 160 #[.val (.ref pa), .val (.int p1), .val (.ref ta), .val (.int p3), .val (.ref mb), .val (.int p5), .val (.int p6), .val (.int ((p5 * (6 : Int32)) + p6))] [])) tg → Steps p.tables e below (s₁.setTop (entryFrame m #[(.ref pa), (.int p1), (.ref ta), (.int p3), (.ref mb), (.int p5), (.int p6)] 8)) tg := fun tg kg => k74 tg (by
                show Steps p.tables e below (T73.setTop (mkF m 103 #[.val (.ref pa), .val (.int p1), .val (.ref ta), .val (.int p3), .val (.ref mb), .val (.int p5), .val (.int p6), .val (.int ((p5 * (6 : Int32)) + p6))] [])) _
                refine XS.goto X73.here hx rfl (pc0 := 103) (pc' := 160) rfl (hb hby d4_103) (by decide) (by decide) ?_
                exact kg)
            obtain ⟨fs, hr, hrun, hended, hW, hsame⟩ := X73.leave (v := none) (fun _ => rfl)
            refine ⟨_, _, k75 _ ?_, hrun, hended, _, _, rfl, ?_, ⟨_, rfl⟩, hW, hsame.mono (by decide) (by decide)⟩
            · show Steps p.tables e below (T73.setTop (mkF m 160 #[.val (.ref pa), .val (.int p1), .val (.ref ta), .val (.int p3), .val (.ref mb), .val (.int p5), .val (.int p6), .val (.int ((p5 * (6 : Int32)) + p6))] [])) _
              exact X73.returnOut hx Bd.returns (hb hby d4_160) hr
            · show Q4 _ _ _ _ _ _ _ _ _ _ _ T73.heap _
              rw [e73]
              exact ⟨rfl, N73, Keep.of_wr W73, _, Vn, own_D1 D hj4 htl hz⟩
        · have k76 : ∀ tg, Steps p.tables e below (s₁.setTop (mkF m 106 #[.val (.ref pa), .val (.int p1), .val (.ref ta), .val (.int p3), .val (.ref mb), .val (.int p5), .val (.int p6), .val (.int ((p5 * (6 : Int32)) + p6))] [])) tg → Steps p.tables e below (s₁.setTop (entryFrame m #[(.ref pa), (.int p1), (.ref ta), (.int p3), (.ref mb), (.int p5), (.int p6)] 8)) tg := fun tg kg => k45 tg (by
              show Steps p.tables e below (s₁.setTop (mkF m 52 #[.val (.ref pa), .val (.int p1), .val (.ref ta), .val (.int p3), .val (.ref mb), .val (.int p5), .val (.int p6), .val (.int ((p5 * (6 : Int32)) + p6))] [(.int (42 : Int32)), (.int (pf i))])) _
              refine XS.icmpYes X0.here hx rfl (pc0 := 52) (pc' := 106) rfl (hb hby d4_52) rfl (feq hc46).2 (by decide) (by decide) ?_
              exact kg)
          have k77 : ∀ tg, Steps p.tables e below (s₁.setTop (mkF m 113 #[.val (.ref pa), .val (.int p1), .val (.ref ta), .val (.int p3), .val (.ref mb), .val (.int p5), .val (.int p6), .val (.int ((p5 * (6 : Int32)) + p6))] [(.int p3), (.int p6), (.int ((p5 * (6 : Int32)) + p6)), (.ref mb)])) tg → Steps p.tables e below (s₁.setTop (entryFrame m #[(.ref pa), (.int p1), (.ref ta), (.int p3), (.ref mb), (.int p5), (.int p6)] 8)) tg := fun tg kg => k76 tg (by
              show Steps p.tables e below (s₁.setTop (mkF m 106 #[.val (.ref pa), .val (.int p1), .val (.ref ta), .val (.int p3), .val (.ref mb), .val (.int p5), .val (.int p6), .val (.int ((p5 * (6 : Int32)) + p6))] [])) _
              refine XS.aload X0.here hx rfl (hb hby d4_106) rfl rfl ?_
              show Steps p.tables e below (s₁.setTop (mkF m 108 #[.val (.ref pa), .val (.int p1), .val (.ref ta), .val (.int p3), .val (.ref mb), .val (.int p5), .val (.int p6), .val (.int ((p5 * (6 : Int32)) + p6))] [(.ref mb)])) _
              refine XS.iload X0.here hx rfl (hb hby d4_108) rfl ?_
              show Steps p.tables e below (s₁.setTop (mkF m 110 #[.val (.ref pa), .val (.int p1), .val (.ref ta), .val (.int p3), .val (.ref mb), .val (.int p5), .val (.int p6), .val (.int ((p5 * (6 : Int32)) + p6))] [(.int ((p5 * (6 : Int32)) + p6)), (.ref mb)])) _
              refine XS.iload X0.here hx rfl (hb hby d4_110) rfl ?_
              show Steps p.tables e below (s₁.setTop (mkF m 112 #[.val (.ref pa), .val (.int p1), .val (.ref ta), .val (.int p3), .val (.ref mb), .val (.int p5), .val (.int p6), .val (.int ((p5 * (6 : Int32)) + p6))] [(.int p6), (.int ((p5 * (6 : Int32)) + p6)), (.ref mb)])) _
              refine XS.iloadN X0.here hx rfl (hb hby d4_112) rfl ?_
              exact kg)
          by_cases hc78 : p6 < p3
          · have k79 : ∀ tg, Steps p.tables e below (s₁.setTop (mkF m 116 #[.val (.ref pa), .val (.int p1), .val (.ref ta), .val (.int p3), .val (.ref mb), .val (.int p5), .val (.int p6), .val (.int ((p5 * (6 : Int32)) + p6))] [(.int ((p5 * (6 : Int32)) + p6)), (.ref mb)])) tg → Steps p.tables e below (s₁.setTop (entryFrame m #[(.ref pa), (.int p1), (.ref ta), (.int p3), (.ref mb), (.int p5), (.int p6)] 8)) tg := fun tg kg => k77 tg (by
                show Steps p.tables e below (s₁.setTop (mkF m 113 #[.val (.ref pa), .val (.int p1), .val (.ref ta), .val (.int p3), .val (.ref mb), .val (.int p5), .val (.int p6), .val (.int ((p5 * (6 : Int32)) + p6))] [(.int p3), (.int p6), (.int ((p5 * (6 : Int32)) + p6)), (.ref mb)])) _
                refine XS.icmpNo X0.here hx rfl (hb hby d4_113) rfl (tlt hc78).2.1 ?_
                exact kg)
            have k80 : ∀ tg, Steps p.tables e below (s₁.setTop (mkF m 122 #[.val (.ref pa), .val (.int p1), .val (.ref ta), .val (.int p3), .val (.ref mb), .val (.int p5), .val (.int p6), .val (.int ((p5 * (6 : Int32)) + p6))] [(.int (63 : Int32)), (.int (pf i)), (.int ((p5 * (6 : Int32)) + p6)), (.ref mb)])) tg → Steps p.tables e below (s₁.setTop (entryFrame m #[(.ref pa), (.int p1), (.ref ta), (.int p3), (.ref mb), (.int p5), (.int p6)] 8)) tg := fun tg kg => k79 tg (by
                show Steps p.tables e below (s₁.setTop (mkF m 116 #[.val (.ref pa), .val (.int p1), .val (.ref ta), .val (.int p3), .val (.ref mb), .val (.int p5), .val (.int p6), .val (.int ((p5 * (6 : Int32)) + p6))] [(.int ((p5 * (6 : Int32)) + p6)), (.ref mb)])) _
                refine XS.aloadN X0.here hx rfl (hb hby d4_116) rfl rfl ?_
                show Steps p.tables e below (s₁.setTop (mkF m 117 #[.val (.ref pa), .val (.int p1), .val (.ref ta), .val (.int p3), .val (.ref mb), .val (.int p5), .val (.int p6), .val (.int ((p5 * (6 : Int32)) + p6))] [(.ref pa), (.int ((p5 * (6 : Int32)) + p6)), (.ref mb)])) _
                refine XS.iload X0.here hx rfl (hb hby d4_117) rfl ?_
                show Steps p.tables e below (s₁.setTop (mkF m 119 #[.val (.ref pa), .val (.int p1), .val (.ref ta), .val (.int p3), .val (.ref mb), .val (.int p5), .val (.int p6), .val (.int ((p5 * (6 : Int32)) + p6))] [(.int p5), (.ref pa), (.int ((p5 * (6 : Int32)) + p6)), (.ref mb)])) _
                refine X0.iaload hx (j := p5) (v := (.int (pf i))) (by rw [e0]; exact Ap.1) (State.isArrayOf_alike hZ.alike Ap.2.1) Ap.2.2 (own_hin Sp h5 (by have q1 := hc24; rw [own_lt h1 h5] at q1; have q2 : i ≠ pl := fun q => hc32 ((own_eqi h5 h1).mpr q); omega)) (own_hat Gp h5 (by have q1 := hc24; rw [own_lt h1 h5] at q1; have q2 : i ≠ pl := fun q => hc32 ((own_eqi h5 h1).mpr q); omega)) (g := (mkF m 119 #[.val (.ref pa), .val (.int p1), .val (.ref ta), .val (.int p3), .val (.ref mb), .val (.int p5), .val (.int p6), .val (.int ((p5 * (6 : Int32)) + p6))] [(.int p5), (.ref pa), (.int ((p5 * (6 : Int32)) + p6)), (.ref mb)])) rfl rfl (hb hby d4_119) _ ?_
                show Steps p.tables e below (s₁.setTop (mkF m 120 #[.val (.ref pa), .val (.int p1), .val (.ref ta), .val (.int p3), .val (.ref mb), .val (.int p5), .val (.int p6), .val (.int ((p5 * (6 : Int32)) + p6))] [(.int (pf i)), (.int ((p5 * (6 : Int32)) + p6)), (.ref mb)])) _
                refine XS.bipush X0.here hx rfl (hb hby d4_120) ?_
                exact kg)
            by_cases hc81 : (pf i) = (63 : Int32)
            · have k82 : ∀ tg, Steps p.tables e below (s₁.setTop (mkF m 136 #[.val (.ref pa), .val (.int p1), .val (.ref ta), .val (.int p3), .val (.ref mb), .val (.int p5), .val (.int p6), .val (.int ((p5 * (6 : Int32)) + p6))] [(.int ((p5 * (6 : Int32)) + p6)), (.ref mb)])) tg → Steps p.tables e below (s₁.setTop (entryFrame m #[(.ref pa), (.int p1), (.ref ta), (.int p3), (.ref mb), (.int p5), (.int p6)] 8)) tg := fun tg kg => k80 tg (by
                  show Steps p.tables e below (s₁.setTop (mkF m 122 #[.val (.ref pa), .val (.int p1), .val (.ref ta), .val (.int p3), .val (.ref mb), .val (.int p5), .val (.int p6), .val (.int ((p5 * (6 : Int32)) + p6))] [(.int (63 : Int32)), (.int (pf i)), (.int ((p5 * (6 : Int32)) + p6)), (.ref mb)])) _
                  refine XS.icmpYes X0.here hx rfl (pc0 := 122) (pc' := 136) rfl (hb hby d4_122) rfl (teq hc81).1 (by decide) (by decide) ?_
                  exact kg)
              have k83 : ∀ tg, Steps p.tables e below (s₁.setTop (mkF m 151 #[.val (.ref pa), .val (.int p1), .val (.ref ta), .val (.int p3), .val (.ref mb), .val (.int p5), .val (.int p6), .val (.int ((p5 * (6 : Int32)) + p6))] [(.int (g ((i + 1) * 6 + j + 1))), (.int ((p5 * (6 : Int32)) + p6)), (.ref mb)])) tg → Steps p.tables e below (s₁.setTop (entryFrame m #[(.ref pa), (.int p1), (.ref ta), (.int p3), (.ref mb), (.int p5), (.int p6)] 8)) tg := fun tg kg => k82 tg (by
                  show Steps p.tables e below (s₁.setTop (mkF m 136 #[.val (.ref pa), .val (.int p1), .val (.ref ta), .val (.int p3), .val (.ref mb), .val (.int p5), .val (.int p6), .val (.int ((p5 * (6 : Int32)) + p6))] [(.int ((p5 * (6 : Int32)) + p6)), (.ref mb)])) _
                  refine XS.aload X0.here hx rfl (hb hby d4_136) rfl rfl ?_
                  show Steps p.tables e below (s₁.setTop (mkF m 138 #[.val (.ref pa), .val (.int p1), .val (.ref ta), .val (.int p3), .val (.ref mb), .val (.int p5), .val (.int p6), .val (.int ((p5 * (6 : Int32)) + p6))] [(.ref mb), (.int ((p5 * (6 : Int32)) + p6)), (.ref mb)])) _
                  refine XS.iload X0.here hx rfl (hb hby d4_138) rfl ?_
                  show Steps p.tables e below (s₁.setTop (mkF m 140 #[.val (.ref pa), .val (.int p1), .val (.ref ta), .val (.int p3), .val (.ref mb), .val (.int p5), .val (.int p6), .val (.int ((p5 * (6 : Int32)) + p6))] [(.int p5), (.ref mb), (.int ((p5 * (6 : Int32)) + p6)), (.ref mb)])) _
                  refine XS.iconst X0.here hx rfl (hb hby d4_140) ?_
                  show Steps p.tables e below (s₁.setTop (mkF m 141 #[.val (.ref pa), .val (.int p1), .val (.ref ta), .val (.int p3), .val (.ref mb), .val (.int p5), .val (.int p6), .val (.int ((p5 * (6 : Int32)) + p6))] [(.int (1 : Int32)), (.int p5), (.ref mb), (.int ((p5 * (6 : Int32)) + p6)), (.ref mb)])) _
                  refine XS.iadd X0.here hx rfl (hb hby d4_141) rfl ?_
                  show Steps p.tables e below (s₁.setTop (mkF m 142 #[.val (.ref pa), .val (.int p1), .val (.ref ta), .val (.int p3), .val (.ref mb), .val (.int p5), .val (.int p6), .val (.int ((p5 * (6 : Int32)) + p6))] [(.int (p5 + (1 : Int32))), (.ref mb), (.int ((p5 * (6 : Int32)) + p6)), (.ref mb)])) _
                  refine XS.bipush X0.here hx rfl (hb hby d4_142) ?_
                  show Steps p.tables e below (s₁.setTop (mkF m 144 #[.val (.ref pa), .val (.int p1), .val (.ref ta), .val (.int p3), .val (.ref mb), .val (.int p5), .val (.int p6), .val (.int ((p5 * (6 : Int32)) + p6))] [(.int (6 : Int32)), (.int (p5 + (1 : Int32))), (.ref mb), (.int ((p5 * (6 : Int32)) + p6)), (.ref mb)])) _
                  refine XS.imul X0.here hx rfl (hb hby d4_144) rfl ?_
                  show Steps p.tables e below (s₁.setTop (mkF m 145 #[.val (.ref pa), .val (.int p1), .val (.ref ta), .val (.int p3), .val (.ref mb), .val (.int p5), .val (.int p6), .val (.int ((p5 * (6 : Int32)) + p6))] [(.int ((p5 + (1 : Int32)) * (6 : Int32))), (.ref mb), (.int ((p5 * (6 : Int32)) + p6)), (.ref mb)])) _
                  refine XS.iload X0.here hx rfl (hb hby d4_145) rfl ?_
                  show Steps p.tables e below (s₁.setTop (mkF m 147 #[.val (.ref pa), .val (.int p1), .val (.ref ta), .val (.int p3), .val (.ref mb), .val (.int p5), .val (.int p6), .val (.int ((p5 * (6 : Int32)) + p6))] [(.int p6), (.int ((p5 + (1 : Int32)) * (6 : Int32))), (.ref mb), (.int ((p5 * (6 : Int32)) + p6)), (.ref mb)])) _
                  refine XS.iadd X0.here hx rfl (hb hby d4_147) rfl ?_
                  show Steps p.tables e below (s₁.setTop (mkF m 148 #[.val (.ref pa), .val (.int p1), .val (.ref ta), .val (.int p3), .val (.ref mb), .val (.int p5), .val (.int p6), .val (.int ((p5 * (6 : Int32)) + p6))] [(.int (((p5 + (1 : Int32)) * (6 : Int32)) + p6)), (.ref mb), (.int ((p5 * (6 : Int32)) + p6)), (.ref mb)])) _
                  refine XS.iconst X0.here hx rfl (hb hby d4_148) ?_
                  show Steps p.tables e below (s₁.setTop (mkF m 149 #[.val (.ref pa), .val (.int p1), .val (.ref ta), .val (.int p3), .val (.ref mb), .val (.int p5), .val (.int p6), .val (.int ((p5 * (6 : Int32)) + p6))] [(.int (1 : Int32)), (.int (((p5 + (1 : Int32)) * (6 : Int32)) + p6)), (.ref mb), (.int ((p5 * (6 : Int32)) + p6)), (.ref mb)])) _
                  refine XS.iadd X0.here hx rfl (hb hby d4_149) rfl ?_
                  show Steps p.tables e below (s₁.setTop (mkF m 150 #[.val (.ref pa), .val (.int p1), .val (.ref ta), .val (.int p3), .val (.ref mb), .val (.int p5), .val (.int p6), .val (.int ((p5 * (6 : Int32)) + p6))] [(.int ((((p5 + (1 : Int32)) * (6 : Int32)) + p6) + (1 : Int32))), (.ref mb), (.int ((p5 * (6 : Int32)) + p6)), (.ref mb)])) _
                  refine X0.baloadBooleans hx (j := ((((p5 + (1 : Int32)) * (6 : Int32)) + p6) + (1 : Int32))) (v := (.int (g ((i + 1) * 6 + j + 1)))) (by rw [e0]; exact Am.1) (State.isArrayOf_alike hZ.alike Am.2.1) Am.2.2 (own_hin Sm x3 (by omega)) (own_hat Gm x3 (by omega)) (g := (mkF m 150 #[.val (.ref pa), .val (.int p1), .val (.ref ta), .val (.int p3), .val (.ref mb), .val (.int p5), .val (.int p6), .val (.int ((p5 * (6 : Int32)) + p6))] [(.int ((((p5 + (1 : Int32)) * (6 : Int32)) + p6) + (1 : Int32))), (.ref mb), (.int ((p5 * (6 : Int32)) + p6)), (.ref mb)])) rfl rfl (hb hby d4_150) _ ?_
                  exact kg)
              by_cases hc84 : (g ((i + 1) * 6 + j + 1)) = (0 : Int32)
              · have k85 : ∀ tg, Steps p.tables e below (s₁.setTop (mkF m 158 #[.val (.ref pa), .val (.int p1), .val (.ref ta), .val (.int p3), .val (.ref mb), .val (.int p5), .val (.int p6), .val (.int ((p5 * (6 : Int32)) + p6))] [(.int ((p5 * (6 : Int32)) + p6)), (.ref mb)])) tg → Steps p.tables e below (s₁.setTop (entryFrame m #[(.ref pa), (.int p1), (.ref ta), (.int p3), (.ref mb), (.int p5), (.int p6)] 8)) tg := fun tg kg => k83 tg (by
                    show Steps p.tables e below (s₁.setTop (mkF m 151 #[.val (.ref pa), .val (.int p1), .val (.ref ta), .val (.int p3), .val (.ref mb), .val (.int p5), .val (.int p6), .val (.int ((p5 * (6 : Int32)) + p6))] [(.int (g ((i + 1) * 6 + j + 1))), (.int ((p5 * (6 : Int32)) + p6)), (.ref mb)])) _
                    refine XS.ifYes X0.here hx rfl (pc0 := 151) (pc' := 158) rfl (hb hby d4_151) rfl ((if0 _ _).trans (teq hc84).1) (by decide) (by decide) ?_
                    exact kg)
                have k86 : ∀ tg, Steps p.tables e below (s₁.setTop (mkF m 159 #[.val (.ref pa), .val (.int p1), .val (.ref ta), .val (.int p3), .val (.ref mb), .val (.int p5), .val (.int p6), .val (.int ((p5 * (6 : Int32)) + p6))] [(.int (0 : Int32)), (.int ((p5 * (6 : Int32)) + p6)), (.ref mb)])) tg → Steps p.tables e below (s₁.setTop (entryFrame m #[(.ref pa), (.int p1), (.ref ta), (.int p3), (.ref mb), (.int p5), (.int p6)] 8)) tg := fun tg kg => k85 tg (by
                    show Steps p.tables e below (s₁.setTop (mkF m 158 #[.val (.ref pa), .val (.int p1), .val (.ref ta), .val (.int p3), .val (.ref mb), .val (.int p5), .val (.int p6), .val (.int ((p5 * (6 : Int32)) + p6))] [(.int ((p5 * (6 : Int32)) + p6)), (.ref mb)])) _
                    refine XS.iconst X0.here hx rfl (hb hby d4_158) ?_
                    exact kg)
                have il : i ≤ pl := by have q := hc24; rw [own_lt h1 h5] at q; omega
                have jl : j ≤ tl := by have q := hc28; rw [own_lt h3 h6] at q; omega
                have hz : own_b (own_mm pl tl pf tf i j) = (0 : Int32) := by
                  have hip : i < pl := by have : i ≠ pl := fun q => hc32 ((own_eqi h5 h1).mpr q); omega
                  rw [own_li hip hc46 jl]
                  have jt := (own_lt h6 h3).mp hc78
                  rw [decide_eq_true jt]
                  rw [decide_eq_true hc81]
                  have d3 := own_b0 (D (i + 1) (j + 1) (by omega) (by omega) (Or.inl (by omega))) hc84
                  rw [d3]; rfl
                obtain ⟨T87, h87, X87, e87, W87, st87⟩ := stZ X0 hx hZ e0 Am (j := ((p5 * (6 : Int32)) + p6)) (own_hin Sm x0 (by omega)) (g := (mkF m 159 #[.val (.ref pa), .val (.int p1), .val (.ref ta), .val (.int p3), .val (.ref mb), .val (.int p5), .val (.int p6), .val (.int ((p5 * (6 : Int32)) + p6))] [(.int (0 : Int32)), (.int ((p5 * (6 : Int32)) + p6)), (.ref mb)])) rfl rfl (hb hby d4_159)
                have N87 := Fr.snoc X87 N0 ge
                have k88 : ∀ tg, Steps p.tables e below (T87.setTop (mkF m 160 #[.val (.ref pa), .val (.int p1), .val (.ref ta), .val (.int p3), .val (.ref mb), .val (.int p5), .val (.int p6), .val (.int ((p5 * (6 : Int32)) + p6))] [])) tg → Steps p.tables e below (s₁.setTop (entryFrame m #[(.ref pa), (.int p1), (.ref ta), (.int p3), (.ref mb), (.int p5), (.int p6)] 8)) tg := fun tg kg => k86 tg (st87 tg kg)
                have Vn := (Av.set Am Sm Gm x0 W87).congr (g' := fun k => .int (own_set g (i * 6 + j) (0 : Int32) k)) (fun k _ => by dsimp only [own_set]; split <;> rfl)
                obtain ⟨fs, hr, hrun, hended, hW, hsame⟩ := X87.leave (v := none) (fun _ => rfl)
                refine ⟨_, _, k88 _ ?_, hrun, hended, _, _, rfl, ?_, ⟨_, rfl⟩, hW, hsame.mono (by decide) (by decide)⟩
                · show Steps p.tables e below (T87.setTop (mkF m 160 #[.val (.ref pa), .val (.int p1), .val (.ref ta), .val (.int p3), .val (.ref mb), .val (.int p5), .val (.int p6), .val (.int ((p5 * (6 : Int32)) + p6))] [])) _
                  exact X87.returnOut hx Bd.returns (hb hby d4_160) hr
                · show Q4 _ _ _ _ _ _ _ _ _ _ _ T87.heap _
                  rw [e87]
                  exact ⟨rfl, N87, Keep.of_wr W87, _, Vn, own_D1 D hj4 htl hz⟩
              · have k89 : ∀ tg, Steps p.tables e below (s₁.setTop (mkF m 154 #[.val (.ref pa), .val (.int p1), .val (.ref ta), .val (.int p3), .val (.ref mb), .val (.int p5), .val (.int p6), .val (.int ((p5 * (6 : Int32)) + p6))] [(.int ((p5 * (6 : Int32)) + p6)), (.ref mb)])) tg → Steps p.tables e below (s₁.setTop (entryFrame m #[(.ref pa), (.int p1), (.ref ta), (.int p3), (.ref mb), (.int p5), (.int p6)] 8)) tg := fun tg kg => k83 tg (by
                    show Steps p.tables e below (s₁.setTop (mkF m 151 #[.val (.ref pa), .val (.int p1), .val (.ref ta), .val (.int p3), .val (.ref mb), .val (.int p5), .val (.int p6), .val (.int ((p5 * (6 : Int32)) + p6))] [(.int (g ((i + 1) * 6 + j + 1))), (.int ((p5 * (6 : Int32)) + p6)), (.ref mb)])) _
                    refine XS.ifNo X0.here hx rfl (hb hby d4_151) rfl ((if0 _ _).trans (feq hc84).1) ?_
                    exact kg)
                have k90 : ∀ tg, Steps p.tables e below (s₁.setTop (mkF m 159 #[.val (.ref pa), .val (.int p1), .val (.ref ta), .val (.int p3), .val (.ref mb), .val (.int p5), .val (.int p6), .val (.int ((p5 * (6 : Int32)) + p6))] [(.int (1 : Int32)), (.int ((p5 * (6 : Int32)) + p6)), (.ref mb)])) tg → Steps p.tables e below (s₁.setTop (entryFrame m #[(.ref pa), (.int p1), (.ref ta), (.int p3), (.ref mb), (.int p5), (.int p6)] 8)) tg := fun tg kg => k89 tg (by
                    show Steps p.tables e below (s₁.setTop (mkF m 154 #[.val (.ref pa), .val (.int p1), .val (.ref ta), .val (.int p3), .val (.ref mb), .val (.int p5), .val (.int p6), .val (.int ((p5 * (6 : Int32)) + p6))] [(.int ((p5 * (6 : Int32)) + p6)), (.ref mb)])) _
                    refine XS.iconst X0.here hx rfl (hb hby d4_154) ?_
                    show Steps p.tables e below (s₁.setTop (mkF m 155 #[.val (.ref pa), .val (.int p1), .val (.ref ta), .val (.int p3), .val (.ref mb), .val (.int p5), .val (.int p6), .val (.int ((p5 * (6 : Int32)) + p6))] [(.int (1 : Int32)), (.int ((p5 * (6 : Int32)) + p6)), (.ref mb)])) _
                    refine XS.goto X0.here hx rfl (pc0 := 155) (pc' := 159) rfl (hb hby d4_155) (by decide) (by decide) ?_
                    exact kg)
                have il : i ≤ pl := by have q := hc24; rw [own_lt h1 h5] at q; omega
                have jl : j ≤ tl := by have q := hc28; rw [own_lt h3 h6] at q; omega
                have hz : own_b (own_mm pl tl pf tf i j) = (1 : Int32) := by
                  have hip : i < pl := by have : i ≠ pl := fun q => hc32 ((own_eqi h5 h1).mpr q); omega
                  rw [own_li hip hc46 jl]
                  have jt := (own_lt h6 h3).mp hc78
                  rw [decide_eq_true jt]
                  rw [decide_eq_true hc81]
                  have d3 := own_b1 (D (i + 1) (j + 1) (by omega) (by omega) (Or.inl (by omega))) hc84
                  rw [d3]; rfl
                obtain ⟨T91, h91, X91, e91, W91, st91⟩ := stZ X0 hx hZ e0 Am (j := ((p5 * (6 : Int32)) + p6)) (own_hin Sm x0 (by omega)) (g := (mkF m 159 #[.val (.ref pa), .val (.int p1), .val (.ref ta), .val (.int p3), .val (.ref mb), .val (.int p5), .val (.int p6), .val (.int ((p5 * (6 : Int32)) + p6))] [(.int (1 : Int32)), (.int ((p5 * (6 : Int32)) + p6)), (.ref mb)])) rfl rfl (hb hby d4_159)
                have N91 := Fr.snoc X91 N0 ge
                have k92 : ∀ tg, Steps p.tables e below (T91.setTop (mkF m 160 #[.val (.ref pa), .val (.int p1), .val (.ref ta), .val (.int p3), .val (.ref mb), .val (.int p5), .val (.int p6), .val (.int ((p5 * (6 : Int32)) + p6))] [])) tg → Steps p.tables e below (s₁.setTop (entryFrame m #[(.ref pa), (.int p1), (.ref ta), (.int p3), (.ref mb), (.int p5), (.int p6)] 8)) tg := fun tg kg => k90 tg (st91 tg kg)
                have Vn := (Av.set Am Sm Gm x0 W91).congr (g' := fun k => .int (own_set g (i * 6 + j) (1 : Int32) k)) (fun k _ => by dsimp only [own_set]; split <;> rfl)
                obtain ⟨fs, hr, hrun, hended, hW, hsame⟩ := X91.leave (v := none) (fun _ => rfl)
                refine ⟨_, _, k92 _ ?_, hrun, hended, _, _, rfl, ?_, ⟨_, rfl⟩, hW, hsame.mono (by decide) (by decide)⟩
                · show Steps p.tables e below (T91.setTop (mkF m 160 #[.val (.ref pa), .val (.int p1), .val (.ref ta), .val (.int p3), .val (.ref mb), .val (.int p5), .val (.int p6), .val (.int ((p5 * (6 : Int32)) + p6))] [])) _
                  exact X91.returnOut hx Bd.returns (hb hby d4_160) hr
                · show Q4 _ _ _ _ _ _ _ _ _ _ _ T91.heap _
                  rw [e91]
                  exact ⟨rfl, N91, Keep.of_wr W91, _, Vn, own_D1 D hj4 htl hz⟩
            · have k93 : ∀ tg, Steps p.tables e below (s₁.setTop (mkF m 125 #[.val (.ref pa), .val (.int p1), .val (.ref ta), .val (.int p3), .val (.ref mb), .val (.int p5), .val (.int p6), .val (.int ((p5 * (6 : Int32)) + p6))] [(.int ((p5 * (6 : Int32)) + p6)), (.ref mb)])) tg → Steps p.tables e below (s₁.setTop (entryFrame m #[(.ref pa), (.int p1), (.ref ta), (.int p3), (.ref mb), (.int p5), (.int p6)] 8)) tg := fun tg kg => k80 tg (by
                  show Steps p.tables e below (s₁.setTop (mkF m 122 #[.val (.ref pa), .val (.int p1), .val (.ref ta), .val (.int p3), .val (.ref mb), .val (.int p5), .val (.int p6), .val (.int ((p5 * (6 : Int32)) + p6))] [(.int (63 : Int32)), (.int (pf i)), (.int ((p5 * (6 : Int32)) + p6)), (.ref mb)])) _
                  refine XS.icmpNo X0.here hx rfl (hb hby d4_122) rfl (feq hc81).1 ?_
                  exact kg)
              have k94 : ∀ tg, Steps p.tables e below (s₁.setTop (mkF m 133 #[.val (.ref pa), .val (.int p1), .val (.ref ta), .val (.int p3), .val (.ref mb), .val (.int p5), .val (.int p6), .val (.int ((p5 * (6 : Int32)) + p6))] [(.int (tf j)), (.int (pf i)), (.int ((p5 * (6 : Int32)) + p6)), (.ref mb)])) tg → Steps p.tables e below (s₁.setTop (entryFrame m #[(.ref pa), (.int p1), (.ref ta), (.int p3), (.ref mb), (.int p5), (.int p6)] 8)) tg := fun tg kg => k93 tg (by
                  show Steps p.tables e below (s₁.setTop (mkF m 125 #[.val (.ref pa), .val (.int p1), .val (.ref ta), .val (.int p3), .val (.ref mb), .val (.int p5), .val (.int p6), .val (.int ((p5 * (6 : Int32)) + p6))] [(.int ((p5 * (6 : Int32)) + p6)), (.ref mb)])) _
                  refine XS.aloadN X0.here hx rfl (hb hby d4_125) rfl rfl ?_
                  show Steps p.tables e below (s₁.setTop (mkF m 126 #[.val (.ref pa), .val (.int p1), .val (.ref ta), .val (.int p3), .val (.ref mb), .val (.int p5), .val (.int p6), .val (.int ((p5 * (6 : Int32)) + p6))] [(.ref pa), (.int ((p5 * (6 : Int32)) + p6)), (.ref mb)])) _
                  refine XS.iload X0.here hx rfl (hb hby d4_126) rfl ?_
                  show Steps p.tables e below (s₁.setTop (mkF m 128 #[.val (.ref pa), .val (.int p1), .val (.ref ta), .val (.int p3), .val (.ref mb), .val (.int p5), .val (.int p6), .val (.int ((p5 * (6 : Int32)) + p6))] [(.int p5), (.ref pa), (.int ((p5 * (6 : Int32)) + p6)), (.ref mb)])) _
                  refine X0.iaload hx (j := p5) (v := (.int (pf i))) (by rw [e0]; exact Ap.1) (State.isArrayOf_alike hZ.alike Ap.2.1) Ap.2.2 (own_hin Sp h5 (by have q1 := hc24; rw [own_lt h1 h5] at q1; have q2 : i ≠ pl := fun q => hc32 ((own_eqi h5 h1).mpr q); omega)) (own_hat Gp h5 (by have q1 := hc24; rw [own_lt h1 h5] at q1; have q2 : i ≠ pl := fun q => hc32 ((own_eqi h5 h1).mpr q); omega)) (g := (mkF m 128 #[.val (.ref pa), .val (.int p1), .val (.ref ta), .val (.int p3), .val (.ref mb), .val (.int p5), .val (.int p6), .val (.int ((p5 * (6 : Int32)) + p6))] [(.int p5), (.ref pa), (.int ((p5 * (6 : Int32)) + p6)), (.ref mb)])) rfl rfl (hb hby d4_128) _ ?_
                  show Steps p.tables e below (s₁.setTop (mkF m 129 #[.val (.ref pa), .val (.int p1), .val (.ref ta), .val (.int p3), .val (.ref mb), .val (.int p5), .val (.int p6), .val (.int ((p5 * (6 : Int32)) + p6))] [(.int (pf i)), (.int ((p5 * (6 : Int32)) + p6)), (.ref mb)])) _
                  refine XS.aloadN X0.here hx rfl (hb hby d4_129) rfl rfl ?_
                  show Steps p.tables e below (s₁.setTop (mkF m 130 #[.val (.ref pa), .val (.int p1), .val (.ref ta), .val (.int p3), .val (.ref mb), .val (.int p5), .val (.int p6), .val (.int ((p5 * (6 : Int32)) + p6))] [(.ref ta), (.int (pf i)), (.int ((p5 * (6 : Int32)) + p6)), (.ref mb)])) _
                  refine XS.iload X0.here hx rfl (hb hby d4_130) rfl ?_
                  show Steps p.tables e below (s₁.setTop (mkF m 132 #[.val (.ref pa), .val (.int p1), .val (.ref ta), .val (.int p3), .val (.ref mb), .val (.int p5), .val (.int p6), .val (.int ((p5 * (6 : Int32)) + p6))] [(.int p6), (.ref ta), (.int (pf i)), (.int ((p5 * (6 : Int32)) + p6)), (.ref mb)])) _
                  refine X0.iaload hx (j := p6) (v := (.int (tf j))) (by rw [e0]; exact At.1) (State.isArrayOf_alike hZ.alike At.2.1) At.2.2 (own_hin St h6 (by have q := (own_lt h6 h3).mp hc78; omega)) (own_hat Gt h6 (by have q := (own_lt h6 h3).mp hc78; omega)) (g := (mkF m 132 #[.val (.ref pa), .val (.int p1), .val (.ref ta), .val (.int p3), .val (.ref mb), .val (.int p5), .val (.int p6), .val (.int ((p5 * (6 : Int32)) + p6))] [(.int p6), (.ref ta), (.int (pf i)), (.int ((p5 * (6 : Int32)) + p6)), (.ref mb)])) rfl rfl (hb hby d4_132) _ ?_
                  exact kg)
              by_cases hc95 : (pf i) = (tf j)
              · have k96 : ∀ tg, Steps p.tables e below (s₁.setTop (mkF m 136 #[.val (.ref pa), .val (.int p1), .val (.ref ta), .val (.int p3), .val (.ref mb), .val (.int p5), .val (.int p6), .val (.int ((p5 * (6 : Int32)) + p6))] [(.int ((p5 * (6 : Int32)) + p6)), (.ref mb)])) tg → Steps p.tables e below (s₁.setTop (entryFrame m #[(.ref pa), (.int p1), (.ref ta), (.int p3), (.ref mb), (.int p5), (.int p6)] 8)) tg := fun tg kg => k94 tg (by
                    show Steps p.tables e below (s₁.setTop (mkF m 133 #[.val (.ref pa), .val (.int p1), .val (.ref ta), .val (.int p3), .val (.ref mb), .val (.int p5), .val (.int p6), .val (.int ((p5 * (6 : Int32)) + p6))] [(.int (tf j)), (.int (pf i)), (.int ((p5 * (6 : Int32)) + p6)), (.ref mb)])) _
                    refine XS.icmpNo X0.here hx rfl (hb hby d4_133) rfl (teq hc95).2 ?_
                    exact kg)
                have k97 : ∀ tg, Steps p.tables e below (s₁.setTop (mkF m 151 #[.val (.ref pa), .val (.int p1), .val (.ref ta), .val (.int p3), .val (.ref mb), .val (.int p5), .val (.int p6), .val (.int ((p5 * (6 : Int32)) + p6))] [(.int (g ((i + 1) * 6 + j + 1))), (.int ((p5 * (6 : Int32)) + p6)), (.ref mb)])) tg → Steps p.tables e below (s₁.setTop (entryFrame m #[(.ref pa), (.int p1), (.ref ta), (.int p3), (.ref mb), (.int p5), (.int p6)] 8)) tg := fun tg kg => k96 tg (by
                    show Steps p.tables e below (s₁.setTop (mkF m 136 #[.val (.ref pa), .val (.int p1), .val (.ref ta), .val (.int p3), .val (.ref mb), .val (.int p5), .val (.int p6), .val (.int ((p5 * (6 : Int32)) + p6))] [(.int ((p5 * (6 : Int32)) + p6)), (.ref mb)])) _
                    refine XS.aload X0.here hx rfl (hb hby d4_136) rfl rfl ?_
                    show Steps p.tables e below (s₁.setTop (mkF m 138 #[.val (.ref pa), .val (.int p1), .val (.ref ta), .val (.int p3), .val (.ref mb), .val (.int p5), .val (.int p6), .val (.int ((p5 * (6 : Int32)) + p6))] [(.ref mb), (.int ((p5 * (6 : Int32)) + p6)), (.ref mb)])) _
                    refine XS.iload X0.here hx rfl (hb hby d4_138) rfl ?_
                    show Steps p.tables e below (s₁.setTop (mkF m 140 #[.val (.ref pa), .val (.int p1), .val (.ref ta), .val (.int p3), .val (.ref mb), .val (.int p5), .val (.int p6), .val (.int ((p5 * (6 : Int32)) + p6))] [(.int p5), (.ref mb), (.int ((p5 * (6 : Int32)) + p6)), (.ref mb)])) _
                    refine XS.iconst X0.here hx rfl (hb hby d4_140) ?_
                    show Steps p.tables e below (s₁.setTop (mkF m 141 #[.val (.ref pa), .val (.int p1), .val (.ref ta), .val (.int p3), .val (.ref mb), .val (.int p5), .val (.int p6), .val (.int ((p5 * (6 : Int32)) + p6))] [(.int (1 : Int32)), (.int p5), (.ref mb), (.int ((p5 * (6 : Int32)) + p6)), (.ref mb)])) _
                    refine XS.iadd X0.here hx rfl (hb hby d4_141) rfl ?_
                    show Steps p.tables e below (s₁.setTop (mkF m 142 #[.val (.ref pa), .val (.int p1), .val (.ref ta), .val (.int p3), .val (.ref mb), .val (.int p5), .val (.int p6), .val (.int ((p5 * (6 : Int32)) + p6))] [(.int (p5 + (1 : Int32))), (.ref mb), (.int ((p5 * (6 : Int32)) + p6)), (.ref mb)])) _
                    refine XS.bipush X0.here hx rfl (hb hby d4_142) ?_
                    show Steps p.tables e below (s₁.setTop (mkF m 144 #[.val (.ref pa), .val (.int p1), .val (.ref ta), .val (.int p3), .val (.ref mb), .val (.int p5), .val (.int p6), .val (.int ((p5 * (6 : Int32)) + p6))] [(.int (6 : Int32)), (.int (p5 + (1 : Int32))), (.ref mb), (.int ((p5 * (6 : Int32)) + p6)), (.ref mb)])) _
                    refine XS.imul X0.here hx rfl (hb hby d4_144) rfl ?_
                    show Steps p.tables e below (s₁.setTop (mkF m 145 #[.val (.ref pa), .val (.int p1), .val (.ref ta), .val (.int p3), .val (.ref mb), .val (.int p5), .val (.int p6), .val (.int ((p5 * (6 : Int32)) + p6))] [(.int ((p5 + (1 : Int32)) * (6 : Int32))), (.ref mb), (.int ((p5 * (6 : Int32)) + p6)), (.ref mb)])) _
                    refine XS.iload X0.here hx rfl (hb hby d4_145) rfl ?_
                    show Steps p.tables e below (s₁.setTop (mkF m 147 #[.val (.ref pa), .val (.int p1), .val (.ref ta), .val (.int p3), .val (.ref mb), .val (.int p5), .val (.int p6), .val (.int ((p5 * (6 : Int32)) + p6))] [(.int p6), (.int ((p5 + (1 : Int32)) * (6 : Int32))), (.ref mb), (.int ((p5 * (6 : Int32)) + p6)), (.ref mb)])) _
                    refine XS.iadd X0.here hx rfl (hb hby d4_147) rfl ?_
                    show Steps p.tables e below (s₁.setTop (mkF m 148 #[.val (.ref pa), .val (.int p1), .val (.ref ta), .val (.int p3), .val (.ref mb), .val (.int p5), .val (.int p6), .val (.int ((p5 * (6 : Int32)) + p6))] [(.int (((p5 + (1 : Int32)) * (6 : Int32)) + p6)), (.ref mb), (.int ((p5 * (6 : Int32)) + p6)), (.ref mb)])) _
                    refine XS.iconst X0.here hx rfl (hb hby d4_148) ?_
                    show Steps p.tables e below (s₁.setTop (mkF m 149 #[.val (.ref pa), .val (.int p1), .val (.ref ta), .val (.int p3), .val (.ref mb), .val (.int p5), .val (.int p6), .val (.int ((p5 * (6 : Int32)) + p6))] [(.int (1 : Int32)), (.int (((p5 + (1 : Int32)) * (6 : Int32)) + p6)), (.ref mb), (.int ((p5 * (6 : Int32)) + p6)), (.ref mb)])) _
                    refine XS.iadd X0.here hx rfl (hb hby d4_149) rfl ?_
                    show Steps p.tables e below (s₁.setTop (mkF m 150 #[.val (.ref pa), .val (.int p1), .val (.ref ta), .val (.int p3), .val (.ref mb), .val (.int p5), .val (.int p6), .val (.int ((p5 * (6 : Int32)) + p6))] [(.int ((((p5 + (1 : Int32)) * (6 : Int32)) + p6) + (1 : Int32))), (.ref mb), (.int ((p5 * (6 : Int32)) + p6)), (.ref mb)])) _
                    refine X0.baloadBooleans hx (j := ((((p5 + (1 : Int32)) * (6 : Int32)) + p6) + (1 : Int32))) (v := (.int (g ((i + 1) * 6 + j + 1)))) (by rw [e0]; exact Am.1) (State.isArrayOf_alike hZ.alike Am.2.1) Am.2.2 (own_hin Sm x3 (by omega)) (own_hat Gm x3 (by omega)) (g := (mkF m 150 #[.val (.ref pa), .val (.int p1), .val (.ref ta), .val (.int p3), .val (.ref mb), .val (.int p5), .val (.int p6), .val (.int ((p5 * (6 : Int32)) + p6))] [(.int ((((p5 + (1 : Int32)) * (6 : Int32)) + p6) + (1 : Int32))), (.ref mb), (.int ((p5 * (6 : Int32)) + p6)), (.ref mb)])) rfl rfl (hb hby d4_150) _ ?_
                    exact kg)
                by_cases hc98 : (g ((i + 1) * 6 + j + 1)) = (0 : Int32)
                · have k99 : ∀ tg, Steps p.tables e below (s₁.setTop (mkF m 158 #[.val (.ref pa), .val (.int p1), .val (.ref ta), .val (.int p3), .val (.ref mb), .val (.int p5), .val (.int p6), .val (.int ((p5 * (6 : Int32)) + p6))] [(.int ((p5 * (6 : Int32)) + p6)), (.ref mb)])) tg → Steps p.tables e below (s₁.setTop (entryFrame m #[(.ref pa), (.int p1), (.ref ta), (.int p3), (.ref mb), (.int p5), (.int p6)] 8)) tg := fun tg kg => k97 tg (by
                      show Steps p.tables e below (s₁.setTop (mkF m 151 #[.val (.ref pa), .val (.int p1), .val (.ref ta), .val (.int p3), .val (.ref mb), .val (.int p5), .val (.int p6), .val (.int ((p5 * (6 : Int32)) + p6))] [(.int (g ((i + 1) * 6 + j + 1))), (.int ((p5 * (6 : Int32)) + p6)), (.ref mb)])) _
                      refine XS.ifYes X0.here hx rfl (pc0 := 151) (pc' := 158) rfl (hb hby d4_151) rfl ((if0 _ _).trans (teq hc98).1) (by decide) (by decide) ?_
                      exact kg)
                  have k100 : ∀ tg, Steps p.tables e below (s₁.setTop (mkF m 159 #[.val (.ref pa), .val (.int p1), .val (.ref ta), .val (.int p3), .val (.ref mb), .val (.int p5), .val (.int p6), .val (.int ((p5 * (6 : Int32)) + p6))] [(.int (0 : Int32)), (.int ((p5 * (6 : Int32)) + p6)), (.ref mb)])) tg → Steps p.tables e below (s₁.setTop (entryFrame m #[(.ref pa), (.int p1), (.ref ta), (.int p3), (.ref mb), (.int p5), (.int p6)] 8)) tg := fun tg kg => k99 tg (by
                      show Steps p.tables e below (s₁.setTop (mkF m 158 #[.val (.ref pa), .val (.int p1), .val (.ref ta), .val (.int p3), .val (.ref mb), .val (.int p5), .val (.int p6), .val (.int ((p5 * (6 : Int32)) + p6))] [(.int ((p5 * (6 : Int32)) + p6)), (.ref mb)])) _
                      refine XS.iconst X0.here hx rfl (hb hby d4_158) ?_
                      exact kg)
                  have il : i ≤ pl := by have q := hc24; rw [own_lt h1 h5] at q; omega
                  have jl : j ≤ tl := by have q := hc28; rw [own_lt h3 h6] at q; omega
                  have hz : own_b (own_mm pl tl pf tf i j) = (0 : Int32) := by
                    have hip : i < pl := by have : i ≠ pl := fun q => hc32 ((own_eqi h5 h1).mpr q); omega
                    rw [own_li hip hc46 jl]
                    have jt := (own_lt h6 h3).mp hc78
                    rw [decide_eq_true jt]
                    rw [decide_eq_false hc81, decide_eq_true hc95]
                    have d3 := own_b0 (D (i + 1) (j + 1) (by omega) (by omega) (Or.inl (by omega))) hc98
                    rw [d3]; rfl
                  obtain ⟨T101, h101, X101, e101, W101, st101⟩ := stZ X0 hx hZ e0 Am (j := ((p5 * (6 : Int32)) + p6)) (own_hin Sm x0 (by omega)) (g := (mkF m 159 #[.val (.ref pa), .val (.int p1), .val (.ref ta), .val (.int p3), .val (.ref mb), .val (.int p5), .val (.int p6), .val (.int ((p5 * (6 : Int32)) + p6))] [(.int (0 : Int32)), (.int ((p5 * (6 : Int32)) + p6)), (.ref mb)])) rfl rfl (hb hby d4_159)
                  have N101 := Fr.snoc X101 N0 ge
                  have k102 : ∀ tg, Steps p.tables e below (T101.setTop (mkF m 160 #[.val (.ref pa), .val (.int p1), .val (.ref ta), .val (.int p3), .val (.ref mb), .val (.int p5), .val (.int p6), .val (.int ((p5 * (6 : Int32)) + p6))] [])) tg → Steps p.tables e below (s₁.setTop (entryFrame m #[(.ref pa), (.int p1), (.ref ta), (.int p3), (.ref mb), (.int p5), (.int p6)] 8)) tg := fun tg kg => k100 tg (st101 tg kg)
                  have Vn := (Av.set Am Sm Gm x0 W101).congr (g' := fun k => .int (own_set g (i * 6 + j) (0 : Int32) k)) (fun k _ => by dsimp only [own_set]; split <;> rfl)
                  obtain ⟨fs, hr, hrun, hended, hW, hsame⟩ := X101.leave (v := none) (fun _ => rfl)
                  refine ⟨_, _, k102 _ ?_, hrun, hended, _, _, rfl, ?_, ⟨_, rfl⟩, hW, hsame.mono (by decide) (by decide)⟩
                  · show Steps p.tables e below (T101.setTop (mkF m 160 #[.val (.ref pa), .val (.int p1), .val (.ref ta), .val (.int p3), .val (.ref mb), .val (.int p5), .val (.int p6), .val (.int ((p5 * (6 : Int32)) + p6))] [])) _
                    exact X101.returnOut hx Bd.returns (hb hby d4_160) hr
                  · show Q4 _ _ _ _ _ _ _ _ _ _ _ T101.heap _
                    rw [e101]
                    exact ⟨rfl, N101, Keep.of_wr W101, _, Vn, own_D1 D hj4 htl hz⟩
                · have k103 : ∀ tg, Steps p.tables e below (s₁.setTop (mkF m 154 #[.val (.ref pa), .val (.int p1), .val (.ref ta), .val (.int p3), .val (.ref mb), .val (.int p5), .val (.int p6), .val (.int ((p5 * (6 : Int32)) + p6))] [(.int ((p5 * (6 : Int32)) + p6)), (.ref mb)])) tg → Steps p.tables e below (s₁.setTop (entryFrame m #[(.ref pa), (.int p1), (.ref ta), (.int p3), (.ref mb), (.int p5), (.int p6)] 8)) tg := fun tg kg => k97 tg (by
                      show Steps p.tables e below (s₁.setTop (mkF m 151 #[.val (.ref pa), .val (.int p1), .val (.ref ta), .val (.int p3), .val (.ref mb), .val (.int p5), .val (.int p6), .val (.int ((p5 * (6 : Int32)) + p6))] [(.int (g ((i + 1) * 6 + j + 1))), (.int ((p5 * (6 : Int32)) + p6)), (.ref mb)])) _
                      refine XS.ifNo X0.here hx rfl (hb hby d4_151) rfl ((if0 _ _).trans (feq hc98).1) ?_
                      exact kg)
                  have k104 : ∀ tg, Steps p.tables e below (s₁.setTop (mkF m 159 #[.val (.ref pa), .val (.int p1), .val (.ref ta), .val (.int p3), .val (.ref mb), .val (.int p5), .val (.int p6), .val (.int ((p5 * (6 : Int32)) + p6))] [(.int (1 : Int32)), (.int ((p5 * (6 : Int32)) + p6)), (.ref mb)])) tg → Steps p.tables e below (s₁.setTop (entryFrame m #[(.ref pa), (.int p1), (.ref ta), (.int p3), (.ref mb), (.int p5), (.int p6)] 8)) tg := fun tg kg => k103 tg (by
                      show Steps p.tables e below (s₁.setTop (mkF m 154 #[.val (.ref pa), .val (.int p1), .val (.ref ta), .val (.int p3), .val (.ref mb), .val (.int p5), .val (.int p6), .val (.int ((p5 * (6 : Int32)) + p6))] [(.int ((p5 * (6 : Int32)) + p6)), (.ref mb)])) _
                      refine XS.iconst X0.here hx rfl (hb hby d4_154) ?_
                      show Steps p.tables e below (s₁.setTop (mkF m 155 #[.val (.ref pa), .val (.int p1), .val (.ref ta), .val (.int p3), .val (.ref mb), .val (.int p5), .val (.int p6), .val (.int ((p5 * (6 : Int32)) + p6))] [(.int (1 : Int32)), (.int ((p5 * (6 : Int32)) + p6)), (.ref mb)])) _
                      refine XS.goto X0.here hx rfl (pc0 := 155) (pc' := 159) rfl (hb hby d4_155) (by decide) (by decide) ?_
                      exact kg)
                  have il : i ≤ pl := by have q := hc24; rw [own_lt h1 h5] at q; omega
                  have jl : j ≤ tl := by have q := hc28; rw [own_lt h3 h6] at q; omega
                  have hz : own_b (own_mm pl tl pf tf i j) = (1 : Int32) := by
                    have hip : i < pl := by have : i ≠ pl := fun q => hc32 ((own_eqi h5 h1).mpr q); omega
                    rw [own_li hip hc46 jl]
                    have jt := (own_lt h6 h3).mp hc78
                    rw [decide_eq_true jt]
                    rw [decide_eq_false hc81, decide_eq_true hc95]
                    have d3 := own_b1 (D (i + 1) (j + 1) (by omega) (by omega) (Or.inl (by omega))) hc98
                    rw [d3]; rfl
                  obtain ⟨T105, h105, X105, e105, W105, st105⟩ := stZ X0 hx hZ e0 Am (j := ((p5 * (6 : Int32)) + p6)) (own_hin Sm x0 (by omega)) (g := (mkF m 159 #[.val (.ref pa), .val (.int p1), .val (.ref ta), .val (.int p3), .val (.ref mb), .val (.int p5), .val (.int p6), .val (.int ((p5 * (6 : Int32)) + p6))] [(.int (1 : Int32)), (.int ((p5 * (6 : Int32)) + p6)), (.ref mb)])) rfl rfl (hb hby d4_159)
                  have N105 := Fr.snoc X105 N0 ge
                  have k106 : ∀ tg, Steps p.tables e below (T105.setTop (mkF m 160 #[.val (.ref pa), .val (.int p1), .val (.ref ta), .val (.int p3), .val (.ref mb), .val (.int p5), .val (.int p6), .val (.int ((p5 * (6 : Int32)) + p6))] [])) tg → Steps p.tables e below (s₁.setTop (entryFrame m #[(.ref pa), (.int p1), (.ref ta), (.int p3), (.ref mb), (.int p5), (.int p6)] 8)) tg := fun tg kg => k104 tg (st105 tg kg)
                  have Vn := (Av.set Am Sm Gm x0 W105).congr (g' := fun k => .int (own_set g (i * 6 + j) (1 : Int32) k)) (fun k _ => by dsimp only [own_set]; split <;> rfl)
                  obtain ⟨fs, hr, hrun, hended, hW, hsame⟩ := X105.leave (v := none) (fun _ => rfl)
                  refine ⟨_, _, k106 _ ?_, hrun, hended, _, _, rfl, ?_, ⟨_, rfl⟩, hW, hsame.mono (by decide) (by decide)⟩
                  · show Steps p.tables e below (T105.setTop (mkF m 160 #[.val (.ref pa), .val (.int p1), .val (.ref ta), .val (.int p3), .val (.ref mb), .val (.int p5), .val (.int p6), .val (.int ((p5 * (6 : Int32)) + p6))] [])) _
                    exact X105.returnOut hx Bd.returns (hb hby d4_160) hr
                  · show Q4 _ _ _ _ _ _ _ _ _ _ _ T105.heap _
                    rw [e105]
                    exact ⟨rfl, N105, Keep.of_wr W105, _, Vn, own_D1 D hj4 htl hz⟩
              · have k107 : ∀ tg, Steps p.tables e below (s₁.setTop (mkF m 158 #[.val (.ref pa), .val (.int p1), .val (.ref ta), .val (.int p3), .val (.ref mb), .val (.int p5), .val (.int p6), .val (.int ((p5 * (6 : Int32)) + p6))] [(.int ((p5 * (6 : Int32)) + p6)), (.ref mb)])) tg → Steps p.tables e below (s₁.setTop (entryFrame m #[(.ref pa), (.int p1), (.ref ta), (.int p3), (.ref mb), (.int p5), (.int p6)] 8)) tg := fun tg kg => k94 tg (by
                    show Steps p.tables e below (s₁.setTop (mkF m 133 #[.val (.ref pa), .val (.int p1), .val (.ref ta), .val (.int p3), .val (.ref mb), .val (.int p5), .val (.int p6), .val (.int ((p5 * (6 : Int32)) + p6))] [(.int (tf j)), (.int (pf i)), (.int ((p5 * (6 : Int32)) + p6)), (.ref mb)])) _
                    refine XS.icmpYes X0.here hx rfl (pc0 := 133) (pc' := 158) rfl (hb hby d4_133) rfl (feq hc95).2 (by decide) (by decide) ?_
                    exact kg)
                have k108 : ∀ tg, Steps p.tables e below (s₁.setTop (mkF m 159 #[.val (.ref pa), .val (.int p1), .val (.ref ta), .val (.int p3), .val (.ref mb), .val (.int p5), .val (.int p6), .val (.int ((p5 * (6 : Int32)) + p6))] [(.int (0 : Int32)), (.int ((p5 * (6 : Int32)) + p6)), (.ref mb)])) tg → Steps p.tables e below (s₁.setTop (entryFrame m #[(.ref pa), (.int p1), (.ref ta), (.int p3), (.ref mb), (.int p5), (.int p6)] 8)) tg := fun tg kg => k107 tg (by
                    show Steps p.tables e below (s₁.setTop (mkF m 158 #[.val (.ref pa), .val (.int p1), .val (.ref ta), .val (.int p3), .val (.ref mb), .val (.int p5), .val (.int p6), .val (.int ((p5 * (6 : Int32)) + p6))] [(.int ((p5 * (6 : Int32)) + p6)), (.ref mb)])) _
                    refine XS.iconst X0.here hx rfl (hb hby d4_158) ?_
                    exact kg)
                have il : i ≤ pl := by have q := hc24; rw [own_lt h1 h5] at q; omega
                have jl : j ≤ tl := by have q := hc28; rw [own_lt h3 h6] at q; omega
                have hz : own_b (own_mm pl tl pf tf i j) = (0 : Int32) := by
                  have hip : i < pl := by have : i ≠ pl := fun q => hc32 ((own_eqi h5 h1).mpr q); omega
                  rw [own_li hip hc46 jl]
                  have jt := (own_lt h6 h3).mp hc78
                  rw [decide_eq_true jt]
                  rw [decide_eq_false hc81, decide_eq_false hc95]; rfl
                obtain ⟨T109, h109, X109, e109, W109, st109⟩ := stZ X0 hx hZ e0 Am (j := ((p5 * (6 : Int32)) + p6)) (own_hin Sm x0 (by omega)) (g := (mkF m 159 #[.val (.ref pa), .val (.int p1), .val (.ref ta), .val (.int p3), .val (.ref mb), .val (.int p5), .val (.int p6), .val (.int ((p5 * (6 : Int32)) + p6))] [(.int (0 : Int32)), (.int ((p5 * (6 : Int32)) + p6)), (.ref mb)])) rfl rfl (hb hby d4_159)
                have N109 := Fr.snoc X109 N0 ge
                have k110 : ∀ tg, Steps p.tables e below (T109.setTop (mkF m 160 #[.val (.ref pa), .val (.int p1), .val (.ref ta), .val (.int p3), .val (.ref mb), .val (.int p5), .val (.int p6), .val (.int ((p5 * (6 : Int32)) + p6))] [])) tg → Steps p.tables e below (s₁.setTop (entryFrame m #[(.ref pa), (.int p1), (.ref ta), (.int p3), (.ref mb), (.int p5), (.int p6)] 8)) tg := fun tg kg => k108 tg (st109 tg kg)
                have Vn := (Av.set Am Sm Gm x0 W109).congr (g' := fun k => .int (own_set g (i * 6 + j) (0 : Int32) k)) (fun k _ => by dsimp only [own_set]; split <;> rfl)
                obtain ⟨fs, hr, hrun, hended, hW, hsame⟩ := X109.leave (v := none) (fun _ => rfl)
                refine ⟨_, _, k110 _ ?_, hrun, hended, _, _, rfl, ?_, ⟨_, rfl⟩, hW, hsame.mono (by decide) (by decide)⟩
                · show Steps p.tables e below (T109.setTop (mkF m 160 #[.val (.ref pa), .val (.int p1), .val (.ref ta), .val (.int p3), .val (.ref mb), .val (.int p5), .val (.int p6), .val (.int ((p5 * (6 : Int32)) + p6))] [])) _
                  exact X109.returnOut hx Bd.returns (hb hby d4_160) hr
                · show Q4 _ _ _ _ _ _ _ _ _ _ _ T109.heap _
                  rw [e109]
                  exact ⟨rfl, N109, Keep.of_wr W109, _, Vn, own_D1 D hj4 htl hz⟩
          · have k111 : ∀ tg, Steps p.tables e below (s₁.setTop (mkF m 158 #[.val (.ref pa), .val (.int p1), .val (.ref ta), .val (.int p3), .val (.ref mb), .val (.int p5), .val (.int p6), .val (.int ((p5 * (6 : Int32)) + p6))] [(.int ((p5 * (6 : Int32)) + p6)), (.ref mb)])) tg → Steps p.tables e below (s₁.setTop (entryFrame m #[(.ref pa), (.int p1), (.ref ta), (.int p3), (.ref mb), (.int p5), (.int p6)] 8)) tg := fun tg kg => k77 tg (by
                show Steps p.tables e below (s₁.setTop (mkF m 113 #[.val (.ref pa), .val (.int p1), .val (.ref ta), .val (.int p3), .val (.ref mb), .val (.int p5), .val (.int p6), .val (.int ((p5 * (6 : Int32)) + p6))] [(.int p3), (.int p6), (.int ((p5 * (6 : Int32)) + p6)), (.ref mb)])) _
                refine XS.icmpYes X0.here hx rfl (pc0 := 113) (pc' := 158) rfl (hb hby d4_113) rfl (flt hc78).2.1 (by decide) (by decide) ?_
                exact kg)
            have k112 : ∀ tg, Steps p.tables e below (s₁.setTop (mkF m 159 #[.val (.ref pa), .val (.int p1), .val (.ref ta), .val (.int p3), .val (.ref mb), .val (.int p5), .val (.int p6), .val (.int ((p5 * (6 : Int32)) + p6))] [(.int (0 : Int32)), (.int ((p5 * (6 : Int32)) + p6)), (.ref mb)])) tg → Steps p.tables e below (s₁.setTop (entryFrame m #[(.ref pa), (.int p1), (.ref ta), (.int p3), (.ref mb), (.int p5), (.int p6)] 8)) tg := fun tg kg => k111 tg (by
                show Steps p.tables e below (s₁.setTop (mkF m 158 #[.val (.ref pa), .val (.int p1), .val (.ref ta), .val (.int p3), .val (.ref mb), .val (.int p5), .val (.int p6), .val (.int ((p5 * (6 : Int32)) + p6))] [(.int ((p5 * (6 : Int32)) + p6)), (.ref mb)])) _
                refine XS.iconst X0.here hx rfl (hb hby d4_158) ?_
                exact kg)
            have il : i ≤ pl := by have q := hc24; rw [own_lt h1 h5] at q; omega
            have jl : j ≤ tl := by have q := hc28; rw [own_lt h3 h6] at q; omega
            have hz : own_b (own_mm pl tl pf tf i j) = (0 : Int32) := by
              have hip : i < pl := by have : i ≠ pl := fun q => hc32 ((own_eqi h5 h1).mpr q); omega
              rw [own_li hip hc46 jl]
              rw [decide_eq_false (fun q => hc78 ((own_lt h6 h3).mpr q))]; rfl
            obtain ⟨T113, h113, X113, e113, W113, st113⟩ := stZ X0 hx hZ e0 Am (j := ((p5 * (6 : Int32)) + p6)) (own_hin Sm x0 (by omega)) (g := (mkF m 159 #[.val (.ref pa), .val (.int p1), .val (.ref ta), .val (.int p3), .val (.ref mb), .val (.int p5), .val (.int p6), .val (.int ((p5 * (6 : Int32)) + p6))] [(.int (0 : Int32)), (.int ((p5 * (6 : Int32)) + p6)), (.ref mb)])) rfl rfl (hb hby d4_159)
            have N113 := Fr.snoc X113 N0 ge
            have k114 : ∀ tg, Steps p.tables e below (T113.setTop (mkF m 160 #[.val (.ref pa), .val (.int p1), .val (.ref ta), .val (.int p3), .val (.ref mb), .val (.int p5), .val (.int p6), .val (.int ((p5 * (6 : Int32)) + p6))] [])) tg → Steps p.tables e below (s₁.setTop (entryFrame m #[(.ref pa), (.int p1), (.ref ta), (.int p3), (.ref mb), (.int p5), (.int p6)] 8)) tg := fun tg kg => k112 tg (st113 tg kg)
            have Vn := (Av.set Am Sm Gm x0 W113).congr (g' := fun k => .int (own_set g (i * 6 + j) (0 : Int32) k)) (fun k _ => by dsimp only [own_set]; split <;> rfl)
            obtain ⟨fs, hr, hrun, hended, hW, hsame⟩ := X113.leave (v := none) (fun _ => rfl)
            refine ⟨_, _, k114 _ ?_, hrun, hended, _, _, rfl, ?_, ⟨_, rfl⟩, hW, hsame.mono (by decide) (by decide)⟩
            · show Steps p.tables e below (T113.setTop (mkF m 160 #[.val (.ref pa), .val (.int p1), .val (.ref ta), .val (.int p3), .val (.ref mb), .val (.int p5), .val (.int p6), .val (.int ((p5 * (6 : Int32)) + p6))] [])) _
              exact X113.returnOut hx Bd.returns (hb hby d4_160) hr
            · show Q4 _ _ _ _ _ _ _ _ _ _ _ T113.heap _
              rw [e113]
              exact ⟨rfl, N113, Keep.of_wr W113, _, Vn, own_D1 D hj4 htl hz⟩
theorem d3_0 : decode method_6_code 0 = .ok (.aload_n 0, 1) := by decide +kernel
theorem d3_1 : decode method_6_code 1 = .ok (.iload_n 1, 1) := by decide +kernel
theorem d3_2 : decode method_6_code 2 = .ok (.aload_n 2, 1) := by decide +kernel
theorem d3_3 : decode method_6_code 3 = .ok (.iload_n 3, 1) := by decide +kernel
theorem d3_4 : decode method_6_code 4 = .ok (.aload 4, 2) := by decide +kernel
theorem d3_6 : decode method_6_code 6 = .ok (.iload 5, 2) := by decide +kernel
theorem d3_8 : decode method_6_code 8 = .ok (.iconst 4, 1) := by decide +kernel
theorem d3_9 : decode method_6_code 9 = .ok (.invokestatic 30, 3) := by decide +kernel
theorem d3_12 : decode method_6_code 12 = .ok (.aload_n 0, 1) := by decide +kernel
theorem d3_13 : decode method_6_code 13 = .ok (.iload_n 1, 1) := by decide +kernel
theorem d3_14 : decode method_6_code 14 = .ok (.aload_n 2, 1) := by decide +kernel
theorem d3_15 : decode method_6_code 15 = .ok (.iload_n 3, 1) := by decide +kernel
theorem d3_16 : decode method_6_code 16 = .ok (.aload 4, 2) := by decide +kernel
theorem d3_18 : decode method_6_code 18 = .ok (.iload 5, 2) := by decide +kernel
theorem d3_20 : decode method_6_code 20 = .ok (.iconst 3, 1) := by decide +kernel
theorem d3_21 : decode method_6_code 21 = .ok (.invokestatic 30, 3) := by decide +kernel
theorem d3_24 : decode method_6_code 24 = .ok (.aload_n 0, 1) := by decide +kernel
theorem d3_25 : decode method_6_code 25 = .ok (.iload_n 1, 1) := by decide +kernel
theorem d3_26 : decode method_6_code 26 = .ok (.aload_n 2, 1) := by decide +kernel
theorem d3_27 : decode method_6_code 27 = .ok (.iload_n 3, 1) := by decide +kernel
theorem d3_28 : decode method_6_code 28 = .ok (.aload 4, 2) := by decide +kernel
theorem d3_30 : decode method_6_code 30 = .ok (.iload 5, 2) := by decide +kernel
theorem d3_32 : decode method_6_code 32 = .ok (.iconst 2, 1) := by decide +kernel
theorem d3_33 : decode method_6_code 33 = .ok (.invokestatic 30, 3) := by decide +kernel
theorem d3_36 : decode method_6_code 36 = .ok (.aload_n 0, 1) := by decide +kernel
theorem d3_37 : decode method_6_code 37 = .ok (.iload_n 1, 1) := by decide +kernel
theorem d3_38 : decode method_6_code 38 = .ok (.aload_n 2, 1) := by decide +kernel
theorem d3_39 : decode method_6_code 39 = .ok (.iload_n 3, 1) := by decide +kernel
theorem d3_40 : decode method_6_code 40 = .ok (.aload 4, 2) := by decide +kernel
theorem d3_42 : decode method_6_code 42 = .ok (.iload 5, 2) := by decide +kernel
theorem d3_44 : decode method_6_code 44 = .ok (.iconst 1, 1) := by decide +kernel
theorem d3_45 : decode method_6_code 45 = .ok (.invokestatic 30, 3) := by decide +kernel
theorem d3_48 : decode method_6_code 48 = .ok (.aload_n 0, 1) := by decide +kernel
theorem d3_49 : decode method_6_code 49 = .ok (.iload_n 1, 1) := by decide +kernel
theorem d3_50 : decode method_6_code 50 = .ok (.aload_n 2, 1) := by decide +kernel
theorem d3_51 : decode method_6_code 51 = .ok (.iload_n 3, 1) := by decide +kernel
theorem d3_52 : decode method_6_code 52 = .ok (.aload 4, 2) := by decide +kernel
theorem d3_54 : decode method_6_code 54 = .ok (.iload 5, 2) := by decide +kernel
theorem d3_56 : decode method_6_code 56 = .ok (.iconst 0, 1) := by decide +kernel
theorem d3_57 : decode method_6_code 57 = .ok (.invokestatic 30, 3) := by decide +kernel
theorem d3_60 : decode method_6_code 60 = .ok (.return_, 1) := by decide +kernel
theorem pn_3 : plainName "com/example/modalis/modalis/dicom/service/WildcardMatchesPatternPinLaw" = true := by first | (simp [plainName, overriddenIn]; done) | decide +kernel
theorem ef_3 (m : MethodId) (x0 : Addr) (x1 : Int32) (x2 : Addr) (x3 : Int32) (x4 : Addr) (x5 : Int32) : entryFrame m #[(.ref x0), (.int x1), (.ref x2), (.int x3), (.ref x4), (.int x5)] 6 = mkF m 0 #[.val (.ref x0), .val (.int x1), .val (.ref x2), .val (.int x3), .val (.ref x4), .val (.int x5)] [] := by first | (simp [entryFrame, mkF, argsToLocals, Value.category]; done) | rfl
def Q3 (Z : State) (mb : Addr) (pl tl i : Nat) (pf tf : Nat → Int32) (h0 : Heap) (n0 : Nat) (v : Option Value) (h : Heap) (L : List Loc) : Prop := v = none ∧ Fr n0 L ∧ Keep h0 h [mb] ∧ ∃ g : Nat → Int32, Av Z h mb .boolean 36 (fun k => .int (g k)) ∧ own_D pl tl pf tf i 0 g
set_option maxRecDepth 65536 in
set_option maxHeartbeats 40000000 in
theorem rm3 (l : Launch) (Z : State) (a0 : Array Value) (hw : ∀ d ∈ tables_1, d.before a0 Z = true) (ws : List Jvm.Cond) (pa : Addr) (p1 : Int32) (ta : Addr) (p3 : Int32) (mb : Addr) (p5 : Int32) (pl tl i : Nat) (pf tf g : Nat → Int32) (h0 : Heap) (n0 : Nat) (Z0 : n0 ≤ h0.size) (h1 : p1.toInt = pl) (h3 : p3.toInt = tl) (h5 : p5.toInt = i) (hpl : pl ≤ 4) (htl : tl ≤ 4) (hi4 : i ≤ 4) (ge : n0 ≤ mb) (np : pa ≠ mb) (nt : ta ≠ mb) (Vp : Av Z h0 pa .int 4 (fun k => .int (pf k))) (Vt : Av Z h0 ta .int 4 (fun k => .int (tf k))) (Vm : Av Z h0 mb .boolean 36 (fun k => .int (g k))) (D : own_D pl tl pf tf (i + 1) 0 g) :
    MetFree l (⟨"com/example/modalis/modalis/dicom/service/WildcardMatchesPatternPinLaw", "row", "([II[II[ZI)V"⟩ : MethodName) (head1 (Jvm.Cond.code (⟨"com/example/modalis/modalis/dicom/service/WildcardMatchesPatternPinLaw", "row", "([II[II[ZI)V"⟩ : MethodName) method_6_code 6 none :: ws) ({ frames := 1, cells := 0, slots := 0, locals := 19 } : Room)) (fun a U => a = #[(.ref pa), (.int p1), (.ref ta), (.int p3), (.ref mb), (.int p5)] ∧ Z.Warmed39 U.vm ∧ U.heap = h0) (fun _ _ _ _ _ => True) (fun _ U o U' => ∃ v L, o = .returned v ∧ Q3 Z mb pl tl i pf tf h0 n0 v U'.heap L ∧ FrameEnd U o U' L ({ frames := 1, cells := 0, slots := 0, locals := 19 } : Room).cells ({ frames := 1, cells := 0, slots := 0, locals := 19 } : Room).slots) := by
  refine MetFree.of_bodySF (plainFor_of_name pn_3) hisR ?_
  intro p e s m args below meth c s₁ Bd hml0 hP hK
  obtain ⟨rfl, hZ, hh⟩ := hP
  have hx := Bd.exec
  have hby := Bd.bytes
  have hml : c.maxLocals = 6 := hml0
  have hown : s.vm.findClass "com/example/modalis/modalis/dicom/service/WildcardMatchesPatternPinLaw" = some m.cls := findClass_of_methodNamed Bd.named
  have hnm := (name_of_methodNamed Bd.named Bd.method).1
  have X0 : Stand p l e ({ frames := 1, cells := 0, slots := 0, locals := 19 } : Room) s m #[(.ref pa), (.int p1), (.ref ta), (.int p3), (.ref mb), (.int p5)] below meth c s₁ [] 0 0 := Stand.of_body Bd
  have e0 : s₁.heap = h0 := by rw [← hh, Bd.state]; rfl
  have N0 := Fr.nil n0
  have pre0 : ∀ tg, Steps p.tables e below (s₁.setTop (mkF m 0 #[.val (.ref pa), .val (.int p1), .val (.ref ta), .val (.int p3), .val (.ref mb), .val (.int p5)] [])) tg → Steps p.tables e below (s₁.setTop (entryFrame m #[(.ref pa), (.int p1), (.ref ta), (.int p3), (.ref mb), (.int p5)] 6)) tg := fun tg kg => castTop (ef_3 m pa p1 ta p3 mb p5) kg
  have D5 := own_Dr D htl
  have k115 : ∀ tg, Steps p.tables e below (s₁.setTop (mkF m 9 #[.val (.ref pa), .val (.int p1), .val (.ref ta), .val (.int p3), .val (.ref mb), .val (.int p5)] [(.int (4 : Int32)), (.int p5), (.ref mb), (.int p3), (.ref ta), (.int p1), (.ref pa)])) tg → Steps p.tables e below (s₁.setTop (entryFrame m #[(.ref pa), (.int p1), (.ref ta), (.int p3), (.ref mb), (.int p5)] 6)) tg := fun tg kg => pre0 tg (by
      show Steps p.tables e below (s₁.setTop (mkF m 0 #[.val (.ref pa), .val (.int p1), .val (.ref ta), .val (.int p3), .val (.ref mb), .val (.int p5)] [])) _
      refine XS.aloadN X0.here hx rfl (hb hby d3_0) rfl rfl ?_
      show Steps p.tables e below (s₁.setTop (mkF m 1 #[.val (.ref pa), .val (.int p1), .val (.ref ta), .val (.int p3), .val (.ref mb), .val (.int p5)] [(.ref pa)])) _
      refine XS.iloadN X0.here hx rfl (hb hby d3_1) rfl ?_
      show Steps p.tables e below (s₁.setTop (mkF m 2 #[.val (.ref pa), .val (.int p1), .val (.ref ta), .val (.int p3), .val (.ref mb), .val (.int p5)] [(.int p1), (.ref pa)])) _
      refine XS.aloadN X0.here hx rfl (hb hby d3_2) rfl rfl ?_
      show Steps p.tables e below (s₁.setTop (mkF m 3 #[.val (.ref pa), .val (.int p1), .val (.ref ta), .val (.int p3), .val (.ref mb), .val (.int p5)] [(.ref ta), (.int p1), (.ref pa)])) _
      refine XS.iloadN X0.here hx rfl (hb hby d3_3) rfl ?_
      show Steps p.tables e below (s₁.setTop (mkF m 4 #[.val (.ref pa), .val (.int p1), .val (.ref ta), .val (.int p3), .val (.ref mb), .val (.int p5)] [(.int p3), (.ref ta), (.int p1), (.ref pa)])) _
      refine XS.aload X0.here hx rfl (hb hby d3_4) rfl rfl ?_
      show Steps p.tables e below (s₁.setTop (mkF m 6 #[.val (.ref pa), .val (.int p1), .val (.ref ta), .val (.int p3), .val (.ref mb), .val (.int p5)] [(.ref mb), (.int p3), (.ref ta), (.int p1), (.ref pa)])) _
      refine XS.iload X0.here hx rfl (hb hby d3_6) rfl ?_
      show Steps p.tables e below (s₁.setTop (mkF m 8 #[.val (.ref pa), .val (.int p1), .val (.ref ta), .val (.int p3), .val (.ref mb), .val (.int p5)] [(.int p5), (.ref mb), (.int p3), (.ref ta), (.int p1), (.ref pa)])) _
      refine XS.iconst X0.here hx rfl (hb hby d3_8) ?_
      exact kg)
  obtain ⟨_, _, ⟨T116, L116, c116, n116⟩, -, X116, ⟨Lc116, hQ116, l116, y116, z116⟩, st116⟩ := Jvm.LawKit.callS X0 hx (y := (⟨"com/example/modalis/modalis/dicom/service/WildcardMatchesPatternPinLaw", "cell", "([II[II[ZII)V"⟩ : MethodName)) hown (mvT hZ (hw _ (List.mem_of_getElem? (i := 12) rfl))) (mvT hZ (hw _ (List.mem_of_getElem? (i := 13) rfl))) (mvT hZ (hw _ (List.mem_of_getElem? (i := 3) rfl))) (mvT hZ (hw _ (List.mem_of_getElem? (i := 14) rfl))) (by decide) (backOf (W := 0) (rm4 l Z a0 hw [] pa p1 ta p3 mb p5 (4 : Int32) pl tl i 4 pf tf g h0 n0 Z0 h1 h3 h5 (by decide) hpl htl hi4 (by decide) ge Vp Vt Vm D5) hZ (hw _ (List.mem_of_getElem? (i := 14) rfl)) (hw _ (List.mem_of_getElem? (i := 3) rfl)) (by decide) (by decide)) (g := (mkF m 9 #[.val (.ref pa), .val (.int p1), .val (.ref ta), .val (.int p3), .val (.ref mb), .val (.int p5)] [(.int (4 : Int32)), (.int p5), (.ref mb), (.int p3), (.ref ta), (.int p1), (.ref pa)])) rfl (by rw [hml]; rfl) (argsL := [(.ref pa), (.int p1), (.ref ta), (.int p3), (.ref mb), (.int p5), (.int (4 : Int32))]) (rest := []) (lenOf own_pd2 rfl) rfl (by show 2 * 0 + _ ≤ _; exact Nat.le_of_eq rfl) (hb hby d3_9) (fun _ _ => ⟨rfl, e0, (by decide : 0 + 0 ≤ _), (by decide : 0 + 0 ≤ _)⟩)
  dsimp only [Pt.U, Pt.locs, Pt.cells, Pt.slots] at X116 l116 y116 z116 st116 hQ116
  obtain rfl : c116 = 0 := y116
  obtain rfl : n116 = 0 := z116
  obtain ⟨rfl, N116q, K4, g4, Vm, D4⟩ := hQ116
  have N116 := own_frE l116 (Fr.app N0 N116q)
  have k117 : ∀ tg, Steps p.tables e below (T116.setTop (mkF m 12 #[.val (.ref pa), .val (.int p1), .val (.ref ta), .val (.int p3), .val (.ref mb), .val (.int p5)] [])) tg → Steps p.tables e below (s₁.setTop (entryFrame m #[(.ref pa), (.int p1), (.ref ta), (.int p3), (.ref mb), (.int p5)] 6)) tg := fun tg kg => k115 tg (st116 tg kg)
  have Z14 : n0 ≤ T116.heap.size := Nat.le_trans Z0 K4.1
  have Vp := Vp.keep K4 (own_ni1 np)
  have Vt := Vt.keep K4 (own_ni1 nt)
  have k118 : ∀ tg, Steps p.tables e below (T116.setTop (mkF m 21 #[.val (.ref pa), .val (.int p1), .val (.ref ta), .val (.int p3), .val (.ref mb), .val (.int p5)] [(.int (3 : Int32)), (.int p5), (.ref mb), (.int p3), (.ref ta), (.int p1), (.ref pa)])) tg → Steps p.tables e below (s₁.setTop (entryFrame m #[(.ref pa), (.int p1), (.ref ta), (.int p3), (.ref mb), (.int p5)] 6)) tg := fun tg kg => k117 tg (by
      show Steps p.tables e below (T116.setTop (mkF m 12 #[.val (.ref pa), .val (.int p1), .val (.ref ta), .val (.int p3), .val (.ref mb), .val (.int p5)] [])) _
      refine XS.aloadN X116.here hx rfl (hb hby d3_12) rfl rfl ?_
      show Steps p.tables e below (T116.setTop (mkF m 13 #[.val (.ref pa), .val (.int p1), .val (.ref ta), .val (.int p3), .val (.ref mb), .val (.int p5)] [(.ref pa)])) _
      refine XS.iloadN X116.here hx rfl (hb hby d3_13) rfl ?_
      show Steps p.tables e below (T116.setTop (mkF m 14 #[.val (.ref pa), .val (.int p1), .val (.ref ta), .val (.int p3), .val (.ref mb), .val (.int p5)] [(.int p1), (.ref pa)])) _
      refine XS.aloadN X116.here hx rfl (hb hby d3_14) rfl rfl ?_
      show Steps p.tables e below (T116.setTop (mkF m 15 #[.val (.ref pa), .val (.int p1), .val (.ref ta), .val (.int p3), .val (.ref mb), .val (.int p5)] [(.ref ta), (.int p1), (.ref pa)])) _
      refine XS.iloadN X116.here hx rfl (hb hby d3_15) rfl ?_
      show Steps p.tables e below (T116.setTop (mkF m 16 #[.val (.ref pa), .val (.int p1), .val (.ref ta), .val (.int p3), .val (.ref mb), .val (.int p5)] [(.int p3), (.ref ta), (.int p1), (.ref pa)])) _
      refine XS.aload X116.here hx rfl (hb hby d3_16) rfl rfl ?_
      show Steps p.tables e below (T116.setTop (mkF m 18 #[.val (.ref pa), .val (.int p1), .val (.ref ta), .val (.int p3), .val (.ref mb), .val (.int p5)] [(.ref mb), (.int p3), (.ref ta), (.int p1), (.ref pa)])) _
      refine XS.iload X116.here hx rfl (hb hby d3_18) rfl ?_
      show Steps p.tables e below (T116.setTop (mkF m 20 #[.val (.ref pa), .val (.int p1), .val (.ref ta), .val (.int p3), .val (.ref mb), .val (.int p5)] [(.int p5), (.ref mb), (.int p3), (.ref ta), (.int p1), (.ref pa)])) _
      refine XS.iconst X116.here hx rfl (hb hby d3_20) ?_
      exact kg)
  obtain ⟨_, _, ⟨T119, L119, c119, n119⟩, -, X119, ⟨Lc119, hQ119, l119, y119, z119⟩, st119⟩ := Jvm.LawKit.callS X116 hx (y := (⟨"com/example/modalis/modalis/dicom/service/WildcardMatchesPatternPinLaw", "cell", "([II[II[ZII)V"⟩ : MethodName)) hown (mvT hZ (hw _ (List.mem_of_getElem? (i := 12) rfl))) (mvT hZ (hw _ (List.mem_of_getElem? (i := 13) rfl))) (mvT hZ (hw _ (List.mem_of_getElem? (i := 3) rfl))) (mvT hZ (hw _ (List.mem_of_getElem? (i := 14) rfl))) (by decide) (backOf (W := 0) (rm4 l Z a0 hw [] pa p1 ta p3 mb p5 (3 : Int32) pl tl i 3 pf tf g4 T116.heap n0 Z14 h1 h3 h5 (by decide) hpl htl hi4 (by decide) ge Vp Vt Vm D4) hZ (hw _ (List.mem_of_getElem? (i := 14) rfl)) (hw _ (List.mem_of_getElem? (i := 3) rfl)) (by decide) (by decide)) (g := (mkF m 21 #[.val (.ref pa), .val (.int p1), .val (.ref ta), .val (.int p3), .val (.ref mb), .val (.int p5)] [(.int (3 : Int32)), (.int p5), (.ref mb), (.int p3), (.ref ta), (.int p1), (.ref pa)])) rfl (by rw [hml]; rfl) (argsL := [(.ref pa), (.int p1), (.ref ta), (.int p3), (.ref mb), (.int p5), (.int (3 : Int32))]) (rest := []) (lenOf own_pd2 rfl) rfl (by show 2 * 0 + _ ≤ _; exact Nat.le_of_eq rfl) (hb hby d3_21) (fun _ _ => ⟨rfl, rfl, (by decide : 0 + 0 ≤ _), (by decide : 0 + 0 ≤ _)⟩)
  dsimp only [Pt.U, Pt.locs, Pt.cells, Pt.slots] at X119 l119 y119 z119 st119 hQ119
  obtain rfl : c119 = 0 := y119
  obtain rfl : n119 = 0 := z119
  obtain ⟨rfl, N119q, K3, g3, Vm, D3⟩ := hQ119
  have N119 := own_frE l119 (Fr.app N116 N119q)
  have k120 : ∀ tg, Steps p.tables e below (T119.setTop (mkF m 24 #[.val (.ref pa), .val (.int p1), .val (.ref ta), .val (.int p3), .val (.ref mb), .val (.int p5)] [])) tg → Steps p.tables e below (s₁.setTop (entryFrame m #[(.ref pa), (.int p1), (.ref ta), (.int p3), (.ref mb), (.int p5)] 6)) tg := fun tg kg => k118 tg (st119 tg kg)
  have Z13 : n0 ≤ T119.heap.size := Nat.le_trans Z14 K3.1
  have Vp := Vp.keep K3 (own_ni1 np)
  have Vt := Vt.keep K3 (own_ni1 nt)
  have KK3 := K4.trans K3 (fun x hx => Or.inl hx)
  have k121 : ∀ tg, Steps p.tables e below (T119.setTop (mkF m 33 #[.val (.ref pa), .val (.int p1), .val (.ref ta), .val (.int p3), .val (.ref mb), .val (.int p5)] [(.int (2 : Int32)), (.int p5), (.ref mb), (.int p3), (.ref ta), (.int p1), (.ref pa)])) tg → Steps p.tables e below (s₁.setTop (entryFrame m #[(.ref pa), (.int p1), (.ref ta), (.int p3), (.ref mb), (.int p5)] 6)) tg := fun tg kg => k120 tg (by
      show Steps p.tables e below (T119.setTop (mkF m 24 #[.val (.ref pa), .val (.int p1), .val (.ref ta), .val (.int p3), .val (.ref mb), .val (.int p5)] [])) _
      refine XS.aloadN X119.here hx rfl (hb hby d3_24) rfl rfl ?_
      show Steps p.tables e below (T119.setTop (mkF m 25 #[.val (.ref pa), .val (.int p1), .val (.ref ta), .val (.int p3), .val (.ref mb), .val (.int p5)] [(.ref pa)])) _
      refine XS.iloadN X119.here hx rfl (hb hby d3_25) rfl ?_
      show Steps p.tables e below (T119.setTop (mkF m 26 #[.val (.ref pa), .val (.int p1), .val (.ref ta), .val (.int p3), .val (.ref mb), .val (.int p5)] [(.int p1), (.ref pa)])) _
      refine XS.aloadN X119.here hx rfl (hb hby d3_26) rfl rfl ?_
      show Steps p.tables e below (T119.setTop (mkF m 27 #[.val (.ref pa), .val (.int p1), .val (.ref ta), .val (.int p3), .val (.ref mb), .val (.int p5)] [(.ref ta), (.int p1), (.ref pa)])) _
      refine XS.iloadN X119.here hx rfl (hb hby d3_27) rfl ?_
      show Steps p.tables e below (T119.setTop (mkF m 28 #[.val (.ref pa), .val (.int p1), .val (.ref ta), .val (.int p3), .val (.ref mb), .val (.int p5)] [(.int p3), (.ref ta), (.int p1), (.ref pa)])) _
      refine XS.aload X119.here hx rfl (hb hby d3_28) rfl rfl ?_
      show Steps p.tables e below (T119.setTop (mkF m 30 #[.val (.ref pa), .val (.int p1), .val (.ref ta), .val (.int p3), .val (.ref mb), .val (.int p5)] [(.ref mb), (.int p3), (.ref ta), (.int p1), (.ref pa)])) _
      refine XS.iload X119.here hx rfl (hb hby d3_30) rfl ?_
      show Steps p.tables e below (T119.setTop (mkF m 32 #[.val (.ref pa), .val (.int p1), .val (.ref ta), .val (.int p3), .val (.ref mb), .val (.int p5)] [(.int p5), (.ref mb), (.int p3), (.ref ta), (.int p1), (.ref pa)])) _
      refine XS.iconst X119.here hx rfl (hb hby d3_32) ?_
      exact kg)
  obtain ⟨_, _, ⟨T122, L122, c122, n122⟩, -, X122, ⟨Lc122, hQ122, l122, y122, z122⟩, st122⟩ := Jvm.LawKit.callS X119 hx (y := (⟨"com/example/modalis/modalis/dicom/service/WildcardMatchesPatternPinLaw", "cell", "([II[II[ZII)V"⟩ : MethodName)) hown (mvT hZ (hw _ (List.mem_of_getElem? (i := 12) rfl))) (mvT hZ (hw _ (List.mem_of_getElem? (i := 13) rfl))) (mvT hZ (hw _ (List.mem_of_getElem? (i := 3) rfl))) (mvT hZ (hw _ (List.mem_of_getElem? (i := 14) rfl))) (by decide) (backOf (W := 0) (rm4 l Z a0 hw [] pa p1 ta p3 mb p5 (2 : Int32) pl tl i 2 pf tf g3 T119.heap n0 Z13 h1 h3 h5 (by decide) hpl htl hi4 (by decide) ge Vp Vt Vm D3) hZ (hw _ (List.mem_of_getElem? (i := 14) rfl)) (hw _ (List.mem_of_getElem? (i := 3) rfl)) (by decide) (by decide)) (g := (mkF m 33 #[.val (.ref pa), .val (.int p1), .val (.ref ta), .val (.int p3), .val (.ref mb), .val (.int p5)] [(.int (2 : Int32)), (.int p5), (.ref mb), (.int p3), (.ref ta), (.int p1), (.ref pa)])) rfl (by rw [hml]; rfl) (argsL := [(.ref pa), (.int p1), (.ref ta), (.int p3), (.ref mb), (.int p5), (.int (2 : Int32))]) (rest := []) (lenOf own_pd2 rfl) rfl (by show 2 * 0 + _ ≤ _; exact Nat.le_of_eq rfl) (hb hby d3_33) (fun _ _ => ⟨rfl, rfl, (by decide : 0 + 0 ≤ _), (by decide : 0 + 0 ≤ _)⟩)
  dsimp only [Pt.U, Pt.locs, Pt.cells, Pt.slots] at X122 l122 y122 z122 st122 hQ122
  obtain rfl : c122 = 0 := y122
  obtain rfl : n122 = 0 := z122
  obtain ⟨rfl, N122q, K2, g2, Vm, D2⟩ := hQ122
  have N122 := own_frE l122 (Fr.app N119 N122q)
  have k123 : ∀ tg, Steps p.tables e below (T122.setTop (mkF m 36 #[.val (.ref pa), .val (.int p1), .val (.ref ta), .val (.int p3), .val (.ref mb), .val (.int p5)] [])) tg → Steps p.tables e below (s₁.setTop (entryFrame m #[(.ref pa), (.int p1), (.ref ta), (.int p3), (.ref mb), (.int p5)] 6)) tg := fun tg kg => k121 tg (st122 tg kg)
  have Z12 : n0 ≤ T122.heap.size := Nat.le_trans Z13 K2.1
  have Vp := Vp.keep K2 (own_ni1 np)
  have Vt := Vt.keep K2 (own_ni1 nt)
  have KK2 := KK3.trans K2 (fun x hx => Or.inl hx)
  have k124 : ∀ tg, Steps p.tables e below (T122.setTop (mkF m 45 #[.val (.ref pa), .val (.int p1), .val (.ref ta), .val (.int p3), .val (.ref mb), .val (.int p5)] [(.int (1 : Int32)), (.int p5), (.ref mb), (.int p3), (.ref ta), (.int p1), (.ref pa)])) tg → Steps p.tables e below (s₁.setTop (entryFrame m #[(.ref pa), (.int p1), (.ref ta), (.int p3), (.ref mb), (.int p5)] 6)) tg := fun tg kg => k123 tg (by
      show Steps p.tables e below (T122.setTop (mkF m 36 #[.val (.ref pa), .val (.int p1), .val (.ref ta), .val (.int p3), .val (.ref mb), .val (.int p5)] [])) _
      refine XS.aloadN X122.here hx rfl (hb hby d3_36) rfl rfl ?_
      show Steps p.tables e below (T122.setTop (mkF m 37 #[.val (.ref pa), .val (.int p1), .val (.ref ta), .val (.int p3), .val (.ref mb), .val (.int p5)] [(.ref pa)])) _
      refine XS.iloadN X122.here hx rfl (hb hby d3_37) rfl ?_
      show Steps p.tables e below (T122.setTop (mkF m 38 #[.val (.ref pa), .val (.int p1), .val (.ref ta), .val (.int p3), .val (.ref mb), .val (.int p5)] [(.int p1), (.ref pa)])) _
      refine XS.aloadN X122.here hx rfl (hb hby d3_38) rfl rfl ?_
      show Steps p.tables e below (T122.setTop (mkF m 39 #[.val (.ref pa), .val (.int p1), .val (.ref ta), .val (.int p3), .val (.ref mb), .val (.int p5)] [(.ref ta), (.int p1), (.ref pa)])) _
      refine XS.iloadN X122.here hx rfl (hb hby d3_39) rfl ?_
      show Steps p.tables e below (T122.setTop (mkF m 40 #[.val (.ref pa), .val (.int p1), .val (.ref ta), .val (.int p3), .val (.ref mb), .val (.int p5)] [(.int p3), (.ref ta), (.int p1), (.ref pa)])) _
      refine XS.aload X122.here hx rfl (hb hby d3_40) rfl rfl ?_
      show Steps p.tables e below (T122.setTop (mkF m 42 #[.val (.ref pa), .val (.int p1), .val (.ref ta), .val (.int p3), .val (.ref mb), .val (.int p5)] [(.ref mb), (.int p3), (.ref ta), (.int p1), (.ref pa)])) _
      refine XS.iload X122.here hx rfl (hb hby d3_42) rfl ?_
      show Steps p.tables e below (T122.setTop (mkF m 44 #[.val (.ref pa), .val (.int p1), .val (.ref ta), .val (.int p3), .val (.ref mb), .val (.int p5)] [(.int p5), (.ref mb), (.int p3), (.ref ta), (.int p1), (.ref pa)])) _
      refine XS.iconst X122.here hx rfl (hb hby d3_44) ?_
      exact kg)
  obtain ⟨_, _, ⟨T125, L125, c125, n125⟩, -, X125, ⟨Lc125, hQ125, l125, y125, z125⟩, st125⟩ := Jvm.LawKit.callS X122 hx (y := (⟨"com/example/modalis/modalis/dicom/service/WildcardMatchesPatternPinLaw", "cell", "([II[II[ZII)V"⟩ : MethodName)) hown (mvT hZ (hw _ (List.mem_of_getElem? (i := 12) rfl))) (mvT hZ (hw _ (List.mem_of_getElem? (i := 13) rfl))) (mvT hZ (hw _ (List.mem_of_getElem? (i := 3) rfl))) (mvT hZ (hw _ (List.mem_of_getElem? (i := 14) rfl))) (by decide) (backOf (W := 0) (rm4 l Z a0 hw [] pa p1 ta p3 mb p5 (1 : Int32) pl tl i 1 pf tf g2 T122.heap n0 Z12 h1 h3 h5 (by decide) hpl htl hi4 (by decide) ge Vp Vt Vm D2) hZ (hw _ (List.mem_of_getElem? (i := 14) rfl)) (hw _ (List.mem_of_getElem? (i := 3) rfl)) (by decide) (by decide)) (g := (mkF m 45 #[.val (.ref pa), .val (.int p1), .val (.ref ta), .val (.int p3), .val (.ref mb), .val (.int p5)] [(.int (1 : Int32)), (.int p5), (.ref mb), (.int p3), (.ref ta), (.int p1), (.ref pa)])) rfl (by rw [hml]; rfl) (argsL := [(.ref pa), (.int p1), (.ref ta), (.int p3), (.ref mb), (.int p5), (.int (1 : Int32))]) (rest := []) (lenOf own_pd2 rfl) rfl (by show 2 * 0 + _ ≤ _; exact Nat.le_of_eq rfl) (hb hby d3_45) (fun _ _ => ⟨rfl, rfl, (by decide : 0 + 0 ≤ _), (by decide : 0 + 0 ≤ _)⟩)
  dsimp only [Pt.U, Pt.locs, Pt.cells, Pt.slots] at X125 l125 y125 z125 st125 hQ125
  obtain rfl : c125 = 0 := y125
  obtain rfl : n125 = 0 := z125
  obtain ⟨rfl, N125q, K1, g1, Vm, D1⟩ := hQ125
  have N125 := own_frE l125 (Fr.app N122 N125q)
  have k126 : ∀ tg, Steps p.tables e below (T125.setTop (mkF m 48 #[.val (.ref pa), .val (.int p1), .val (.ref ta), .val (.int p3), .val (.ref mb), .val (.int p5)] [])) tg → Steps p.tables e below (s₁.setTop (entryFrame m #[(.ref pa), (.int p1), (.ref ta), (.int p3), (.ref mb), (.int p5)] 6)) tg := fun tg kg => k124 tg (st125 tg kg)
  have Z11 : n0 ≤ T125.heap.size := Nat.le_trans Z12 K1.1
  have Vp := Vp.keep K1 (own_ni1 np)
  have Vt := Vt.keep K1 (own_ni1 nt)
  have KK1 := KK2.trans K1 (fun x hx => Or.inl hx)
  have k127 : ∀ tg, Steps p.tables e below (T125.setTop (mkF m 57 #[.val (.ref pa), .val (.int p1), .val (.ref ta), .val (.int p3), .val (.ref mb), .val (.int p5)] [(.int (0 : Int32)), (.int p5), (.ref mb), (.int p3), (.ref ta), (.int p1), (.ref pa)])) tg → Steps p.tables e below (s₁.setTop (entryFrame m #[(.ref pa), (.int p1), (.ref ta), (.int p3), (.ref mb), (.int p5)] 6)) tg := fun tg kg => k126 tg (by
      show Steps p.tables e below (T125.setTop (mkF m 48 #[.val (.ref pa), .val (.int p1), .val (.ref ta), .val (.int p3), .val (.ref mb), .val (.int p5)] [])) _
      refine XS.aloadN X125.here hx rfl (hb hby d3_48) rfl rfl ?_
      show Steps p.tables e below (T125.setTop (mkF m 49 #[.val (.ref pa), .val (.int p1), .val (.ref ta), .val (.int p3), .val (.ref mb), .val (.int p5)] [(.ref pa)])) _
      refine XS.iloadN X125.here hx rfl (hb hby d3_49) rfl ?_
      show Steps p.tables e below (T125.setTop (mkF m 50 #[.val (.ref pa), .val (.int p1), .val (.ref ta), .val (.int p3), .val (.ref mb), .val (.int p5)] [(.int p1), (.ref pa)])) _
      refine XS.aloadN X125.here hx rfl (hb hby d3_50) rfl rfl ?_
      show Steps p.tables e below (T125.setTop (mkF m 51 #[.val (.ref pa), .val (.int p1), .val (.ref ta), .val (.int p3), .val (.ref mb), .val (.int p5)] [(.ref ta), (.int p1), (.ref pa)])) _
      refine XS.iloadN X125.here hx rfl (hb hby d3_51) rfl ?_
      show Steps p.tables e below (T125.setTop (mkF m 52 #[.val (.ref pa), .val (.int p1), .val (.ref ta), .val (.int p3), .val (.ref mb), .val (.int p5)] [(.int p3), (.ref ta), (.int p1), (.ref pa)])) _
      refine XS.aload X125.here hx rfl (hb hby d3_52) rfl rfl ?_
      show Steps p.tables e below (T125.setTop (mkF m 54 #[.val (.ref pa), .val (.int p1), .val (.ref ta), .val (.int p3), .val (.ref mb), .val (.int p5)] [(.ref mb), (.int p3), (.ref ta), (.int p1), (.ref pa)])) _
      refine XS.iload X125.here hx rfl (hb hby d3_54) rfl ?_
      show Steps p.tables e below (T125.setTop (mkF m 56 #[.val (.ref pa), .val (.int p1), .val (.ref ta), .val (.int p3), .val (.ref mb), .val (.int p5)] [(.int p5), (.ref mb), (.int p3), (.ref ta), (.int p1), (.ref pa)])) _
      refine XS.iconst X125.here hx rfl (hb hby d3_56) ?_
      exact kg)
  obtain ⟨_, _, ⟨T128, L128, c128, n128⟩, -, X128, ⟨Lc128, hQ128, l128, y128, z128⟩, st128⟩ := Jvm.LawKit.callS X125 hx (y := (⟨"com/example/modalis/modalis/dicom/service/WildcardMatchesPatternPinLaw", "cell", "([II[II[ZII)V"⟩ : MethodName)) hown (mvT hZ (hw _ (List.mem_of_getElem? (i := 12) rfl))) (mvT hZ (hw _ (List.mem_of_getElem? (i := 13) rfl))) (mvT hZ (hw _ (List.mem_of_getElem? (i := 3) rfl))) (mvT hZ (hw _ (List.mem_of_getElem? (i := 14) rfl))) (by decide) (backOf (W := 0) (rm4 l Z a0 hw [] pa p1 ta p3 mb p5 (0 : Int32) pl tl i 0 pf tf g1 T125.heap n0 Z11 h1 h3 h5 (by decide) hpl htl hi4 (by decide) ge Vp Vt Vm D1) hZ (hw _ (List.mem_of_getElem? (i := 14) rfl)) (hw _ (List.mem_of_getElem? (i := 3) rfl)) (by decide) (by decide)) (g := (mkF m 57 #[.val (.ref pa), .val (.int p1), .val (.ref ta), .val (.int p3), .val (.ref mb), .val (.int p5)] [(.int (0 : Int32)), (.int p5), (.ref mb), (.int p3), (.ref ta), (.int p1), (.ref pa)])) rfl (by rw [hml]; rfl) (argsL := [(.ref pa), (.int p1), (.ref ta), (.int p3), (.ref mb), (.int p5), (.int (0 : Int32))]) (rest := []) (lenOf own_pd2 rfl) rfl (by show 2 * 0 + _ ≤ _; exact Nat.le_of_eq rfl) (hb hby d3_57) (fun _ _ => ⟨rfl, rfl, (by decide : 0 + 0 ≤ _), (by decide : 0 + 0 ≤ _)⟩)
  dsimp only [Pt.U, Pt.locs, Pt.cells, Pt.slots] at X128 l128 y128 z128 st128 hQ128
  obtain rfl : c128 = 0 := y128
  obtain rfl : n128 = 0 := z128
  obtain ⟨rfl, N128q, K0, g0, Vm, D0⟩ := hQ128
  have N128 := own_frE l128 (Fr.app N125 N128q)
  have k129 : ∀ tg, Steps p.tables e below (T128.setTop (mkF m 60 #[.val (.ref pa), .val (.int p1), .val (.ref ta), .val (.int p3), .val (.ref mb), .val (.int p5)] [])) tg → Steps p.tables e below (s₁.setTop (entryFrame m #[(.ref pa), (.int p1), (.ref ta), (.int p3), (.ref mb), (.int p5)] 6)) tg := fun tg kg => k127 tg (st128 tg kg)
  have Z10 : n0 ≤ T128.heap.size := Nat.le_trans Z11 K0.1
  have Vp := Vp.keep K0 (own_ni1 np)
  have Vt := Vt.keep K0 (own_ni1 nt)
  have KK0 := KK1.trans K0 (fun x hx => Or.inl hx)
  obtain ⟨fs, hr, hrun, hended, hW, hsame⟩ := X128.leave (v := none) (fun _ => rfl)
  refine ⟨_, _, k129 _ ?_, hrun, hended, _, _, rfl, ?_, ⟨_, rfl⟩, hW, hsame.mono (by decide) (by decide)⟩
  · show Steps p.tables e below (T128.setTop (mkF m 60 #[.val (.ref pa), .val (.int p1), .val (.ref ta), .val (.int p3), .val (.ref mb), .val (.int p5)] [])) _
    exact X128.returnOut hx Bd.returns (hb hby d3_60) hr
  · show Q3 _ _ _ _ _ _ _ _ _ _ T128.heap _
    exact ⟨rfl, N128, KK0, g0, Vm, D0⟩
theorem d5_0 : decode method_5_code 0 = .ok (.iload_n 1, 1) := by decide +kernel
theorem d5_1 : decode method_5_code 1 = .ok (.ifCond .ne 7, 3) := by decide +kernel
theorem d5_4 : decode method_5_code 4 = .ok (.iconst 0, 1) := by decide +kernel
theorem d5_5 : decode method_5_code 5 = .ok (.newarray .int, 2) := by decide +kernel
theorem d5_7 : decode method_5_code 7 = .ok (.areturn, 1) := by decide +kernel
theorem d5_8 : decode method_5_code 8 = .ok (.iload_n 1, 1) := by decide +kernel
theorem d5_9 : decode method_5_code 9 = .ok (.iconst 1, 1) := by decide +kernel
theorem d5_10 : decode method_5_code 10 = .ok (.if_icmp .ne 13, 3) := by decide +kernel
theorem d5_13 : decode method_5_code 13 = .ok (.iconst 1, 1) := by decide +kernel
theorem d5_14 : decode method_5_code 14 = .ok (.newarray .int, 2) := by decide +kernel
theorem d5_16 : decode method_5_code 16 = .ok (.dup, 1) := by decide +kernel
theorem d5_17 : decode method_5_code 17 = .ok (.iconst 0, 1) := by decide +kernel
theorem d5_18 : decode method_5_code 18 = .ok (.aload_n 0, 1) := by decide +kernel
theorem d5_19 : decode method_5_code 19 = .ok (.iconst 0, 1) := by decide +kernel
theorem d5_20 : decode method_5_code 20 = .ok (.iaload, 1) := by decide +kernel
theorem d5_21 : decode method_5_code 21 = .ok (.iastore, 1) := by decide +kernel
theorem d5_22 : decode method_5_code 22 = .ok (.areturn, 1) := by decide +kernel
theorem d5_23 : decode method_5_code 23 = .ok (.iload_n 1, 1) := by decide +kernel
theorem d5_24 : decode method_5_code 24 = .ok (.iconst 2, 1) := by decide +kernel
theorem d5_25 : decode method_5_code 25 = .ok (.if_icmp .ne 19, 3) := by decide +kernel
theorem d5_28 : decode method_5_code 28 = .ok (.iconst 2, 1) := by decide +kernel
theorem d5_29 : decode method_5_code 29 = .ok (.newarray .int, 2) := by decide +kernel
theorem d5_31 : decode method_5_code 31 = .ok (.dup, 1) := by decide +kernel
theorem d5_32 : decode method_5_code 32 = .ok (.iconst 0, 1) := by decide +kernel
theorem d5_33 : decode method_5_code 33 = .ok (.aload_n 0, 1) := by decide +kernel
theorem d5_34 : decode method_5_code 34 = .ok (.iconst 0, 1) := by decide +kernel
theorem d5_35 : decode method_5_code 35 = .ok (.iaload, 1) := by decide +kernel
theorem d5_36 : decode method_5_code 36 = .ok (.iastore, 1) := by decide +kernel
theorem d5_37 : decode method_5_code 37 = .ok (.dup, 1) := by decide +kernel
theorem d5_38 : decode method_5_code 38 = .ok (.iconst 1, 1) := by decide +kernel
theorem d5_39 : decode method_5_code 39 = .ok (.aload_n 0, 1) := by decide +kernel
theorem d5_40 : decode method_5_code 40 = .ok (.iconst 1, 1) := by decide +kernel
theorem d5_41 : decode method_5_code 41 = .ok (.iaload, 1) := by decide +kernel
theorem d5_42 : decode method_5_code 42 = .ok (.iastore, 1) := by decide +kernel
theorem d5_43 : decode method_5_code 43 = .ok (.areturn, 1) := by decide +kernel
theorem d5_44 : decode method_5_code 44 = .ok (.iload_n 1, 1) := by decide +kernel
theorem d5_45 : decode method_5_code 45 = .ok (.iconst 3, 1) := by decide +kernel
theorem d5_46 : decode method_5_code 46 = .ok (.if_icmp .ne 25, 3) := by decide +kernel
theorem d5_49 : decode method_5_code 49 = .ok (.iconst 3, 1) := by decide +kernel
theorem d5_50 : decode method_5_code 50 = .ok (.newarray .int, 2) := by decide +kernel
theorem d5_52 : decode method_5_code 52 = .ok (.dup, 1) := by decide +kernel
theorem d5_53 : decode method_5_code 53 = .ok (.iconst 0, 1) := by decide +kernel
theorem d5_54 : decode method_5_code 54 = .ok (.aload_n 0, 1) := by decide +kernel
theorem d5_55 : decode method_5_code 55 = .ok (.iconst 0, 1) := by decide +kernel
theorem d5_56 : decode method_5_code 56 = .ok (.iaload, 1) := by decide +kernel
theorem d5_57 : decode method_5_code 57 = .ok (.iastore, 1) := by decide +kernel
theorem d5_58 : decode method_5_code 58 = .ok (.dup, 1) := by decide +kernel
theorem d5_59 : decode method_5_code 59 = .ok (.iconst 1, 1) := by decide +kernel
theorem d5_60 : decode method_5_code 60 = .ok (.aload_n 0, 1) := by decide +kernel
theorem d5_61 : decode method_5_code 61 = .ok (.iconst 1, 1) := by decide +kernel
theorem d5_62 : decode method_5_code 62 = .ok (.iaload, 1) := by decide +kernel
theorem d5_63 : decode method_5_code 63 = .ok (.iastore, 1) := by decide +kernel
theorem d5_64 : decode method_5_code 64 = .ok (.dup, 1) := by decide +kernel
theorem d5_65 : decode method_5_code 65 = .ok (.iconst 2, 1) := by decide +kernel
theorem d5_66 : decode method_5_code 66 = .ok (.aload_n 0, 1) := by decide +kernel
theorem d5_67 : decode method_5_code 67 = .ok (.iconst 2, 1) := by decide +kernel
theorem d5_68 : decode method_5_code 68 = .ok (.iaload, 1) := by decide +kernel
theorem d5_69 : decode method_5_code 69 = .ok (.iastore, 1) := by decide +kernel
theorem d5_70 : decode method_5_code 70 = .ok (.areturn, 1) := by decide +kernel
theorem d5_71 : decode method_5_code 71 = .ok (.iconst 4, 1) := by decide +kernel
theorem d5_72 : decode method_5_code 72 = .ok (.newarray .int, 2) := by decide +kernel
theorem d5_74 : decode method_5_code 74 = .ok (.dup, 1) := by decide +kernel
theorem d5_75 : decode method_5_code 75 = .ok (.iconst 0, 1) := by decide +kernel
theorem d5_76 : decode method_5_code 76 = .ok (.aload_n 0, 1) := by decide +kernel
theorem d5_77 : decode method_5_code 77 = .ok (.iconst 0, 1) := by decide +kernel
theorem d5_78 : decode method_5_code 78 = .ok (.iaload, 1) := by decide +kernel
theorem d5_79 : decode method_5_code 79 = .ok (.iastore, 1) := by decide +kernel
theorem d5_80 : decode method_5_code 80 = .ok (.dup, 1) := by decide +kernel
theorem d5_81 : decode method_5_code 81 = .ok (.iconst 1, 1) := by decide +kernel
theorem d5_82 : decode method_5_code 82 = .ok (.aload_n 0, 1) := by decide +kernel
theorem d5_83 : decode method_5_code 83 = .ok (.iconst 1, 1) := by decide +kernel
theorem d5_84 : decode method_5_code 84 = .ok (.iaload, 1) := by decide +kernel
theorem d5_85 : decode method_5_code 85 = .ok (.iastore, 1) := by decide +kernel
theorem d5_86 : decode method_5_code 86 = .ok (.dup, 1) := by decide +kernel
theorem d5_87 : decode method_5_code 87 = .ok (.iconst 2, 1) := by decide +kernel
theorem d5_88 : decode method_5_code 88 = .ok (.aload_n 0, 1) := by decide +kernel
theorem d5_89 : decode method_5_code 89 = .ok (.iconst 2, 1) := by decide +kernel
theorem d5_90 : decode method_5_code 90 = .ok (.iaload, 1) := by decide +kernel
theorem d5_91 : decode method_5_code 91 = .ok (.iastore, 1) := by decide +kernel
theorem d5_92 : decode method_5_code 92 = .ok (.dup, 1) := by decide +kernel
theorem d5_93 : decode method_5_code 93 = .ok (.iconst 3, 1) := by decide +kernel
theorem d5_94 : decode method_5_code 94 = .ok (.aload_n 0, 1) := by decide +kernel
theorem d5_95 : decode method_5_code 95 = .ok (.iconst 3, 1) := by decide +kernel
theorem d5_96 : decode method_5_code 96 = .ok (.iaload, 1) := by decide +kernel
theorem d5_97 : decode method_5_code 97 = .ok (.iastore, 1) := by decide +kernel
theorem d5_98 : decode method_5_code 98 = .ok (.areturn, 1) := by decide +kernel
theorem pn_5 : plainName "com/example/modalis/modalis/dicom/service/WildcardMatchesPatternPinLaw" = true := by first | (simp [plainName, overriddenIn]; done) | decide +kernel
theorem ef_5 (m : MethodId) (x0 : Addr) (x1 : Int32) : entryFrame m #[(.ref x0), (.int x1)] 2 = mkF m 0 #[.val (.ref x0), .val (.int x1)] [] := by first | (simp [entryFrame, mkF, argsToLocals, Value.category]; done) | rfl
def Q5 (Z : State) (n : Nat) (pf : Nat → Int32) (h0 : Heap) (n0 : Nat) (v : Option Value) (h : Heap) (L : List Loc) : Prop := ∃ b : Addr, v = some (.ref b) ∧ Fr n0 L ∧ Keep h0 h [] ∧ Av Z h b .int n (fun k => .int (pf k))
set_option maxRecDepth 65536 in
set_option maxHeartbeats 40000000 in
theorem rm5 (l : Launch) (Z : State) (a0 : Array Value) (hw : ∀ d ∈ tables_1, d.before a0 Z = true) (ws : List Jvm.Cond) (pa : Addr) (p2 : Int32) (n : Nat) (pf : Nat → Int32) (h0 : Heap) (n0 : Nat) (Z0 : n0 ≤ h0.size) (h2 : p2.toInt = n) (hn4 : n ≤ 4) (Vp : Av Z h0 pa .int 4 (fun k => .int (pf k))) :
    MetFree l (⟨"com/example/modalis/modalis/dicom/service/WildcardMatchesPatternPinLaw", "prefix", "([II)[I"⟩ : MethodName) (head1 (Jvm.Cond.code (⟨"com/example/modalis/modalis/dicom/service/WildcardMatchesPatternPinLaw", "prefix", "([II)[I"⟩ : MethodName) method_5_code 2 (some (.array .int)) :: ws) ({ frames := 0, cells := 1, slots := 4, locals := 0 } : Room)) (fun a U => a = #[(.ref pa), (.int p2)] ∧ Z.Warmed39 U.vm ∧ U.heap = h0) (fun _ _ _ _ _ => True) (fun _ U o U' => ∃ v L, o = .returned v ∧ Q5 Z n pf h0 n0 v U'.heap L ∧ FrameEnd U o U' L ({ frames := 0, cells := 1, slots := 4, locals := 0 } : Room).cells ({ frames := 0, cells := 1, slots := 4, locals := 0 } : Room).slots) := by
  refine MetFree.of_bodySF (plainFor_of_name pn_5) hisR ?_
  intro p e s m args below meth c s₁ Bd hml0 hP hK
  obtain ⟨rfl, hZ, hh⟩ := hP
  have hx := Bd.exec
  have hby := Bd.bytes
  have hml : c.maxLocals = 2 := hml0
  have hown : s.vm.findClass "com/example/modalis/modalis/dicom/service/WildcardMatchesPatternPinLaw" = some m.cls := findClass_of_methodNamed Bd.named
  have hnm := (name_of_methodNamed Bd.named Bd.method).1
  have X0 : Stand p l e ({ frames := 0, cells := 1, slots := 4, locals := 0 } : Room) s m #[(.ref pa), (.int p2)] below meth c s₁ [] 0 0 := Stand.of_body Bd
  have e0 : s₁.heap = h0 := by rw [← hh, Bd.state]; rfl
  have N0 := Fr.nil n0
  have pre0 : ∀ tg, Steps p.tables e below (s₁.setTop (mkF m 0 #[.val (.ref pa), .val (.int p2)] [])) tg → Steps p.tables e below (s₁.setTop (entryFrame m #[(.ref pa), (.int p2)] 2)) tg := fun tg kg => castTop (ef_5 m pa p2) kg
  have k130 : ∀ tg, Steps p.tables e below (s₁.setTop (mkF m 1 #[.val (.ref pa), .val (.int p2)] [(.int p2)])) tg → Steps p.tables e below (s₁.setTop (entryFrame m #[(.ref pa), (.int p2)] 2)) tg := fun tg kg => pre0 tg (by
      show Steps p.tables e below (s₁.setTop (mkF m 0 #[.val (.ref pa), .val (.int p2)] [])) _
      refine XS.iloadN X0.here hx rfl (hb hby d5_0) rfl ?_
      exact kg)
  by_cases hc131 : p2 = (0 : Int32)
  · have k132 : ∀ tg, Steps p.tables e below (s₁.setTop (mkF m 4 #[.val (.ref pa), .val (.int p2)] [])) tg → Steps p.tables e below (s₁.setTop (entryFrame m #[(.ref pa), (.int p2)] 2)) tg := fun tg kg => k130 tg (by
        show Steps p.tables e below (s₁.setTop (mkF m 1 #[.val (.ref pa), .val (.int p2)] [(.int p2)])) _
        refine XS.ifNo X0.here hx rfl (hb hby d5_1) rfl ((if0 _ _).trans (teq hc131).2) ?_
        exact kg)
    have k133 : ∀ tg, Steps p.tables e below (s₁.setTop (mkF m 5 #[.val (.ref pa), .val (.int p2)] [(.int (0 : Int32))])) tg → Steps p.tables e below (s₁.setTop (entryFrame m #[(.ref pa), (.int p2)] 2)) tg := fun tg kg => k132 tg (by
        show Steps p.tables e below (s₁.setTop (mkF m 4 #[.val (.ref pa), .val (.int p2)] [])) _
        refine XS.iconst X0.here hx rfl (hb hby d5_4) ?_
        exact kg)
    obtain rfl : n = 0 := (own_eqi h2 (y := (0 : Int32)) (j := 0) (by decide)).mp hc131
    obtain ⟨T134, h134, c134, X134, e134, E134, A134, st134⟩ := newP X0 hx hZ (hw _ (List.mem_of_getElem? (i := 0) rfl)) e0 (g := (mkF m 5 #[.val (.ref pa), .val (.int p2)] [(.int (0 : Int32))])) rfl (hb hby d5_5) rfl (by decide) (cap := 0) (by decide) (by decide) (by decide) (by decide)
    obtain ⟨b134, g134⟩ : ∃ z, z = h0.size := ⟨_, rfl⟩
    rw [← g134] at A134 st134
    have k135 : ∀ tg, Steps p.tables e below (T134.setTop (mkF m 7 #[.val (.ref pa), .val (.int p2)] [(.ref b134)])) tg → Steps p.tables e below (s₁.setTop (entryFrame m #[(.ref pa), (.int p2)] 2)) tg := fun tg kg => k133 tg (st134 tg kg)
    have V0 := (Av.new A134 (N := 0) (by decide)).congr (g' := fun j => .int (if j < 0 then pf j else 0)) (fun j _ => by rw [if_neg (Nat.not_lt_zero _)]; rfl)
    have gb : n0 ≤ b134 := Nat.le_trans Z0 (Nat.le_of_eq g134.symm)
    have sb : h0.size ≤ b134 := Nat.le_of_eq g134.symm
    have npb : pa ≠ b134 := Nat.ne_of_lt (g134 ▸ Vp.lt)
    have Vp := Vp.ext E134
    have K0 := (Keep.refl h0 []).ext E134
    obtain ⟨fs, hr, hrun, hended, hW, hsame⟩ := X134.leave (v := some (.ref b134)) (fun h => by rw [Bd.returns] at h; cases h)
    refine ⟨_, _, k135 _ ?_, hrun, hended, _, _, rfl, ?_, ⟨_, rfl⟩, hW, hsame.mono (by decide) (by decide)⟩
    · show Steps p.tables e below (T134.setTop (mkF m 7 #[.val (.ref pa), .val (.int p2)] [(.ref b134)])) _
      exact retOut X134 hx Bd.returns rfl (Or.inr (Or.inr (Or.inr (Or.inr ⟨rfl, rfl, rfl⟩)))) (hb hby d5_7) hr
    · show Q5 _ _ _ _ _ _ T134.heap _
      rw [e134]
      exact ⟨b134, rfl, N0, K0, V0.congr (fun j hj => by rw [if_pos hj])⟩
  · have k136 : ∀ tg, Steps p.tables e below (s₁.setTop (mkF m 8 #[.val (.ref pa), .val (.int p2)] [])) tg → Steps p.tables e below (s₁.setTop (entryFrame m #[(.ref pa), (.int p2)] 2)) tg := fun tg kg => k130 tg (by
        show Steps p.tables e below (s₁.setTop (mkF m 1 #[.val (.ref pa), .val (.int p2)] [(.int p2)])) _
        refine XS.ifYes X0.here hx rfl (pc0 := 1) (pc' := 8) rfl (hb hby d5_1) rfl ((if0 _ _).trans (feq hc131).2) (by decide) (by decide) ?_
        exact kg)
    have k137 : ∀ tg, Steps p.tables e below (s₁.setTop (mkF m 10 #[.val (.ref pa), .val (.int p2)] [(.int (1 : Int32)), (.int p2)])) tg → Steps p.tables e below (s₁.setTop (entryFrame m #[(.ref pa), (.int p2)] 2)) tg := fun tg kg => k136 tg (by
        show Steps p.tables e below (s₁.setTop (mkF m 8 #[.val (.ref pa), .val (.int p2)] [])) _
        refine XS.iloadN X0.here hx rfl (hb hby d5_8) rfl ?_
        show Steps p.tables e below (s₁.setTop (mkF m 9 #[.val (.ref pa), .val (.int p2)] [(.int p2)])) _
        refine XS.iconst X0.here hx rfl (hb hby d5_9) ?_
        exact kg)
    by_cases hc138 : p2 = (1 : Int32)
    · have k139 : ∀ tg, Steps p.tables e below (s₁.setTop (mkF m 13 #[.val (.ref pa), .val (.int p2)] [])) tg → Steps p.tables e below (s₁.setTop (entryFrame m #[(.ref pa), (.int p2)] 2)) tg := fun tg kg => k137 tg (by
          show Steps p.tables e below (s₁.setTop (mkF m 10 #[.val (.ref pa), .val (.int p2)] [(.int (1 : Int32)), (.int p2)])) _
          refine XS.icmpNo X0.here hx rfl (hb hby d5_10) rfl (teq hc138).2 ?_
          exact kg)
      have k140 : ∀ tg, Steps p.tables e below (s₁.setTop (mkF m 14 #[.val (.ref pa), .val (.int p2)] [(.int (1 : Int32))])) tg → Steps p.tables e below (s₁.setTop (entryFrame m #[(.ref pa), (.int p2)] 2)) tg := fun tg kg => k139 tg (by
          show Steps p.tables e below (s₁.setTop (mkF m 13 #[.val (.ref pa), .val (.int p2)] [])) _
          refine XS.iconst X0.here hx rfl (hb hby d5_13) ?_
          exact kg)
      obtain rfl : n = 1 := (own_eqi h2 (y := (1 : Int32)) (j := 1) (by decide)).mp hc138
      obtain ⟨T141, h141, c141, X141, e141, E141, A141, st141⟩ := newP X0 hx hZ (hw _ (List.mem_of_getElem? (i := 0) rfl)) e0 (g := (mkF m 14 #[.val (.ref pa), .val (.int p2)] [(.int (1 : Int32))])) rfl (hb hby d5_14) rfl (by decide) (cap := 1) (by decide) (by decide) (by decide) (by decide)
      obtain ⟨b141, g141⟩ : ∃ z, z = h0.size := ⟨_, rfl⟩
      rw [← g141] at A141 st141
      have k142 : ∀ tg, Steps p.tables e below (T141.setTop (mkF m 16 #[.val (.ref pa), .val (.int p2)] [(.ref b141)])) tg → Steps p.tables e below (s₁.setTop (entryFrame m #[(.ref pa), (.int p2)] 2)) tg := fun tg kg => k140 tg (st141 tg kg)
      have V0 := (Av.new A141 (N := 1) (by decide)).congr (g' := fun j => .int (if j < 0 then pf j else 0)) (fun j _ => by rw [if_neg (Nat.not_lt_zero _)]; rfl)
      have gb : n0 ≤ b141 := Nat.le_trans Z0 (Nat.le_of_eq g141.symm)
      have sb : h0.size ≤ b141 := Nat.le_of_eq g141.symm
      have npb : pa ≠ b141 := Nat.ne_of_lt (g141 ▸ Vp.lt)
      have Vp := Vp.ext E141
      have K0 := (Keep.refl h0 []).ext E141
      obtain ⟨cp0, Ap0, Sp0, Gp0⟩ := Vp
      have Vp : Av Z h141 pa .int 4 (fun k => .int (pf k)) := ⟨cp0, Ap0, Sp0, Gp0⟩
      have k143 : ∀ tg, Steps p.tables e below (T141.setTop (mkF m 21 #[.val (.ref pa), .val (.int p2)] [(.int (pf 0)), (.int (0 : Int32)), (.ref b141), (.ref b141)])) tg → Steps p.tables e below (s₁.setTop (entryFrame m #[(.ref pa), (.int p2)] 2)) tg := fun tg kg => k142 tg (by
          show Steps p.tables e below (T141.setTop (mkF m 16 #[.val (.ref pa), .val (.int p2)] [(.ref b141)])) _
          refine XS.dup X141.here hx rfl (hb hby d5_16) rfl rfl ?_
          show Steps p.tables e below (T141.setTop (mkF m 17 #[.val (.ref pa), .val (.int p2)] [(.ref b141), (.ref b141)])) _
          refine XS.iconst X141.here hx rfl (hb hby d5_17) ?_
          show Steps p.tables e below (T141.setTop (mkF m 18 #[.val (.ref pa), .val (.int p2)] [(.int (0 : Int32)), (.ref b141), (.ref b141)])) _
          refine XS.aloadN X141.here hx rfl (hb hby d5_18) rfl rfl ?_
          show Steps p.tables e below (T141.setTop (mkF m 19 #[.val (.ref pa), .val (.int p2)] [(.ref pa), (.int (0 : Int32)), (.ref b141), (.ref b141)])) _
          refine XS.iconst X141.here hx rfl (hb hby d5_19) ?_
          show Steps p.tables e below (T141.setTop (mkF m 20 #[.val (.ref pa), .val (.int p2)] [(.int (0 : Int32)), (.ref pa), (.int (0 : Int32)), (.ref b141), (.ref b141)])) _
          refine X141.iaload hx (j := (0 : Int32)) (v := (.int (pf 0))) (by rw [e141]; exact Ap0.1) (State.isArrayOf_alike hZ.alike Ap0.2.1) Ap0.2.2 (own_hin Sp0 (i := 0) (by decide) (by decide)) (own_hat Gp0 (i := 0) (by decide) (by decide)) (g := (mkF m 20 #[.val (.ref pa), .val (.int p2)] [(.int (0 : Int32)), (.ref pa), (.int (0 : Int32)), (.ref b141), (.ref b141)])) rfl rfl (hb hby d5_20) _ ?_
          exact kg)
      obtain ⟨cb0, Ab0, Sb0, Gb0⟩ := V0
      obtain ⟨T144, h144, X144, e144, W144, st144⟩ := stI X141 hx hZ e141 Ab0 (j := (0 : Int32)) (own_hin Sb0 (i := 0) (by decide) (by decide)) (g := (mkF m 21 #[.val (.ref pa), .val (.int p2)] [(.int (pf 0)), (.int (0 : Int32)), (.ref b141), (.ref b141)])) rfl rfl (hb hby d5_21)
      have N144 := Fr.snoc X144 N0 gb
      have k145 : ∀ tg, Steps p.tables e below (T144.setTop (mkF m 22 #[.val (.ref pa), .val (.int p2)] [(.ref b141)])) tg → Steps p.tables e below (s₁.setTop (entryFrame m #[(.ref pa), (.int p2)] 2)) tg := fun tg kg => k143 tg (st144 tg kg)
      have V1 := (Av.set Ab0 Sb0 Gb0 (i := 0) (by decide) W144).congr (fun j _ => own_fill (f := pf) (k := 0) j)
      have Vp := Vp.other W144 npb
      have K1 := K0.wr W144 (Or.inr sb)
      obtain ⟨fs, hr, hrun, hended, hW, hsame⟩ := X144.leave (v := some (.ref b141)) (fun h => by rw [Bd.returns] at h; cases h)
      refine ⟨_, _, k145 _ ?_, hrun, hended, _, _, rfl, ?_, ⟨_, rfl⟩, hW, hsame.mono (by decide) (by decide)⟩
      · show Steps p.tables e below (T144.setTop (mkF m 22 #[.val (.ref pa), .val (.int p2)] [(.ref b141)])) _
        exact retOut X144 hx Bd.returns rfl (Or.inr (Or.inr (Or.inr (Or.inr ⟨rfl, rfl, rfl⟩)))) (hb hby d5_22) hr
      · show Q5 _ _ _ _ _ _ T144.heap _
        rw [e144]
        exact ⟨b141, rfl, N144, K1, V1.congr (fun j hj => by rw [if_pos hj])⟩
    · have k146 : ∀ tg, Steps p.tables e below (s₁.setTop (mkF m 23 #[.val (.ref pa), .val (.int p2)] [])) tg → Steps p.tables e below (s₁.setTop (entryFrame m #[(.ref pa), (.int p2)] 2)) tg := fun tg kg => k137 tg (by
          show Steps p.tables e below (s₁.setTop (mkF m 10 #[.val (.ref pa), .val (.int p2)] [(.int (1 : Int32)), (.int p2)])) _
          refine XS.icmpYes X0.here hx rfl (pc0 := 10) (pc' := 23) rfl (hb hby d5_10) rfl (feq hc138).2 (by decide) (by decide) ?_
          exact kg)
      have k147 : ∀ tg, Steps p.tables e below (s₁.setTop (mkF m 25 #[.val (.ref pa), .val (.int p2)] [(.int (2 : Int32)), (.int p2)])) tg → Steps p.tables e below (s₁.setTop (entryFrame m #[(.ref pa), (.int p2)] 2)) tg := fun tg kg => k146 tg (by
          show Steps p.tables e below (s₁.setTop (mkF m 23 #[.val (.ref pa), .val (.int p2)] [])) _
          refine XS.iloadN X0.here hx rfl (hb hby d5_23) rfl ?_
          show Steps p.tables e below (s₁.setTop (mkF m 24 #[.val (.ref pa), .val (.int p2)] [(.int p2)])) _
          refine XS.iconst X0.here hx rfl (hb hby d5_24) ?_
          exact kg)
      by_cases hc148 : p2 = (2 : Int32)
      · have k149 : ∀ tg, Steps p.tables e below (s₁.setTop (mkF m 28 #[.val (.ref pa), .val (.int p2)] [])) tg → Steps p.tables e below (s₁.setTop (entryFrame m #[(.ref pa), (.int p2)] 2)) tg := fun tg kg => k147 tg (by
            show Steps p.tables e below (s₁.setTop (mkF m 25 #[.val (.ref pa), .val (.int p2)] [(.int (2 : Int32)), (.int p2)])) _
            refine XS.icmpNo X0.here hx rfl (hb hby d5_25) rfl (teq hc148).2 ?_
            exact kg)
        have k150 : ∀ tg, Steps p.tables e below (s₁.setTop (mkF m 29 #[.val (.ref pa), .val (.int p2)] [(.int (2 : Int32))])) tg → Steps p.tables e below (s₁.setTop (entryFrame m #[(.ref pa), (.int p2)] 2)) tg := fun tg kg => k149 tg (by
            show Steps p.tables e below (s₁.setTop (mkF m 28 #[.val (.ref pa), .val (.int p2)] [])) _
            refine XS.iconst X0.here hx rfl (hb hby d5_28) ?_
            exact kg)
        obtain rfl : n = 2 := (own_eqi h2 (y := (2 : Int32)) (j := 2) (by decide)).mp hc148
        obtain ⟨T151, h151, c151, X151, e151, E151, A151, st151⟩ := newP X0 hx hZ (hw _ (List.mem_of_getElem? (i := 0) rfl)) e0 (g := (mkF m 29 #[.val (.ref pa), .val (.int p2)] [(.int (2 : Int32))])) rfl (hb hby d5_29) rfl (by decide) (cap := 2) (by decide) (by decide) (by decide) (by decide)
        obtain ⟨b151, g151⟩ : ∃ z, z = h0.size := ⟨_, rfl⟩
        rw [← g151] at A151 st151
        have k152 : ∀ tg, Steps p.tables e below (T151.setTop (mkF m 31 #[.val (.ref pa), .val (.int p2)] [(.ref b151)])) tg → Steps p.tables e below (s₁.setTop (entryFrame m #[(.ref pa), (.int p2)] 2)) tg := fun tg kg => k150 tg (st151 tg kg)
        have V0 := (Av.new A151 (N := 2) (by decide)).congr (g' := fun j => .int (if j < 0 then pf j else 0)) (fun j _ => by rw [if_neg (Nat.not_lt_zero _)]; rfl)
        have gb : n0 ≤ b151 := Nat.le_trans Z0 (Nat.le_of_eq g151.symm)
        have sb : h0.size ≤ b151 := Nat.le_of_eq g151.symm
        have npb : pa ≠ b151 := Nat.ne_of_lt (g151 ▸ Vp.lt)
        have Vp := Vp.ext E151
        have K0 := (Keep.refl h0 []).ext E151
        obtain ⟨cp0, Ap0, Sp0, Gp0⟩ := Vp
        have Vp : Av Z h151 pa .int 4 (fun k => .int (pf k)) := ⟨cp0, Ap0, Sp0, Gp0⟩
        have k153 : ∀ tg, Steps p.tables e below (T151.setTop (mkF m 36 #[.val (.ref pa), .val (.int p2)] [(.int (pf 0)), (.int (0 : Int32)), (.ref b151), (.ref b151)])) tg → Steps p.tables e below (s₁.setTop (entryFrame m #[(.ref pa), (.int p2)] 2)) tg := fun tg kg => k152 tg (by
            show Steps p.tables e below (T151.setTop (mkF m 31 #[.val (.ref pa), .val (.int p2)] [(.ref b151)])) _
            refine XS.dup X151.here hx rfl (hb hby d5_31) rfl rfl ?_
            show Steps p.tables e below (T151.setTop (mkF m 32 #[.val (.ref pa), .val (.int p2)] [(.ref b151), (.ref b151)])) _
            refine XS.iconst X151.here hx rfl (hb hby d5_32) ?_
            show Steps p.tables e below (T151.setTop (mkF m 33 #[.val (.ref pa), .val (.int p2)] [(.int (0 : Int32)), (.ref b151), (.ref b151)])) _
            refine XS.aloadN X151.here hx rfl (hb hby d5_33) rfl rfl ?_
            show Steps p.tables e below (T151.setTop (mkF m 34 #[.val (.ref pa), .val (.int p2)] [(.ref pa), (.int (0 : Int32)), (.ref b151), (.ref b151)])) _
            refine XS.iconst X151.here hx rfl (hb hby d5_34) ?_
            show Steps p.tables e below (T151.setTop (mkF m 35 #[.val (.ref pa), .val (.int p2)] [(.int (0 : Int32)), (.ref pa), (.int (0 : Int32)), (.ref b151), (.ref b151)])) _
            refine X151.iaload hx (j := (0 : Int32)) (v := (.int (pf 0))) (by rw [e151]; exact Ap0.1) (State.isArrayOf_alike hZ.alike Ap0.2.1) Ap0.2.2 (own_hin Sp0 (i := 0) (by decide) (by decide)) (own_hat Gp0 (i := 0) (by decide) (by decide)) (g := (mkF m 35 #[.val (.ref pa), .val (.int p2)] [(.int (0 : Int32)), (.ref pa), (.int (0 : Int32)), (.ref b151), (.ref b151)])) rfl rfl (hb hby d5_35) _ ?_
            exact kg)
        obtain ⟨cb0, Ab0, Sb0, Gb0⟩ := V0
        obtain ⟨T154, h154, X154, e154, W154, st154⟩ := stI X151 hx hZ e151 Ab0 (j := (0 : Int32)) (own_hin Sb0 (i := 0) (by decide) (by decide)) (g := (mkF m 36 #[.val (.ref pa), .val (.int p2)] [(.int (pf 0)), (.int (0 : Int32)), (.ref b151), (.ref b151)])) rfl rfl (hb hby d5_36)
        have N154 := Fr.snoc X154 N0 gb
        have k155 : ∀ tg, Steps p.tables e below (T154.setTop (mkF m 37 #[.val (.ref pa), .val (.int p2)] [(.ref b151)])) tg → Steps p.tables e below (s₁.setTop (entryFrame m #[(.ref pa), (.int p2)] 2)) tg := fun tg kg => k153 tg (st154 tg kg)
        have V1 := (Av.set Ab0 Sb0 Gb0 (i := 0) (by decide) W154).congr (fun j _ => own_fill (f := pf) (k := 0) j)
        have Vp := Vp.other W154 npb
        have K1 := K0.wr W154 (Or.inr sb)
        obtain ⟨cp1, Ap1, Sp1, Gp1⟩ := Vp
        have Vp : Av Z h154 pa .int 4 (fun k => .int (pf k)) := ⟨cp1, Ap1, Sp1, Gp1⟩
        have k156 : ∀ tg, Steps p.tables e below (T154.setTop (mkF m 42 #[.val (.ref pa), .val (.int p2)] [(.int (pf 1)), (.int (1 : Int32)), (.ref b151), (.ref b151)])) tg → Steps p.tables e below (s₁.setTop (entryFrame m #[(.ref pa), (.int p2)] 2)) tg := fun tg kg => k155 tg (by
            show Steps p.tables e below (T154.setTop (mkF m 37 #[.val (.ref pa), .val (.int p2)] [(.ref b151)])) _
            refine XS.dup X154.here hx rfl (hb hby d5_37) rfl rfl ?_
            show Steps p.tables e below (T154.setTop (mkF m 38 #[.val (.ref pa), .val (.int p2)] [(.ref b151), (.ref b151)])) _
            refine XS.iconst X154.here hx rfl (hb hby d5_38) ?_
            show Steps p.tables e below (T154.setTop (mkF m 39 #[.val (.ref pa), .val (.int p2)] [(.int (1 : Int32)), (.ref b151), (.ref b151)])) _
            refine XS.aloadN X154.here hx rfl (hb hby d5_39) rfl rfl ?_
            show Steps p.tables e below (T154.setTop (mkF m 40 #[.val (.ref pa), .val (.int p2)] [(.ref pa), (.int (1 : Int32)), (.ref b151), (.ref b151)])) _
            refine XS.iconst X154.here hx rfl (hb hby d5_40) ?_
            show Steps p.tables e below (T154.setTop (mkF m 41 #[.val (.ref pa), .val (.int p2)] [(.int (1 : Int32)), (.ref pa), (.int (1 : Int32)), (.ref b151), (.ref b151)])) _
            refine X154.iaload hx (j := (1 : Int32)) (v := (.int (pf 1))) (by rw [e154]; exact Ap1.1) (State.isArrayOf_alike hZ.alike Ap1.2.1) Ap1.2.2 (own_hin Sp1 (i := 1) (by decide) (by decide)) (own_hat Gp1 (i := 1) (by decide) (by decide)) (g := (mkF m 41 #[.val (.ref pa), .val (.int p2)] [(.int (1 : Int32)), (.ref pa), (.int (1 : Int32)), (.ref b151), (.ref b151)])) rfl rfl (hb hby d5_41) _ ?_
            exact kg)
        obtain ⟨cb1, Ab1, Sb1, Gb1⟩ := V1
        obtain ⟨T157, h157, X157, e157, W157, st157⟩ := stI X154 hx hZ e154 Ab1 (j := (1 : Int32)) (own_hin Sb1 (i := 1) (by decide) (by decide)) (g := (mkF m 42 #[.val (.ref pa), .val (.int p2)] [(.int (pf 1)), (.int (1 : Int32)), (.ref b151), (.ref b151)])) rfl rfl (hb hby d5_42)
        have N157 := Fr.snoc X157 N154 gb
        have k158 : ∀ tg, Steps p.tables e below (T157.setTop (mkF m 43 #[.val (.ref pa), .val (.int p2)] [(.ref b151)])) tg → Steps p.tables e below (s₁.setTop (entryFrame m #[(.ref pa), (.int p2)] 2)) tg := fun tg kg => k156 tg (st157 tg kg)
        have V2 := (Av.set Ab1 Sb1 Gb1 (i := 1) (by decide) W157).congr (fun j _ => own_fill (f := pf) (k := 1) j)
        have Vp := Vp.other W157 npb
        have K2 := K1.wr W157 (Or.inr sb)
        obtain ⟨fs, hr, hrun, hended, hW, hsame⟩ := X157.leave (v := some (.ref b151)) (fun h => by rw [Bd.returns] at h; cases h)
        refine ⟨_, _, k158 _ ?_, hrun, hended, _, _, rfl, ?_, ⟨_, rfl⟩, hW, hsame.mono (by decide) (by decide)⟩
        · show Steps p.tables e below (T157.setTop (mkF m 43 #[.val (.ref pa), .val (.int p2)] [(.ref b151)])) _
          exact retOut X157 hx Bd.returns rfl (Or.inr (Or.inr (Or.inr (Or.inr ⟨rfl, rfl, rfl⟩)))) (hb hby d5_43) hr
        · show Q5 _ _ _ _ _ _ T157.heap _
          rw [e157]
          exact ⟨b151, rfl, N157, K2, V2.congr (fun j hj => by rw [if_pos hj])⟩
      · have k159 : ∀ tg, Steps p.tables e below (s₁.setTop (mkF m 44 #[.val (.ref pa), .val (.int p2)] [])) tg → Steps p.tables e below (s₁.setTop (entryFrame m #[(.ref pa), (.int p2)] 2)) tg := fun tg kg => k147 tg (by
            show Steps p.tables e below (s₁.setTop (mkF m 25 #[.val (.ref pa), .val (.int p2)] [(.int (2 : Int32)), (.int p2)])) _
            refine XS.icmpYes X0.here hx rfl (pc0 := 25) (pc' := 44) rfl (hb hby d5_25) rfl (feq hc148).2 (by decide) (by decide) ?_
            exact kg)
        have k160 : ∀ tg, Steps p.tables e below (s₁.setTop (mkF m 46 #[.val (.ref pa), .val (.int p2)] [(.int (3 : Int32)), (.int p2)])) tg → Steps p.tables e below (s₁.setTop (entryFrame m #[(.ref pa), (.int p2)] 2)) tg := fun tg kg => k159 tg (by
            show Steps p.tables e below (s₁.setTop (mkF m 44 #[.val (.ref pa), .val (.int p2)] [])) _
            refine XS.iloadN X0.here hx rfl (hb hby d5_44) rfl ?_
            show Steps p.tables e below (s₁.setTop (mkF m 45 #[.val (.ref pa), .val (.int p2)] [(.int p2)])) _
            refine XS.iconst X0.here hx rfl (hb hby d5_45) ?_
            exact kg)
        by_cases hc161 : p2 = (3 : Int32)
        · have k162 : ∀ tg, Steps p.tables e below (s₁.setTop (mkF m 49 #[.val (.ref pa), .val (.int p2)] [])) tg → Steps p.tables e below (s₁.setTop (entryFrame m #[(.ref pa), (.int p2)] 2)) tg := fun tg kg => k160 tg (by
              show Steps p.tables e below (s₁.setTop (mkF m 46 #[.val (.ref pa), .val (.int p2)] [(.int (3 : Int32)), (.int p2)])) _
              refine XS.icmpNo X0.here hx rfl (hb hby d5_46) rfl (teq hc161).2 ?_
              exact kg)
          have k163 : ∀ tg, Steps p.tables e below (s₁.setTop (mkF m 50 #[.val (.ref pa), .val (.int p2)] [(.int (3 : Int32))])) tg → Steps p.tables e below (s₁.setTop (entryFrame m #[(.ref pa), (.int p2)] 2)) tg := fun tg kg => k162 tg (by
              show Steps p.tables e below (s₁.setTop (mkF m 49 #[.val (.ref pa), .val (.int p2)] [])) _
              refine XS.iconst X0.here hx rfl (hb hby d5_49) ?_
              exact kg)
          obtain rfl : n = 3 := (own_eqi h2 (y := (3 : Int32)) (j := 3) (by decide)).mp hc161
          obtain ⟨T164, h164, c164, X164, e164, E164, A164, st164⟩ := newP X0 hx hZ (hw _ (List.mem_of_getElem? (i := 0) rfl)) e0 (g := (mkF m 50 #[.val (.ref pa), .val (.int p2)] [(.int (3 : Int32))])) rfl (hb hby d5_50) rfl (by decide) (cap := 3) (by decide) (by decide) (by decide) (by decide)
          obtain ⟨b164, g164⟩ : ∃ z, z = h0.size := ⟨_, rfl⟩
          rw [← g164] at A164 st164
          have k165 : ∀ tg, Steps p.tables e below (T164.setTop (mkF m 52 #[.val (.ref pa), .val (.int p2)] [(.ref b164)])) tg → Steps p.tables e below (s₁.setTop (entryFrame m #[(.ref pa), (.int p2)] 2)) tg := fun tg kg => k163 tg (st164 tg kg)
          have V0 := (Av.new A164 (N := 3) (by decide)).congr (g' := fun j => .int (if j < 0 then pf j else 0)) (fun j _ => by rw [if_neg (Nat.not_lt_zero _)]; rfl)
          have gb : n0 ≤ b164 := Nat.le_trans Z0 (Nat.le_of_eq g164.symm)
          have sb : h0.size ≤ b164 := Nat.le_of_eq g164.symm
          have npb : pa ≠ b164 := Nat.ne_of_lt (g164 ▸ Vp.lt)
          have Vp := Vp.ext E164
          have K0 := (Keep.refl h0 []).ext E164
          obtain ⟨cp0, Ap0, Sp0, Gp0⟩ := Vp
          have Vp : Av Z h164 pa .int 4 (fun k => .int (pf k)) := ⟨cp0, Ap0, Sp0, Gp0⟩
          have k166 : ∀ tg, Steps p.tables e below (T164.setTop (mkF m 57 #[.val (.ref pa), .val (.int p2)] [(.int (pf 0)), (.int (0 : Int32)), (.ref b164), (.ref b164)])) tg → Steps p.tables e below (s₁.setTop (entryFrame m #[(.ref pa), (.int p2)] 2)) tg := fun tg kg => k165 tg (by
              show Steps p.tables e below (T164.setTop (mkF m 52 #[.val (.ref pa), .val (.int p2)] [(.ref b164)])) _
              refine XS.dup X164.here hx rfl (hb hby d5_52) rfl rfl ?_
              show Steps p.tables e below (T164.setTop (mkF m 53 #[.val (.ref pa), .val (.int p2)] [(.ref b164), (.ref b164)])) _
              refine XS.iconst X164.here hx rfl (hb hby d5_53) ?_
              show Steps p.tables e below (T164.setTop (mkF m 54 #[.val (.ref pa), .val (.int p2)] [(.int (0 : Int32)), (.ref b164), (.ref b164)])) _
              refine XS.aloadN X164.here hx rfl (hb hby d5_54) rfl rfl ?_
              show Steps p.tables e below (T164.setTop (mkF m 55 #[.val (.ref pa), .val (.int p2)] [(.ref pa), (.int (0 : Int32)), (.ref b164), (.ref b164)])) _
              refine XS.iconst X164.here hx rfl (hb hby d5_55) ?_
              show Steps p.tables e below (T164.setTop (mkF m 56 #[.val (.ref pa), .val (.int p2)] [(.int (0 : Int32)), (.ref pa), (.int (0 : Int32)), (.ref b164), (.ref b164)])) _
              refine X164.iaload hx (j := (0 : Int32)) (v := (.int (pf 0))) (by rw [e164]; exact Ap0.1) (State.isArrayOf_alike hZ.alike Ap0.2.1) Ap0.2.2 (own_hin Sp0 (i := 0) (by decide) (by decide)) (own_hat Gp0 (i := 0) (by decide) (by decide)) (g := (mkF m 56 #[.val (.ref pa), .val (.int p2)] [(.int (0 : Int32)), (.ref pa), (.int (0 : Int32)), (.ref b164), (.ref b164)])) rfl rfl (hb hby d5_56) _ ?_
              exact kg)
          obtain ⟨cb0, Ab0, Sb0, Gb0⟩ := V0
          obtain ⟨T167, h167, X167, e167, W167, st167⟩ := stI X164 hx hZ e164 Ab0 (j := (0 : Int32)) (own_hin Sb0 (i := 0) (by decide) (by decide)) (g := (mkF m 57 #[.val (.ref pa), .val (.int p2)] [(.int (pf 0)), (.int (0 : Int32)), (.ref b164), (.ref b164)])) rfl rfl (hb hby d5_57)
          have N167 := Fr.snoc X167 N0 gb
          have k168 : ∀ tg, Steps p.tables e below (T167.setTop (mkF m 58 #[.val (.ref pa), .val (.int p2)] [(.ref b164)])) tg → Steps p.tables e below (s₁.setTop (entryFrame m #[(.ref pa), (.int p2)] 2)) tg := fun tg kg => k166 tg (st167 tg kg)
          have V1 := (Av.set Ab0 Sb0 Gb0 (i := 0) (by decide) W167).congr (fun j _ => own_fill (f := pf) (k := 0) j)
          have Vp := Vp.other W167 npb
          have K1 := K0.wr W167 (Or.inr sb)
          obtain ⟨cp1, Ap1, Sp1, Gp1⟩ := Vp
          have Vp : Av Z h167 pa .int 4 (fun k => .int (pf k)) := ⟨cp1, Ap1, Sp1, Gp1⟩
          have k169 : ∀ tg, Steps p.tables e below (T167.setTop (mkF m 63 #[.val (.ref pa), .val (.int p2)] [(.int (pf 1)), (.int (1 : Int32)), (.ref b164), (.ref b164)])) tg → Steps p.tables e below (s₁.setTop (entryFrame m #[(.ref pa), (.int p2)] 2)) tg := fun tg kg => k168 tg (by
              show Steps p.tables e below (T167.setTop (mkF m 58 #[.val (.ref pa), .val (.int p2)] [(.ref b164)])) _
              refine XS.dup X167.here hx rfl (hb hby d5_58) rfl rfl ?_
              show Steps p.tables e below (T167.setTop (mkF m 59 #[.val (.ref pa), .val (.int p2)] [(.ref b164), (.ref b164)])) _
              refine XS.iconst X167.here hx rfl (hb hby d5_59) ?_
              show Steps p.tables e below (T167.setTop (mkF m 60 #[.val (.ref pa), .val (.int p2)] [(.int (1 : Int32)), (.ref b164), (.ref b164)])) _
              refine XS.aloadN X167.here hx rfl (hb hby d5_60) rfl rfl ?_
              show Steps p.tables e below (T167.setTop (mkF m 61 #[.val (.ref pa), .val (.int p2)] [(.ref pa), (.int (1 : Int32)), (.ref b164), (.ref b164)])) _
              refine XS.iconst X167.here hx rfl (hb hby d5_61) ?_
              show Steps p.tables e below (T167.setTop (mkF m 62 #[.val (.ref pa), .val (.int p2)] [(.int (1 : Int32)), (.ref pa), (.int (1 : Int32)), (.ref b164), (.ref b164)])) _
              refine X167.iaload hx (j := (1 : Int32)) (v := (.int (pf 1))) (by rw [e167]; exact Ap1.1) (State.isArrayOf_alike hZ.alike Ap1.2.1) Ap1.2.2 (own_hin Sp1 (i := 1) (by decide) (by decide)) (own_hat Gp1 (i := 1) (by decide) (by decide)) (g := (mkF m 62 #[.val (.ref pa), .val (.int p2)] [(.int (1 : Int32)), (.ref pa), (.int (1 : Int32)), (.ref b164), (.ref b164)])) rfl rfl (hb hby d5_62) _ ?_
              exact kg)
          obtain ⟨cb1, Ab1, Sb1, Gb1⟩ := V1
          obtain ⟨T170, h170, X170, e170, W170, st170⟩ := stI X167 hx hZ e167 Ab1 (j := (1 : Int32)) (own_hin Sb1 (i := 1) (by decide) (by decide)) (g := (mkF m 63 #[.val (.ref pa), .val (.int p2)] [(.int (pf 1)), (.int (1 : Int32)), (.ref b164), (.ref b164)])) rfl rfl (hb hby d5_63)
          have N170 := Fr.snoc X170 N167 gb
          have k171 : ∀ tg, Steps p.tables e below (T170.setTop (mkF m 64 #[.val (.ref pa), .val (.int p2)] [(.ref b164)])) tg → Steps p.tables e below (s₁.setTop (entryFrame m #[(.ref pa), (.int p2)] 2)) tg := fun tg kg => k169 tg (st170 tg kg)
          have V2 := (Av.set Ab1 Sb1 Gb1 (i := 1) (by decide) W170).congr (fun j _ => own_fill (f := pf) (k := 1) j)
          have Vp := Vp.other W170 npb
          have K2 := K1.wr W170 (Or.inr sb)
          obtain ⟨cp2, Ap2, Sp2, Gp2⟩ := Vp
          have Vp : Av Z h170 pa .int 4 (fun k => .int (pf k)) := ⟨cp2, Ap2, Sp2, Gp2⟩
          have k172 : ∀ tg, Steps p.tables e below (T170.setTop (mkF m 69 #[.val (.ref pa), .val (.int p2)] [(.int (pf 2)), (.int (2 : Int32)), (.ref b164), (.ref b164)])) tg → Steps p.tables e below (s₁.setTop (entryFrame m #[(.ref pa), (.int p2)] 2)) tg := fun tg kg => k171 tg (by
              show Steps p.tables e below (T170.setTop (mkF m 64 #[.val (.ref pa), .val (.int p2)] [(.ref b164)])) _
              refine XS.dup X170.here hx rfl (hb hby d5_64) rfl rfl ?_
              show Steps p.tables e below (T170.setTop (mkF m 65 #[.val (.ref pa), .val (.int p2)] [(.ref b164), (.ref b164)])) _
              refine XS.iconst X170.here hx rfl (hb hby d5_65) ?_
              show Steps p.tables e below (T170.setTop (mkF m 66 #[.val (.ref pa), .val (.int p2)] [(.int (2 : Int32)), (.ref b164), (.ref b164)])) _
              refine XS.aloadN X170.here hx rfl (hb hby d5_66) rfl rfl ?_
              show Steps p.tables e below (T170.setTop (mkF m 67 #[.val (.ref pa), .val (.int p2)] [(.ref pa), (.int (2 : Int32)), (.ref b164), (.ref b164)])) _
              refine XS.iconst X170.here hx rfl (hb hby d5_67) ?_
              show Steps p.tables e below (T170.setTop (mkF m 68 #[.val (.ref pa), .val (.int p2)] [(.int (2 : Int32)), (.ref pa), (.int (2 : Int32)), (.ref b164), (.ref b164)])) _
              refine X170.iaload hx (j := (2 : Int32)) (v := (.int (pf 2))) (by rw [e170]; exact Ap2.1) (State.isArrayOf_alike hZ.alike Ap2.2.1) Ap2.2.2 (own_hin Sp2 (i := 2) (by decide) (by decide)) (own_hat Gp2 (i := 2) (by decide) (by decide)) (g := (mkF m 68 #[.val (.ref pa), .val (.int p2)] [(.int (2 : Int32)), (.ref pa), (.int (2 : Int32)), (.ref b164), (.ref b164)])) rfl rfl (hb hby d5_68) _ ?_
              exact kg)
          obtain ⟨cb2, Ab2, Sb2, Gb2⟩ := V2
          obtain ⟨T173, h173, X173, e173, W173, st173⟩ := stI X170 hx hZ e170 Ab2 (j := (2 : Int32)) (own_hin Sb2 (i := 2) (by decide) (by decide)) (g := (mkF m 69 #[.val (.ref pa), .val (.int p2)] [(.int (pf 2)), (.int (2 : Int32)), (.ref b164), (.ref b164)])) rfl rfl (hb hby d5_69)
          have N173 := Fr.snoc X173 N170 gb
          have k174 : ∀ tg, Steps p.tables e below (T173.setTop (mkF m 70 #[.val (.ref pa), .val (.int p2)] [(.ref b164)])) tg → Steps p.tables e below (s₁.setTop (entryFrame m #[(.ref pa), (.int p2)] 2)) tg := fun tg kg => k172 tg (st173 tg kg)
          have V3 := (Av.set Ab2 Sb2 Gb2 (i := 2) (by decide) W173).congr (fun j _ => own_fill (f := pf) (k := 2) j)
          have Vp := Vp.other W173 npb
          have K3 := K2.wr W173 (Or.inr sb)
          obtain ⟨fs, hr, hrun, hended, hW, hsame⟩ := X173.leave (v := some (.ref b164)) (fun h => by rw [Bd.returns] at h; cases h)
          refine ⟨_, _, k174 _ ?_, hrun, hended, _, _, rfl, ?_, ⟨_, rfl⟩, hW, hsame.mono (by decide) (by decide)⟩
          · show Steps p.tables e below (T173.setTop (mkF m 70 #[.val (.ref pa), .val (.int p2)] [(.ref b164)])) _
            exact retOut X173 hx Bd.returns rfl (Or.inr (Or.inr (Or.inr (Or.inr ⟨rfl, rfl, rfl⟩)))) (hb hby d5_70) hr
          · show Q5 _ _ _ _ _ _ T173.heap _
            rw [e173]
            exact ⟨b164, rfl, N173, K3, V3.congr (fun j hj => by rw [if_pos hj])⟩
        · have k175 : ∀ tg, Steps p.tables e below (s₁.setTop (mkF m 71 #[.val (.ref pa), .val (.int p2)] [])) tg → Steps p.tables e below (s₁.setTop (entryFrame m #[(.ref pa), (.int p2)] 2)) tg := fun tg kg => k160 tg (by
              show Steps p.tables e below (s₁.setTop (mkF m 46 #[.val (.ref pa), .val (.int p2)] [(.int (3 : Int32)), (.int p2)])) _
              refine XS.icmpYes X0.here hx rfl (pc0 := 46) (pc' := 71) rfl (hb hby d5_46) rfl (feq hc161).2 (by decide) (by decide) ?_
              exact kg)
          have k176 : ∀ tg, Steps p.tables e below (s₁.setTop (mkF m 72 #[.val (.ref pa), .val (.int p2)] [(.int (4 : Int32))])) tg → Steps p.tables e below (s₁.setTop (entryFrame m #[(.ref pa), (.int p2)] 2)) tg := fun tg kg => k175 tg (by
              show Steps p.tables e below (s₁.setTop (mkF m 71 #[.val (.ref pa), .val (.int p2)] [])) _
              refine XS.iconst X0.here hx rfl (hb hby d5_71) ?_
              exact kg)
          obtain rfl : n = 4 := by
            have z0 : n ≠ 0 := fun q => hc131 ((own_eqi h2 (y := (0 : Int32)) (j := 0) (by decide)).mpr q)
            have z1 : n ≠ 1 := fun q => hc138 ((own_eqi h2 (y := (1 : Int32)) (j := 1) (by decide)).mpr q)
            have z2 : n ≠ 2 := fun q => hc148 ((own_eqi h2 (y := (2 : Int32)) (j := 2) (by decide)).mpr q)
            have z3 : n ≠ 3 := fun q => hc161 ((own_eqi h2 (y := (3 : Int32)) (j := 3) (by decide)).mpr q)
            omega
          obtain ⟨T177, h177, c177, X177, e177, E177, A177, st177⟩ := newP X0 hx hZ (hw _ (List.mem_of_getElem? (i := 0) rfl)) e0 (g := (mkF m 72 #[.val (.ref pa), .val (.int p2)] [(.int (4 : Int32))])) rfl (hb hby d5_72) rfl (by decide) (cap := 4) (by decide) (by decide) (by decide) (by decide)
          obtain ⟨b177, g177⟩ : ∃ z, z = h0.size := ⟨_, rfl⟩
          rw [← g177] at A177 st177
          have k178 : ∀ tg, Steps p.tables e below (T177.setTop (mkF m 74 #[.val (.ref pa), .val (.int p2)] [(.ref b177)])) tg → Steps p.tables e below (s₁.setTop (entryFrame m #[(.ref pa), (.int p2)] 2)) tg := fun tg kg => k176 tg (st177 tg kg)
          have V0 := (Av.new A177 (N := 4) (by decide)).congr (g' := fun j => .int (if j < 0 then pf j else 0)) (fun j _ => by rw [if_neg (Nat.not_lt_zero _)]; rfl)
          have gb : n0 ≤ b177 := Nat.le_trans Z0 (Nat.le_of_eq g177.symm)
          have sb : h0.size ≤ b177 := Nat.le_of_eq g177.symm
          have npb : pa ≠ b177 := Nat.ne_of_lt (g177 ▸ Vp.lt)
          have Vp := Vp.ext E177
          have K0 := (Keep.refl h0 []).ext E177
          obtain ⟨cp0, Ap0, Sp0, Gp0⟩ := Vp
          have Vp : Av Z h177 pa .int 4 (fun k => .int (pf k)) := ⟨cp0, Ap0, Sp0, Gp0⟩
          have k179 : ∀ tg, Steps p.tables e below (T177.setTop (mkF m 79 #[.val (.ref pa), .val (.int p2)] [(.int (pf 0)), (.int (0 : Int32)), (.ref b177), (.ref b177)])) tg → Steps p.tables e below (s₁.setTop (entryFrame m #[(.ref pa), (.int p2)] 2)) tg := fun tg kg => k178 tg (by
              show Steps p.tables e below (T177.setTop (mkF m 74 #[.val (.ref pa), .val (.int p2)] [(.ref b177)])) _
              refine XS.dup X177.here hx rfl (hb hby d5_74) rfl rfl ?_
              show Steps p.tables e below (T177.setTop (mkF m 75 #[.val (.ref pa), .val (.int p2)] [(.ref b177), (.ref b177)])) _
              refine XS.iconst X177.here hx rfl (hb hby d5_75) ?_
              show Steps p.tables e below (T177.setTop (mkF m 76 #[.val (.ref pa), .val (.int p2)] [(.int (0 : Int32)), (.ref b177), (.ref b177)])) _
              refine XS.aloadN X177.here hx rfl (hb hby d5_76) rfl rfl ?_
              show Steps p.tables e below (T177.setTop (mkF m 77 #[.val (.ref pa), .val (.int p2)] [(.ref pa), (.int (0 : Int32)), (.ref b177), (.ref b177)])) _
              refine XS.iconst X177.here hx rfl (hb hby d5_77) ?_
              show Steps p.tables e below (T177.setTop (mkF m 78 #[.val (.ref pa), .val (.int p2)] [(.int (0 : Int32)), (.ref pa), (.int (0 : Int32)), (.ref b177), (.ref b177)])) _
              refine X177.iaload hx (j := (0 : Int32)) (v := (.int (pf 0))) (by rw [e177]; exact Ap0.1) (State.isArrayOf_alike hZ.alike Ap0.2.1) Ap0.2.2 (own_hin Sp0 (i := 0) (by decide) (by decide)) (own_hat Gp0 (i := 0) (by decide) (by decide)) (g := (mkF m 78 #[.val (.ref pa), .val (.int p2)] [(.int (0 : Int32)), (.ref pa), (.int (0 : Int32)), (.ref b177), (.ref b177)])) rfl rfl (hb hby d5_78) _ ?_
              exact kg)
          obtain ⟨cb0, Ab0, Sb0, Gb0⟩ := V0
          obtain ⟨T180, h180, X180, e180, W180, st180⟩ := stI X177 hx hZ e177 Ab0 (j := (0 : Int32)) (own_hin Sb0 (i := 0) (by decide) (by decide)) (g := (mkF m 79 #[.val (.ref pa), .val (.int p2)] [(.int (pf 0)), (.int (0 : Int32)), (.ref b177), (.ref b177)])) rfl rfl (hb hby d5_79)
          have N180 := Fr.snoc X180 N0 gb
          have k181 : ∀ tg, Steps p.tables e below (T180.setTop (mkF m 80 #[.val (.ref pa), .val (.int p2)] [(.ref b177)])) tg → Steps p.tables e below (s₁.setTop (entryFrame m #[(.ref pa), (.int p2)] 2)) tg := fun tg kg => k179 tg (st180 tg kg)
          have V1 := (Av.set Ab0 Sb0 Gb0 (i := 0) (by decide) W180).congr (fun j _ => own_fill (f := pf) (k := 0) j)
          have Vp := Vp.other W180 npb
          have K1 := K0.wr W180 (Or.inr sb)
          obtain ⟨cp1, Ap1, Sp1, Gp1⟩ := Vp
          have Vp : Av Z h180 pa .int 4 (fun k => .int (pf k)) := ⟨cp1, Ap1, Sp1, Gp1⟩
          have k182 : ∀ tg, Steps p.tables e below (T180.setTop (mkF m 85 #[.val (.ref pa), .val (.int p2)] [(.int (pf 1)), (.int (1 : Int32)), (.ref b177), (.ref b177)])) tg → Steps p.tables e below (s₁.setTop (entryFrame m #[(.ref pa), (.int p2)] 2)) tg := fun tg kg => k181 tg (by
              show Steps p.tables e below (T180.setTop (mkF m 80 #[.val (.ref pa), .val (.int p2)] [(.ref b177)])) _
              refine XS.dup X180.here hx rfl (hb hby d5_80) rfl rfl ?_
              show Steps p.tables e below (T180.setTop (mkF m 81 #[.val (.ref pa), .val (.int p2)] [(.ref b177), (.ref b177)])) _
              refine XS.iconst X180.here hx rfl (hb hby d5_81) ?_
              show Steps p.tables e below (T180.setTop (mkF m 82 #[.val (.ref pa), .val (.int p2)] [(.int (1 : Int32)), (.ref b177), (.ref b177)])) _
              refine XS.aloadN X180.here hx rfl (hb hby d5_82) rfl rfl ?_
              show Steps p.tables e below (T180.setTop (mkF m 83 #[.val (.ref pa), .val (.int p2)] [(.ref pa), (.int (1 : Int32)), (.ref b177), (.ref b177)])) _
              refine XS.iconst X180.here hx rfl (hb hby d5_83) ?_
              show Steps p.tables e below (T180.setTop (mkF m 84 #[.val (.ref pa), .val (.int p2)] [(.int (1 : Int32)), (.ref pa), (.int (1 : Int32)), (.ref b177), (.ref b177)])) _
              refine X180.iaload hx (j := (1 : Int32)) (v := (.int (pf 1))) (by rw [e180]; exact Ap1.1) (State.isArrayOf_alike hZ.alike Ap1.2.1) Ap1.2.2 (own_hin Sp1 (i := 1) (by decide) (by decide)) (own_hat Gp1 (i := 1) (by decide) (by decide)) (g := (mkF m 84 #[.val (.ref pa), .val (.int p2)] [(.int (1 : Int32)), (.ref pa), (.int (1 : Int32)), (.ref b177), (.ref b177)])) rfl rfl (hb hby d5_84) _ ?_
              exact kg)
          obtain ⟨cb1, Ab1, Sb1, Gb1⟩ := V1
          obtain ⟨T183, h183, X183, e183, W183, st183⟩ := stI X180 hx hZ e180 Ab1 (j := (1 : Int32)) (own_hin Sb1 (i := 1) (by decide) (by decide)) (g := (mkF m 85 #[.val (.ref pa), .val (.int p2)] [(.int (pf 1)), (.int (1 : Int32)), (.ref b177), (.ref b177)])) rfl rfl (hb hby d5_85)
          have N183 := Fr.snoc X183 N180 gb
          have k184 : ∀ tg, Steps p.tables e below (T183.setTop (mkF m 86 #[.val (.ref pa), .val (.int p2)] [(.ref b177)])) tg → Steps p.tables e below (s₁.setTop (entryFrame m #[(.ref pa), (.int p2)] 2)) tg := fun tg kg => k182 tg (st183 tg kg)
          have V2 := (Av.set Ab1 Sb1 Gb1 (i := 1) (by decide) W183).congr (fun j _ => own_fill (f := pf) (k := 1) j)
          have Vp := Vp.other W183 npb
          have K2 := K1.wr W183 (Or.inr sb)
          obtain ⟨cp2, Ap2, Sp2, Gp2⟩ := Vp
          have Vp : Av Z h183 pa .int 4 (fun k => .int (pf k)) := ⟨cp2, Ap2, Sp2, Gp2⟩
          have k185 : ∀ tg, Steps p.tables e below (T183.setTop (mkF m 91 #[.val (.ref pa), .val (.int p2)] [(.int (pf 2)), (.int (2 : Int32)), (.ref b177), (.ref b177)])) tg → Steps p.tables e below (s₁.setTop (entryFrame m #[(.ref pa), (.int p2)] 2)) tg := fun tg kg => k184 tg (by
              show Steps p.tables e below (T183.setTop (mkF m 86 #[.val (.ref pa), .val (.int p2)] [(.ref b177)])) _
              refine XS.dup X183.here hx rfl (hb hby d5_86) rfl rfl ?_
              show Steps p.tables e below (T183.setTop (mkF m 87 #[.val (.ref pa), .val (.int p2)] [(.ref b177), (.ref b177)])) _
              refine XS.iconst X183.here hx rfl (hb hby d5_87) ?_
              show Steps p.tables e below (T183.setTop (mkF m 88 #[.val (.ref pa), .val (.int p2)] [(.int (2 : Int32)), (.ref b177), (.ref b177)])) _
              refine XS.aloadN X183.here hx rfl (hb hby d5_88) rfl rfl ?_
              show Steps p.tables e below (T183.setTop (mkF m 89 #[.val (.ref pa), .val (.int p2)] [(.ref pa), (.int (2 : Int32)), (.ref b177), (.ref b177)])) _
              refine XS.iconst X183.here hx rfl (hb hby d5_89) ?_
              show Steps p.tables e below (T183.setTop (mkF m 90 #[.val (.ref pa), .val (.int p2)] [(.int (2 : Int32)), (.ref pa), (.int (2 : Int32)), (.ref b177), (.ref b177)])) _
              refine X183.iaload hx (j := (2 : Int32)) (v := (.int (pf 2))) (by rw [e183]; exact Ap2.1) (State.isArrayOf_alike hZ.alike Ap2.2.1) Ap2.2.2 (own_hin Sp2 (i := 2) (by decide) (by decide)) (own_hat Gp2 (i := 2) (by decide) (by decide)) (g := (mkF m 90 #[.val (.ref pa), .val (.int p2)] [(.int (2 : Int32)), (.ref pa), (.int (2 : Int32)), (.ref b177), (.ref b177)])) rfl rfl (hb hby d5_90) _ ?_
              exact kg)
          obtain ⟨cb2, Ab2, Sb2, Gb2⟩ := V2
          obtain ⟨T186, h186, X186, e186, W186, st186⟩ := stI X183 hx hZ e183 Ab2 (j := (2 : Int32)) (own_hin Sb2 (i := 2) (by decide) (by decide)) (g := (mkF m 91 #[.val (.ref pa), .val (.int p2)] [(.int (pf 2)), (.int (2 : Int32)), (.ref b177), (.ref b177)])) rfl rfl (hb hby d5_91)
          have N186 := Fr.snoc X186 N183 gb
          have k187 : ∀ tg, Steps p.tables e below (T186.setTop (mkF m 92 #[.val (.ref pa), .val (.int p2)] [(.ref b177)])) tg → Steps p.tables e below (s₁.setTop (entryFrame m #[(.ref pa), (.int p2)] 2)) tg := fun tg kg => k185 tg (st186 tg kg)
          have V3 := (Av.set Ab2 Sb2 Gb2 (i := 2) (by decide) W186).congr (fun j _ => own_fill (f := pf) (k := 2) j)
          have Vp := Vp.other W186 npb
          have K3 := K2.wr W186 (Or.inr sb)
          obtain ⟨cp3, Ap3, Sp3, Gp3⟩ := Vp
          have Vp : Av Z h186 pa .int 4 (fun k => .int (pf k)) := ⟨cp3, Ap3, Sp3, Gp3⟩
          have k188 : ∀ tg, Steps p.tables e below (T186.setTop (mkF m 97 #[.val (.ref pa), .val (.int p2)] [(.int (pf 3)), (.int (3 : Int32)), (.ref b177), (.ref b177)])) tg → Steps p.tables e below (s₁.setTop (entryFrame m #[(.ref pa), (.int p2)] 2)) tg := fun tg kg => k187 tg (by
              show Steps p.tables e below (T186.setTop (mkF m 92 #[.val (.ref pa), .val (.int p2)] [(.ref b177)])) _
              refine XS.dup X186.here hx rfl (hb hby d5_92) rfl rfl ?_
              show Steps p.tables e below (T186.setTop (mkF m 93 #[.val (.ref pa), .val (.int p2)] [(.ref b177), (.ref b177)])) _
              refine XS.iconst X186.here hx rfl (hb hby d5_93) ?_
              show Steps p.tables e below (T186.setTop (mkF m 94 #[.val (.ref pa), .val (.int p2)] [(.int (3 : Int32)), (.ref b177), (.ref b177)])) _
              refine XS.aloadN X186.here hx rfl (hb hby d5_94) rfl rfl ?_
              show Steps p.tables e below (T186.setTop (mkF m 95 #[.val (.ref pa), .val (.int p2)] [(.ref pa), (.int (3 : Int32)), (.ref b177), (.ref b177)])) _
              refine XS.iconst X186.here hx rfl (hb hby d5_95) ?_
              show Steps p.tables e below (T186.setTop (mkF m 96 #[.val (.ref pa), .val (.int p2)] [(.int (3 : Int32)), (.ref pa), (.int (3 : Int32)), (.ref b177), (.ref b177)])) _
              refine X186.iaload hx (j := (3 : Int32)) (v := (.int (pf 3))) (by rw [e186]; exact Ap3.1) (State.isArrayOf_alike hZ.alike Ap3.2.1) Ap3.2.2 (own_hin Sp3 (i := 3) (by decide) (by decide)) (own_hat Gp3 (i := 3) (by decide) (by decide)) (g := (mkF m 96 #[.val (.ref pa), .val (.int p2)] [(.int (3 : Int32)), (.ref pa), (.int (3 : Int32)), (.ref b177), (.ref b177)])) rfl rfl (hb hby d5_96) _ ?_
              exact kg)
          obtain ⟨cb3, Ab3, Sb3, Gb3⟩ := V3
          obtain ⟨T189, h189, X189, e189, W189, st189⟩ := stI X186 hx hZ e186 Ab3 (j := (3 : Int32)) (own_hin Sb3 (i := 3) (by decide) (by decide)) (g := (mkF m 97 #[.val (.ref pa), .val (.int p2)] [(.int (pf 3)), (.int (3 : Int32)), (.ref b177), (.ref b177)])) rfl rfl (hb hby d5_97)
          have N189 := Fr.snoc X189 N186 gb
          have k190 : ∀ tg, Steps p.tables e below (T189.setTop (mkF m 98 #[.val (.ref pa), .val (.int p2)] [(.ref b177)])) tg → Steps p.tables e below (s₁.setTop (entryFrame m #[(.ref pa), (.int p2)] 2)) tg := fun tg kg => k188 tg (st189 tg kg)
          have V4 := (Av.set Ab3 Sb3 Gb3 (i := 3) (by decide) W189).congr (fun j _ => own_fill (f := pf) (k := 3) j)
          have Vp := Vp.other W189 npb
          have K4 := K3.wr W189 (Or.inr sb)
          obtain ⟨fs, hr, hrun, hended, hW, hsame⟩ := X189.leave (v := some (.ref b177)) (fun h => by rw [Bd.returns] at h; cases h)
          refine ⟨_, _, k190 _ ?_, hrun, hended, _, _, rfl, ?_, ⟨_, rfl⟩, hW, hsame.mono (by decide) (by decide)⟩
          · show Steps p.tables e below (T189.setTop (mkF m 98 #[.val (.ref pa), .val (.int p2)] [(.ref b177)])) _
            exact retOut X189 hx Bd.returns rfl (Or.inr (Or.inr (Or.inr (Or.inr ⟨rfl, rfl, rfl⟩)))) (hb hby d5_98) hr
          · show Q5 _ _ _ _ _ _ T189.heap _
            rw [e189]
            exact ⟨b177, rfl, N189, K4, V4.congr (fun j hj => by rw [if_pos hj])⟩
theorem d6_0 : decode prog_48_method_3_code 0 = .ok (.iconst 0, 1) := by decide +kernel
theorem d6_1 : decode prog_48_method_3_code 1 = .ok (.istore_n 2, 1) := by decide +kernel
theorem d6_2 : decode prog_48_method_3_code 2 = .ok (.iconst 0, 1) := by decide +kernel
theorem d6_3 : decode prog_48_method_3_code 3 = .ok (.istore_n 3, 1) := by decide +kernel
theorem d6_4 : decode prog_48_method_3_code 4 = .ok (.iconst (-1), 1) := by decide +kernel
theorem d6_5 : decode prog_48_method_3_code 5 = .ok (.istore 4, 2) := by decide +kernel
theorem d6_7 : decode prog_48_method_3_code 7 = .ok (.iconst 0, 1) := by decide +kernel
theorem d6_8 : decode prog_48_method_3_code 8 = .ok (.istore 5, 2) := by decide +kernel
theorem d6_10 : decode prog_48_method_3_code 10 = .ok (.iload_n 3, 1) := by decide +kernel
theorem d6_11 : decode prog_48_method_3_code 11 = .ok (.aload_n 1, 1) := by decide +kernel
theorem d6_12 : decode prog_48_method_3_code 12 = .ok (.arraylength, 1) := by decide +kernel
theorem d6_13 : decode prog_48_method_3_code 13 = .ok (.if_icmp .ge 82, 3) := by decide +kernel
theorem d6_16 : decode prog_48_method_3_code 16 = .ok (.iload_n 2, 1) := by decide +kernel
theorem d6_17 : decode prog_48_method_3_code 17 = .ok (.aload_n 0, 1) := by decide +kernel
theorem d6_18 : decode prog_48_method_3_code 18 = .ok (.arraylength, 1) := by decide +kernel
theorem d6_19 : decode prog_48_method_3_code 19 = .ok (.if_icmp .ge 23, 3) := by decide +kernel
theorem d6_22 : decode prog_48_method_3_code 22 = .ok (.aload_n 0, 1) := by decide +kernel
theorem d6_23 : decode prog_48_method_3_code 23 = .ok (.iload_n 2, 1) := by decide +kernel
theorem d6_24 : decode prog_48_method_3_code 24 = .ok (.iaload, 1) := by decide +kernel
theorem d6_25 : decode prog_48_method_3_code 25 = .ok (.bipush 42, 2) := by decide +kernel
theorem d6_27 : decode prog_48_method_3_code 27 = .ok (.if_icmp .ne 15, 3) := by decide +kernel
theorem d6_30 : decode prog_48_method_3_code 30 = .ok (.iload_n 2, 1) := by decide +kernel
theorem d6_31 : decode prog_48_method_3_code 31 = .ok (.istore 4, 2) := by decide +kernel
theorem d6_33 : decode prog_48_method_3_code 33 = .ok (.iload_n 3, 1) := by decide +kernel
theorem d6_34 : decode prog_48_method_3_code 34 = .ok (.istore 5, 2) := by decide +kernel
theorem d6_36 : decode prog_48_method_3_code 36 = .ok (.iinc 2 1, 3) := by decide +kernel
theorem d6_39 : decode prog_48_method_3_code 39 = .ok (.goto (-29), 3) := by decide +kernel
theorem d6_42 : decode prog_48_method_3_code 42 = .ok (.iload_n 2, 1) := by decide +kernel
theorem d6_43 : decode prog_48_method_3_code 43 = .ok (.aload_n 0, 1) := by decide +kernel
theorem d6_44 : decode prog_48_method_3_code 44 = .ok (.arraylength, 1) := by decide +kernel
theorem d6_45 : decode prog_48_method_3_code 45 = .ok (.if_icmp .ge 29, 3) := by decide +kernel
theorem d6_48 : decode prog_48_method_3_code 48 = .ok (.aload_n 0, 1) := by decide +kernel
theorem d6_49 : decode prog_48_method_3_code 49 = .ok (.iload_n 2, 1) := by decide +kernel
theorem d6_50 : decode prog_48_method_3_code 50 = .ok (.iaload, 1) := by decide +kernel
theorem d6_51 : decode prog_48_method_3_code 51 = .ok (.bipush 63, 2) := by decide +kernel
theorem d6_53 : decode prog_48_method_3_code 53 = .ok (.if_icmp .eq 12, 3) := by decide +kernel
theorem d6_56 : decode prog_48_method_3_code 56 = .ok (.aload_n 0, 1) := by decide +kernel
theorem d6_57 : decode prog_48_method_3_code 57 = .ok (.iload_n 2, 1) := by decide +kernel
theorem d6_58 : decode prog_48_method_3_code 58 = .ok (.iaload, 1) := by decide +kernel
theorem d6_59 : decode prog_48_method_3_code 59 = .ok (.aload_n 1, 1) := by decide +kernel
theorem d6_60 : decode prog_48_method_3_code 60 = .ok (.iload_n 3, 1) := by decide +kernel
theorem d6_61 : decode prog_48_method_3_code 61 = .ok (.iaload, 1) := by decide +kernel
theorem d6_62 : decode prog_48_method_3_code 62 = .ok (.if_icmp .ne 12, 3) := by decide +kernel
theorem d6_65 : decode prog_48_method_3_code 65 = .ok (.iinc 2 1, 3) := by decide +kernel
theorem d6_68 : decode prog_48_method_3_code 68 = .ok (.iinc 3 1, 3) := by decide +kernel
theorem d6_71 : decode prog_48_method_3_code 71 = .ok (.goto (-61), 3) := by decide +kernel
theorem d6_74 : decode prog_48_method_3_code 74 = .ok (.iload 4, 2) := by decide +kernel
theorem d6_76 : decode prog_48_method_3_code 76 = .ok (.ifCond .lt 17, 3) := by decide +kernel
theorem d6_79 : decode prog_48_method_3_code 79 = .ok (.iinc 5 1, 3) := by decide +kernel
theorem d6_82 : decode prog_48_method_3_code 82 = .ok (.iload 4, 2) := by decide +kernel
theorem d6_84 : decode prog_48_method_3_code 84 = .ok (.iconst 1, 1) := by decide +kernel
theorem d6_85 : decode prog_48_method_3_code 85 = .ok (.iadd, 1) := by decide +kernel
theorem d6_86 : decode prog_48_method_3_code 86 = .ok (.istore_n 2, 1) := by decide +kernel
theorem d6_87 : decode prog_48_method_3_code 87 = .ok (.iload 5, 2) := by decide +kernel
theorem d6_89 : decode prog_48_method_3_code 89 = .ok (.istore_n 3, 1) := by decide +kernel
theorem d6_90 : decode prog_48_method_3_code 90 = .ok (.goto (-80), 3) := by decide +kernel
theorem d6_93 : decode prog_48_method_3_code 93 = .ok (.iconst 0, 1) := by decide +kernel
theorem d6_94 : decode prog_48_method_3_code 94 = .ok (.ireturn, 1) := by decide +kernel
theorem d6_95 : decode prog_48_method_3_code 95 = .ok (.iload_n 2, 1) := by decide +kernel
theorem d6_96 : decode prog_48_method_3_code 96 = .ok (.aload_n 0, 1) := by decide +kernel
theorem d6_97 : decode prog_48_method_3_code 97 = .ok (.arraylength, 1) := by decide +kernel
theorem d6_98 : decode prog_48_method_3_code 98 = .ok (.if_icmp .ge 17, 3) := by decide +kernel
theorem d6_101 : decode prog_48_method_3_code 101 = .ok (.aload_n 0, 1) := by decide +kernel
theorem d6_102 : decode prog_48_method_3_code 102 = .ok (.iload_n 2, 1) := by decide +kernel
theorem d6_103 : decode prog_48_method_3_code 103 = .ok (.iaload, 1) := by decide +kernel
theorem d6_104 : decode prog_48_method_3_code 104 = .ok (.bipush 42, 2) := by decide +kernel
theorem d6_106 : decode prog_48_method_3_code 106 = .ok (.if_icmp .ne 9, 3) := by decide +kernel
theorem d6_109 : decode prog_48_method_3_code 109 = .ok (.iinc 2 1, 3) := by decide +kernel
theorem d6_112 : decode prog_48_method_3_code 112 = .ok (.goto (-17), 3) := by decide +kernel
theorem d6_115 : decode prog_48_method_3_code 115 = .ok (.iload_n 2, 1) := by decide +kernel
theorem d6_116 : decode prog_48_method_3_code 116 = .ok (.aload_n 0, 1) := by decide +kernel
theorem d6_117 : decode prog_48_method_3_code 117 = .ok (.arraylength, 1) := by decide +kernel
theorem d6_118 : decode prog_48_method_3_code 118 = .ok (.if_icmp .ne 7, 3) := by decide +kernel
theorem d6_121 : decode prog_48_method_3_code 121 = .ok (.iconst 1, 1) := by decide +kernel
theorem d6_122 : decode prog_48_method_3_code 122 = .ok (.goto 4, 3) := by decide +kernel
theorem d6_125 : decode prog_48_method_3_code 125 = .ok (.iconst 0, 1) := by decide +kernel
theorem d6_126 : decode prog_48_method_3_code 126 = .ok (.ireturn, 1) := by decide +kernel
theorem pn_6 : plainName "com/example/modalis/modalis/dicom/service/MatchingKey$Wildcard" = true := by first | (simp [plainName, overriddenIn]; done) | decide +kernel
set_option maxRecDepth 65536 in
set_option maxHeartbeats 40000000 in
theorem loopW {p : Program} {l : Launch} {e : Env} {R : Room} {s : State} {m : MethodId} {args : Array Value} {below : List Frame} {meth : Method} {c : Code} {cells slots : Nat} {Z : State} {a0 : Array Value} (hx : p.tables.exec = Jvm.exec) (hZ : Z.Warmed39 s.vm) (hw : ∀ d ∈ tables_1, d.before a0 Z = true) (hby : c.code = prog_48_method_3_code) (hml : c.maxLocals = 6) (hown : s.vm.findClass "com/example/modalis/modalis/dicom/service/MatchingKey$Wildcard" = some m.cls) (pa ta : Addr) (xpl xtl : Int32) (pl tl : Nat) (pf tf : Nat → Int32) (h : Heap) (hpl : xpl.toInt = pl) (htl : xtl.toInt = tl) (pl4 : pl ≤ 4) (tl4 : tl ≤ 4) (Vp : Av Z h pa .int pl (fun k => .int (pf k))) (Vt : Av Z h ta .int tl (fun k => .int (tf k))) :
    ∀ (k s1 u i j : Nat) (xp xt xs xu : Int32) (T0 : State) (locs : List Loc), (pl - s1) * 100 + (tl + 1 - u) * 10 + (pl + 1 - i) ≤ k → i ≤ pl → j ≤ tl → u ≤ tl → s1 ≤ pl → xp.toInt = i → xt.toInt = j → xs.toInt = (s1 : Int) - 1 → xu.toInt = u → u ≤ j → own_I pl tl pf tf s1 u i j → Stand p l e R s m args below meth c T0 locs cells slots → T0.heap = h →
      ∃ (xp' xt' xs' xu' : Int32) (T' : State), Stand p l e R s m args below meth c T' locs cells slots ∧ T'.heap = h ∧ ((own_mm pl tl pf tf 0 0 = false ∧ ∀ t, Steps p.tables e below (T'.setTop (mkF m 93 #[.val (.ref pa), .val (.ref ta), .val (.int xp'), .val (.int xt'), .val (.int xs'), .val (.int xu')] [])) t → Steps p.tables e below (T0.setTop (mkF m 10 #[.val (.ref pa), .val (.ref ta), .val (.int xp), .val (.int xt), .val (.int xs), .val (.int xu)] [])) t) ∨ (∃ i', xp'.toInt = (i' : Nat) ∧ i' ≤ pl ∧ own_mm pl tl pf tf 0 0 = own_mm pl tl pf tf i' tl ∧ ∀ t, Steps p.tables e below (T'.setTop (mkF m 95 #[.val (.ref pa), .val (.ref ta), .val (.int xp'), .val (.int xt'), .val (.int xs'), .val (.int xu')] [])) t → Steps p.tables e below (T0.setTop (mkF m 10 #[.val (.ref pa), .val (.ref ta), .val (.int xp), .val (.int xt), .val (.int xs), .val (.int xu)] [])) t)) := by
  intro k
  induction k with
  | zero =>
    intro s1 u i j xp xt xs xu T0 locs hk
    omega
  | succ k ih =>
    intro s1 u i j xp xt xs xu T0 locs hk il jl ul sl hp ht hs hu uj H X0 e0
    obtain ⟨cp, Ap, Sp, Gp⟩ := Vp
    obtain ⟨ct, At, St, Gt⟩ := Vt
    have kid : ∀ tg, Steps p.tables e below (T0.setTop (mkF m 10 #[.val (.ref pa), .val (.ref ta), .val (.int xp), .val (.int xt), .val (.int xs), .val (.int xu)] [])) tg → Steps p.tables e below (T0.setTop (mkF m 10 #[.val (.ref pa), .val (.ref ta), .val (.int xp), .val (.int xt), .val (.int xs), .val (.int xu)] [])) tg := fun _ kg => kg
    have k191 : ∀ tg, Steps p.tables e below (T0.setTop (mkF m 13 #[.val (.ref pa), .val (.ref ta), .val (.int xp), .val (.int xt), .val (.int xs), .val (.int xu)] [(.int xtl), (.int xt)])) tg → Steps p.tables e below (T0.setTop (mkF m 10 #[.val (.ref pa), .val (.ref ta), .val (.int xp), .val (.int xt), .val (.int xs), .val (.int xu)] [])) tg := fun tg kg => kid tg (by
        show Steps p.tables e below (T0.setTop (mkF m 10 #[.val (.ref pa), .val (.ref ta), .val (.int xp), .val (.int xt), .val (.int xs), .val (.int xu)] [])) _
        refine XS.iloadN X0.here hx rfl (hb hby d6_10) rfl ?_
        show Steps p.tables e below (T0.setTop (mkF m 11 #[.val (.ref pa), .val (.ref ta), .val (.int xp), .val (.int xt), .val (.int xs), .val (.int xu)] [(.int xt)])) _
        refine XS.aloadN X0.here hx rfl (hb hby d6_11) rfl rfl ?_
        show Steps p.tables e below (T0.setTop (mkF m 12 #[.val (.ref pa), .val (.ref ta), .val (.int xp), .val (.int xt), .val (.int xs), .val (.int xu)] [(.ref ta), (.int xt)])) _
        refine X0.arraylength hx (by rw [e0]; exact At.1) (State.isArrayOf_alike hZ.alike At.2.1) (g := (mkF m 12 #[.val (.ref pa), .val (.ref ta), .val (.int xp), .val (.int xt), .val (.int xs), .val (.int xu)] [(.ref ta), (.int xt)])) rfl rfl (hb hby d6_12) _ ?_
        rw [len_of (own_sz St htl) (own_nneg htl)]
        exact kg)
    by_cases c1 : xt < xtl
    · have jt : j < tl := (own_lt ht htl).mp c1
      have k192 : ∀ tg, Steps p.tables e below (T0.setTop (mkF m 16 #[.val (.ref pa), .val (.ref ta), .val (.int xp), .val (.int xt), .val (.int xs), .val (.int xu)] [])) tg → Steps p.tables e below (T0.setTop (mkF m 10 #[.val (.ref pa), .val (.ref ta), .val (.int xp), .val (.int xt), .val (.int xs), .val (.int xu)] [])) tg := fun tg kg => k191 tg (by
          show Steps p.tables e below (T0.setTop (mkF m 13 #[.val (.ref pa), .val (.ref ta), .val (.int xp), .val (.int xt), .val (.int xs), .val (.int xu)] [(.int xtl), (.int xt)])) _
          refine XS.icmpNo X0.here hx rfl (hb hby d6_13) rfl (tlt c1).2.1 ?_
          exact kg)
      have k193 : ∀ tg, Steps p.tables e below (T0.setTop (mkF m 19 #[.val (.ref pa), .val (.ref ta), .val (.int xp), .val (.int xt), .val (.int xs), .val (.int xu)] [(.int xpl), (.int xp)])) tg → Steps p.tables e below (T0.setTop (mkF m 10 #[.val (.ref pa), .val (.ref ta), .val (.int xp), .val (.int xt), .val (.int xs), .val (.int xu)] [])) tg := fun tg kg => k192 tg (by
          show Steps p.tables e below (T0.setTop (mkF m 16 #[.val (.ref pa), .val (.ref ta), .val (.int xp), .val (.int xt), .val (.int xs), .val (.int xu)] [])) _
          refine XS.iloadN X0.here hx rfl (hb hby d6_16) rfl ?_
          show Steps p.tables e below (T0.setTop (mkF m 17 #[.val (.ref pa), .val (.ref ta), .val (.int xp), .val (.int xt), .val (.int xs), .val (.int xu)] [(.int xp)])) _
          refine XS.aloadN X0.here hx rfl (hb hby d6_17) rfl rfl ?_
          show Steps p.tables e below (T0.setTop (mkF m 18 #[.val (.ref pa), .val (.ref ta), .val (.int xp), .val (.int xt), .val (.int xs), .val (.int xu)] [(.ref pa), (.int xp)])) _
          refine X0.arraylength hx (by rw [e0]; exact Ap.1) (State.isArrayOf_alike hZ.alike Ap.2.1) (g := (mkF m 18 #[.val (.ref pa), .val (.ref ta), .val (.int xp), .val (.int xt), .val (.int xs), .val (.int xu)] [(.ref pa), (.int xp)])) rfl rfl (hb hby d6_18) _ ?_
          rw [len_of (own_sz Sp hpl) (own_nneg hpl)]
          exact kg)
      by_cases c2 : xp < xpl
      · have ip : i < pl := (own_lt hp hpl).mp c2
        have k194 : ∀ tg, Steps p.tables e below (T0.setTop (mkF m 22 #[.val (.ref pa), .val (.ref ta), .val (.int xp), .val (.int xt), .val (.int xs), .val (.int xu)] [])) tg → Steps p.tables e below (T0.setTop (mkF m 10 #[.val (.ref pa), .val (.ref ta), .val (.int xp), .val (.int xt), .val (.int xs), .val (.int xu)] [])) tg := fun tg kg => k193 tg (by
            show Steps p.tables e below (T0.setTop (mkF m 19 #[.val (.ref pa), .val (.ref ta), .val (.int xp), .val (.int xt), .val (.int xs), .val (.int xu)] [(.int xpl), (.int xp)])) _
            refine XS.icmpNo X0.here hx rfl (hb hby d6_19) rfl (tlt c2).2.1 ?_
            exact kg)
        have k195 : ∀ tg, Steps p.tables e below (T0.setTop (mkF m 27 #[.val (.ref pa), .val (.ref ta), .val (.int xp), .val (.int xt), .val (.int xs), .val (.int xu)] [(.int (42 : Int32)), (.int (pf i))])) tg → Steps p.tables e below (T0.setTop (mkF m 10 #[.val (.ref pa), .val (.ref ta), .val (.int xp), .val (.int xt), .val (.int xs), .val (.int xu)] [])) tg := fun tg kg => k194 tg (by
            show Steps p.tables e below (T0.setTop (mkF m 22 #[.val (.ref pa), .val (.ref ta), .val (.int xp), .val (.int xt), .val (.int xs), .val (.int xu)] [])) _
            refine XS.aloadN X0.here hx rfl (hb hby d6_22) rfl rfl ?_
            show Steps p.tables e below (T0.setTop (mkF m 23 #[.val (.ref pa), .val (.ref ta), .val (.int xp), .val (.int xt), .val (.int xs), .val (.int xu)] [(.ref pa)])) _
            refine XS.iloadN X0.here hx rfl (hb hby d6_23) rfl ?_
            show Steps p.tables e below (T0.setTop (mkF m 24 #[.val (.ref pa), .val (.ref ta), .val (.int xp), .val (.int xt), .val (.int xs), .val (.int xu)] [(.int xp), (.ref pa)])) _
            refine X0.iaload hx (j := xp) (v := (.int (pf i))) (by rw [e0]; exact Ap.1) (State.isArrayOf_alike hZ.alike Ap.2.1) Ap.2.2 (own_hin Sp hp ip) (own_hat Gp hp ip) (g := (mkF m 24 #[.val (.ref pa), .val (.ref ta), .val (.int xp), .val (.int xt), .val (.int xs), .val (.int xu)] [(.int xp), (.ref pa)])) rfl rfl (hb hby d6_24) _ ?_
            show Steps p.tables e below (T0.setTop (mkF m 25 #[.val (.ref pa), .val (.ref ta), .val (.int xp), .val (.int xt), .val (.int xs), .val (.int xu)] [(.int (pf i))])) _
            refine XS.bipush X0.here hx rfl (hb hby d6_25) ?_
            exact kg)
        by_cases c3 : pf i = (42 : Int32)
        · have k196 : ∀ tg, Steps p.tables e below (T0.setTop (mkF m 30 #[.val (.ref pa), .val (.ref ta), .val (.int xp), .val (.int xt), .val (.int xs), .val (.int xu)] [])) tg → Steps p.tables e below (T0.setTop (mkF m 10 #[.val (.ref pa), .val (.ref ta), .val (.int xp), .val (.int xt), .val (.int xs), .val (.int xu)] [])) tg := fun tg kg => k195 tg (by
              show Steps p.tables e below (T0.setTop (mkF m 27 #[.val (.ref pa), .val (.ref ta), .val (.int xp), .val (.int xt), .val (.int xs), .val (.int xu)] [(.int (42 : Int32)), (.int (pf i))])) _
              refine XS.icmpNo X0.here hx rfl (hb hby d6_27) rfl (teq c3).2 ?_
              exact kg)
          have k197 : ∀ tg, Steps p.tables e below (T0.setTop (mkF m 10 #[.val (.ref pa), .val (.ref ta), .val (.int (xp + (1 : Int32))), .val (.int xt), .val (.int xp), .val (.int xt)] [])) tg → Steps p.tables e below (T0.setTop (mkF m 10 #[.val (.ref pa), .val (.ref ta), .val (.int xp), .val (.int xt), .val (.int xs), .val (.int xu)] [])) tg := fun tg kg => k196 tg (by
              show Steps p.tables e below (T0.setTop (mkF m 30 #[.val (.ref pa), .val (.ref ta), .val (.int xp), .val (.int xt), .val (.int xs), .val (.int xu)] [])) _
              refine XS.iloadN X0.here hx rfl (hb hby d6_30) rfl ?_
              show Steps p.tables e below (T0.setTop (mkF m 31 #[.val (.ref pa), .val (.ref ta), .val (.int xp), .val (.int xt), .val (.int xs), .val (.int xu)] [(.int xp)])) _
              refine XS.istore X0.here hx rfl (hb hby d6_31) rfl (l' := #[.val (.ref pa), .val (.ref ta), .val (.int xp), .val (.int xt), .val (.int xp), .val (.int xu)]) rfl ?_
              show Steps p.tables e below (T0.setTop (mkF m 33 #[.val (.ref pa), .val (.ref ta), .val (.int xp), .val (.int xt), .val (.int xp), .val (.int xu)] [])) _
              refine XS.iloadN X0.here hx rfl (hb hby d6_33) rfl ?_
              show Steps p.tables e below (T0.setTop (mkF m 34 #[.val (.ref pa), .val (.ref ta), .val (.int xp), .val (.int xt), .val (.int xp), .val (.int xu)] [(.int xt)])) _
              refine XS.istore X0.here hx rfl (hb hby d6_34) rfl (l' := #[.val (.ref pa), .val (.ref ta), .val (.int xp), .val (.int xt), .val (.int xp), .val (.int xt)]) rfl ?_
              show Steps p.tables e below (T0.setTop (mkF m 36 #[.val (.ref pa), .val (.ref ta), .val (.int xp), .val (.int xt), .val (.int xp), .val (.int xt)] [])) _
              refine XS.iinc X0.here hx rfl (hb hby d6_36) rfl (l' := #[.val (.ref pa), .val (.ref ta), .val (.int (xp + (1 : Int32))), .val (.int xt), .val (.int xp), .val (.int xt)]) rfl ?_
              show Steps p.tables e below (T0.setTop (mkF m 39 #[.val (.ref pa), .val (.ref ta), .val (.int (xp + (1 : Int32))), .val (.int xt), .val (.int xp), .val (.int xt)] [])) _
              refine XS.goto X0.here hx rfl (pc0 := 39) (pc' := 10) rfl (hb hby d6_39) (by decide) (by decide) ?_
              exact kg)
          have si : s1 ≤ i := by rcases H with ⟨q, -⟩ | ⟨-, q, -⟩ <;> omega
          have H2 := own_i1 H ip (by omega) c3
          obtain ⟨xp', xt', xs', xu', T', X', e', r⟩ := ih (i + 1) j (i + 1) j _ _ _ _ _ _ (by omega) (by omega) (by omega) (by omega) (by omega) (own_inc hp (by omega)) ht (by rw [hp]; omega) ht (Nat.le_refl _) H2 X0 e0
          exact ⟨xp', xt', xs', xu', T', X', e', r.imp (fun ⟨z, kk⟩ => ⟨z, fun t k => k197 t (kk t k)⟩) (fun ⟨i', z1, z2, z3, kk⟩ => ⟨i', z1, z2, z3, fun t k => k197 t (kk t k)⟩)⟩
        · have k198 : ∀ tg, Steps p.tables e below (T0.setTop (mkF m 42 #[.val (.ref pa), .val (.ref ta), .val (.int xp), .val (.int xt), .val (.int xs), .val (.int xu)] [])) tg → Steps p.tables e below (T0.setTop (mkF m 10 #[.val (.ref pa), .val (.ref ta), .val (.int xp), .val (.int xt), .val (.int xs), .val (.int xu)] [])) tg := fun tg kg => k195 tg (by
              show Steps p.tables e below (T0.setTop (mkF m 27 #[.val (.ref pa), .val (.ref ta), .val (.int xp), .val (.int xt), .val (.int xs), .val (.int xu)] [(.int (42 : Int32)), (.int (pf i))])) _
              refine XS.icmpYes X0.here hx rfl (pc0 := 27) (pc' := 42) rfl (hb hby d6_27) rfl (feq c3).2 (by decide) (by decide) ?_
              exact kg)
          have k199 : ∀ tg, Steps p.tables e below (T0.setTop (mkF m 53 #[.val (.ref pa), .val (.ref ta), .val (.int xp), .val (.int xt), .val (.int xs), .val (.int xu)] [(.int (63 : Int32)), (.int (pf i))])) tg → Steps p.tables e below (T0.setTop (mkF m 10 #[.val (.ref pa), .val (.ref ta), .val (.int xp), .val (.int xt), .val (.int xs), .val (.int xu)] [])) tg := fun tg kg => k198 tg (by
              show Steps p.tables e below (T0.setTop (mkF m 42 #[.val (.ref pa), .val (.ref ta), .val (.int xp), .val (.int xt), .val (.int xs), .val (.int xu)] [])) _
              refine XS.iloadN X0.here hx rfl (hb hby d6_42) rfl ?_
              show Steps p.tables e below (T0.setTop (mkF m 43 #[.val (.ref pa), .val (.ref ta), .val (.int xp), .val (.int xt), .val (.int xs), .val (.int xu)] [(.int xp)])) _
              refine XS.aloadN X0.here hx rfl (hb hby d6_43) rfl rfl ?_
              show Steps p.tables e below (T0.setTop (mkF m 44 #[.val (.ref pa), .val (.ref ta), .val (.int xp), .val (.int xt), .val (.int xs), .val (.int xu)] [(.ref pa), (.int xp)])) _
              refine X0.arraylength hx (by rw [e0]; exact Ap.1) (State.isArrayOf_alike hZ.alike Ap.2.1) (g := (mkF m 44 #[.val (.ref pa), .val (.ref ta), .val (.int xp), .val (.int xt), .val (.int xs), .val (.int xu)] [(.ref pa), (.int xp)])) rfl rfl (hb hby d6_44) _ ?_
              rw [len_of (own_sz Sp hpl) (own_nneg hpl)]
              show Steps p.tables e below (T0.setTop (mkF m 45 #[.val (.ref pa), .val (.ref ta), .val (.int xp), .val (.int xt), .val (.int xs), .val (.int xu)] [(.int xpl), (.int xp)])) _
              refine XS.icmpNo X0.here hx rfl (hb hby d6_45) rfl (tlt c2).2.1 ?_
              show Steps p.tables e below (T0.setTop (mkF m 48 #[.val (.ref pa), .val (.ref ta), .val (.int xp), .val (.int xt), .val (.int xs), .val (.int xu)] [])) _
              refine XS.aloadN X0.here hx rfl (hb hby d6_48) rfl rfl ?_
              show Steps p.tables e below (T0.setTop (mkF m 49 #[.val (.ref pa), .val (.ref ta), .val (.int xp), .val (.int xt), .val (.int xs), .val (.int xu)] [(.ref pa)])) _
              refine XS.iloadN X0.here hx rfl (hb hby d6_49) rfl ?_
              show Steps p.tables e below (T0.setTop (mkF m 50 #[.val (.ref pa), .val (.ref ta), .val (.int xp), .val (.int xt), .val (.int xs), .val (.int xu)] [(.int xp), (.ref pa)])) _
              refine X0.iaload hx (j := xp) (v := (.int (pf i))) (by rw [e0]; exact Ap.1) (State.isArrayOf_alike hZ.alike Ap.2.1) Ap.2.2 (own_hin Sp hp ip) (own_hat Gp hp ip) (g := (mkF m 50 #[.val (.ref pa), .val (.ref ta), .val (.int xp), .val (.int xt), .val (.int xs), .val (.int xu)] [(.int xp), (.ref pa)])) rfl rfl (hb hby d6_50) _ ?_
              show Steps p.tables e below (T0.setTop (mkF m 51 #[.val (.ref pa), .val (.ref ta), .val (.int xp), .val (.int xt), .val (.int xs), .val (.int xu)] [(.int (pf i))])) _
              refine XS.bipush X0.here hx rfl (hb hby d6_51) ?_
              exact kg)
          by_cases c4 : pf i = (63 : Int32)
          · have k200 : ∀ tg, Steps p.tables e below (T0.setTop (mkF m 65 #[.val (.ref pa), .val (.ref ta), .val (.int xp), .val (.int xt), .val (.int xs), .val (.int xu)] [])) tg → Steps p.tables e below (T0.setTop (mkF m 10 #[.val (.ref pa), .val (.ref ta), .val (.int xp), .val (.int xt), .val (.int xs), .val (.int xu)] [])) tg := fun tg kg => k199 tg (by
                show Steps p.tables e below (T0.setTop (mkF m 53 #[.val (.ref pa), .val (.ref ta), .val (.int xp), .val (.int xt), .val (.int xs), .val (.int xu)] [(.int (63 : Int32)), (.int (pf i))])) _
                refine XS.icmpYes X0.here hx rfl (pc0 := 53) (pc' := 65) rfl (hb hby d6_53) rfl (teq c4).1 (by decide) (by decide) ?_
                exact kg)
            have k201 : ∀ tg, Steps p.tables e below (T0.setTop (mkF m 10 #[.val (.ref pa), .val (.ref ta), .val (.int (xp + (1 : Int32))), .val (.int (xt + (1 : Int32))), .val (.int xs), .val (.int xu)] [])) tg → Steps p.tables e below (T0.setTop (mkF m 10 #[.val (.ref pa), .val (.ref ta), .val (.int xp), .val (.int xt), .val (.int xs), .val (.int xu)] [])) tg := fun tg kg => k200 tg (by
                show Steps p.tables e below (T0.setTop (mkF m 65 #[.val (.ref pa), .val (.ref ta), .val (.int xp), .val (.int xt), .val (.int xs), .val (.int xu)] [])) _
                refine XS.iinc X0.here hx rfl (hb hby d6_65) rfl (l' := #[.val (.ref pa), .val (.ref ta), .val (.int (xp + (1 : Int32))), .val (.int xt), .val (.int xs), .val (.int xu)]) rfl ?_
                show Steps p.tables e below (T0.setTop (mkF m 68 #[.val (.ref pa), .val (.ref ta), .val (.int (xp + (1 : Int32))), .val (.int xt), .val (.int xs), .val (.int xu)] [])) _
                refine XS.iinc X0.here hx rfl (hb hby d6_68) rfl (l' := #[.val (.ref pa), .val (.ref ta), .val (.int (xp + (1 : Int32))), .val (.int (xt + (1 : Int32))), .val (.int xs), .val (.int xu)]) rfl ?_
                show Steps p.tables e below (T0.setTop (mkF m 71 #[.val (.ref pa), .val (.ref ta), .val (.int (xp + (1 : Int32))), .val (.int (xt + (1 : Int32))), .val (.int xs), .val (.int xu)] [])) _
                refine XS.goto X0.here hx rfl (pc0 := 71) (pc' := 10) rfl (hb hby d6_71) (by decide) (by decide) ?_
                exact kg)
            have H2 := own_i2 H ip jt c3 (Or.inl c4)
            obtain ⟨xp', xt', xs', xu', T', X', e', r⟩ := ih s1 u (i + 1) (j + 1) _ _ _ _ _ _ (by omega) (by omega) (by omega) ul sl (own_inc hp (by omega)) (own_inc ht (by omega)) hs hu (by omega) H2 X0 e0
            exact ⟨xp', xt', xs', xu', T', X', e', r.imp (fun ⟨z, kk⟩ => ⟨z, fun t k => k201 t (kk t k)⟩) (fun ⟨i', z1, z2, z3, kk⟩ => ⟨i', z1, z2, z3, fun t k => k201 t (kk t k)⟩)⟩
          · have k202 : ∀ tg, Steps p.tables e below (T0.setTop (mkF m 56 #[.val (.ref pa), .val (.ref ta), .val (.int xp), .val (.int xt), .val (.int xs), .val (.int xu)] [])) tg → Steps p.tables e below (T0.setTop (mkF m 10 #[.val (.ref pa), .val (.ref ta), .val (.int xp), .val (.int xt), .val (.int xs), .val (.int xu)] [])) tg := fun tg kg => k199 tg (by
                show Steps p.tables e below (T0.setTop (mkF m 53 #[.val (.ref pa), .val (.ref ta), .val (.int xp), .val (.int xt), .val (.int xs), .val (.int xu)] [(.int (63 : Int32)), (.int (pf i))])) _
                refine XS.icmpNo X0.here hx rfl (hb hby d6_53) rfl (feq c4).1 ?_
                exact kg)
            have k203 : ∀ tg, Steps p.tables e below (T0.setTop (mkF m 62 #[.val (.ref pa), .val (.ref ta), .val (.int xp), .val (.int xt), .val (.int xs), .val (.int xu)] [(.int (tf j)), (.int (pf i))])) tg → Steps p.tables e below (T0.setTop (mkF m 10 #[.val (.ref pa), .val (.ref ta), .val (.int xp), .val (.int xt), .val (.int xs), .val (.int xu)] [])) tg := fun tg kg => k202 tg (by
                show Steps p.tables e below (T0.setTop (mkF m 56 #[.val (.ref pa), .val (.ref ta), .val (.int xp), .val (.int xt), .val (.int xs), .val (.int xu)] [])) _
                refine XS.aloadN X0.here hx rfl (hb hby d6_56) rfl rfl ?_
                show Steps p.tables e below (T0.setTop (mkF m 57 #[.val (.ref pa), .val (.ref ta), .val (.int xp), .val (.int xt), .val (.int xs), .val (.int xu)] [(.ref pa)])) _
                refine XS.iloadN X0.here hx rfl (hb hby d6_57) rfl ?_
                show Steps p.tables e below (T0.setTop (mkF m 58 #[.val (.ref pa), .val (.ref ta), .val (.int xp), .val (.int xt), .val (.int xs), .val (.int xu)] [(.int xp), (.ref pa)])) _
                refine X0.iaload hx (j := xp) (v := (.int (pf i))) (by rw [e0]; exact Ap.1) (State.isArrayOf_alike hZ.alike Ap.2.1) Ap.2.2 (own_hin Sp hp ip) (own_hat Gp hp ip) (g := (mkF m 58 #[.val (.ref pa), .val (.ref ta), .val (.int xp), .val (.int xt), .val (.int xs), .val (.int xu)] [(.int xp), (.ref pa)])) rfl rfl (hb hby d6_58) _ ?_
                show Steps p.tables e below (T0.setTop (mkF m 59 #[.val (.ref pa), .val (.ref ta), .val (.int xp), .val (.int xt), .val (.int xs), .val (.int xu)] [(.int (pf i))])) _
                refine XS.aloadN X0.here hx rfl (hb hby d6_59) rfl rfl ?_
                show Steps p.tables e below (T0.setTop (mkF m 60 #[.val (.ref pa), .val (.ref ta), .val (.int xp), .val (.int xt), .val (.int xs), .val (.int xu)] [(.ref ta), (.int (pf i))])) _
                refine XS.iloadN X0.here hx rfl (hb hby d6_60) rfl ?_
                show Steps p.tables e below (T0.setTop (mkF m 61 #[.val (.ref pa), .val (.ref ta), .val (.int xp), .val (.int xt), .val (.int xs), .val (.int xu)] [(.int xt), (.ref ta), (.int (pf i))])) _
                refine X0.iaload hx (j := xt) (v := (.int (tf j))) (by rw [e0]; exact At.1) (State.isArrayOf_alike hZ.alike At.2.1) At.2.2 (own_hin St ht jt) (own_hat Gt ht jt) (g := (mkF m 61 #[.val (.ref pa), .val (.ref ta), .val (.int xp), .val (.int xt), .val (.int xs), .val (.int xu)] [(.int xt), (.ref ta), (.int (pf i))])) rfl rfl (hb hby d6_61) _ ?_
                exact kg)
            by_cases c5 : pf i = tf j
            · have k204 : ∀ tg, Steps p.tables e below (T0.setTop (mkF m 65 #[.val (.ref pa), .val (.ref ta), .val (.int xp), .val (.int xt), .val (.int xs), .val (.int xu)] [])) tg → Steps p.tables e below (T0.setTop (mkF m 10 #[.val (.ref pa), .val (.ref ta), .val (.int xp), .val (.int xt), .val (.int xs), .val (.int xu)] [])) tg := fun tg kg => k203 tg (by
                  show Steps p.tables e below (T0.setTop (mkF m 62 #[.val (.ref pa), .val (.ref ta), .val (.int xp), .val (.int xt), .val (.int xs), .val (.int xu)] [(.int (tf j)), (.int (pf i))])) _
                  refine XS.icmpNo X0.here hx rfl (hb hby d6_62) rfl (teq c5).2 ?_
                  exact kg)
              have k205 : ∀ tg, Steps p.tables e below (T0.setTop (mkF m 10 #[.val (.ref pa), .val (.ref ta), .val (.int (xp + (1 : Int32))), .val (.int (xt + (1 : Int32))), .val (.int xs), .val (.int xu)] [])) tg → Steps p.tables e below (T0.setTop (mkF m 10 #[.val (.ref pa), .val (.ref ta), .val (.int xp), .val (.int xt), .val (.int xs), .val (.int xu)] [])) tg := fun tg kg => k204 tg (by
                  show Steps p.tables e below (T0.setTop (mkF m 65 #[.val (.ref pa), .val (.ref ta), .val (.int xp), .val (.int xt), .val (.int xs), .val (.int xu)] [])) _
                  refine XS.iinc X0.here hx rfl (hb hby d6_65) rfl (l' := #[.val (.ref pa), .val (.ref ta), .val (.int (xp + (1 : Int32))), .val (.int xt), .val (.int xs), .val (.int xu)]) rfl ?_
                  show Steps p.tables e below (T0.setTop (mkF m 68 #[.val (.ref pa), .val (.ref ta), .val (.int (xp + (1 : Int32))), .val (.int xt), .val (.int xs), .val (.int xu)] [])) _
                  refine XS.iinc X0.here hx rfl (hb hby d6_68) rfl (l' := #[.val (.ref pa), .val (.ref ta), .val (.int (xp + (1 : Int32))), .val (.int (xt + (1 : Int32))), .val (.int xs), .val (.int xu)]) rfl ?_
                  show Steps p.tables e below (T0.setTop (mkF m 71 #[.val (.ref pa), .val (.ref ta), .val (.int (xp + (1 : Int32))), .val (.int (xt + (1 : Int32))), .val (.int xs), .val (.int xu)] [])) _
                  refine XS.goto X0.here hx rfl (pc0 := 71) (pc' := 10) rfl (hb hby d6_71) (by decide) (by decide) ?_
                  exact kg)
              have H2 := own_i2 H ip jt c3 (Or.inr c5)
              obtain ⟨xp', xt', xs', xu', T', X', e', r⟩ := ih s1 u (i + 1) (j + 1) _ _ _ _ _ _ (by omega) (by omega) (by omega) ul sl (own_inc hp (by omega)) (own_inc ht (by omega)) hs hu (by omega) H2 X0 e0
              exact ⟨xp', xt', xs', xu', T', X', e', r.imp (fun ⟨z, kk⟩ => ⟨z, fun t k => k205 t (kk t k)⟩) (fun ⟨i', z1, z2, z3, kk⟩ => ⟨i', z1, z2, z3, fun t k => k205 t (kk t k)⟩)⟩
            · have k206 : ∀ tg, Steps p.tables e below (T0.setTop (mkF m 74 #[.val (.ref pa), .val (.ref ta), .val (.int xp), .val (.int xt), .val (.int xs), .val (.int xu)] [])) tg → Steps p.tables e below (T0.setTop (mkF m 10 #[.val (.ref pa), .val (.ref ta), .val (.int xp), .val (.int xt), .val (.int xs), .val (.int xu)] [])) tg := fun tg kg => k203 tg (by
                  show Steps p.tables e below (T0.setTop (mkF m 62 #[.val (.ref pa), .val (.ref ta), .val (.int xp), .val (.int xt), .val (.int xs), .val (.int xu)] [(.int (tf j)), (.int (pf i))])) _
                  refine XS.icmpYes X0.here hx rfl (pc0 := 62) (pc' := 74) rfl (hb hby d6_62) rfl (feq c5).2 (by decide) (by decide) ?_
                  exact kg)
              have hno : own_mm pl tl pf tf i j = false := own_no il jt (fun _ => ⟨c3, c4, c5⟩)
              have k207 : ∀ tg, Steps p.tables e below (T0.setTop (mkF m 76 #[.val (.ref pa), .val (.ref ta), .val (.int xp), .val (.int xt), .val (.int xs), .val (.int xu)] [(.int xs)])) tg → Steps p.tables e below (T0.setTop (mkF m 10 #[.val (.ref pa), .val (.ref ta), .val (.int xp), .val (.int xt), .val (.int xs), .val (.int xu)] [])) tg := fun tg kg => k206 tg (by
                  show Steps p.tables e below (T0.setTop (mkF m 74 #[.val (.ref pa), .val (.ref ta), .val (.int xp), .val (.int xt), .val (.int xs), .val (.int xu)] [])) _
                  refine XS.iload X0.here hx rfl (hb hby d6_74) rfl ?_
                  exact kg)
              by_cases hstar : xs < (0 : Int32)
              · have s0 : s1 = 0 := by rw [Int32.lt_iff_toInt_lt, hs, show (0 : Int32).toInt = 0 from by decide] at hstar; omega
                subst s0
                have k208 : ∀ tg, Steps p.tables e below (T0.setTop (mkF m 93 #[.val (.ref pa), .val (.ref ta), .val (.int xp), .val (.int xt), .val (.int xs), .val (.int xu)] [])) tg → Steps p.tables e below (T0.setTop (mkF m 10 #[.val (.ref pa), .val (.ref ta), .val (.int xp), .val (.int xt), .val (.int xs), .val (.int xu)] [])) tg := fun tg kg => k207 tg (by
                    show Steps p.tables e below (T0.setTop (mkF m 76 #[.val (.ref pa), .val (.ref ta), .val (.int xp), .val (.int xt), .val (.int xs), .val (.int xu)] [(.int xs)])) _
                    refine XS.ifYes X0.here hx rfl (pc0 := 76) (pc' := 93) rfl (hb hby d6_76) rfl ((if0 _ _).trans (tlt hstar).1) (by decide) (by decide) ?_
                    exact kg)
                exact ⟨xp, xt, xs, xu, T0, X0, e0, Or.inl ⟨own_i4 H hno, k208⟩⟩
              · have s0 : 0 < s1 := by rw [Int32.lt_iff_toInt_lt, hs, show (0 : Int32).toInt = 0 from by decide] at hstar; omega
                have hs1 : (xs + (1 : Int32)).toInt = (s1 : Nat) := by
                  have e := own_inc (x := xs) (i := s1 - 1) (by omega) (by omega)
                  rw [e]; omega
                have H2 := own_i3 H s0 jt hno
                have hsi : s1 ≤ pl := sl
                have k209 : ∀ tg, Steps p.tables e below (T0.setTop (mkF m 79 #[.val (.ref pa), .val (.ref ta), .val (.int xp), .val (.int xt), .val (.int xs), .val (.int xu)] [])) tg → Steps p.tables e below (T0.setTop (mkF m 10 #[.val (.ref pa), .val (.ref ta), .val (.int xp), .val (.int xt), .val (.int xs), .val (.int xu)] [])) tg := fun tg kg => k207 tg (by
                    show Steps p.tables e below (T0.setTop (mkF m 76 #[.val (.ref pa), .val (.ref ta), .val (.int xp), .val (.int xt), .val (.int xs), .val (.int xu)] [(.int xs)])) _
                    refine XS.ifNo X0.here hx rfl (hb hby d6_76) rfl ((if0 _ _).trans (flt hstar).1) ?_
                    exact kg)
                have k210 : ∀ tg, Steps p.tables e below (T0.setTop (mkF m 10 #[.val (.ref pa), .val (.ref ta), .val (.int (xs + (1 : Int32))), .val (.int (xu + (1 : Int32))), .val (.int xs), .val (.int (xu + (1 : Int32)))] [])) tg → Steps p.tables e below (T0.setTop (mkF m 10 #[.val (.ref pa), .val (.ref ta), .val (.int xp), .val (.int xt), .val (.int xs), .val (.int xu)] [])) tg := fun tg kg => k209 tg (by
                    show Steps p.tables e below (T0.setTop (mkF m 79 #[.val (.ref pa), .val (.ref ta), .val (.int xp), .val (.int xt), .val (.int xs), .val (.int xu)] [])) _
                    refine XS.iinc X0.here hx rfl (hb hby d6_79) rfl (l' := #[.val (.ref pa), .val (.ref ta), .val (.int xp), .val (.int xt), .val (.int xs), .val (.int (xu + (1 : Int32)))]) rfl ?_
                    show Steps p.tables e below (T0.setTop (mkF m 82 #[.val (.ref pa), .val (.ref ta), .val (.int xp), .val (.int xt), .val (.int xs), .val (.int (xu + (1 : Int32)))] [])) _
                    refine XS.iload X0.here hx rfl (hb hby d6_82) rfl ?_
                    show Steps p.tables e below (T0.setTop (mkF m 84 #[.val (.ref pa), .val (.ref ta), .val (.int xp), .val (.int xt), .val (.int xs), .val (.int (xu + (1 : Int32)))] [(.int xs)])) _
                    refine XS.iconst X0.here hx rfl (hb hby d6_84) ?_
                    show Steps p.tables e below (T0.setTop (mkF m 85 #[.val (.ref pa), .val (.ref ta), .val (.int xp), .val (.int xt), .val (.int xs), .val (.int (xu + (1 : Int32)))] [(.int (1 : Int32)), (.int xs)])) _
                    refine XS.iadd X0.here hx rfl (hb hby d6_85) rfl ?_
                    show Steps p.tables e below (T0.setTop (mkF m 86 #[.val (.ref pa), .val (.ref ta), .val (.int xp), .val (.int xt), .val (.int xs), .val (.int (xu + (1 : Int32)))] [(.int (xs + (1 : Int32)))])) _
                    refine XS.istoreN X0.here hx rfl (hb hby d6_86) rfl (l' := #[.val (.ref pa), .val (.ref ta), .val (.int (xs + (1 : Int32))), .val (.int xt), .val (.int xs), .val (.int (xu + (1 : Int32)))]) rfl ?_
                    show Steps p.tables e below (T0.setTop (mkF m 87 #[.val (.ref pa), .val (.ref ta), .val (.int (xs + (1 : Int32))), .val (.int xt), .val (.int xs), .val (.int (xu + (1 : Int32)))] [])) _
                    refine XS.iload X0.here hx rfl (hb hby d6_87) rfl ?_
                    show Steps p.tables e below (T0.setTop (mkF m 89 #[.val (.ref pa), .val (.ref ta), .val (.int (xs + (1 : Int32))), .val (.int xt), .val (.int xs), .val (.int (xu + (1 : Int32)))] [(.int (xu + (1 : Int32)))])) _
                    refine XS.istoreN X0.here hx rfl (hb hby d6_89) rfl (l' := #[.val (.ref pa), .val (.ref ta), .val (.int (xs + (1 : Int32))), .val (.int (xu + (1 : Int32))), .val (.int xs), .val (.int (xu + (1 : Int32)))]) rfl ?_
                    show Steps p.tables e below (T0.setTop (mkF m 90 #[.val (.ref pa), .val (.ref ta), .val (.int (xs + (1 : Int32))), .val (.int (xu + (1 : Int32))), .val (.int xs), .val (.int (xu + (1 : Int32)))] [])) _
                    refine XS.goto X0.here hx rfl (pc0 := 90) (pc' := 10) rfl (hb hby d6_90) (by decide) (by decide) ?_
                    exact kg)
                obtain ⟨xp', xt', xs', xu', T', X', e', r⟩ := ih s1 (u + 1) s1 (u + 1) _ _ _ _ _ _ (by omega) sl (by omega) (by omega) sl hs1 (own_inc hu (by omega)) hs (own_inc hu (by omega)) (Nat.le_refl _) H2 X0 e0
                exact ⟨xp', xt', xs', xu', T', X', e', r.imp (fun ⟨z, kk⟩ => ⟨z, fun t k => k210 t (kk t k)⟩) (fun ⟨i', z1, z2, z3, kk⟩ => ⟨i', z1, z2, z3, fun t k => k210 t (kk t k)⟩)⟩
      · have ip : ¬ i < pl := fun q => c2 ((own_lt hp hpl).mpr q)
        have k211 : ∀ tg, Steps p.tables e below (T0.setTop (mkF m 42 #[.val (.ref pa), .val (.ref ta), .val (.int xp), .val (.int xt), .val (.int xs), .val (.int xu)] [])) tg → Steps p.tables e below (T0.setTop (mkF m 10 #[.val (.ref pa), .val (.ref ta), .val (.int xp), .val (.int xt), .val (.int xs), .val (.int xu)] [])) tg := fun tg kg => k193 tg (by
            show Steps p.tables e below (T0.setTop (mkF m 19 #[.val (.ref pa), .val (.ref ta), .val (.int xp), .val (.int xt), .val (.int xs), .val (.int xu)] [(.int xpl), (.int xp)])) _
            refine XS.icmpYes X0.here hx rfl (pc0 := 19) (pc' := 42) rfl (hb hby d6_19) rfl (flt c2).2.1 (by decide) (by decide) ?_
            exact kg)
        have k212 : ∀ tg, Steps p.tables e below (T0.setTop (mkF m 76 #[.val (.ref pa), .val (.ref ta), .val (.int xp), .val (.int xt), .val (.int xs), .val (.int xu)] [(.int xs)])) tg → Steps p.tables e below (T0.setTop (mkF m 10 #[.val (.ref pa), .val (.ref ta), .val (.int xp), .val (.int xt), .val (.int xs), .val (.int xu)] [])) tg := fun tg kg => k211 tg (by
            show Steps p.tables e below (T0.setTop (mkF m 42 #[.val (.ref pa), .val (.ref ta), .val (.int xp), .val (.int xt), .val (.int xs), .val (.int xu)] [])) _
            refine XS.iloadN X0.here hx rfl (hb hby d6_42) rfl ?_
            show Steps p.tables e below (T0.setTop (mkF m 43 #[.val (.ref pa), .val (.ref ta), .val (.int xp), .val (.int xt), .val (.int xs), .val (.int xu)] [(.int xp)])) _
            refine XS.aloadN X0.here hx rfl (hb hby d6_43) rfl rfl ?_
            show Steps p.tables e below (T0.setTop (mkF m 44 #[.val (.ref pa), .val (.ref ta), .val (.int xp), .val (.int xt), .val (.int xs), .val (.int xu)] [(.ref pa), (.int xp)])) _
            refine X0.arraylength hx (by rw [e0]; exact Ap.1) (State.isArrayOf_alike hZ.alike Ap.2.1) (g := (mkF m 44 #[.val (.ref pa), .val (.ref ta), .val (.int xp), .val (.int xt), .val (.int xs), .val (.int xu)] [(.ref pa), (.int xp)])) rfl rfl (hb hby d6_44) _ ?_
            rw [len_of (own_sz Sp hpl) (own_nneg hpl)]
            show Steps p.tables e below (T0.setTop (mkF m 45 #[.val (.ref pa), .val (.ref ta), .val (.int xp), .val (.int xt), .val (.int xs), .val (.int xu)] [(.int xpl), (.int xp)])) _
            refine XS.icmpYes X0.here hx rfl (pc0 := 45) (pc' := 74) rfl (hb hby d6_45) rfl (flt c2).2.1 (by decide) (by decide) ?_
            show Steps p.tables e below (T0.setTop (mkF m 74 #[.val (.ref pa), .val (.ref ta), .val (.int xp), .val (.int xt), .val (.int xs), .val (.int xu)] [])) _
            refine XS.iload X0.here hx rfl (hb hby d6_74) rfl ?_
            exact kg)
        have hno : own_mm pl tl pf tf i j = false := own_no il jt (fun q => absurd q ip)
        by_cases hstar : xs < (0 : Int32)
        · have s0 : s1 = 0 := by rw [Int32.lt_iff_toInt_lt, hs, show (0 : Int32).toInt = 0 from by decide] at hstar; omega
          subst s0
          have k213 : ∀ tg, Steps p.tables e below (T0.setTop (mkF m 93 #[.val (.ref pa), .val (.ref ta), .val (.int xp), .val (.int xt), .val (.int xs), .val (.int xu)] [])) tg → Steps p.tables e below (T0.setTop (mkF m 10 #[.val (.ref pa), .val (.ref ta), .val (.int xp), .val (.int xt), .val (.int xs), .val (.int xu)] [])) tg := fun tg kg => k212 tg (by
              show Steps p.tables e below (T0.setTop (mkF m 76 #[.val (.ref pa), .val (.ref ta), .val (.int xp), .val (.int xt), .val (.int xs), .val (.int xu)] [(.int xs)])) _
              refine XS.ifYes X0.here hx rfl (pc0 := 76) (pc' := 93) rfl (hb hby d6_76) rfl ((if0 _ _).trans (tlt hstar).1) (by decide) (by decide) ?_
              exact kg)
          exact ⟨xp, xt, xs, xu, T0, X0, e0, Or.inl ⟨own_i4 H hno, k213⟩⟩
        · have s0 : 0 < s1 := by rw [Int32.lt_iff_toInt_lt, hs, show (0 : Int32).toInt = 0 from by decide] at hstar; omega
          have hs1 : (xs + (1 : Int32)).toInt = (s1 : Nat) := by
            have e := own_inc (x := xs) (i := s1 - 1) (by omega) (by omega)
            rw [e]; omega
          have H2 := own_i3 H s0 jt hno
          have hsi : s1 ≤ pl := sl
          have k214 : ∀ tg, Steps p.tables e below (T0.setTop (mkF m 79 #[.val (.ref pa), .val (.ref ta), .val (.int xp), .val (.int xt), .val (.int xs), .val (.int xu)] [])) tg → Steps p.tables e below (T0.setTop (mkF m 10 #[.val (.ref pa), .val (.ref ta), .val (.int xp), .val (.int xt), .val (.int xs), .val (.int xu)] [])) tg := fun tg kg => k212 tg (by
              show Steps p.tables e below (T0.setTop (mkF m 76 #[.val (.ref pa), .val (.ref ta), .val (.int xp), .val (.int xt), .val (.int xs), .val (.int xu)] [(.int xs)])) _
              refine XS.ifNo X0.here hx rfl (hb hby d6_76) rfl ((if0 _ _).trans (flt hstar).1) ?_
              exact kg)
          have k215 : ∀ tg, Steps p.tables e below (T0.setTop (mkF m 10 #[.val (.ref pa), .val (.ref ta), .val (.int (xs + (1 : Int32))), .val (.int (xu + (1 : Int32))), .val (.int xs), .val (.int (xu + (1 : Int32)))] [])) tg → Steps p.tables e below (T0.setTop (mkF m 10 #[.val (.ref pa), .val (.ref ta), .val (.int xp), .val (.int xt), .val (.int xs), .val (.int xu)] [])) tg := fun tg kg => k214 tg (by
              show Steps p.tables e below (T0.setTop (mkF m 79 #[.val (.ref pa), .val (.ref ta), .val (.int xp), .val (.int xt), .val (.int xs), .val (.int xu)] [])) _
              refine XS.iinc X0.here hx rfl (hb hby d6_79) rfl (l' := #[.val (.ref pa), .val (.ref ta), .val (.int xp), .val (.int xt), .val (.int xs), .val (.int (xu + (1 : Int32)))]) rfl ?_
              show Steps p.tables e below (T0.setTop (mkF m 82 #[.val (.ref pa), .val (.ref ta), .val (.int xp), .val (.int xt), .val (.int xs), .val (.int (xu + (1 : Int32)))] [])) _
              refine XS.iload X0.here hx rfl (hb hby d6_82) rfl ?_
              show Steps p.tables e below (T0.setTop (mkF m 84 #[.val (.ref pa), .val (.ref ta), .val (.int xp), .val (.int xt), .val (.int xs), .val (.int (xu + (1 : Int32)))] [(.int xs)])) _
              refine XS.iconst X0.here hx rfl (hb hby d6_84) ?_
              show Steps p.tables e below (T0.setTop (mkF m 85 #[.val (.ref pa), .val (.ref ta), .val (.int xp), .val (.int xt), .val (.int xs), .val (.int (xu + (1 : Int32)))] [(.int (1 : Int32)), (.int xs)])) _
              refine XS.iadd X0.here hx rfl (hb hby d6_85) rfl ?_
              show Steps p.tables e below (T0.setTop (mkF m 86 #[.val (.ref pa), .val (.ref ta), .val (.int xp), .val (.int xt), .val (.int xs), .val (.int (xu + (1 : Int32)))] [(.int (xs + (1 : Int32)))])) _
              refine XS.istoreN X0.here hx rfl (hb hby d6_86) rfl (l' := #[.val (.ref pa), .val (.ref ta), .val (.int (xs + (1 : Int32))), .val (.int xt), .val (.int xs), .val (.int (xu + (1 : Int32)))]) rfl ?_
              show Steps p.tables e below (T0.setTop (mkF m 87 #[.val (.ref pa), .val (.ref ta), .val (.int (xs + (1 : Int32))), .val (.int xt), .val (.int xs), .val (.int (xu + (1 : Int32)))] [])) _
              refine XS.iload X0.here hx rfl (hb hby d6_87) rfl ?_
              show Steps p.tables e below (T0.setTop (mkF m 89 #[.val (.ref pa), .val (.ref ta), .val (.int (xs + (1 : Int32))), .val (.int xt), .val (.int xs), .val (.int (xu + (1 : Int32)))] [(.int (xu + (1 : Int32)))])) _
              refine XS.istoreN X0.here hx rfl (hb hby d6_89) rfl (l' := #[.val (.ref pa), .val (.ref ta), .val (.int (xs + (1 : Int32))), .val (.int (xu + (1 : Int32))), .val (.int xs), .val (.int (xu + (1 : Int32)))]) rfl ?_
              show Steps p.tables e below (T0.setTop (mkF m 90 #[.val (.ref pa), .val (.ref ta), .val (.int (xs + (1 : Int32))), .val (.int (xu + (1 : Int32))), .val (.int xs), .val (.int (xu + (1 : Int32)))] [])) _
              refine XS.goto X0.here hx rfl (pc0 := 90) (pc' := 10) rfl (hb hby d6_90) (by decide) (by decide) ?_
              exact kg)
          obtain ⟨xp', xt', xs', xu', T', X', e', r⟩ := ih s1 (u + 1) s1 (u + 1) _ _ _ _ _ _ (by omega) sl (by omega) (by omega) sl hs1 (own_inc hu (by omega)) hs (own_inc hu (by omega)) (Nat.le_refl _) H2 X0 e0
          exact ⟨xp', xt', xs', xu', T', X', e', r.imp (fun ⟨z, kk⟩ => ⟨z, fun t k => k215 t (kk t k)⟩) (fun ⟨i', z1, z2, z3, kk⟩ => ⟨i', z1, z2, z3, fun t k => k215 t (kk t k)⟩)⟩
    · have jt : j = tl := by have : ¬ j < tl := fun q => c1 ((own_lt ht htl).mpr q); omega
      have k216 : ∀ tg, Steps p.tables e below (T0.setTop (mkF m 95 #[.val (.ref pa), .val (.ref ta), .val (.int xp), .val (.int xt), .val (.int xs), .val (.int xu)] [])) tg → Steps p.tables e below (T0.setTop (mkF m 10 #[.val (.ref pa), .val (.ref ta), .val (.int xp), .val (.int xt), .val (.int xs), .val (.int xu)] [])) tg := fun tg kg => k191 tg (by
          show Steps p.tables e below (T0.setTop (mkF m 13 #[.val (.ref pa), .val (.ref ta), .val (.int xp), .val (.int xt), .val (.int xs), .val (.int xu)] [(.int xtl), (.int xt)])) _
          refine XS.icmpYes X0.here hx rfl (pc0 := 13) (pc' := 95) rfl (hb hby d6_13) rfl (flt c1).2.1 (by decide) (by decide) ?_
          exact kg)
      exact ⟨xp, xt, xs, xu, T0, X0, e0, Or.inr ⟨i, hp, il, own_i5 H il jt, k216⟩⟩
set_option maxRecDepth 65536 in
set_option maxHeartbeats 40000000 in
theorem loopV {p : Program} {l : Launch} {e : Env} {R : Room} {s : State} {m : MethodId} {args : Array Value} {below : List Frame} {meth : Method} {c : Code} {cells slots : Nat} {Z : State} {a0 : Array Value} (hx : p.tables.exec = Jvm.exec) (hZ : Z.Warmed39 s.vm) (hw : ∀ d ∈ tables_1, d.before a0 Z = true) (hby : c.code = prog_48_method_3_code) (hml : c.maxLocals = 6) (hown : s.vm.findClass "com/example/modalis/modalis/dicom/service/MatchingKey$Wildcard" = some m.cls) (pa ta : Addr) (xpl xtl : Int32) (pl tl : Nat) (pf tf : Nat → Int32) (h : Heap) (hpl : xpl.toInt = pl) (htl : xtl.toInt = tl) (pl4 : pl ≤ 4) (tl4 : tl ≤ 4) (Vp : Av Z h pa .int pl (fun k => .int (pf k))) (Vt : Av Z h ta .int tl (fun k => .int (tf k))) (xt xs xu : Int32) :
    ∀ (k i : Nat) (xp : Int32) (T0 : State) (locs : List Loc), i + k = pl → xp.toInt = i → Stand p l e R s m args below meth c T0 locs cells slots → T0.heap = h →
      ∃ (i' : Nat) (xp' : Int32), xp'.toInt = i' ∧ own_mm pl tl pf tf i tl = decide (i' = pl) ∧ ∀ t, Steps p.tables e below (T0.setTop (mkF m 115 #[.val (.ref pa), .val (.ref ta), .val (.int xp'), .val (.int xt), .val (.int xs), .val (.int xu)] [])) t → Steps p.tables e below (T0.setTop (mkF m 95 #[.val (.ref pa), .val (.ref ta), .val (.int xp), .val (.int xt), .val (.int xs), .val (.int xu)] [])) t := by
  intro k
  induction k with
  | zero =>
    intro i xp T0 locs hk hp X0 e0
    obtain ⟨cp, Ap, Sp, Gp⟩ := Vp
    obtain rfl : i = pl := by omega
    have kid : ∀ tg, Steps p.tables e below (T0.setTop (mkF m 95 #[.val (.ref pa), .val (.ref ta), .val (.int xp), .val (.int xt), .val (.int xs), .val (.int xu)] [])) tg → Steps p.tables e below (T0.setTop (mkF m 95 #[.val (.ref pa), .val (.ref ta), .val (.int xp), .val (.int xt), .val (.int xs), .val (.int xu)] [])) tg := fun _ kg => kg
    have k217 : ∀ tg, Steps p.tables e below (T0.setTop (mkF m 115 #[.val (.ref pa), .val (.ref ta), .val (.int xp), .val (.int xt), .val (.int xs), .val (.int xu)] [])) tg → Steps p.tables e below (T0.setTop (mkF m 95 #[.val (.ref pa), .val (.ref ta), .val (.int xp), .val (.int xt), .val (.int xs), .val (.int xu)] [])) tg := fun tg kg => kid tg (by
        show Steps p.tables e below (T0.setTop (mkF m 95 #[.val (.ref pa), .val (.ref ta), .val (.int xp), .val (.int xt), .val (.int xs), .val (.int xu)] [])) _
        refine XS.iloadN X0.here hx rfl (hb hby d6_95) rfl ?_
        show Steps p.tables e below (T0.setTop (mkF m 96 #[.val (.ref pa), .val (.ref ta), .val (.int xp), .val (.int xt), .val (.int xs), .val (.int xu)] [(.int xp)])) _
        refine XS.aloadN X0.here hx rfl (hb hby d6_96) rfl rfl ?_
        show Steps p.tables e below (T0.setTop (mkF m 97 #[.val (.ref pa), .val (.ref ta), .val (.int xp), .val (.int xt), .val (.int xs), .val (.int xu)] [(.ref pa), (.int xp)])) _
        refine X0.arraylength hx (by rw [e0]; exact Ap.1) (State.isArrayOf_alike hZ.alike Ap.2.1) (g := (mkF m 97 #[.val (.ref pa), .val (.ref ta), .val (.int xp), .val (.int xt), .val (.int xs), .val (.int xu)] [(.ref pa), (.int xp)])) rfl rfl (hb hby d6_97) _ ?_
        rw [len_of (own_sz Sp hpl) (own_nneg hpl)]
        show Steps p.tables e below (T0.setTop (mkF m 98 #[.val (.ref pa), .val (.ref ta), .val (.int xp), .val (.int xt), .val (.int xs), .val (.int xu)] [(.int xpl), (.int xp)])) _
        refine XS.icmpYes X0.here hx rfl (pc0 := 98) (pc' := 115) rfl (hb hby d6_98) rfl (flt (fun q => by rw [own_lt hp hpl] at q; omega)).2.1 (by decide) (by decide) ?_
        exact kg)
    exact ⟨i, xp, hp, by rw [own_end, Nat.sub_self]; simp, k217⟩
  | succ k ih =>
    intro i xp T0 locs hk hp X0 e0
    have ip : i < pl := by omega
    have Vp0 := Vp
    obtain ⟨cp, Ap, Sp, Gp⟩ := Vp
    have kid : ∀ tg, Steps p.tables e below (T0.setTop (mkF m 95 #[.val (.ref pa), .val (.ref ta), .val (.int xp), .val (.int xt), .val (.int xs), .val (.int xu)] [])) tg → Steps p.tables e below (T0.setTop (mkF m 95 #[.val (.ref pa), .val (.ref ta), .val (.int xp), .val (.int xt), .val (.int xs), .val (.int xu)] [])) tg := fun _ kg => kg
    have k218 : ∀ tg, Steps p.tables e below (T0.setTop (mkF m 106 #[.val (.ref pa), .val (.ref ta), .val (.int xp), .val (.int xt), .val (.int xs), .val (.int xu)] [(.int (42 : Int32)), (.int (pf i))])) tg → Steps p.tables e below (T0.setTop (mkF m 95 #[.val (.ref pa), .val (.ref ta), .val (.int xp), .val (.int xt), .val (.int xs), .val (.int xu)] [])) tg := fun tg kg => kid tg (by
        show Steps p.tables e below (T0.setTop (mkF m 95 #[.val (.ref pa), .val (.ref ta), .val (.int xp), .val (.int xt), .val (.int xs), .val (.int xu)] [])) _
        refine XS.iloadN X0.here hx rfl (hb hby d6_95) rfl ?_
        show Steps p.tables e below (T0.setTop (mkF m 96 #[.val (.ref pa), .val (.ref ta), .val (.int xp), .val (.int xt), .val (.int xs), .val (.int xu)] [(.int xp)])) _
        refine XS.aloadN X0.here hx rfl (hb hby d6_96) rfl rfl ?_
        show Steps p.tables e below (T0.setTop (mkF m 97 #[.val (.ref pa), .val (.ref ta), .val (.int xp), .val (.int xt), .val (.int xs), .val (.int xu)] [(.ref pa), (.int xp)])) _
        refine X0.arraylength hx (by rw [e0]; exact Ap.1) (State.isArrayOf_alike hZ.alike Ap.2.1) (g := (mkF m 97 #[.val (.ref pa), .val (.ref ta), .val (.int xp), .val (.int xt), .val (.int xs), .val (.int xu)] [(.ref pa), (.int xp)])) rfl rfl (hb hby d6_97) _ ?_
        rw [len_of (own_sz Sp hpl) (own_nneg hpl)]
        show Steps p.tables e below (T0.setTop (mkF m 98 #[.val (.ref pa), .val (.ref ta), .val (.int xp), .val (.int xt), .val (.int xs), .val (.int xu)] [(.int xpl), (.int xp)])) _
        refine XS.icmpNo X0.here hx rfl (hb hby d6_98) rfl (tlt ((own_lt hp hpl).mpr ip)).2.1 ?_
        show Steps p.tables e below (T0.setTop (mkF m 101 #[.val (.ref pa), .val (.ref ta), .val (.int xp), .val (.int xt), .val (.int xs), .val (.int xu)] [])) _
        refine XS.aloadN X0.here hx rfl (hb hby d6_101) rfl rfl ?_
        show Steps p.tables e below (T0.setTop (mkF m 102 #[.val (.ref pa), .val (.ref ta), .val (.int xp), .val (.int xt), .val (.int xs), .val (.int xu)] [(.ref pa)])) _
        refine XS.iloadN X0.here hx rfl (hb hby d6_102) rfl ?_
        show Steps p.tables e below (T0.setTop (mkF m 103 #[.val (.ref pa), .val (.ref ta), .val (.int xp), .val (.int xt), .val (.int xs), .val (.int xu)] [(.int xp), (.ref pa)])) _
        refine X0.iaload hx (j := xp) (v := (.int (pf i))) (by rw [e0]; exact Ap.1) (State.isArrayOf_alike hZ.alike Ap.2.1) Ap.2.2 (own_hin Sp hp ip) (own_hat Gp hp ip) (g := (mkF m 103 #[.val (.ref pa), .val (.ref ta), .val (.int xp), .val (.int xt), .val (.int xs), .val (.int xu)] [(.int xp), (.ref pa)])) rfl rfl (hb hby d6_103) _ ?_
        show Steps p.tables e below (T0.setTop (mkF m 104 #[.val (.ref pa), .val (.ref ta), .val (.int xp), .val (.int xt), .val (.int xs), .val (.int xu)] [(.int (pf i))])) _
        refine XS.bipush X0.here hx rfl (hb hby d6_104) ?_
        exact kg)
    by_cases c3 : pf i = (42 : Int32)
    · have k219 : ∀ tg, Steps p.tables e below (T0.setTop (mkF m 109 #[.val (.ref pa), .val (.ref ta), .val (.int xp), .val (.int xt), .val (.int xs), .val (.int xu)] [])) tg → Steps p.tables e below (T0.setTop (mkF m 95 #[.val (.ref pa), .val (.ref ta), .val (.int xp), .val (.int xt), .val (.int xs), .val (.int xu)] [])) tg := fun tg kg => k218 tg (by
          show Steps p.tables e below (T0.setTop (mkF m 106 #[.val (.ref pa), .val (.ref ta), .val (.int xp), .val (.int xt), .val (.int xs), .val (.int xu)] [(.int (42 : Int32)), (.int (pf i))])) _
          refine XS.icmpNo X0.here hx rfl (hb hby d6_106) rfl (teq c3).2 ?_
          exact kg)
      have k220 : ∀ tg, Steps p.tables e below (T0.setTop (mkF m 95 #[.val (.ref pa), .val (.ref ta), .val (.int (xp + (1 : Int32))), .val (.int xt), .val (.int xs), .val (.int xu)] [])) tg → Steps p.tables e below (T0.setTop (mkF m 95 #[.val (.ref pa), .val (.ref ta), .val (.int xp), .val (.int xt), .val (.int xs), .val (.int xu)] [])) tg := fun tg kg => k219 tg (by
          show Steps p.tables e below (T0.setTop (mkF m 109 #[.val (.ref pa), .val (.ref ta), .val (.int xp), .val (.int xt), .val (.int xs), .val (.int xu)] [])) _
          refine XS.iinc X0.here hx rfl (hb hby d6_109) rfl (l' := #[.val (.ref pa), .val (.ref ta), .val (.int (xp + (1 : Int32))), .val (.int xt), .val (.int xs), .val (.int xu)]) rfl ?_
          show Steps p.tables e below (T0.setTop (mkF m 112 #[.val (.ref pa), .val (.ref ta), .val (.int (xp + (1 : Int32))), .val (.int xt), .val (.int xs), .val (.int xu)] [])) _
          refine XS.goto X0.here hx rfl (pc0 := 112) (pc' := 95) rfl (hb hby d6_112) (by decide) (by decide) ?_
          exact kg)
      obtain ⟨i', xp', z1, z2, kk⟩ := ih (i + 1) _ _ _ (by omega) (own_inc hp (by omega)) X0 e0
      exact ⟨i', xp', z1, by rw [own_st ip c3 (Nat.le_refl _), decide_eq_false (Nat.lt_irrefl _), Bool.false_and, Bool.or_false]; exact z2, fun t k => k220 t (kk t k)⟩
    · have k221 : ∀ tg, Steps p.tables e below (T0.setTop (mkF m 115 #[.val (.ref pa), .val (.ref ta), .val (.int xp), .val (.int xt), .val (.int xs), .val (.int xu)] [])) tg → Steps p.tables e below (T0.setTop (mkF m 95 #[.val (.ref pa), .val (.ref ta), .val (.int xp), .val (.int xt), .val (.int xs), .val (.int xu)] [])) tg := fun tg kg => k218 tg (by
          show Steps p.tables e below (T0.setTop (mkF m 106 #[.val (.ref pa), .val (.ref ta), .val (.int xp), .val (.int xt), .val (.int xs), .val (.int xu)] [(.int (42 : Int32)), (.int (pf i))])) _
          refine XS.icmpYes X0.here hx rfl (pc0 := 106) (pc' := 115) rfl (hb hby d6_106) rfl (feq c3).2 (by decide) (by decide) ?_
          exact kg)
      exact ⟨i, xp, hp, by rw [own_li ip c3 (Nat.le_refl _), decide_eq_false (Nat.lt_irrefl _), Bool.false_and, decide_eq_false (by omega)], k221⟩
theorem ef_6 (m : MethodId) (x0 : Addr) (x1 : Addr) : entryFrame m #[(.ref x0), (.ref x1)] 6 = mkF m 0 #[.val (.ref x0), .val (.ref x1), .unset, .unset, .unset, .unset] [] := by first | (simp [entryFrame, mkF, argsToLocals, Value.category]; done) | rfl
def Q6 (Z : State) (pl tl : Nat) (pf tf : Nat → Int32) (h0 : Heap) (n0 : Nat) (v : Option Value) (h : Heap) (L : List Loc) : Prop := v = some (.int (own_b (own_mm pl tl pf tf 0 0))) ∧ Fr n0 L ∧ h = h0
set_option maxRecDepth 65536 in
set_option maxHeartbeats 40000000 in
theorem rm6 (l : Launch) (Z : State) (a0 : Array Value) (hw : ∀ d ∈ tables_1, d.before a0 Z = true) (ws : List Jvm.Cond) (pa : Addr) (ta : Addr) (xpl xtl : Int32) (pl tl : Nat) (pf tf : Nat → Int32) (h0 : Heap) (n0 : Nat) (Z0 : n0 ≤ h0.size) (hpl : xpl.toInt = pl) (htl : xtl.toInt = tl) (pl4 : pl ≤ 4) (tl4 : tl ≤ 4) (Vp : Av Z h0 pa .int pl (fun k => .int (pf k))) (Vt : Av Z h0 ta .int tl (fun k => .int (tf k))) :
    MetFree l (⟨"com/example/modalis/modalis/dicom/service/MatchingKey$Wildcard", "matchesPattern", "([I[I)Z"⟩ : MethodName) (head1 (Jvm.Cond.code (⟨"com/example/modalis/modalis/dicom/service/MatchingKey$Wildcard", "matchesPattern", "([I[I)Z"⟩ : MethodName) prog_48_method_3_code 6 (some .boolean) :: ws) ({ frames := 0, cells := 0, slots := 0, locals := 0 } : Room)) (fun a U => a = #[(.ref pa), (.ref ta)] ∧ Z.Warmed39 U.vm ∧ U.heap = h0) (fun _ _ _ _ _ => True) (fun _ U o U' => ∃ v L, o = .returned v ∧ Q6 Z pl tl pf tf h0 n0 v U'.heap L ∧ FrameEnd U o U' L ({ frames := 0, cells := 0, slots := 0, locals := 0 } : Room).cells ({ frames := 0, cells := 0, slots := 0, locals := 0 } : Room).slots) := by
  refine MetFree.of_bodySF (plainFor_of_name pn_6) hisR ?_
  intro p e s m args below meth c s₁ Bd hml0 hP hK
  obtain ⟨rfl, hZ, hh⟩ := hP
  have hx := Bd.exec
  have hby := Bd.bytes
  have hml : c.maxLocals = 6 := hml0
  have hown : s.vm.findClass "com/example/modalis/modalis/dicom/service/MatchingKey$Wildcard" = some m.cls := findClass_of_methodNamed Bd.named
  have hnm := (name_of_methodNamed Bd.named Bd.method).1
  have X0 : Stand p l e ({ frames := 0, cells := 0, slots := 0, locals := 0 } : Room) s m #[(.ref pa), (.ref ta)] below meth c s₁ [] 0 0 := Stand.of_body Bd
  have e0 : s₁.heap = h0 := by rw [← hh, Bd.state]; rfl
  have N0 := Fr.nil n0
  have pre0 : ∀ tg, Steps p.tables e below (s₁.setTop (mkF m 0 #[.val (.ref pa), .val (.ref ta), .unset, .unset, .unset, .unset] [])) tg → Steps p.tables e below (s₁.setTop (entryFrame m #[(.ref pa), (.ref ta)] 6)) tg := fun tg kg => castTop (ef_6 m pa ta) kg
  have k222 : ∀ tg, Steps p.tables e below (s₁.setTop (mkF m 10 #[.val (.ref pa), .val (.ref ta), .val (.int (0 : Int32)), .val (.int (0 : Int32)), .val (.int (-1 : Int32)), .val (.int (0 : Int32))] [])) tg → Steps p.tables e below (s₁.setTop (entryFrame m #[(.ref pa), (.ref ta)] 6)) tg := fun tg kg => pre0 tg (by
      show Steps p.tables e below (s₁.setTop (mkF m 0 #[.val (.ref pa), .val (.ref ta), .unset, .unset, .unset, .unset] [])) _
      refine XS.iconst X0.here hx rfl (hb hby d6_0) ?_
      show Steps p.tables e below (s₁.setTop (mkF m 1 #[.val (.ref pa), .val (.ref ta), .unset, .unset, .unset, .unset] [(.int (0 : Int32))])) _
      refine XS.istoreN X0.here hx rfl (hb hby d6_1) rfl (l' := #[.val (.ref pa), .val (.ref ta), .val (.int (0 : Int32)), .unset, .unset, .unset]) rfl ?_
      show Steps p.tables e below (s₁.setTop (mkF m 2 #[.val (.ref pa), .val (.ref ta), .val (.int (0 : Int32)), .unset, .unset, .unset] [])) _
      refine XS.iconst X0.here hx rfl (hb hby d6_2) ?_
      show Steps p.tables e below (s₁.setTop (mkF m 3 #[.val (.ref pa), .val (.ref ta), .val (.int (0 : Int32)), .unset, .unset, .unset] [(.int (0 : Int32))])) _
      refine XS.istoreN X0.here hx rfl (hb hby d6_3) rfl (l' := #[.val (.ref pa), .val (.ref ta), .val (.int (0 : Int32)), .val (.int (0 : Int32)), .unset, .unset]) rfl ?_
      show Steps p.tables e below (s₁.setTop (mkF m 4 #[.val (.ref pa), .val (.ref ta), .val (.int (0 : Int32)), .val (.int (0 : Int32)), .unset, .unset] [])) _
      refine XS.iconst X0.here hx rfl (hb hby d6_4) ?_
      show Steps p.tables e below (s₁.setTop (mkF m 5 #[.val (.ref pa), .val (.ref ta), .val (.int (0 : Int32)), .val (.int (0 : Int32)), .unset, .unset] [(.int (-1 : Int32))])) _
      refine XS.istore X0.here hx rfl (hb hby d6_5) rfl (l' := #[.val (.ref pa), .val (.ref ta), .val (.int (0 : Int32)), .val (.int (0 : Int32)), .val (.int (-1 : Int32)), .unset]) rfl ?_
      show Steps p.tables e below (s₁.setTop (mkF m 7 #[.val (.ref pa), .val (.ref ta), .val (.int (0 : Int32)), .val (.int (0 : Int32)), .val (.int (-1 : Int32)), .unset] [])) _
      refine XS.iconst X0.here hx rfl (hb hby d6_7) ?_
      show Steps p.tables e below (s₁.setTop (mkF m 8 #[.val (.ref pa), .val (.ref ta), .val (.int (0 : Int32)), .val (.int (0 : Int32)), .val (.int (-1 : Int32)), .unset] [(.int (0 : Int32))])) _
      refine XS.istore X0.here hx rfl (hb hby d6_8) rfl (l' := #[.val (.ref pa), .val (.ref ta), .val (.int (0 : Int32)), .val (.int (0 : Int32)), .val (.int (-1 : Int32)), .val (.int (0 : Int32))]) rfl ?_
      exact kg)
  obtain ⟨xp223, xt223, xs223, xu223, T223, X223, e223, hr223⟩ := loopW hx hZ hw hby hml hown pa ta xpl xtl pl tl pf tf h0 hpl htl pl4 tl4 Vp Vt _ 0 0 0 0 (0 : Int32) (0 : Int32) (-1 : Int32) (0 : Int32) _ _ (Nat.le_refl _) (Nat.zero_le _) (Nat.zero_le _) (Nat.zero_le _) (Nat.zero_le _) (by decide) (by decide) (by decide) (by decide) (Nat.le_refl _) (Or.inl ⟨rfl, rfl, Iff.rfl⟩) X0 e0
  rcases hr223 with ⟨hf, st223⟩ | ⟨i1, hi1, hil, hm, st223⟩
  · have k224 : ∀ tg, Steps p.tables e below (T223.setTop (mkF m 93 #[.val (.ref pa), .val (.ref ta), .val (.int xp223), .val (.int xt223), .val (.int xs223), .val (.int xu223)] [])) tg → Steps p.tables e below (s₁.setTop (entryFrame m #[(.ref pa), (.ref ta)] 6)) tg := fun tg kg => k222 tg (st223 tg kg)
    have k225 : ∀ tg, Steps p.tables e below (T223.setTop (mkF m 94 #[.val (.ref pa), .val (.ref ta), .val (.int xp223), .val (.int xt223), .val (.int xs223), .val (.int xu223)] [(.int (0 : Int32))])) tg → Steps p.tables e below (s₁.setTop (entryFrame m #[(.ref pa), (.ref ta)] 6)) tg := fun tg kg => k224 tg (by
        show Steps p.tables e below (T223.setTop (mkF m 93 #[.val (.ref pa), .val (.ref ta), .val (.int xp223), .val (.int xt223), .val (.int xs223), .val (.int xu223)] [])) _
        refine XS.iconst X223.here hx rfl (hb hby d6_93) ?_
        exact kg)
    obtain ⟨fs, hr, hrun, hended, hW, hsame⟩ := X223.leave (v := some (.int (0 : Int32))) (fun h => by rw [Bd.returns] at h; cases h)
    refine ⟨_, _, k225 _ ?_, hrun, hended, _, _, rfl, ?_, ⟨_, rfl⟩, hW, hsame.mono (by decide) (by decide)⟩
    · show Steps p.tables e below (T223.setTop (mkF m 94 #[.val (.ref pa), .val (.ref ta), .val (.int xp223), .val (.int xt223), .val (.int xs223), .val (.int xu223)] [(.int (0 : Int32))])) _
      exact retN X223 hx (t := .boolean) Bd.returns (by simp) (hb hby d6_94) hr
    · show Q6 _ _ _ _ _ _ _ _ T223.heap _
      rw [e223]
      exact ⟨by rw [hf]; rfl, N0, rfl⟩
  · have k226 : ∀ tg, Steps p.tables e below (T223.setTop (mkF m 95 #[.val (.ref pa), .val (.ref ta), .val (.int xp223), .val (.int xt223), .val (.int xs223), .val (.int xu223)] [])) tg → Steps p.tables e below (s₁.setTop (entryFrame m #[(.ref pa), (.ref ta)] 6)) tg := fun tg kg => k222 tg (st223 tg kg)
    obtain ⟨i227, xq227, hq227, hd227, st227⟩ := loopV hx hZ hw hby hml hown pa ta xpl xtl pl tl pf tf h0 hpl htl pl4 tl4 Vp Vt xt223 xs223 xu223 (pl - i1) i1 _ _ _ (by omega) hi1 X223 e223
    obtain ⟨cp, Ap, Sp, Gp⟩ := Vp
    have k228 : ∀ tg, Steps p.tables e below (T223.setTop (mkF m 115 #[.val (.ref pa), .val (.ref ta), .val (.int xq227), .val (.int xt223), .val (.int xs223), .val (.int xu223)] [])) tg → Steps p.tables e below (s₁.setTop (entryFrame m #[(.ref pa), (.ref ta)] 6)) tg := fun tg kg => k226 tg (st227 tg kg)
    have k229 : ∀ tg, Steps p.tables e below (T223.setTop (mkF m 118 #[.val (.ref pa), .val (.ref ta), .val (.int xq227), .val (.int xt223), .val (.int xs223), .val (.int xu223)] [(.int xpl), (.int xq227)])) tg → Steps p.tables e below (s₁.setTop (entryFrame m #[(.ref pa), (.ref ta)] 6)) tg := fun tg kg => k228 tg (by
        show Steps p.tables e below (T223.setTop (mkF m 115 #[.val (.ref pa), .val (.ref ta), .val (.int xq227), .val (.int xt223), .val (.int xs223), .val (.int xu223)] [])) _
        refine XS.iloadN X223.here hx rfl (hb hby d6_115) rfl ?_
        show Steps p.tables e below (T223.setTop (mkF m 116 #[.val (.ref pa), .val (.ref ta), .val (.int xq227), .val (.int xt223), .val (.int xs223), .val (.int xu223)] [(.int xq227)])) _
        refine XS.aloadN X223.here hx rfl (hb hby d6_116) rfl rfl ?_
        show Steps p.tables e below (T223.setTop (mkF m 117 #[.val (.ref pa), .val (.ref ta), .val (.int xq227), .val (.int xt223), .val (.int xs223), .val (.int xu223)] [(.ref pa), (.int xq227)])) _
        refine X223.arraylength hx (by rw [e223]; exact Ap.1) (State.isArrayOf_alike hZ.alike Ap.2.1) (g := (mkF m 117 #[.val (.ref pa), .val (.ref ta), .val (.int xq227), .val (.int xt223), .val (.int xs223), .val (.int xu223)] [(.ref pa), (.int xq227)])) rfl rfl (hb hby d6_117) _ ?_
        rw [len_of (own_sz Sp hpl) (own_nneg hpl)]
        exact kg)
    by_cases hc230 : xq227 = xpl
    · have k231 : ∀ tg, Steps p.tables e below (T223.setTop (mkF m 121 #[.val (.ref pa), .val (.ref ta), .val (.int xq227), .val (.int xt223), .val (.int xs223), .val (.int xu223)] [])) tg → Steps p.tables e below (s₁.setTop (entryFrame m #[(.ref pa), (.ref ta)] 6)) tg := fun tg kg => k229 tg (by
          show Steps p.tables e below (T223.setTop (mkF m 118 #[.val (.ref pa), .val (.ref ta), .val (.int xq227), .val (.int xt223), .val (.int xs223), .val (.int xu223)] [(.int xpl), (.int xq227)])) _
          refine XS.icmpNo X223.here hx rfl (hb hby d6_118) rfl (teq hc230).2 ?_
          exact kg)
      have k232 : ∀ tg, Steps p.tables e below (T223.setTop (mkF m 126 #[.val (.ref pa), .val (.ref ta), .val (.int xq227), .val (.int xt223), .val (.int xs223), .val (.int xu223)] [(.int (1 : Int32))])) tg → Steps p.tables e below (s₁.setTop (entryFrame m #[(.ref pa), (.ref ta)] 6)) tg := fun tg kg => k231 tg (by
          show Steps p.tables e below (T223.setTop (mkF m 121 #[.val (.ref pa), .val (.ref ta), .val (.int xq227), .val (.int xt223), .val (.int xs223), .val (.int xu223)] [])) _
          refine XS.iconst X223.here hx rfl (hb hby d6_121) ?_
          show Steps p.tables e below (T223.setTop (mkF m 122 #[.val (.ref pa), .val (.ref ta), .val (.int xq227), .val (.int xt223), .val (.int xs223), .val (.int xu223)] [(.int (1 : Int32))])) _
          refine XS.goto X223.here hx rfl (pc0 := 122) (pc' := 126) rfl (hb hby d6_122) (by decide) (by decide) ?_
          exact kg)
      obtain ⟨fs, hr, hrun, hended, hW, hsame⟩ := X223.leave (v := some (.int (1 : Int32))) (fun h => by rw [Bd.returns] at h; cases h)
      refine ⟨_, _, k232 _ ?_, hrun, hended, _, _, rfl, ?_, ⟨_, rfl⟩, hW, hsame.mono (by decide) (by decide)⟩
      · show Steps p.tables e below (T223.setTop (mkF m 126 #[.val (.ref pa), .val (.ref ta), .val (.int xq227), .val (.int xt223), .val (.int xs223), .val (.int xu223)] [(.int (1 : Int32))])) _
        exact retN X223 hx (t := .boolean) Bd.returns (by simp) (hb hby d6_126) hr
      · show Q6 _ _ _ _ _ _ _ _ T223.heap _
        rw [e223]
        exact ⟨by rw [hm, hd227, decide_eq_true ((own_eqi hq227 hpl).mp hc230)]; rfl, N0, rfl⟩
    · have k233 : ∀ tg, Steps p.tables e below (T223.setTop (mkF m 125 #[.val (.ref pa), .val (.ref ta), .val (.int xq227), .val (.int xt223), .val (.int xs223), .val (.int xu223)] [])) tg → Steps p.tables e below (s₁.setTop (entryFrame m #[(.ref pa), (.ref ta)] 6)) tg := fun tg kg => k229 tg (by
          show Steps p.tables e below (T223.setTop (mkF m 118 #[.val (.ref pa), .val (.ref ta), .val (.int xq227), .val (.int xt223), .val (.int xs223), .val (.int xu223)] [(.int xpl), (.int xq227)])) _
          refine XS.icmpYes X223.here hx rfl (pc0 := 118) (pc' := 125) rfl (hb hby d6_118) rfl (feq hc230).2 (by decide) (by decide) ?_
          exact kg)
      have k234 : ∀ tg, Steps p.tables e below (T223.setTop (mkF m 126 #[.val (.ref pa), .val (.ref ta), .val (.int xq227), .val (.int xt223), .val (.int xs223), .val (.int xu223)] [(.int (0 : Int32))])) tg → Steps p.tables e below (s₁.setTop (entryFrame m #[(.ref pa), (.ref ta)] 6)) tg := fun tg kg => k233 tg (by
          show Steps p.tables e below (T223.setTop (mkF m 125 #[.val (.ref pa), .val (.ref ta), .val (.int xq227), .val (.int xt223), .val (.int xs223), .val (.int xu223)] [])) _
          refine XS.iconst X223.here hx rfl (hb hby d6_125) ?_
          exact kg)
      obtain ⟨fs, hr, hrun, hended, hW, hsame⟩ := X223.leave (v := some (.int (0 : Int32))) (fun h => by rw [Bd.returns] at h; cases h)
      refine ⟨_, _, k234 _ ?_, hrun, hended, _, _, rfl, ?_, ⟨_, rfl⟩, hW, hsame.mono (by decide) (by decide)⟩
      · show Steps p.tables e below (T223.setTop (mkF m 126 #[.val (.ref pa), .val (.ref ta), .val (.int xq227), .val (.int xt223), .val (.int xs223), .val (.int xu223)] [(.int (0 : Int32))])) _
        exact retN X223 hx (t := .boolean) Bd.returns (by simp) (hb hby d6_126) hr
      · show Q6 _ _ _ _ _ _ _ _ T223.heap _
        rw [e223]
        exact ⟨by rw [hm, hd227, decide_eq_false (fun q => hc230 ((own_eqi hq227 hpl).mpr q))]; rfl, N0, rfl⟩
theorem pn_0 : plainName "com/example/modalis/modalis/dicom/service/WildcardMatchesPatternPinLaw" = true := by first | (simp [plainName, overriddenIn]; done) | decide +kernel
theorem ef_0 (m : MethodId) (x0 : Int32) (x1 : Int64) (x2 : Int64) (x3 : Int64) (x4 : Int64) : entryFrame m #[(.int x0), (.long x1), (.long x2), (.long x3), (.long x4)] maxLocals = mkF m 0 #[.val (.int x0), .val (.long x1), .second, .val (.long x2), .second, .val (.long x3), .second, .val (.long x4), .second, .unset, .unset, .unset, .unset, .unset, .unset, .unset, .unset, .unset] [] := by first | (simp [entryFrame, mkF, argsToLocals, Value.category, maxLocals]; done) | rfl
def Q0 (Z : State) (p1 : Int32) (q2 q3 q4 q5 : Int64) (h0 : Heap) (n0 : Nat) (v : Option Value) (h : Heap) (L : List Loc) : Prop := v = some (.int 1) ∧ Fr n0 L
set_option maxRecDepth 65536 in
set_option maxHeartbeats 40000000 in
theorem rm0 (l : Launch) (Z : State) (a0 : Array Value) (hw : ∀ d ∈ tables_1, d.before a0 Z = true) (ws : List Jvm.Cond) (p1 : Int32) (q2 : Int64) (q3 : Int64) (q4 : Int64) (q5 : Int64)  (h0 : Heap) (n0 : Nat) (Z0 : n0 ≤ h0.size)  :
    MetFree l x (head1 (Jvm.Cond.code x code maxLocals ret :: ws) room_1) (fun a U => a = #[(.int p1), (.long q2), (.long q3), (.long q4), (.long q5)] ∧ Z.Warmed39 U.vm ∧ U.heap = h0) (fun _ _ _ _ _ => True) (fun _ U o U' => ∃ v L, o = .returned v ∧ Q0 Z p1 q2 q3 q4 q5 h0 n0 v U'.heap L ∧ FrameEnd U o U' L room_1.cells room_1.slots) := by
  refine MetFree.of_bodySF (plainFor_of_name pn_0) hisR ?_
  intro p e s m args below meth c s₁ Bd hml0 hP hK
  obtain ⟨rfl, hZ, hh⟩ := hP
  have hx := Bd.exec
  have hby := Bd.bytes
  have hml : c.maxLocals = 18 := hml0
  have hown : s.vm.findClass "com/example/modalis/modalis/dicom/service/WildcardMatchesPatternPinLaw" = some m.cls := findClass_of_methodNamed Bd.named
  have hnm := (name_of_methodNamed Bd.named Bd.method).1
  have X0 : Stand p l e room_1 s m #[(.int p1), (.long q2), (.long q3), (.long q4), (.long q5)] below meth c s₁ [] 0 0 := Stand.of_body Bd
  have e0 : s₁.heap = h0 := by rw [← hh, Bd.state]; rfl
  have N0 := Fr.nil n0
  have pre0 : ∀ tg, Steps p.tables e below (s₁.setTop (mkF m 0 #[.val (.int p1), .val (.long q2), .second, .val (.long q3), .second, .val (.long q4), .second, .val (.long q5), .second, .unset, .unset, .unset, .unset, .unset, .unset, .unset, .unset, .unset] [])) tg → Steps p.tables e below (s₁.setTop (entryFrame m #[(.int p1), (.long q2), (.long q3), (.long q4), (.long q5)] maxLocals)) tg := fun tg kg => castTop (ef_0 m p1 q2 q3 q4 q5) kg
  have k235 : ∀ tg, Steps p.tables e below (s₁.setTop (mkF m 18 #[.val (.int p1), .val (.long q2), .second, .val (.long q3), .second, .val (.long q4), .second, .val (.long q5), .second, .val (.int ((p1 &&& (7 : Int32)) % (5 : Int32))), .val (.int ((((p1.toUInt32 >>> ((3 : Int32) &&& 31).toUInt32).toInt32) &&& (7 : Int32)) % (5 : Int32))), .unset, .unset, .unset, .unset, .unset, .unset, .unset] [])) tg → Steps p.tables e below (s₁.setTop (entryFrame m #[(.int p1), (.long q2), (.long q3), (.long q4), (.long q5)] maxLocals)) tg := fun tg kg => pre0 tg (by
      show Steps p.tables e below (s₁.setTop (mkF m 0 #[.val (.int p1), .val (.long q2), .second, .val (.long q3), .second, .val (.long q4), .second, .val (.long q5), .second, .unset, .unset, .unset, .unset, .unset, .unset, .unset, .unset, .unset] [])) _
      refine XS.iloadN X0.here hx rfl (hb hby at_0) rfl ?_
      show Steps p.tables e below (s₁.setTop (mkF m 1 #[.val (.int p1), .val (.long q2), .second, .val (.long q3), .second, .val (.long q4), .second, .val (.long q5), .second, .unset, .unset, .unset, .unset, .unset, .unset, .unset, .unset, .unset] [(.int p1)])) _
      refine XS.bipush X0.here hx rfl (hb hby at_1) ?_
      show Steps p.tables e below (s₁.setTop (mkF m 3 #[.val (.int p1), .val (.long q2), .second, .val (.long q3), .second, .val (.long q4), .second, .val (.long q5), .second, .unset, .unset, .unset, .unset, .unset, .unset, .unset, .unset, .unset] [(.int (7 : Int32)), (.int p1)])) _
      refine XS.iand X0.here hx rfl (hb hby at_3) rfl ?_
      show Steps p.tables e below (s₁.setTop (mkF m 4 #[.val (.int p1), .val (.long q2), .second, .val (.long q3), .second, .val (.long q4), .second, .val (.long q5), .second, .unset, .unset, .unset, .unset, .unset, .unset, .unset, .unset, .unset] [(.int (p1 &&& (7 : Int32)))])) _
      refine XS.iconst X0.here hx rfl (hb hby at_4) ?_
      show Steps p.tables e below (s₁.setTop (mkF m 5 #[.val (.int p1), .val (.long q2), .second, .val (.long q3), .second, .val (.long q4), .second, .val (.long q5), .second, .unset, .unset, .unset, .unset, .unset, .unset, .unset, .unset, .unset] [(.int (5 : Int32)), (.int (p1 &&& (7 : Int32)))])) _
      refine iremM X0 hx rfl (hb hby at_5) rfl (by decide) ?_
      show Steps p.tables e below (s₁.setTop (mkF m 6 #[.val (.int p1), .val (.long q2), .second, .val (.long q3), .second, .val (.long q4), .second, .val (.long q5), .second, .unset, .unset, .unset, .unset, .unset, .unset, .unset, .unset, .unset] [(.int ((p1 &&& (7 : Int32)) % (5 : Int32)))])) _
      refine XS.istore X0.here hx rfl (hb hby at_6) rfl (l' := #[.val (.int p1), .val (.long q2), .second, .val (.long q3), .second, .val (.long q4), .second, .val (.long q5), .second, .val (.int ((p1 &&& (7 : Int32)) % (5 : Int32))), .unset, .unset, .unset, .unset, .unset, .unset, .unset, .unset]) rfl ?_
      show Steps p.tables e below (s₁.setTop (mkF m 8 #[.val (.int p1), .val (.long q2), .second, .val (.long q3), .second, .val (.long q4), .second, .val (.long q5), .second, .val (.int ((p1 &&& (7 : Int32)) % (5 : Int32))), .unset, .unset, .unset, .unset, .unset, .unset, .unset, .unset] [])) _
      refine XS.iloadN X0.here hx rfl (hb hby at_8) rfl ?_
      show Steps p.tables e below (s₁.setTop (mkF m 9 #[.val (.int p1), .val (.long q2), .second, .val (.long q3), .second, .val (.long q4), .second, .val (.long q5), .second, .val (.int ((p1 &&& (7 : Int32)) % (5 : Int32))), .unset, .unset, .unset, .unset, .unset, .unset, .unset, .unset] [(.int p1)])) _
      refine XS.iconst X0.here hx rfl (hb hby at_9) ?_
      show Steps p.tables e below (s₁.setTop (mkF m 10 #[.val (.int p1), .val (.long q2), .second, .val (.long q3), .second, .val (.long q4), .second, .val (.long q5), .second, .val (.int ((p1 &&& (7 : Int32)) % (5 : Int32))), .unset, .unset, .unset, .unset, .unset, .unset, .unset, .unset] [(.int (3 : Int32)), (.int p1)])) _
      refine XS.iushr X0.here hx rfl (hb hby at_10) rfl ?_
      show Steps p.tables e below (s₁.setTop (mkF m 11 #[.val (.int p1), .val (.long q2), .second, .val (.long q3), .second, .val (.long q4), .second, .val (.long q5), .second, .val (.int ((p1 &&& (7 : Int32)) % (5 : Int32))), .unset, .unset, .unset, .unset, .unset, .unset, .unset, .unset] [(.int ((p1.toUInt32 >>> ((3 : Int32) &&& 31).toUInt32).toInt32))])) _
      refine XS.bipush X0.here hx rfl (hb hby at_11) ?_
      show Steps p.tables e below (s₁.setTop (mkF m 13 #[.val (.int p1), .val (.long q2), .second, .val (.long q3), .second, .val (.long q4), .second, .val (.long q5), .second, .val (.int ((p1 &&& (7 : Int32)) % (5 : Int32))), .unset, .unset, .unset, .unset, .unset, .unset, .unset, .unset] [(.int (7 : Int32)), (.int ((p1.toUInt32 >>> ((3 : Int32) &&& 31).toUInt32).toInt32))])) _
      refine XS.iand X0.here hx rfl (hb hby at_13) rfl ?_
      show Steps p.tables e below (s₁.setTop (mkF m 14 #[.val (.int p1), .val (.long q2), .second, .val (.long q3), .second, .val (.long q4), .second, .val (.long q5), .second, .val (.int ((p1 &&& (7 : Int32)) % (5 : Int32))), .unset, .unset, .unset, .unset, .unset, .unset, .unset, .unset] [(.int (((p1.toUInt32 >>> ((3 : Int32) &&& 31).toUInt32).toInt32) &&& (7 : Int32)))])) _
      refine XS.iconst X0.here hx rfl (hb hby at_14) ?_
      show Steps p.tables e below (s₁.setTop (mkF m 15 #[.val (.int p1), .val (.long q2), .second, .val (.long q3), .second, .val (.long q4), .second, .val (.long q5), .second, .val (.int ((p1 &&& (7 : Int32)) % (5 : Int32))), .unset, .unset, .unset, .unset, .unset, .unset, .unset, .unset] [(.int (5 : Int32)), (.int (((p1.toUInt32 >>> ((3 : Int32) &&& 31).toUInt32).toInt32) &&& (7 : Int32)))])) _
      refine iremM X0 hx rfl (hb hby at_15) rfl (by decide) ?_
      show Steps p.tables e below (s₁.setTop (mkF m 16 #[.val (.int p1), .val (.long q2), .second, .val (.long q3), .second, .val (.long q4), .second, .val (.long q5), .second, .val (.int ((p1 &&& (7 : Int32)) % (5 : Int32))), .unset, .unset, .unset, .unset, .unset, .unset, .unset, .unset] [(.int ((((p1.toUInt32 >>> ((3 : Int32) &&& 31).toUInt32).toInt32) &&& (7 : Int32)) % (5 : Int32)))])) _
      refine XS.istore X0.here hx rfl (hb hby at_16) rfl (l' := #[.val (.int p1), .val (.long q2), .second, .val (.long q3), .second, .val (.long q4), .second, .val (.long q5), .second, .val (.int ((p1 &&& (7 : Int32)) % (5 : Int32))), .val (.int ((((p1.toUInt32 >>> ((3 : Int32) &&& 31).toUInt32).toInt32) &&& (7 : Int32)) % (5 : Int32))), .unset, .unset, .unset, .unset, .unset, .unset, .unset]) rfl ?_
      exact kg)
  obtain ⟨pl, hpl4, hxpl⟩ : ∃ n : Nat, n ≤ 4 ∧ ((p1 &&& (7 : Int32)) % (5 : Int32)).toInt = n := by
    have h := c_and p1 (7 : Int32) (by decide)
    have e := own_rem (x := (p1 &&& (7 : Int32))) (y := (5 : Int32)) (a := (p1 &&& (7 : Int32)).toInt.toNat) (b := 5) (by omega) (by decide)
    exact ⟨_, by omega, e⟩
  obtain ⟨xpl, expl⟩ : ∃ z, z = ((p1 &&& (7 : Int32)) % (5 : Int32)) := ⟨_, rfl⟩
  rw [← expl] at k235
  rw [← expl] at hxpl
  obtain ⟨tl, htl4, hxtl⟩ : ∃ n : Nat, n ≤ 4 ∧ ((((p1.toUInt32 >>> ((3 : Int32) &&& 31).toUInt32).toInt32) &&& (7 : Int32)) % (5 : Int32)).toInt = n := by
    have h := c_and ((p1.toUInt32 >>> ((3 : Int32) &&& 31).toUInt32).toInt32) (7 : Int32) (by decide)
    have e := own_rem (x := (((p1.toUInt32 >>> ((3 : Int32) &&& 31).toUInt32).toInt32) &&& (7 : Int32))) (y := (5 : Int32)) (a := (((p1.toUInt32 >>> ((3 : Int32) &&& 31).toUInt32).toInt32) &&& (7 : Int32)).toInt.toNat) (b := 5) (by omega) (by decide)
    exact ⟨_, by omega, e⟩
  obtain ⟨xtl, extl⟩ : ∃ z, z = ((((p1.toUInt32 >>> ((3 : Int32) &&& 31).toUInt32).toInt32) &&& (7 : Int32)) % (5 : Int32)) := ⟨_, rfl⟩
  rw [← extl] at k235
  rw [← extl] at hxtl
  have k236 : ∀ tg, Steps p.tables e below (s₁.setTop (mkF m 19 #[.val (.int p1), .val (.long q2), .second, .val (.long q3), .second, .val (.long q4), .second, .val (.long q5), .second, .val (.int xpl), .val (.int xtl), .unset, .unset, .unset, .unset, .unset, .unset, .unset] [(.int (4 : Int32))])) tg → Steps p.tables e below (s₁.setTop (entryFrame m #[(.int p1), (.long q2), (.long q3), (.long q4), (.long q5)] maxLocals)) tg := fun tg kg => k235 tg (by
      show Steps p.tables e below (s₁.setTop (mkF m 18 #[.val (.int p1), .val (.long q2), .second, .val (.long q3), .second, .val (.long q4), .second, .val (.long q5), .second, .val (.int xpl), .val (.int xtl), .unset, .unset, .unset, .unset, .unset, .unset, .unset] [])) _
      refine XS.iconst X0.here hx rfl (hb hby at_18) ?_
      exact kg)
  obtain ⟨T237, h237, c237, X237, e237, E237, A237, st237⟩ := newP X0 hx hZ (hw _ (List.mem_of_getElem? (i := 0) rfl)) e0 (g := (mkF m 19 #[.val (.int p1), .val (.long q2), .second, .val (.long q3), .second, .val (.long q4), .second, .val (.long q5), .second, .val (.int xpl), .val (.int xtl), .unset, .unset, .unset, .unset, .unset, .unset, .unset] [(.int (4 : Int32))])) rfl (hb hby at_19) rfl (by decide) (cap := 4) (by decide) (by decide) (by decide) (by decide)
  obtain ⟨b237, g237⟩ : ∃ z, z = h0.size := ⟨_, rfl⟩
  rw [← g237] at A237 st237
  have k238 : ∀ tg, Steps p.tables e below (T237.setTop (mkF m 21 #[.val (.int p1), .val (.long q2), .second, .val (.long q3), .second, .val (.long q4), .second, .val (.long q5), .second, .val (.int xpl), .val (.int xtl), .unset, .unset, .unset, .unset, .unset, .unset, .unset] [(.ref b237)])) tg → Steps p.tables e below (s₁.setTop (entryFrame m #[(.int p1), (.long q2), (.long q3), (.long q4), (.long q5)] maxLocals)) tg := fun tg kg => k236 tg (st237 tg kg)
  have V0 := (Av.new A237 (N := 4) (by decide)).congr (g' := fun _ => .int (0 : Int32)) (fun _ _ => rfl)
  have gv : n0 ≤ b237 := Nat.le_trans Z0 (Nat.le_of_eq g237.symm)
  have Zq : n0 ≤ h237.size := Nat.le_trans Z0 E237.1
  have k239 : ∀ tg, Steps p.tables e below (T237.setTop (mkF m 28 #[.val (.int p1), .val (.long q2), .second, .val (.long q3), .second, .val (.long q4), .second, .val (.long q5), .second, .val (.int xpl), .val (.int xtl), .val (.ref b237), .unset, .unset, .unset, .unset, .unset, .unset] [(.int q2.toInt32), (.int (0 : Int32)), (.ref b237)])) tg → Steps p.tables e below (s₁.setTop (entryFrame m #[(.int p1), (.long q2), (.long q3), (.long q4), (.long q5)] maxLocals)) tg := fun tg kg => k238 tg (by
      show Steps p.tables e below (T237.setTop (mkF m 21 #[.val (.int p1), .val (.long q2), .second, .val (.long q3), .second, .val (.long q4), .second, .val (.long q5), .second, .val (.int xpl), .val (.int xtl), .unset, .unset, .unset, .unset, .unset, .unset, .unset] [(.ref b237)])) _
      refine XS.astore X237.here hx rfl (hb hby at_21) rfl rfl (l' := #[.val (.int p1), .val (.long q2), .second, .val (.long q3), .second, .val (.long q4), .second, .val (.long q5), .second, .val (.int xpl), .val (.int xtl), .val (.ref b237), .unset, .unset, .unset, .unset, .unset, .unset]) rfl ?_
      show Steps p.tables e below (T237.setTop (mkF m 23 #[.val (.int p1), .val (.long q2), .second, .val (.long q3), .second, .val (.long q4), .second, .val (.long q5), .second, .val (.int xpl), .val (.int xtl), .val (.ref b237), .unset, .unset, .unset, .unset, .unset, .unset] [])) _
      refine XS.aload X237.here hx rfl (hb hby at_23) rfl rfl ?_
      show Steps p.tables e below (T237.setTop (mkF m 25 #[.val (.int p1), .val (.long q2), .second, .val (.long q3), .second, .val (.long q4), .second, .val (.long q5), .second, .val (.int xpl), .val (.int xtl), .val (.ref b237), .unset, .unset, .unset, .unset, .unset, .unset] [(.ref b237)])) _
      refine XS.iconst X237.here hx rfl (hb hby at_25) ?_
      show Steps p.tables e below (T237.setTop (mkF m 26 #[.val (.int p1), .val (.long q2), .second, .val (.long q3), .second, .val (.long q4), .second, .val (.long q5), .second, .val (.int xpl), .val (.int xtl), .val (.ref b237), .unset, .unset, .unset, .unset, .unset, .unset] [(.int (0 : Int32)), (.ref b237)])) _
      refine XS.lloadN X237.here hx rfl (hb hby at_26) rfl ?_
      show Steps p.tables e below (T237.setTop (mkF m 27 #[.val (.int p1), .val (.long q2), .second, .val (.long q3), .second, .val (.long q4), .second, .val (.long q5), .second, .val (.int xpl), .val (.int xtl), .val (.ref b237), .unset, .unset, .unset, .unset, .unset, .unset] [(.long q2), (.int (0 : Int32)), (.ref b237)])) _
      refine XS.l2i X237.here hx rfl (hb hby at_27) rfl ?_
      exact kg)
  obtain ⟨_, _, ⟨T240, L240, c240, n240⟩, -, X240, ⟨Lc240, hQ240, l240, y240, z240⟩, st240⟩ := Jvm.LawKit.callS X237 hx (y := (⟨"com/example/modalis/modalis/dicom/service/WildcardMatchesPatternPinLaw", "pc", "(I)I"⟩ : MethodName)) hown (mvT hZ (hw _ (List.mem_of_getElem? (i := 1) rfl))) (mvT hZ (hw _ (List.mem_of_getElem? (i := 2) rfl))) (mvT hZ (hw _ (List.mem_of_getElem? (i := 3) rfl))) (mvT hZ (hw _ (List.mem_of_getElem? (i := 4) rfl))) (by decide) (backOf (W := 2) (rm1 l Z a0 hw [] q2.toInt32 h237 n0 Zq) hZ (hw _ (List.mem_of_getElem? (i := 4) rfl)) (hw _ (List.mem_of_getElem? (i := 3) rfl)) (by decide) (by decide)) (g := (mkF m 28 #[.val (.int p1), .val (.long q2), .second, .val (.long q3), .second, .val (.long q4), .second, .val (.long q5), .second, .val (.int xpl), .val (.int xtl), .val (.ref b237), .unset, .unset, .unset, .unset, .unset, .unset] [(.int q2.toInt32), (.int (0 : Int32)), (.ref b237)])) rfl (by rw [hml]; rfl) (argsL := [(.int q2.toInt32)]) (rest := [(.int (0 : Int32)), (.ref b237)]) (lenOf own_pd0 rfl) rfl (by show 2 * 0 + _ ≤ _; exact Nat.le_of_eq rfl) (hb hby at_28) (fun _ _ => ⟨rfl, e237, (by decide : 1 + 0 ≤ _), (by decide : 4 + 0 ≤ _)⟩)
  dsimp only [Pt.U, Pt.locs, Pt.cells, Pt.slots] at X240 l240 y240 z240 st240 hQ240
  obtain rfl : c240 = 1 := y240
  obtain rfl : n240 = 4 := z240
  obtain ⟨rfl, N240q, e240⟩ := hQ240
  have N240 := own_frE l240 (Fr.app N0 N240q)
  have k241 : ∀ tg, Steps p.tables e below (T240.setTop (mkF m 31 #[.val (.int p1), .val (.long q2), .second, .val (.long q3), .second, .val (.long q4), .second, .val (.long q5), .second, .val (.int xpl), .val (.int xtl), .val (.ref b237), .unset, .unset, .unset, .unset, .unset, .unset] [(.int (own_pc q2.toInt32)), (.int (0 : Int32)), (.ref b237)])) tg → Steps p.tables e below (s₁.setTop (entryFrame m #[(.int p1), (.long q2), (.long q3), (.long q4), (.long q5)] maxLocals)) tg := fun tg kg => k239 tg (st240 tg kg)
  obtain ⟨cl0, Ar0, S0, G0⟩ := V0
  obtain ⟨T242, h242, X242, e242, W242, st242⟩ := stI X240 hx hZ e240 Ar0 (j := (0 : Int32)) (own_hin S0 (i := 0) (by decide) (by decide)) (g := (mkF m 31 #[.val (.int p1), .val (.long q2), .second, .val (.long q3), .second, .val (.long q4), .second, .val (.long q5), .second, .val (.int xpl), .val (.int xtl), .val (.ref b237), .unset, .unset, .unset, .unset, .unset, .unset] [(.int (own_pc q2.toInt32)), (.int (0 : Int32)), (.ref b237)])) rfl rfl (hb hby at_31)
  have N242 := Fr.snoc X242 N240 gv
  have k243 : ∀ tg, Steps p.tables e below (T242.setTop (mkF m 32 #[.val (.int p1), .val (.long q2), .second, .val (.long q3), .second, .val (.long q4), .second, .val (.long q5), .second, .val (.int xpl), .val (.int xtl), .val (.ref b237), .unset, .unset, .unset, .unset, .unset, .unset] [])) tg → Steps p.tables e below (s₁.setTop (entryFrame m #[(.int p1), (.long q2), (.long q3), (.long q4), (.long q5)] maxLocals)) tg := fun tg kg => k241 tg (st242 tg kg)
  have V1 := Av.set Ar0 S0 G0 (i := 0) (by decide) W242
  have Zq : n0 ≤ h242.size := Nat.le_trans Zq (Keep.of_wr W242).1
  have k244 : ∀ tg, Steps p.tables e below (T242.setTop (mkF m 40 #[.val (.int p1), .val (.long q2), .second, .val (.long q3), .second, .val (.long q4), .second, .val (.long q5), .second, .val (.int xpl), .val (.int xtl), .val (.ref b237), .unset, .unset, .unset, .unset, .unset, .unset] [(.int ((q2.toUInt64 >>> ((32 : Int32) &&& 0x3f).toInt64.toUInt64).toInt64).toInt32), (.int (1 : Int32)), (.ref b237)])) tg → Steps p.tables e below (s₁.setTop (entryFrame m #[(.int p1), (.long q2), (.long q3), (.long q4), (.long q5)] maxLocals)) tg := fun tg kg => k243 tg (by
      show Steps p.tables e below (T242.setTop (mkF m 32 #[.val (.int p1), .val (.long q2), .second, .val (.long q3), .second, .val (.long q4), .second, .val (.long q5), .second, .val (.int xpl), .val (.int xtl), .val (.ref b237), .unset, .unset, .unset, .unset, .unset, .unset] [])) _
      refine XS.aload X242.here hx rfl (hb hby at_32) rfl rfl ?_
      show Steps p.tables e below (T242.setTop (mkF m 34 #[.val (.int p1), .val (.long q2), .second, .val (.long q3), .second, .val (.long q4), .second, .val (.long q5), .second, .val (.int xpl), .val (.int xtl), .val (.ref b237), .unset, .unset, .unset, .unset, .unset, .unset] [(.ref b237)])) _
      refine XS.iconst X242.here hx rfl (hb hby at_34) ?_
      show Steps p.tables e below (T242.setTop (mkF m 35 #[.val (.int p1), .val (.long q2), .second, .val (.long q3), .second, .val (.long q4), .second, .val (.long q5), .second, .val (.int xpl), .val (.int xtl), .val (.ref b237), .unset, .unset, .unset, .unset, .unset, .unset] [(.int (1 : Int32)), (.ref b237)])) _
      refine XS.lloadN X242.here hx rfl (hb hby at_35) rfl ?_
      show Steps p.tables e below (T242.setTop (mkF m 36 #[.val (.int p1), .val (.long q2), .second, .val (.long q3), .second, .val (.long q4), .second, .val (.long q5), .second, .val (.int xpl), .val (.int xtl), .val (.ref b237), .unset, .unset, .unset, .unset, .unset, .unset] [(.long q2), (.int (1 : Int32)), (.ref b237)])) _
      refine XS.bipush X242.here hx rfl (hb hby at_36) ?_
      show Steps p.tables e below (T242.setTop (mkF m 38 #[.val (.int p1), .val (.long q2), .second, .val (.long q3), .second, .val (.long q4), .second, .val (.long q5), .second, .val (.int xpl), .val (.int xtl), .val (.ref b237), .unset, .unset, .unset, .unset, .unset, .unset] [(.int (32 : Int32)), (.long q2), (.int (1 : Int32)), (.ref b237)])) _
      refine XS.lushr X242.here hx rfl (hb hby at_38) rfl ?_
      show Steps p.tables e below (T242.setTop (mkF m 39 #[.val (.int p1), .val (.long q2), .second, .val (.long q3), .second, .val (.long q4), .second, .val (.long q5), .second, .val (.int xpl), .val (.int xtl), .val (.ref b237), .unset, .unset, .unset, .unset, .unset, .unset] [(.long ((q2.toUInt64 >>> ((32 : Int32) &&& 0x3f).toInt64.toUInt64).toInt64)), (.int (1 : Int32)), (.ref b237)])) _
      refine XS.l2i X242.here hx rfl (hb hby at_39) rfl ?_
      exact kg)
  obtain ⟨_, _, ⟨T245, L245, c245, n245⟩, -, X245, ⟨Lc245, hQ245, l245, y245, z245⟩, st245⟩ := Jvm.LawKit.callS X242 hx (y := (⟨"com/example/modalis/modalis/dicom/service/WildcardMatchesPatternPinLaw", "pc", "(I)I"⟩ : MethodName)) hown (mvT hZ (hw _ (List.mem_of_getElem? (i := 1) rfl))) (mvT hZ (hw _ (List.mem_of_getElem? (i := 2) rfl))) (mvT hZ (hw _ (List.mem_of_getElem? (i := 3) rfl))) (mvT hZ (hw _ (List.mem_of_getElem? (i := 4) rfl))) (by decide) (backOf (W := 2) (rm1 l Z a0 hw [] ((q2.toUInt64 >>> ((32 : Int32) &&& 0x3f).toInt64.toUInt64).toInt64).toInt32 h242 n0 Zq) hZ (hw _ (List.mem_of_getElem? (i := 4) rfl)) (hw _ (List.mem_of_getElem? (i := 3) rfl)) (by decide) (by decide)) (g := (mkF m 40 #[.val (.int p1), .val (.long q2), .second, .val (.long q3), .second, .val (.long q4), .second, .val (.long q5), .second, .val (.int xpl), .val (.int xtl), .val (.ref b237), .unset, .unset, .unset, .unset, .unset, .unset] [(.int ((q2.toUInt64 >>> ((32 : Int32) &&& 0x3f).toInt64.toUInt64).toInt64).toInt32), (.int (1 : Int32)), (.ref b237)])) rfl (by rw [hml]; rfl) (argsL := [(.int ((q2.toUInt64 >>> ((32 : Int32) &&& 0x3f).toInt64.toUInt64).toInt64).toInt32)]) (rest := [(.int (1 : Int32)), (.ref b237)]) (lenOf own_pd0 rfl) rfl (by show 2 * 0 + _ ≤ _; exact Nat.le_of_eq rfl) (hb hby at_40) (fun _ _ => ⟨rfl, e242, (by decide : 1 + 0 ≤ _), (by decide : 4 + 0 ≤ _)⟩)
  dsimp only [Pt.U, Pt.locs, Pt.cells, Pt.slots] at X245 l245 y245 z245 st245 hQ245
  obtain rfl : c245 = 1 := y245
  obtain rfl : n245 = 4 := z245
  obtain ⟨rfl, N245q, e245⟩ := hQ245
  have N245 := own_frE l245 (Fr.app N242 N245q)
  have k246 : ∀ tg, Steps p.tables e below (T245.setTop (mkF m 43 #[.val (.int p1), .val (.long q2), .second, .val (.long q3), .second, .val (.long q4), .second, .val (.long q5), .second, .val (.int xpl), .val (.int xtl), .val (.ref b237), .unset, .unset, .unset, .unset, .unset, .unset] [(.int (own_pc ((q2.toUInt64 >>> ((32 : Int32) &&& 0x3f).toInt64.toUInt64).toInt64).toInt32)), (.int (1 : Int32)), (.ref b237)])) tg → Steps p.tables e below (s₁.setTop (entryFrame m #[(.int p1), (.long q2), (.long q3), (.long q4), (.long q5)] maxLocals)) tg := fun tg kg => k244 tg (st245 tg kg)
  obtain ⟨cl1, Ar1, S1, G1⟩ := V1
  obtain ⟨T247, h247, X247, e247, W247, st247⟩ := stI X245 hx hZ e245 Ar1 (j := (1 : Int32)) (own_hin S1 (i := 1) (by decide) (by decide)) (g := (mkF m 43 #[.val (.int p1), .val (.long q2), .second, .val (.long q3), .second, .val (.long q4), .second, .val (.long q5), .second, .val (.int xpl), .val (.int xtl), .val (.ref b237), .unset, .unset, .unset, .unset, .unset, .unset] [(.int (own_pc ((q2.toUInt64 >>> ((32 : Int32) &&& 0x3f).toInt64.toUInt64).toInt64).toInt32)), (.int (1 : Int32)), (.ref b237)])) rfl rfl (hb hby at_43)
  have N247 := Fr.snoc X247 N245 gv
  have k248 : ∀ tg, Steps p.tables e below (T247.setTop (mkF m 44 #[.val (.int p1), .val (.long q2), .second, .val (.long q3), .second, .val (.long q4), .second, .val (.long q5), .second, .val (.int xpl), .val (.int xtl), .val (.ref b237), .unset, .unset, .unset, .unset, .unset, .unset] [])) tg → Steps p.tables e below (s₁.setTop (entryFrame m #[(.int p1), (.long q2), (.long q3), (.long q4), (.long q5)] maxLocals)) tg := fun tg kg => k246 tg (st247 tg kg)
  have V2 := Av.set Ar1 S1 G1 (i := 1) (by decide) W247
  have Zq : n0 ≤ h247.size := Nat.le_trans Zq (Keep.of_wr W247).1
  have k249 : ∀ tg, Steps p.tables e below (T247.setTop (mkF m 49 #[.val (.int p1), .val (.long q2), .second, .val (.long q3), .second, .val (.long q4), .second, .val (.long q5), .second, .val (.int xpl), .val (.int xtl), .val (.ref b237), .unset, .unset, .unset, .unset, .unset, .unset] [(.int q3.toInt32), (.int (2 : Int32)), (.ref b237)])) tg → Steps p.tables e below (s₁.setTop (entryFrame m #[(.int p1), (.long q2), (.long q3), (.long q4), (.long q5)] maxLocals)) tg := fun tg kg => k248 tg (by
      show Steps p.tables e below (T247.setTop (mkF m 44 #[.val (.int p1), .val (.long q2), .second, .val (.long q3), .second, .val (.long q4), .second, .val (.long q5), .second, .val (.int xpl), .val (.int xtl), .val (.ref b237), .unset, .unset, .unset, .unset, .unset, .unset] [])) _
      refine XS.aload X247.here hx rfl (hb hby at_44) rfl rfl ?_
      show Steps p.tables e below (T247.setTop (mkF m 46 #[.val (.int p1), .val (.long q2), .second, .val (.long q3), .second, .val (.long q4), .second, .val (.long q5), .second, .val (.int xpl), .val (.int xtl), .val (.ref b237), .unset, .unset, .unset, .unset, .unset, .unset] [(.ref b237)])) _
      refine XS.iconst X247.here hx rfl (hb hby at_46) ?_
      show Steps p.tables e below (T247.setTop (mkF m 47 #[.val (.int p1), .val (.long q2), .second, .val (.long q3), .second, .val (.long q4), .second, .val (.long q5), .second, .val (.int xpl), .val (.int xtl), .val (.ref b237), .unset, .unset, .unset, .unset, .unset, .unset] [(.int (2 : Int32)), (.ref b237)])) _
      refine XS.lloadN X247.here hx rfl (hb hby at_47) rfl ?_
      show Steps p.tables e below (T247.setTop (mkF m 48 #[.val (.int p1), .val (.long q2), .second, .val (.long q3), .second, .val (.long q4), .second, .val (.long q5), .second, .val (.int xpl), .val (.int xtl), .val (.ref b237), .unset, .unset, .unset, .unset, .unset, .unset] [(.long q3), (.int (2 : Int32)), (.ref b237)])) _
      refine XS.l2i X247.here hx rfl (hb hby at_48) rfl ?_
      exact kg)
  obtain ⟨_, _, ⟨T250, L250, c250, n250⟩, -, X250, ⟨Lc250, hQ250, l250, y250, z250⟩, st250⟩ := Jvm.LawKit.callS X247 hx (y := (⟨"com/example/modalis/modalis/dicom/service/WildcardMatchesPatternPinLaw", "pc", "(I)I"⟩ : MethodName)) hown (mvT hZ (hw _ (List.mem_of_getElem? (i := 1) rfl))) (mvT hZ (hw _ (List.mem_of_getElem? (i := 2) rfl))) (mvT hZ (hw _ (List.mem_of_getElem? (i := 3) rfl))) (mvT hZ (hw _ (List.mem_of_getElem? (i := 4) rfl))) (by decide) (backOf (W := 2) (rm1 l Z a0 hw [] q3.toInt32 h247 n0 Zq) hZ (hw _ (List.mem_of_getElem? (i := 4) rfl)) (hw _ (List.mem_of_getElem? (i := 3) rfl)) (by decide) (by decide)) (g := (mkF m 49 #[.val (.int p1), .val (.long q2), .second, .val (.long q3), .second, .val (.long q4), .second, .val (.long q5), .second, .val (.int xpl), .val (.int xtl), .val (.ref b237), .unset, .unset, .unset, .unset, .unset, .unset] [(.int q3.toInt32), (.int (2 : Int32)), (.ref b237)])) rfl (by rw [hml]; rfl) (argsL := [(.int q3.toInt32)]) (rest := [(.int (2 : Int32)), (.ref b237)]) (lenOf own_pd0 rfl) rfl (by show 2 * 0 + _ ≤ _; exact Nat.le_of_eq rfl) (hb hby at_49) (fun _ _ => ⟨rfl, e247, (by decide : 1 + 0 ≤ _), (by decide : 4 + 0 ≤ _)⟩)
  dsimp only [Pt.U, Pt.locs, Pt.cells, Pt.slots] at X250 l250 y250 z250 st250 hQ250
  obtain rfl : c250 = 1 := y250
  obtain rfl : n250 = 4 := z250
  obtain ⟨rfl, N250q, e250⟩ := hQ250
  have N250 := own_frE l250 (Fr.app N247 N250q)
  have k251 : ∀ tg, Steps p.tables e below (T250.setTop (mkF m 52 #[.val (.int p1), .val (.long q2), .second, .val (.long q3), .second, .val (.long q4), .second, .val (.long q5), .second, .val (.int xpl), .val (.int xtl), .val (.ref b237), .unset, .unset, .unset, .unset, .unset, .unset] [(.int (own_pc q3.toInt32)), (.int (2 : Int32)), (.ref b237)])) tg → Steps p.tables e below (s₁.setTop (entryFrame m #[(.int p1), (.long q2), (.long q3), (.long q4), (.long q5)] maxLocals)) tg := fun tg kg => k249 tg (st250 tg kg)
  obtain ⟨cl2, Ar2, S2, G2⟩ := V2
  obtain ⟨T252, h252, X252, e252, W252, st252⟩ := stI X250 hx hZ e250 Ar2 (j := (2 : Int32)) (own_hin S2 (i := 2) (by decide) (by decide)) (g := (mkF m 52 #[.val (.int p1), .val (.long q2), .second, .val (.long q3), .second, .val (.long q4), .second, .val (.long q5), .second, .val (.int xpl), .val (.int xtl), .val (.ref b237), .unset, .unset, .unset, .unset, .unset, .unset] [(.int (own_pc q3.toInt32)), (.int (2 : Int32)), (.ref b237)])) rfl rfl (hb hby at_52)
  have N252 := Fr.snoc X252 N250 gv
  have k253 : ∀ tg, Steps p.tables e below (T252.setTop (mkF m 53 #[.val (.int p1), .val (.long q2), .second, .val (.long q3), .second, .val (.long q4), .second, .val (.long q5), .second, .val (.int xpl), .val (.int xtl), .val (.ref b237), .unset, .unset, .unset, .unset, .unset, .unset] [])) tg → Steps p.tables e below (s₁.setTop (entryFrame m #[(.int p1), (.long q2), (.long q3), (.long q4), (.long q5)] maxLocals)) tg := fun tg kg => k251 tg (st252 tg kg)
  have V3 := Av.set Ar2 S2 G2 (i := 2) (by decide) W252
  have Zq : n0 ≤ h252.size := Nat.le_trans Zq (Keep.of_wr W252).1
  have k254 : ∀ tg, Steps p.tables e below (T252.setTop (mkF m 61 #[.val (.int p1), .val (.long q2), .second, .val (.long q3), .second, .val (.long q4), .second, .val (.long q5), .second, .val (.int xpl), .val (.int xtl), .val (.ref b237), .unset, .unset, .unset, .unset, .unset, .unset] [(.int ((q3.toUInt64 >>> ((32 : Int32) &&& 0x3f).toInt64.toUInt64).toInt64).toInt32), (.int (3 : Int32)), (.ref b237)])) tg → Steps p.tables e below (s₁.setTop (entryFrame m #[(.int p1), (.long q2), (.long q3), (.long q4), (.long q5)] maxLocals)) tg := fun tg kg => k253 tg (by
      show Steps p.tables e below (T252.setTop (mkF m 53 #[.val (.int p1), .val (.long q2), .second, .val (.long q3), .second, .val (.long q4), .second, .val (.long q5), .second, .val (.int xpl), .val (.int xtl), .val (.ref b237), .unset, .unset, .unset, .unset, .unset, .unset] [])) _
      refine XS.aload X252.here hx rfl (hb hby at_53) rfl rfl ?_
      show Steps p.tables e below (T252.setTop (mkF m 55 #[.val (.int p1), .val (.long q2), .second, .val (.long q3), .second, .val (.long q4), .second, .val (.long q5), .second, .val (.int xpl), .val (.int xtl), .val (.ref b237), .unset, .unset, .unset, .unset, .unset, .unset] [(.ref b237)])) _
      refine XS.iconst X252.here hx rfl (hb hby at_55) ?_
      show Steps p.tables e below (T252.setTop (mkF m 56 #[.val (.int p1), .val (.long q2), .second, .val (.long q3), .second, .val (.long q4), .second, .val (.long q5), .second, .val (.int xpl), .val (.int xtl), .val (.ref b237), .unset, .unset, .unset, .unset, .unset, .unset] [(.int (3 : Int32)), (.ref b237)])) _
      refine XS.lloadN X252.here hx rfl (hb hby at_56) rfl ?_
      show Steps p.tables e below (T252.setTop (mkF m 57 #[.val (.int p1), .val (.long q2), .second, .val (.long q3), .second, .val (.long q4), .second, .val (.long q5), .second, .val (.int xpl), .val (.int xtl), .val (.ref b237), .unset, .unset, .unset, .unset, .unset, .unset] [(.long q3), (.int (3 : Int32)), (.ref b237)])) _
      refine XS.bipush X252.here hx rfl (hb hby at_57) ?_
      show Steps p.tables e below (T252.setTop (mkF m 59 #[.val (.int p1), .val (.long q2), .second, .val (.long q3), .second, .val (.long q4), .second, .val (.long q5), .second, .val (.int xpl), .val (.int xtl), .val (.ref b237), .unset, .unset, .unset, .unset, .unset, .unset] [(.int (32 : Int32)), (.long q3), (.int (3 : Int32)), (.ref b237)])) _
      refine XS.lushr X252.here hx rfl (hb hby at_59) rfl ?_
      show Steps p.tables e below (T252.setTop (mkF m 60 #[.val (.int p1), .val (.long q2), .second, .val (.long q3), .second, .val (.long q4), .second, .val (.long q5), .second, .val (.int xpl), .val (.int xtl), .val (.ref b237), .unset, .unset, .unset, .unset, .unset, .unset] [(.long ((q3.toUInt64 >>> ((32 : Int32) &&& 0x3f).toInt64.toUInt64).toInt64)), (.int (3 : Int32)), (.ref b237)])) _
      refine XS.l2i X252.here hx rfl (hb hby at_60) rfl ?_
      exact kg)
  obtain ⟨_, _, ⟨T255, L255, c255, n255⟩, -, X255, ⟨Lc255, hQ255, l255, y255, z255⟩, st255⟩ := Jvm.LawKit.callS X252 hx (y := (⟨"com/example/modalis/modalis/dicom/service/WildcardMatchesPatternPinLaw", "pc", "(I)I"⟩ : MethodName)) hown (mvT hZ (hw _ (List.mem_of_getElem? (i := 1) rfl))) (mvT hZ (hw _ (List.mem_of_getElem? (i := 2) rfl))) (mvT hZ (hw _ (List.mem_of_getElem? (i := 3) rfl))) (mvT hZ (hw _ (List.mem_of_getElem? (i := 4) rfl))) (by decide) (backOf (W := 2) (rm1 l Z a0 hw [] ((q3.toUInt64 >>> ((32 : Int32) &&& 0x3f).toInt64.toUInt64).toInt64).toInt32 h252 n0 Zq) hZ (hw _ (List.mem_of_getElem? (i := 4) rfl)) (hw _ (List.mem_of_getElem? (i := 3) rfl)) (by decide) (by decide)) (g := (mkF m 61 #[.val (.int p1), .val (.long q2), .second, .val (.long q3), .second, .val (.long q4), .second, .val (.long q5), .second, .val (.int xpl), .val (.int xtl), .val (.ref b237), .unset, .unset, .unset, .unset, .unset, .unset] [(.int ((q3.toUInt64 >>> ((32 : Int32) &&& 0x3f).toInt64.toUInt64).toInt64).toInt32), (.int (3 : Int32)), (.ref b237)])) rfl (by rw [hml]; rfl) (argsL := [(.int ((q3.toUInt64 >>> ((32 : Int32) &&& 0x3f).toInt64.toUInt64).toInt64).toInt32)]) (rest := [(.int (3 : Int32)), (.ref b237)]) (lenOf own_pd0 rfl) rfl (by show 2 * 0 + _ ≤ _; exact Nat.le_of_eq rfl) (hb hby at_61) (fun _ _ => ⟨rfl, e252, (by decide : 1 + 0 ≤ _), (by decide : 4 + 0 ≤ _)⟩)
  dsimp only [Pt.U, Pt.locs, Pt.cells, Pt.slots] at X255 l255 y255 z255 st255 hQ255
  obtain rfl : c255 = 1 := y255
  obtain rfl : n255 = 4 := z255
  obtain ⟨rfl, N255q, e255⟩ := hQ255
  have N255 := own_frE l255 (Fr.app N252 N255q)
  have k256 : ∀ tg, Steps p.tables e below (T255.setTop (mkF m 64 #[.val (.int p1), .val (.long q2), .second, .val (.long q3), .second, .val (.long q4), .second, .val (.long q5), .second, .val (.int xpl), .val (.int xtl), .val (.ref b237), .unset, .unset, .unset, .unset, .unset, .unset] [(.int (own_pc ((q3.toUInt64 >>> ((32 : Int32) &&& 0x3f).toInt64.toUInt64).toInt64).toInt32)), (.int (3 : Int32)), (.ref b237)])) tg → Steps p.tables e below (s₁.setTop (entryFrame m #[(.int p1), (.long q2), (.long q3), (.long q4), (.long q5)] maxLocals)) tg := fun tg kg => k254 tg (st255 tg kg)
  obtain ⟨cl3, Ar3, S3, G3⟩ := V3
  obtain ⟨T257, h257, X257, e257, W257, st257⟩ := stI X255 hx hZ e255 Ar3 (j := (3 : Int32)) (own_hin S3 (i := 3) (by decide) (by decide)) (g := (mkF m 64 #[.val (.int p1), .val (.long q2), .second, .val (.long q3), .second, .val (.long q4), .second, .val (.long q5), .second, .val (.int xpl), .val (.int xtl), .val (.ref b237), .unset, .unset, .unset, .unset, .unset, .unset] [(.int (own_pc ((q3.toUInt64 >>> ((32 : Int32) &&& 0x3f).toInt64.toUInt64).toInt64).toInt32)), (.int (3 : Int32)), (.ref b237)])) rfl rfl (hb hby at_64)
  have N257 := Fr.snoc X257 N255 gv
  have k258 : ∀ tg, Steps p.tables e below (T257.setTop (mkF m 65 #[.val (.int p1), .val (.long q2), .second, .val (.long q3), .second, .val (.long q4), .second, .val (.long q5), .second, .val (.int xpl), .val (.int xtl), .val (.ref b237), .unset, .unset, .unset, .unset, .unset, .unset] [])) tg → Steps p.tables e below (s₁.setTop (entryFrame m #[(.int p1), (.long q2), (.long q3), (.long q4), (.long q5)] maxLocals)) tg := fun tg kg => k256 tg (st257 tg kg)
  have V4 := Av.set Ar3 S3 G3 (i := 3) (by decide) W257
  have Zq : n0 ≤ h257.size := Nat.le_trans Zq (Keep.of_wr W257).1
  obtain ⟨pf, epf⟩ : ∃ z, z = own_4 (own_pc q2.toInt32) (own_pc ((q2.toUInt64 >>> ((32 : Int32) &&& 0x3f).toInt64.toUInt64).toInt64).toInt32) (own_pc q3.toInt32) (own_pc ((q3.toUInt64 >>> ((32 : Int32) &&& 0x3f).toInt64.toUInt64).toInt64).toInt32) := ⟨_, rfl⟩
  have Vp : Av Z h257 b237 .int 4 (fun k => .int (pf k)) := V4.congr (fun j _ => by rw [epf]; dsimp only [own_4]; (repeat' split) <;> rfl)
  have Zp := Zq
  have k259 : ∀ tg, Steps p.tables e below (T257.setTop (mkF m 66 #[.val (.int p1), .val (.long q2), .second, .val (.long q3), .second, .val (.long q4), .second, .val (.long q5), .second, .val (.int xpl), .val (.int xtl), .val (.ref b237), .unset, .unset, .unset, .unset, .unset, .unset] [(.int (4 : Int32))])) tg → Steps p.tables e below (s₁.setTop (entryFrame m #[(.int p1), (.long q2), (.long q3), (.long q4), (.long q5)] maxLocals)) tg := fun tg kg => k258 tg (by
      show Steps p.tables e below (T257.setTop (mkF m 65 #[.val (.int p1), .val (.long q2), .second, .val (.long q3), .second, .val (.long q4), .second, .val (.long q5), .second, .val (.int xpl), .val (.int xtl), .val (.ref b237), .unset, .unset, .unset, .unset, .unset, .unset] [])) _
      refine XS.iconst X257.here hx rfl (hb hby at_65) ?_
      exact kg)
  obtain ⟨T260, h260, c260, X260, e260, E260, A260, st260⟩ := newP X257 hx hZ (hw _ (List.mem_of_getElem? (i := 0) rfl)) e257 (g := (mkF m 66 #[.val (.int p1), .val (.long q2), .second, .val (.long q3), .second, .val (.long q4), .second, .val (.long q5), .second, .val (.int xpl), .val (.int xtl), .val (.ref b237), .unset, .unset, .unset, .unset, .unset, .unset] [(.int (4 : Int32))])) rfl (hb hby at_66) rfl (by decide) (cap := 4) (by decide) (by decide) (by decide) (by decide)
  obtain ⟨b260, g260⟩ : ∃ z, z = h257.size := ⟨_, rfl⟩
  rw [← g260] at A260 st260
  have k261 : ∀ tg, Steps p.tables e below (T260.setTop (mkF m 68 #[.val (.int p1), .val (.long q2), .second, .val (.long q3), .second, .val (.long q4), .second, .val (.long q5), .second, .val (.int xpl), .val (.int xtl), .val (.ref b237), .unset, .unset, .unset, .unset, .unset, .unset] [(.ref b260)])) tg → Steps p.tables e below (s₁.setTop (entryFrame m #[(.int p1), (.long q2), (.long q3), (.long q4), (.long q5)] maxLocals)) tg := fun tg kg => k259 tg (st260 tg kg)
  have V0 := (Av.new A260 (N := 4) (by decide)).congr (g' := fun _ => .int (0 : Int32)) (fun _ _ => rfl)
  have gv : n0 ≤ b260 := Nat.le_trans Zp (Nat.le_of_eq g260.symm)
  have Zq : n0 ≤ h260.size := Nat.le_trans Zp E260.1
  have neVp : b237 ≠ b260 := Nat.ne_of_lt (g260 ▸ Vp.lt)
  have Vp := Vp.ext E260
  have k262 : ∀ tg, Steps p.tables e below (T260.setTop (mkF m 76 #[.val (.int p1), .val (.long q2), .second, .val (.long q3), .second, .val (.long q4), .second, .val (.long q5), .second, .val (.int xpl), .val (.int xtl), .val (.ref b237), .val (.ref b260), .unset, .unset, .unset, .unset, .unset] [(.int q4.toInt32), (.int (0 : Int32)), (.ref b260)])) tg → Steps p.tables e below (s₁.setTop (entryFrame m #[(.int p1), (.long q2), (.long q3), (.long q4), (.long q5)] maxLocals)) tg := fun tg kg => k261 tg (by
      show Steps p.tables e below (T260.setTop (mkF m 68 #[.val (.int p1), .val (.long q2), .second, .val (.long q3), .second, .val (.long q4), .second, .val (.long q5), .second, .val (.int xpl), .val (.int xtl), .val (.ref b237), .unset, .unset, .unset, .unset, .unset, .unset] [(.ref b260)])) _
      refine XS.astore X260.here hx rfl (hb hby at_68) rfl rfl (l' := #[.val (.int p1), .val (.long q2), .second, .val (.long q3), .second, .val (.long q4), .second, .val (.long q5), .second, .val (.int xpl), .val (.int xtl), .val (.ref b237), .val (.ref b260), .unset, .unset, .unset, .unset, .unset]) rfl ?_
      show Steps p.tables e below (T260.setTop (mkF m 70 #[.val (.int p1), .val (.long q2), .second, .val (.long q3), .second, .val (.long q4), .second, .val (.long q5), .second, .val (.int xpl), .val (.int xtl), .val (.ref b237), .val (.ref b260), .unset, .unset, .unset, .unset, .unset] [])) _
      refine XS.aload X260.here hx rfl (hb hby at_70) rfl rfl ?_
      show Steps p.tables e below (T260.setTop (mkF m 72 #[.val (.int p1), .val (.long q2), .second, .val (.long q3), .second, .val (.long q4), .second, .val (.long q5), .second, .val (.int xpl), .val (.int xtl), .val (.ref b237), .val (.ref b260), .unset, .unset, .unset, .unset, .unset] [(.ref b260)])) _
      refine XS.iconst X260.here hx rfl (hb hby at_72) ?_
      show Steps p.tables e below (T260.setTop (mkF m 73 #[.val (.int p1), .val (.long q2), .second, .val (.long q3), .second, .val (.long q4), .second, .val (.long q5), .second, .val (.int xpl), .val (.int xtl), .val (.ref b237), .val (.ref b260), .unset, .unset, .unset, .unset, .unset] [(.int (0 : Int32)), (.ref b260)])) _
      refine XS.lload X260.here hx rfl (hb hby at_73) rfl ?_
      show Steps p.tables e below (T260.setTop (mkF m 75 #[.val (.int p1), .val (.long q2), .second, .val (.long q3), .second, .val (.long q4), .second, .val (.long q5), .second, .val (.int xpl), .val (.int xtl), .val (.ref b237), .val (.ref b260), .unset, .unset, .unset, .unset, .unset] [(.long q4), (.int (0 : Int32)), (.ref b260)])) _
      refine XS.l2i X260.here hx rfl (hb hby at_75) rfl ?_
      exact kg)
  obtain ⟨_, _, ⟨T263, L263, c263, n263⟩, -, X263, ⟨Lc263, hQ263, l263, y263, z263⟩, st263⟩ := Jvm.LawKit.callS X260 hx (y := (⟨"com/example/modalis/modalis/dicom/service/WildcardMatchesPatternPinLaw", "tc", "(I)I"⟩ : MethodName)) hown (mvT hZ (hw _ (List.mem_of_getElem? (i := 5) rfl))) (mvT hZ (hw _ (List.mem_of_getElem? (i := 6) rfl))) (mvT hZ (hw _ (List.mem_of_getElem? (i := 3) rfl))) (mvT hZ (hw _ (List.mem_of_getElem? (i := 7) rfl))) (by decide) (backOf (W := 2) (rm2 l Z a0 hw [] q4.toInt32 h260 n0 Zq) hZ (hw _ (List.mem_of_getElem? (i := 7) rfl)) (hw _ (List.mem_of_getElem? (i := 3) rfl)) (by decide) (by decide)) (g := (mkF m 76 #[.val (.int p1), .val (.long q2), .second, .val (.long q3), .second, .val (.long q4), .second, .val (.long q5), .second, .val (.int xpl), .val (.int xtl), .val (.ref b237), .val (.ref b260), .unset, .unset, .unset, .unset, .unset] [(.int q4.toInt32), (.int (0 : Int32)), (.ref b260)])) rfl (by rw [hml]; rfl) (argsL := [(.int q4.toInt32)]) (rest := [(.int (0 : Int32)), (.ref b260)]) (lenOf own_pd0 rfl) rfl (by show 2 * 0 + _ ≤ _; exact Nat.le_of_eq rfl) (hb hby at_76) (fun _ _ => ⟨rfl, e260, (by decide : 2 + 0 ≤ _), (by decide : 8 + 0 ≤ _)⟩)
  dsimp only [Pt.U, Pt.locs, Pt.cells, Pt.slots] at X263 l263 y263 z263 st263 hQ263
  obtain rfl : c263 = 2 := y263
  obtain rfl : n263 = 8 := z263
  obtain ⟨rfl, N263q, e263⟩ := hQ263
  have N263 := own_frE l263 (Fr.app N257 N263q)
  have k264 : ∀ tg, Steps p.tables e below (T263.setTop (mkF m 79 #[.val (.int p1), .val (.long q2), .second, .val (.long q3), .second, .val (.long q4), .second, .val (.long q5), .second, .val (.int xpl), .val (.int xtl), .val (.ref b237), .val (.ref b260), .unset, .unset, .unset, .unset, .unset] [(.int (own_tc q4.toInt32)), (.int (0 : Int32)), (.ref b260)])) tg → Steps p.tables e below (s₁.setTop (entryFrame m #[(.int p1), (.long q2), (.long q3), (.long q4), (.long q5)] maxLocals)) tg := fun tg kg => k262 tg (st263 tg kg)
  obtain ⟨cl0, Ar0, S0, G0⟩ := V0
  obtain ⟨T265, h265, X265, e265, W265, st265⟩ := stI X263 hx hZ e263 Ar0 (j := (0 : Int32)) (own_hin S0 (i := 0) (by decide) (by decide)) (g := (mkF m 79 #[.val (.int p1), .val (.long q2), .second, .val (.long q3), .second, .val (.long q4), .second, .val (.long q5), .second, .val (.int xpl), .val (.int xtl), .val (.ref b237), .val (.ref b260), .unset, .unset, .unset, .unset, .unset] [(.int (own_tc q4.toInt32)), (.int (0 : Int32)), (.ref b260)])) rfl rfl (hb hby at_79)
  have N265 := Fr.snoc X265 N263 gv
  have k266 : ∀ tg, Steps p.tables e below (T265.setTop (mkF m 80 #[.val (.int p1), .val (.long q2), .second, .val (.long q3), .second, .val (.long q4), .second, .val (.long q5), .second, .val (.int xpl), .val (.int xtl), .val (.ref b237), .val (.ref b260), .unset, .unset, .unset, .unset, .unset] [])) tg → Steps p.tables e below (s₁.setTop (entryFrame m #[(.int p1), (.long q2), (.long q3), (.long q4), (.long q5)] maxLocals)) tg := fun tg kg => k264 tg (st265 tg kg)
  have V1 := Av.set Ar0 S0 G0 (i := 0) (by decide) W265
  have Zq : n0 ≤ h265.size := Nat.le_trans Zq (Keep.of_wr W265).1
  have Vp := Vp.other W265 neVp
  have k267 : ∀ tg, Steps p.tables e below (T265.setTop (mkF m 89 #[.val (.int p1), .val (.long q2), .second, .val (.long q3), .second, .val (.long q4), .second, .val (.long q5), .second, .val (.int xpl), .val (.int xtl), .val (.ref b237), .val (.ref b260), .unset, .unset, .unset, .unset, .unset] [(.int ((q4.toUInt64 >>> ((32 : Int32) &&& 0x3f).toInt64.toUInt64).toInt64).toInt32), (.int (1 : Int32)), (.ref b260)])) tg → Steps p.tables e below (s₁.setTop (entryFrame m #[(.int p1), (.long q2), (.long q3), (.long q4), (.long q5)] maxLocals)) tg := fun tg kg => k266 tg (by
      show Steps p.tables e below (T265.setTop (mkF m 80 #[.val (.int p1), .val (.long q2), .second, .val (.long q3), .second, .val (.long q4), .second, .val (.long q5), .second, .val (.int xpl), .val (.int xtl), .val (.ref b237), .val (.ref b260), .unset, .unset, .unset, .unset, .unset] [])) _
      refine XS.aload X265.here hx rfl (hb hby at_80) rfl rfl ?_
      show Steps p.tables e below (T265.setTop (mkF m 82 #[.val (.int p1), .val (.long q2), .second, .val (.long q3), .second, .val (.long q4), .second, .val (.long q5), .second, .val (.int xpl), .val (.int xtl), .val (.ref b237), .val (.ref b260), .unset, .unset, .unset, .unset, .unset] [(.ref b260)])) _
      refine XS.iconst X265.here hx rfl (hb hby at_82) ?_
      show Steps p.tables e below (T265.setTop (mkF m 83 #[.val (.int p1), .val (.long q2), .second, .val (.long q3), .second, .val (.long q4), .second, .val (.long q5), .second, .val (.int xpl), .val (.int xtl), .val (.ref b237), .val (.ref b260), .unset, .unset, .unset, .unset, .unset] [(.int (1 : Int32)), (.ref b260)])) _
      refine XS.lload X265.here hx rfl (hb hby at_83) rfl ?_
      show Steps p.tables e below (T265.setTop (mkF m 85 #[.val (.int p1), .val (.long q2), .second, .val (.long q3), .second, .val (.long q4), .second, .val (.long q5), .second, .val (.int xpl), .val (.int xtl), .val (.ref b237), .val (.ref b260), .unset, .unset, .unset, .unset, .unset] [(.long q4), (.int (1 : Int32)), (.ref b260)])) _
      refine XS.bipush X265.here hx rfl (hb hby at_85) ?_
      show Steps p.tables e below (T265.setTop (mkF m 87 #[.val (.int p1), .val (.long q2), .second, .val (.long q3), .second, .val (.long q4), .second, .val (.long q5), .second, .val (.int xpl), .val (.int xtl), .val (.ref b237), .val (.ref b260), .unset, .unset, .unset, .unset, .unset] [(.int (32 : Int32)), (.long q4), (.int (1 : Int32)), (.ref b260)])) _
      refine XS.lushr X265.here hx rfl (hb hby at_87) rfl ?_
      show Steps p.tables e below (T265.setTop (mkF m 88 #[.val (.int p1), .val (.long q2), .second, .val (.long q3), .second, .val (.long q4), .second, .val (.long q5), .second, .val (.int xpl), .val (.int xtl), .val (.ref b237), .val (.ref b260), .unset, .unset, .unset, .unset, .unset] [(.long ((q4.toUInt64 >>> ((32 : Int32) &&& 0x3f).toInt64.toUInt64).toInt64)), (.int (1 : Int32)), (.ref b260)])) _
      refine XS.l2i X265.here hx rfl (hb hby at_88) rfl ?_
      exact kg)
  obtain ⟨_, _, ⟨T268, L268, c268, n268⟩, -, X268, ⟨Lc268, hQ268, l268, y268, z268⟩, st268⟩ := Jvm.LawKit.callS X265 hx (y := (⟨"com/example/modalis/modalis/dicom/service/WildcardMatchesPatternPinLaw", "tc", "(I)I"⟩ : MethodName)) hown (mvT hZ (hw _ (List.mem_of_getElem? (i := 5) rfl))) (mvT hZ (hw _ (List.mem_of_getElem? (i := 6) rfl))) (mvT hZ (hw _ (List.mem_of_getElem? (i := 3) rfl))) (mvT hZ (hw _ (List.mem_of_getElem? (i := 7) rfl))) (by decide) (backOf (W := 2) (rm2 l Z a0 hw [] ((q4.toUInt64 >>> ((32 : Int32) &&& 0x3f).toInt64.toUInt64).toInt64).toInt32 h265 n0 Zq) hZ (hw _ (List.mem_of_getElem? (i := 7) rfl)) (hw _ (List.mem_of_getElem? (i := 3) rfl)) (by decide) (by decide)) (g := (mkF m 89 #[.val (.int p1), .val (.long q2), .second, .val (.long q3), .second, .val (.long q4), .second, .val (.long q5), .second, .val (.int xpl), .val (.int xtl), .val (.ref b237), .val (.ref b260), .unset, .unset, .unset, .unset, .unset] [(.int ((q4.toUInt64 >>> ((32 : Int32) &&& 0x3f).toInt64.toUInt64).toInt64).toInt32), (.int (1 : Int32)), (.ref b260)])) rfl (by rw [hml]; rfl) (argsL := [(.int ((q4.toUInt64 >>> ((32 : Int32) &&& 0x3f).toInt64.toUInt64).toInt64).toInt32)]) (rest := [(.int (1 : Int32)), (.ref b260)]) (lenOf own_pd0 rfl) rfl (by show 2 * 0 + _ ≤ _; exact Nat.le_of_eq rfl) (hb hby at_89) (fun _ _ => ⟨rfl, e265, (by decide : 2 + 0 ≤ _), (by decide : 8 + 0 ≤ _)⟩)
  dsimp only [Pt.U, Pt.locs, Pt.cells, Pt.slots] at X268 l268 y268 z268 st268 hQ268
  obtain rfl : c268 = 2 := y268
  obtain rfl : n268 = 8 := z268
  obtain ⟨rfl, N268q, e268⟩ := hQ268
  have N268 := own_frE l268 (Fr.app N265 N268q)
  have k269 : ∀ tg, Steps p.tables e below (T268.setTop (mkF m 92 #[.val (.int p1), .val (.long q2), .second, .val (.long q3), .second, .val (.long q4), .second, .val (.long q5), .second, .val (.int xpl), .val (.int xtl), .val (.ref b237), .val (.ref b260), .unset, .unset, .unset, .unset, .unset] [(.int (own_tc ((q4.toUInt64 >>> ((32 : Int32) &&& 0x3f).toInt64.toUInt64).toInt64).toInt32)), (.int (1 : Int32)), (.ref b260)])) tg → Steps p.tables e below (s₁.setTop (entryFrame m #[(.int p1), (.long q2), (.long q3), (.long q4), (.long q5)] maxLocals)) tg := fun tg kg => k267 tg (st268 tg kg)
  obtain ⟨cl1, Ar1, S1, G1⟩ := V1
  obtain ⟨T270, h270, X270, e270, W270, st270⟩ := stI X268 hx hZ e268 Ar1 (j := (1 : Int32)) (own_hin S1 (i := 1) (by decide) (by decide)) (g := (mkF m 92 #[.val (.int p1), .val (.long q2), .second, .val (.long q3), .second, .val (.long q4), .second, .val (.long q5), .second, .val (.int xpl), .val (.int xtl), .val (.ref b237), .val (.ref b260), .unset, .unset, .unset, .unset, .unset] [(.int (own_tc ((q4.toUInt64 >>> ((32 : Int32) &&& 0x3f).toInt64.toUInt64).toInt64).toInt32)), (.int (1 : Int32)), (.ref b260)])) rfl rfl (hb hby at_92)
  have N270 := Fr.snoc X270 N268 gv
  have k271 : ∀ tg, Steps p.tables e below (T270.setTop (mkF m 93 #[.val (.int p1), .val (.long q2), .second, .val (.long q3), .second, .val (.long q4), .second, .val (.long q5), .second, .val (.int xpl), .val (.int xtl), .val (.ref b237), .val (.ref b260), .unset, .unset, .unset, .unset, .unset] [])) tg → Steps p.tables e below (s₁.setTop (entryFrame m #[(.int p1), (.long q2), (.long q3), (.long q4), (.long q5)] maxLocals)) tg := fun tg kg => k269 tg (st270 tg kg)
  have V2 := Av.set Ar1 S1 G1 (i := 1) (by decide) W270
  have Zq : n0 ≤ h270.size := Nat.le_trans Zq (Keep.of_wr W270).1
  have Vp := Vp.other W270 neVp
  have k272 : ∀ tg, Steps p.tables e below (T270.setTop (mkF m 99 #[.val (.int p1), .val (.long q2), .second, .val (.long q3), .second, .val (.long q4), .second, .val (.long q5), .second, .val (.int xpl), .val (.int xtl), .val (.ref b237), .val (.ref b260), .unset, .unset, .unset, .unset, .unset] [(.int q5.toInt32), (.int (2 : Int32)), (.ref b260)])) tg → Steps p.tables e below (s₁.setTop (entryFrame m #[(.int p1), (.long q2), (.long q3), (.long q4), (.long q5)] maxLocals)) tg := fun tg kg => k271 tg (by
      show Steps p.tables e below (T270.setTop (mkF m 93 #[.val (.int p1), .val (.long q2), .second, .val (.long q3), .second, .val (.long q4), .second, .val (.long q5), .second, .val (.int xpl), .val (.int xtl), .val (.ref b237), .val (.ref b260), .unset, .unset, .unset, .unset, .unset] [])) _
      refine XS.aload X270.here hx rfl (hb hby at_93) rfl rfl ?_
      show Steps p.tables e below (T270.setTop (mkF m 95 #[.val (.int p1), .val (.long q2), .second, .val (.long q3), .second, .val (.long q4), .second, .val (.long q5), .second, .val (.int xpl), .val (.int xtl), .val (.ref b237), .val (.ref b260), .unset, .unset, .unset, .unset, .unset] [(.ref b260)])) _
      refine XS.iconst X270.here hx rfl (hb hby at_95) ?_
      show Steps p.tables e below (T270.setTop (mkF m 96 #[.val (.int p1), .val (.long q2), .second, .val (.long q3), .second, .val (.long q4), .second, .val (.long q5), .second, .val (.int xpl), .val (.int xtl), .val (.ref b237), .val (.ref b260), .unset, .unset, .unset, .unset, .unset] [(.int (2 : Int32)), (.ref b260)])) _
      refine XS.lload X270.here hx rfl (hb hby at_96) rfl ?_
      show Steps p.tables e below (T270.setTop (mkF m 98 #[.val (.int p1), .val (.long q2), .second, .val (.long q3), .second, .val (.long q4), .second, .val (.long q5), .second, .val (.int xpl), .val (.int xtl), .val (.ref b237), .val (.ref b260), .unset, .unset, .unset, .unset, .unset] [(.long q5), (.int (2 : Int32)), (.ref b260)])) _
      refine XS.l2i X270.here hx rfl (hb hby at_98) rfl ?_
      exact kg)
  obtain ⟨_, _, ⟨T273, L273, c273, n273⟩, -, X273, ⟨Lc273, hQ273, l273, y273, z273⟩, st273⟩ := Jvm.LawKit.callS X270 hx (y := (⟨"com/example/modalis/modalis/dicom/service/WildcardMatchesPatternPinLaw", "tc", "(I)I"⟩ : MethodName)) hown (mvT hZ (hw _ (List.mem_of_getElem? (i := 5) rfl))) (mvT hZ (hw _ (List.mem_of_getElem? (i := 6) rfl))) (mvT hZ (hw _ (List.mem_of_getElem? (i := 3) rfl))) (mvT hZ (hw _ (List.mem_of_getElem? (i := 7) rfl))) (by decide) (backOf (W := 2) (rm2 l Z a0 hw [] q5.toInt32 h270 n0 Zq) hZ (hw _ (List.mem_of_getElem? (i := 7) rfl)) (hw _ (List.mem_of_getElem? (i := 3) rfl)) (by decide) (by decide)) (g := (mkF m 99 #[.val (.int p1), .val (.long q2), .second, .val (.long q3), .second, .val (.long q4), .second, .val (.long q5), .second, .val (.int xpl), .val (.int xtl), .val (.ref b237), .val (.ref b260), .unset, .unset, .unset, .unset, .unset] [(.int q5.toInt32), (.int (2 : Int32)), (.ref b260)])) rfl (by rw [hml]; rfl) (argsL := [(.int q5.toInt32)]) (rest := [(.int (2 : Int32)), (.ref b260)]) (lenOf own_pd0 rfl) rfl (by show 2 * 0 + _ ≤ _; exact Nat.le_of_eq rfl) (hb hby at_99) (fun _ _ => ⟨rfl, e270, (by decide : 2 + 0 ≤ _), (by decide : 8 + 0 ≤ _)⟩)
  dsimp only [Pt.U, Pt.locs, Pt.cells, Pt.slots] at X273 l273 y273 z273 st273 hQ273
  obtain rfl : c273 = 2 := y273
  obtain rfl : n273 = 8 := z273
  obtain ⟨rfl, N273q, e273⟩ := hQ273
  have N273 := own_frE l273 (Fr.app N270 N273q)
  have k274 : ∀ tg, Steps p.tables e below (T273.setTop (mkF m 102 #[.val (.int p1), .val (.long q2), .second, .val (.long q3), .second, .val (.long q4), .second, .val (.long q5), .second, .val (.int xpl), .val (.int xtl), .val (.ref b237), .val (.ref b260), .unset, .unset, .unset, .unset, .unset] [(.int (own_tc q5.toInt32)), (.int (2 : Int32)), (.ref b260)])) tg → Steps p.tables e below (s₁.setTop (entryFrame m #[(.int p1), (.long q2), (.long q3), (.long q4), (.long q5)] maxLocals)) tg := fun tg kg => k272 tg (st273 tg kg)
  obtain ⟨cl2, Ar2, S2, G2⟩ := V2
  obtain ⟨T275, h275, X275, e275, W275, st275⟩ := stI X273 hx hZ e273 Ar2 (j := (2 : Int32)) (own_hin S2 (i := 2) (by decide) (by decide)) (g := (mkF m 102 #[.val (.int p1), .val (.long q2), .second, .val (.long q3), .second, .val (.long q4), .second, .val (.long q5), .second, .val (.int xpl), .val (.int xtl), .val (.ref b237), .val (.ref b260), .unset, .unset, .unset, .unset, .unset] [(.int (own_tc q5.toInt32)), (.int (2 : Int32)), (.ref b260)])) rfl rfl (hb hby at_102)
  have N275 := Fr.snoc X275 N273 gv
  have k276 : ∀ tg, Steps p.tables e below (T275.setTop (mkF m 103 #[.val (.int p1), .val (.long q2), .second, .val (.long q3), .second, .val (.long q4), .second, .val (.long q5), .second, .val (.int xpl), .val (.int xtl), .val (.ref b237), .val (.ref b260), .unset, .unset, .unset, .unset, .unset] [])) tg → Steps p.tables e below (s₁.setTop (entryFrame m #[(.int p1), (.long q2), (.long q3), (.long q4), (.long q5)] maxLocals)) tg := fun tg kg => k274 tg (st275 tg kg)
  have V3 := Av.set Ar2 S2 G2 (i := 2) (by decide) W275
  have Zq : n0 ≤ h275.size := Nat.le_trans Zq (Keep.of_wr W275).1
  have Vp := Vp.other W275 neVp
  have k277 : ∀ tg, Steps p.tables e below (T275.setTop (mkF m 112 #[.val (.int p1), .val (.long q2), .second, .val (.long q3), .second, .val (.long q4), .second, .val (.long q5), .second, .val (.int xpl), .val (.int xtl), .val (.ref b237), .val (.ref b260), .unset, .unset, .unset, .unset, .unset] [(.int ((q5.toUInt64 >>> ((32 : Int32) &&& 0x3f).toInt64.toUInt64).toInt64).toInt32), (.int (3 : Int32)), (.ref b260)])) tg → Steps p.tables e below (s₁.setTop (entryFrame m #[(.int p1), (.long q2), (.long q3), (.long q4), (.long q5)] maxLocals)) tg := fun tg kg => k276 tg (by
      show Steps p.tables e below (T275.setTop (mkF m 103 #[.val (.int p1), .val (.long q2), .second, .val (.long q3), .second, .val (.long q4), .second, .val (.long q5), .second, .val (.int xpl), .val (.int xtl), .val (.ref b237), .val (.ref b260), .unset, .unset, .unset, .unset, .unset] [])) _
      refine XS.aload X275.here hx rfl (hb hby at_103) rfl rfl ?_
      show Steps p.tables e below (T275.setTop (mkF m 105 #[.val (.int p1), .val (.long q2), .second, .val (.long q3), .second, .val (.long q4), .second, .val (.long q5), .second, .val (.int xpl), .val (.int xtl), .val (.ref b237), .val (.ref b260), .unset, .unset, .unset, .unset, .unset] [(.ref b260)])) _
      refine XS.iconst X275.here hx rfl (hb hby at_105) ?_
      show Steps p.tables e below (T275.setTop (mkF m 106 #[.val (.int p1), .val (.long q2), .second, .val (.long q3), .second, .val (.long q4), .second, .val (.long q5), .second, .val (.int xpl), .val (.int xtl), .val (.ref b237), .val (.ref b260), .unset, .unset, .unset, .unset, .unset] [(.int (3 : Int32)), (.ref b260)])) _
      refine XS.lload X275.here hx rfl (hb hby at_106) rfl ?_
      show Steps p.tables e below (T275.setTop (mkF m 108 #[.val (.int p1), .val (.long q2), .second, .val (.long q3), .second, .val (.long q4), .second, .val (.long q5), .second, .val (.int xpl), .val (.int xtl), .val (.ref b237), .val (.ref b260), .unset, .unset, .unset, .unset, .unset] [(.long q5), (.int (3 : Int32)), (.ref b260)])) _
      refine XS.bipush X275.here hx rfl (hb hby at_108) ?_
      show Steps p.tables e below (T275.setTop (mkF m 110 #[.val (.int p1), .val (.long q2), .second, .val (.long q3), .second, .val (.long q4), .second, .val (.long q5), .second, .val (.int xpl), .val (.int xtl), .val (.ref b237), .val (.ref b260), .unset, .unset, .unset, .unset, .unset] [(.int (32 : Int32)), (.long q5), (.int (3 : Int32)), (.ref b260)])) _
      refine XS.lushr X275.here hx rfl (hb hby at_110) rfl ?_
      show Steps p.tables e below (T275.setTop (mkF m 111 #[.val (.int p1), .val (.long q2), .second, .val (.long q3), .second, .val (.long q4), .second, .val (.long q5), .second, .val (.int xpl), .val (.int xtl), .val (.ref b237), .val (.ref b260), .unset, .unset, .unset, .unset, .unset] [(.long ((q5.toUInt64 >>> ((32 : Int32) &&& 0x3f).toInt64.toUInt64).toInt64)), (.int (3 : Int32)), (.ref b260)])) _
      refine XS.l2i X275.here hx rfl (hb hby at_111) rfl ?_
      exact kg)
  obtain ⟨_, _, ⟨T278, L278, c278, n278⟩, -, X278, ⟨Lc278, hQ278, l278, y278, z278⟩, st278⟩ := Jvm.LawKit.callS X275 hx (y := (⟨"com/example/modalis/modalis/dicom/service/WildcardMatchesPatternPinLaw", "tc", "(I)I"⟩ : MethodName)) hown (mvT hZ (hw _ (List.mem_of_getElem? (i := 5) rfl))) (mvT hZ (hw _ (List.mem_of_getElem? (i := 6) rfl))) (mvT hZ (hw _ (List.mem_of_getElem? (i := 3) rfl))) (mvT hZ (hw _ (List.mem_of_getElem? (i := 7) rfl))) (by decide) (backOf (W := 2) (rm2 l Z a0 hw [] ((q5.toUInt64 >>> ((32 : Int32) &&& 0x3f).toInt64.toUInt64).toInt64).toInt32 h275 n0 Zq) hZ (hw _ (List.mem_of_getElem? (i := 7) rfl)) (hw _ (List.mem_of_getElem? (i := 3) rfl)) (by decide) (by decide)) (g := (mkF m 112 #[.val (.int p1), .val (.long q2), .second, .val (.long q3), .second, .val (.long q4), .second, .val (.long q5), .second, .val (.int xpl), .val (.int xtl), .val (.ref b237), .val (.ref b260), .unset, .unset, .unset, .unset, .unset] [(.int ((q5.toUInt64 >>> ((32 : Int32) &&& 0x3f).toInt64.toUInt64).toInt64).toInt32), (.int (3 : Int32)), (.ref b260)])) rfl (by rw [hml]; rfl) (argsL := [(.int ((q5.toUInt64 >>> ((32 : Int32) &&& 0x3f).toInt64.toUInt64).toInt64).toInt32)]) (rest := [(.int (3 : Int32)), (.ref b260)]) (lenOf own_pd0 rfl) rfl (by show 2 * 0 + _ ≤ _; exact Nat.le_of_eq rfl) (hb hby at_112) (fun _ _ => ⟨rfl, e275, (by decide : 2 + 0 ≤ _), (by decide : 8 + 0 ≤ _)⟩)
  dsimp only [Pt.U, Pt.locs, Pt.cells, Pt.slots] at X278 l278 y278 z278 st278 hQ278
  obtain rfl : c278 = 2 := y278
  obtain rfl : n278 = 8 := z278
  obtain ⟨rfl, N278q, e278⟩ := hQ278
  have N278 := own_frE l278 (Fr.app N275 N278q)
  have k279 : ∀ tg, Steps p.tables e below (T278.setTop (mkF m 115 #[.val (.int p1), .val (.long q2), .second, .val (.long q3), .second, .val (.long q4), .second, .val (.long q5), .second, .val (.int xpl), .val (.int xtl), .val (.ref b237), .val (.ref b260), .unset, .unset, .unset, .unset, .unset] [(.int (own_tc ((q5.toUInt64 >>> ((32 : Int32) &&& 0x3f).toInt64.toUInt64).toInt64).toInt32)), (.int (3 : Int32)), (.ref b260)])) tg → Steps p.tables e below (s₁.setTop (entryFrame m #[(.int p1), (.long q2), (.long q3), (.long q4), (.long q5)] maxLocals)) tg := fun tg kg => k277 tg (st278 tg kg)
  obtain ⟨cl3, Ar3, S3, G3⟩ := V3
  obtain ⟨T280, h280, X280, e280, W280, st280⟩ := stI X278 hx hZ e278 Ar3 (j := (3 : Int32)) (own_hin S3 (i := 3) (by decide) (by decide)) (g := (mkF m 115 #[.val (.int p1), .val (.long q2), .second, .val (.long q3), .second, .val (.long q4), .second, .val (.long q5), .second, .val (.int xpl), .val (.int xtl), .val (.ref b237), .val (.ref b260), .unset, .unset, .unset, .unset, .unset] [(.int (own_tc ((q5.toUInt64 >>> ((32 : Int32) &&& 0x3f).toInt64.toUInt64).toInt64).toInt32)), (.int (3 : Int32)), (.ref b260)])) rfl rfl (hb hby at_115)
  have N280 := Fr.snoc X280 N278 gv
  have k281 : ∀ tg, Steps p.tables e below (T280.setTop (mkF m 116 #[.val (.int p1), .val (.long q2), .second, .val (.long q3), .second, .val (.long q4), .second, .val (.long q5), .second, .val (.int xpl), .val (.int xtl), .val (.ref b237), .val (.ref b260), .unset, .unset, .unset, .unset, .unset] [])) tg → Steps p.tables e below (s₁.setTop (entryFrame m #[(.int p1), (.long q2), (.long q3), (.long q4), (.long q5)] maxLocals)) tg := fun tg kg => k279 tg (st280 tg kg)
  have V4 := Av.set Ar3 S3 G3 (i := 3) (by decide) W280
  have Zq : n0 ≤ h280.size := Nat.le_trans Zq (Keep.of_wr W280).1
  have Vp := Vp.other W280 neVp
  obtain ⟨tf, etf⟩ : ∃ z, z = own_4 (own_tc q4.toInt32) (own_tc ((q4.toUInt64 >>> ((32 : Int32) &&& 0x3f).toInt64.toUInt64).toInt64).toInt32) (own_tc q5.toInt32) (own_tc ((q5.toUInt64 >>> ((32 : Int32) &&& 0x3f).toInt64.toUInt64).toInt64).toInt32) := ⟨_, rfl⟩
  have Vt : Av Z h280 b260 .int 4 (fun k => .int (tf k)) := V4.congr (fun j _ => by rw [etf]; dsimp only [own_4]; (repeat' split) <;> rfl)
  have Zt := Zq
  have k282 : ∀ tg, Steps p.tables e below (T280.setTop (mkF m 118 #[.val (.int p1), .val (.long q2), .second, .val (.long q3), .second, .val (.long q4), .second, .val (.long q5), .second, .val (.int xpl), .val (.int xtl), .val (.ref b237), .val (.ref b260), .unset, .unset, .unset, .unset, .unset] [(.int (36 : Int32))])) tg → Steps p.tables e below (s₁.setTop (entryFrame m #[(.int p1), (.long q2), (.long q3), (.long q4), (.long q5)] maxLocals)) tg := fun tg kg => k281 tg (by
      show Steps p.tables e below (T280.setTop (mkF m 116 #[.val (.int p1), .val (.long q2), .second, .val (.long q3), .second, .val (.long q4), .second, .val (.long q5), .second, .val (.int xpl), .val (.int xtl), .val (.ref b237), .val (.ref b260), .unset, .unset, .unset, .unset, .unset] [])) _
      refine XS.bipush X280.here hx rfl (hb hby at_116) ?_
      exact kg)
  obtain ⟨T283, h283, c283, X283, e283, E283, A283, st283⟩ := newP X280 hx hZ (hw _ (List.mem_of_getElem? (i := 8) rfl)) e280 (g := (mkF m 118 #[.val (.int p1), .val (.long q2), .second, .val (.long q3), .second, .val (.long q4), .second, .val (.long q5), .second, .val (.int xpl), .val (.int xtl), .val (.ref b237), .val (.ref b260), .unset, .unset, .unset, .unset, .unset] [(.int (36 : Int32))])) rfl (hb hby at_118) rfl (by decide) (cap := 36) (by decide) (by decide) (by decide) (by decide)
  obtain ⟨b283, g283⟩ : ∃ z, z = h280.size := ⟨_, rfl⟩
  rw [← g283] at A283 st283
  have k284 : ∀ tg, Steps p.tables e below (T283.setTop (mkF m 120 #[.val (.int p1), .val (.long q2), .second, .val (.long q3), .second, .val (.long q4), .second, .val (.long q5), .second, .val (.int xpl), .val (.int xtl), .val (.ref b237), .val (.ref b260), .unset, .unset, .unset, .unset, .unset] [(.ref b283)])) tg → Steps p.tables e below (s₁.setTop (entryFrame m #[(.int p1), (.long q2), (.long q3), (.long q4), (.long q5)] maxLocals)) tg := fun tg kg => k282 tg (st283 tg kg)
  have gm : n0 ≤ b283 := Nat.le_trans Zt (Nat.le_of_eq g283.symm)
  have np : b237 ≠ b283 := Nat.ne_of_lt (g283 ▸ Vp.lt)
  have nt : b260 ≠ b283 := Nat.ne_of_lt (g283 ▸ Vt.lt)
  have Vp := Vp.ext E283
  have Vt := Vt.ext E283
  have Zm : n0 ≤ h283.size := Nat.le_trans Zt E283.1
  have Vm := (Av.new A283 (N := 36) (by decide)).congr (g' := fun k => .int ((fun _ => (0 : Int32)) k)) (fun _ _ => rfl)
  have D5 : own_D pl tl pf tf 5 0 (fun _ => (0 : Int32)) := fun i' j' h1 h2 h3 => by omega
  have k285 : ∀ tg, Steps p.tables e below (T283.setTop (mkF m 133 #[.val (.int p1), .val (.long q2), .second, .val (.long q3), .second, .val (.long q4), .second, .val (.long q5), .second, .val (.int xpl), .val (.int xtl), .val (.ref b237), .val (.ref b260), .val (.ref b283), .unset, .unset, .unset, .unset] [(.int (4 : Int32)), (.ref b283), (.int xtl), (.ref b260), (.int xpl), (.ref b237)])) tg → Steps p.tables e below (s₁.setTop (entryFrame m #[(.int p1), (.long q2), (.long q3), (.long q4), (.long q5)] maxLocals)) tg := fun tg kg => k284 tg (by
      show Steps p.tables e below (T283.setTop (mkF m 120 #[.val (.int p1), .val (.long q2), .second, .val (.long q3), .second, .val (.long q4), .second, .val (.long q5), .second, .val (.int xpl), .val (.int xtl), .val (.ref b237), .val (.ref b260), .unset, .unset, .unset, .unset, .unset] [(.ref b283)])) _
      refine XS.astore X283.here hx rfl (hb hby at_120) rfl rfl (l' := #[.val (.int p1), .val (.long q2), .second, .val (.long q3), .second, .val (.long q4), .second, .val (.long q5), .second, .val (.int xpl), .val (.int xtl), .val (.ref b237), .val (.ref b260), .val (.ref b283), .unset, .unset, .unset, .unset]) rfl ?_
      show Steps p.tables e below (T283.setTop (mkF m 122 #[.val (.int p1), .val (.long q2), .second, .val (.long q3), .second, .val (.long q4), .second, .val (.long q5), .second, .val (.int xpl), .val (.int xtl), .val (.ref b237), .val (.ref b260), .val (.ref b283), .unset, .unset, .unset, .unset] [])) _
      refine XS.aload X283.here hx rfl (hb hby at_122) rfl rfl ?_
      show Steps p.tables e below (T283.setTop (mkF m 124 #[.val (.int p1), .val (.long q2), .second, .val (.long q3), .second, .val (.long q4), .second, .val (.long q5), .second, .val (.int xpl), .val (.int xtl), .val (.ref b237), .val (.ref b260), .val (.ref b283), .unset, .unset, .unset, .unset] [(.ref b237)])) _
      refine XS.iload X283.here hx rfl (hb hby at_124) rfl ?_
      show Steps p.tables e below (T283.setTop (mkF m 126 #[.val (.int p1), .val (.long q2), .second, .val (.long q3), .second, .val (.long q4), .second, .val (.long q5), .second, .val (.int xpl), .val (.int xtl), .val (.ref b237), .val (.ref b260), .val (.ref b283), .unset, .unset, .unset, .unset] [(.int xpl), (.ref b237)])) _
      refine XS.aload X283.here hx rfl (hb hby at_126) rfl rfl ?_
      show Steps p.tables e below (T283.setTop (mkF m 128 #[.val (.int p1), .val (.long q2), .second, .val (.long q3), .second, .val (.long q4), .second, .val (.long q5), .second, .val (.int xpl), .val (.int xtl), .val (.ref b237), .val (.ref b260), .val (.ref b283), .unset, .unset, .unset, .unset] [(.ref b260), (.int xpl), (.ref b237)])) _
      refine XS.iload X283.here hx rfl (hb hby at_128) rfl ?_
      show Steps p.tables e below (T283.setTop (mkF m 130 #[.val (.int p1), .val (.long q2), .second, .val (.long q3), .second, .val (.long q4), .second, .val (.long q5), .second, .val (.int xpl), .val (.int xtl), .val (.ref b237), .val (.ref b260), .val (.ref b283), .unset, .unset, .unset, .unset] [(.int xtl), (.ref b260), (.int xpl), (.ref b237)])) _
      refine XS.aload X283.here hx rfl (hb hby at_130) rfl rfl ?_
      show Steps p.tables e below (T283.setTop (mkF m 132 #[.val (.int p1), .val (.long q2), .second, .val (.long q3), .second, .val (.long q4), .second, .val (.long q5), .second, .val (.int xpl), .val (.int xtl), .val (.ref b237), .val (.ref b260), .val (.ref b283), .unset, .unset, .unset, .unset] [(.ref b283), (.int xtl), (.ref b260), (.int xpl), (.ref b237)])) _
      refine XS.iconst X283.here hx rfl (hb hby at_132) ?_
      exact kg)
  obtain ⟨_, _, ⟨T286, L286, c286, n286⟩, -, X286, ⟨Lc286, hQ286, l286, y286, z286⟩, st286⟩ := Jvm.LawKit.callS X283 hx (y := (⟨"com/example/modalis/modalis/dicom/service/WildcardMatchesPatternPinLaw", "row", "([II[II[ZI)V"⟩ : MethodName)) hown (mvT hZ (hw _ (List.mem_of_getElem? (i := 9) rfl))) (mvT hZ (hw _ (List.mem_of_getElem? (i := 10) rfl))) (mvT hZ (hw _ (List.mem_of_getElem? (i := 3) rfl))) (mvT hZ (hw _ (List.mem_of_getElem? (i := 11) rfl))) (by decide) (backOf (W := 0) (rm3 l Z a0 hw [] b237 xpl b260 xtl b283 (4 : Int32) pl tl 4 pf tf (fun _ => (0 : Int32)) h283 n0 Zm hxpl hxtl (by decide) hpl4 htl4 (by decide) gm np nt Vp Vt Vm D5) hZ (hw _ (List.mem_of_getElem? (i := 11) rfl)) (hw _ (List.mem_of_getElem? (i := 3) rfl)) (by decide) (by decide)) (g := (mkF m 133 #[.val (.int p1), .val (.long q2), .second, .val (.long q3), .second, .val (.long q4), .second, .val (.long q5), .second, .val (.int xpl), .val (.int xtl), .val (.ref b237), .val (.ref b260), .val (.ref b283), .unset, .unset, .unset, .unset] [(.int (4 : Int32)), (.ref b283), (.int xtl), (.ref b260), (.int xpl), (.ref b237)])) rfl (by rw [hml]; rfl) (argsL := [(.ref b237), (.int xpl), (.ref b260), (.int xtl), (.ref b283), (.int (4 : Int32))]) (rest := []) (lenOf own_pd1 rfl) rfl (by show 2 * 0 + _ ≤ _; exact Nat.le_of_eq rfl) (hb hby at_133) (fun _ _ => ⟨rfl, e283, (by decide : 3 + 0 ≤ _), (by decide : 44 + 0 ≤ _)⟩)
  dsimp only [Pt.U, Pt.locs, Pt.cells, Pt.slots] at X286 l286 y286 z286 st286 hQ286
  obtain rfl : c286 = 3 := y286
  obtain rfl : n286 = 44 := z286
  obtain ⟨rfl, N286q, K4, g4, Vm, D4⟩ := hQ286
  have N286 := own_frE l286 (Fr.app N280 N286q)
  have k287 : ∀ tg, Steps p.tables e below (T286.setTop (mkF m 136 #[.val (.int p1), .val (.long q2), .second, .val (.long q3), .second, .val (.long q4), .second, .val (.long q5), .second, .val (.int xpl), .val (.int xtl), .val (.ref b237), .val (.ref b260), .val (.ref b283), .unset, .unset, .unset, .unset] [])) tg → Steps p.tables e below (s₁.setTop (entryFrame m #[(.int p1), (.long q2), (.long q3), (.long q4), (.long q5)] maxLocals)) tg := fun tg kg => k285 tg (st286 tg kg)
  have Zm : n0 ≤ T286.heap.size := Nat.le_trans Zm K4.1
  have Vp := Vp.keep K4 (own_ni1 np)
  have Vt := Vt.keep K4 (own_ni1 nt)
  have k288 : ∀ tg, Steps p.tables e below (T286.setTop (mkF m 147 #[.val (.int p1), .val (.long q2), .second, .val (.long q3), .second, .val (.long q4), .second, .val (.long q5), .second, .val (.int xpl), .val (.int xtl), .val (.ref b237), .val (.ref b260), .val (.ref b283), .unset, .unset, .unset, .unset] [(.int (3 : Int32)), (.ref b283), (.int xtl), (.ref b260), (.int xpl), (.ref b237)])) tg → Steps p.tables e below (s₁.setTop (entryFrame m #[(.int p1), (.long q2), (.long q3), (.long q4), (.long q5)] maxLocals)) tg := fun tg kg => k287 tg (by
      show Steps p.tables e below (T286.setTop (mkF m 136 #[.val (.int p1), .val (.long q2), .second, .val (.long q3), .second, .val (.long q4), .second, .val (.long q5), .second, .val (.int xpl), .val (.int xtl), .val (.ref b237), .val (.ref b260), .val (.ref b283), .unset, .unset, .unset, .unset] [])) _
      refine XS.aload X286.here hx rfl (hb hby at_136) rfl rfl ?_
      show Steps p.tables e below (T286.setTop (mkF m 138 #[.val (.int p1), .val (.long q2), .second, .val (.long q3), .second, .val (.long q4), .second, .val (.long q5), .second, .val (.int xpl), .val (.int xtl), .val (.ref b237), .val (.ref b260), .val (.ref b283), .unset, .unset, .unset, .unset] [(.ref b237)])) _
      refine XS.iload X286.here hx rfl (hb hby at_138) rfl ?_
      show Steps p.tables e below (T286.setTop (mkF m 140 #[.val (.int p1), .val (.long q2), .second, .val (.long q3), .second, .val (.long q4), .second, .val (.long q5), .second, .val (.int xpl), .val (.int xtl), .val (.ref b237), .val (.ref b260), .val (.ref b283), .unset, .unset, .unset, .unset] [(.int xpl), (.ref b237)])) _
      refine XS.aload X286.here hx rfl (hb hby at_140) rfl rfl ?_
      show Steps p.tables e below (T286.setTop (mkF m 142 #[.val (.int p1), .val (.long q2), .second, .val (.long q3), .second, .val (.long q4), .second, .val (.long q5), .second, .val (.int xpl), .val (.int xtl), .val (.ref b237), .val (.ref b260), .val (.ref b283), .unset, .unset, .unset, .unset] [(.ref b260), (.int xpl), (.ref b237)])) _
      refine XS.iload X286.here hx rfl (hb hby at_142) rfl ?_
      show Steps p.tables e below (T286.setTop (mkF m 144 #[.val (.int p1), .val (.long q2), .second, .val (.long q3), .second, .val (.long q4), .second, .val (.long q5), .second, .val (.int xpl), .val (.int xtl), .val (.ref b237), .val (.ref b260), .val (.ref b283), .unset, .unset, .unset, .unset] [(.int xtl), (.ref b260), (.int xpl), (.ref b237)])) _
      refine XS.aload X286.here hx rfl (hb hby at_144) rfl rfl ?_
      show Steps p.tables e below (T286.setTop (mkF m 146 #[.val (.int p1), .val (.long q2), .second, .val (.long q3), .second, .val (.long q4), .second, .val (.long q5), .second, .val (.int xpl), .val (.int xtl), .val (.ref b237), .val (.ref b260), .val (.ref b283), .unset, .unset, .unset, .unset] [(.ref b283), (.int xtl), (.ref b260), (.int xpl), (.ref b237)])) _
      refine XS.iconst X286.here hx rfl (hb hby at_146) ?_
      exact kg)
  obtain ⟨_, _, ⟨T289, L289, c289, n289⟩, -, X289, ⟨Lc289, hQ289, l289, y289, z289⟩, st289⟩ := Jvm.LawKit.callS X286 hx (y := (⟨"com/example/modalis/modalis/dicom/service/WildcardMatchesPatternPinLaw", "row", "([II[II[ZI)V"⟩ : MethodName)) hown (mvT hZ (hw _ (List.mem_of_getElem? (i := 9) rfl))) (mvT hZ (hw _ (List.mem_of_getElem? (i := 10) rfl))) (mvT hZ (hw _ (List.mem_of_getElem? (i := 3) rfl))) (mvT hZ (hw _ (List.mem_of_getElem? (i := 11) rfl))) (by decide) (backOf (W := 0) (rm3 l Z a0 hw [] b237 xpl b260 xtl b283 (3 : Int32) pl tl 3 pf tf g4 T286.heap n0 Zm hxpl hxtl (by decide) hpl4 htl4 (by decide) gm np nt Vp Vt Vm D4) hZ (hw _ (List.mem_of_getElem? (i := 11) rfl)) (hw _ (List.mem_of_getElem? (i := 3) rfl)) (by decide) (by decide)) (g := (mkF m 147 #[.val (.int p1), .val (.long q2), .second, .val (.long q3), .second, .val (.long q4), .second, .val (.long q5), .second, .val (.int xpl), .val (.int xtl), .val (.ref b237), .val (.ref b260), .val (.ref b283), .unset, .unset, .unset, .unset] [(.int (3 : Int32)), (.ref b283), (.int xtl), (.ref b260), (.int xpl), (.ref b237)])) rfl (by rw [hml]; rfl) (argsL := [(.ref b237), (.int xpl), (.ref b260), (.int xtl), (.ref b283), (.int (3 : Int32))]) (rest := []) (lenOf own_pd1 rfl) rfl (by show 2 * 0 + _ ≤ _; exact Nat.le_of_eq rfl) (hb hby at_147) (fun _ _ => ⟨rfl, rfl, (by decide : 3 + 0 ≤ _), (by decide : 44 + 0 ≤ _)⟩)
  dsimp only [Pt.U, Pt.locs, Pt.cells, Pt.slots] at X289 l289 y289 z289 st289 hQ289
  obtain rfl : c289 = 3 := y289
  obtain rfl : n289 = 44 := z289
  obtain ⟨rfl, N289q, K3, g3, Vm, D3⟩ := hQ289
  have N289 := own_frE l289 (Fr.app N286 N289q)
  have k290 : ∀ tg, Steps p.tables e below (T289.setTop (mkF m 150 #[.val (.int p1), .val (.long q2), .second, .val (.long q3), .second, .val (.long q4), .second, .val (.long q5), .second, .val (.int xpl), .val (.int xtl), .val (.ref b237), .val (.ref b260), .val (.ref b283), .unset, .unset, .unset, .unset] [])) tg → Steps p.tables e below (s₁.setTop (entryFrame m #[(.int p1), (.long q2), (.long q3), (.long q4), (.long q5)] maxLocals)) tg := fun tg kg => k288 tg (st289 tg kg)
  have Zm : n0 ≤ T289.heap.size := Nat.le_trans Zm K3.1
  have Vp := Vp.keep K3 (own_ni1 np)
  have Vt := Vt.keep K3 (own_ni1 nt)
  have k291 : ∀ tg, Steps p.tables e below (T289.setTop (mkF m 161 #[.val (.int p1), .val (.long q2), .second, .val (.long q3), .second, .val (.long q4), .second, .val (.long q5), .second, .val (.int xpl), .val (.int xtl), .val (.ref b237), .val (.ref b260), .val (.ref b283), .unset, .unset, .unset, .unset] [(.int (2 : Int32)), (.ref b283), (.int xtl), (.ref b260), (.int xpl), (.ref b237)])) tg → Steps p.tables e below (s₁.setTop (entryFrame m #[(.int p1), (.long q2), (.long q3), (.long q4), (.long q5)] maxLocals)) tg := fun tg kg => k290 tg (by
      show Steps p.tables e below (T289.setTop (mkF m 150 #[.val (.int p1), .val (.long q2), .second, .val (.long q3), .second, .val (.long q4), .second, .val (.long q5), .second, .val (.int xpl), .val (.int xtl), .val (.ref b237), .val (.ref b260), .val (.ref b283), .unset, .unset, .unset, .unset] [])) _
      refine XS.aload X289.here hx rfl (hb hby at_150) rfl rfl ?_
      show Steps p.tables e below (T289.setTop (mkF m 152 #[.val (.int p1), .val (.long q2), .second, .val (.long q3), .second, .val (.long q4), .second, .val (.long q5), .second, .val (.int xpl), .val (.int xtl), .val (.ref b237), .val (.ref b260), .val (.ref b283), .unset, .unset, .unset, .unset] [(.ref b237)])) _
      refine XS.iload X289.here hx rfl (hb hby at_152) rfl ?_
      show Steps p.tables e below (T289.setTop (mkF m 154 #[.val (.int p1), .val (.long q2), .second, .val (.long q3), .second, .val (.long q4), .second, .val (.long q5), .second, .val (.int xpl), .val (.int xtl), .val (.ref b237), .val (.ref b260), .val (.ref b283), .unset, .unset, .unset, .unset] [(.int xpl), (.ref b237)])) _
      refine XS.aload X289.here hx rfl (hb hby at_154) rfl rfl ?_
      show Steps p.tables e below (T289.setTop (mkF m 156 #[.val (.int p1), .val (.long q2), .second, .val (.long q3), .second, .val (.long q4), .second, .val (.long q5), .second, .val (.int xpl), .val (.int xtl), .val (.ref b237), .val (.ref b260), .val (.ref b283), .unset, .unset, .unset, .unset] [(.ref b260), (.int xpl), (.ref b237)])) _
      refine XS.iload X289.here hx rfl (hb hby at_156) rfl ?_
      show Steps p.tables e below (T289.setTop (mkF m 158 #[.val (.int p1), .val (.long q2), .second, .val (.long q3), .second, .val (.long q4), .second, .val (.long q5), .second, .val (.int xpl), .val (.int xtl), .val (.ref b237), .val (.ref b260), .val (.ref b283), .unset, .unset, .unset, .unset] [(.int xtl), (.ref b260), (.int xpl), (.ref b237)])) _
      refine XS.aload X289.here hx rfl (hb hby at_158) rfl rfl ?_
      show Steps p.tables e below (T289.setTop (mkF m 160 #[.val (.int p1), .val (.long q2), .second, .val (.long q3), .second, .val (.long q4), .second, .val (.long q5), .second, .val (.int xpl), .val (.int xtl), .val (.ref b237), .val (.ref b260), .val (.ref b283), .unset, .unset, .unset, .unset] [(.ref b283), (.int xtl), (.ref b260), (.int xpl), (.ref b237)])) _
      refine XS.iconst X289.here hx rfl (hb hby at_160) ?_
      exact kg)
  obtain ⟨_, _, ⟨T292, L292, c292, n292⟩, -, X292, ⟨Lc292, hQ292, l292, y292, z292⟩, st292⟩ := Jvm.LawKit.callS X289 hx (y := (⟨"com/example/modalis/modalis/dicom/service/WildcardMatchesPatternPinLaw", "row", "([II[II[ZI)V"⟩ : MethodName)) hown (mvT hZ (hw _ (List.mem_of_getElem? (i := 9) rfl))) (mvT hZ (hw _ (List.mem_of_getElem? (i := 10) rfl))) (mvT hZ (hw _ (List.mem_of_getElem? (i := 3) rfl))) (mvT hZ (hw _ (List.mem_of_getElem? (i := 11) rfl))) (by decide) (backOf (W := 0) (rm3 l Z a0 hw [] b237 xpl b260 xtl b283 (2 : Int32) pl tl 2 pf tf g3 T289.heap n0 Zm hxpl hxtl (by decide) hpl4 htl4 (by decide) gm np nt Vp Vt Vm D3) hZ (hw _ (List.mem_of_getElem? (i := 11) rfl)) (hw _ (List.mem_of_getElem? (i := 3) rfl)) (by decide) (by decide)) (g := (mkF m 161 #[.val (.int p1), .val (.long q2), .second, .val (.long q3), .second, .val (.long q4), .second, .val (.long q5), .second, .val (.int xpl), .val (.int xtl), .val (.ref b237), .val (.ref b260), .val (.ref b283), .unset, .unset, .unset, .unset] [(.int (2 : Int32)), (.ref b283), (.int xtl), (.ref b260), (.int xpl), (.ref b237)])) rfl (by rw [hml]; rfl) (argsL := [(.ref b237), (.int xpl), (.ref b260), (.int xtl), (.ref b283), (.int (2 : Int32))]) (rest := []) (lenOf own_pd1 rfl) rfl (by show 2 * 0 + _ ≤ _; exact Nat.le_of_eq rfl) (hb hby at_161) (fun _ _ => ⟨rfl, rfl, (by decide : 3 + 0 ≤ _), (by decide : 44 + 0 ≤ _)⟩)
  dsimp only [Pt.U, Pt.locs, Pt.cells, Pt.slots] at X292 l292 y292 z292 st292 hQ292
  obtain rfl : c292 = 3 := y292
  obtain rfl : n292 = 44 := z292
  obtain ⟨rfl, N292q, K2, g2, Vm, D2⟩ := hQ292
  have N292 := own_frE l292 (Fr.app N289 N292q)
  have k293 : ∀ tg, Steps p.tables e below (T292.setTop (mkF m 164 #[.val (.int p1), .val (.long q2), .second, .val (.long q3), .second, .val (.long q4), .second, .val (.long q5), .second, .val (.int xpl), .val (.int xtl), .val (.ref b237), .val (.ref b260), .val (.ref b283), .unset, .unset, .unset, .unset] [])) tg → Steps p.tables e below (s₁.setTop (entryFrame m #[(.int p1), (.long q2), (.long q3), (.long q4), (.long q5)] maxLocals)) tg := fun tg kg => k291 tg (st292 tg kg)
  have Zm : n0 ≤ T292.heap.size := Nat.le_trans Zm K2.1
  have Vp := Vp.keep K2 (own_ni1 np)
  have Vt := Vt.keep K2 (own_ni1 nt)
  have k294 : ∀ tg, Steps p.tables e below (T292.setTop (mkF m 175 #[.val (.int p1), .val (.long q2), .second, .val (.long q3), .second, .val (.long q4), .second, .val (.long q5), .second, .val (.int xpl), .val (.int xtl), .val (.ref b237), .val (.ref b260), .val (.ref b283), .unset, .unset, .unset, .unset] [(.int (1 : Int32)), (.ref b283), (.int xtl), (.ref b260), (.int xpl), (.ref b237)])) tg → Steps p.tables e below (s₁.setTop (entryFrame m #[(.int p1), (.long q2), (.long q3), (.long q4), (.long q5)] maxLocals)) tg := fun tg kg => k293 tg (by
      show Steps p.tables e below (T292.setTop (mkF m 164 #[.val (.int p1), .val (.long q2), .second, .val (.long q3), .second, .val (.long q4), .second, .val (.long q5), .second, .val (.int xpl), .val (.int xtl), .val (.ref b237), .val (.ref b260), .val (.ref b283), .unset, .unset, .unset, .unset] [])) _
      refine XS.aload X292.here hx rfl (hb hby at_164) rfl rfl ?_
      show Steps p.tables e below (T292.setTop (mkF m 166 #[.val (.int p1), .val (.long q2), .second, .val (.long q3), .second, .val (.long q4), .second, .val (.long q5), .second, .val (.int xpl), .val (.int xtl), .val (.ref b237), .val (.ref b260), .val (.ref b283), .unset, .unset, .unset, .unset] [(.ref b237)])) _
      refine XS.iload X292.here hx rfl (hb hby at_166) rfl ?_
      show Steps p.tables e below (T292.setTop (mkF m 168 #[.val (.int p1), .val (.long q2), .second, .val (.long q3), .second, .val (.long q4), .second, .val (.long q5), .second, .val (.int xpl), .val (.int xtl), .val (.ref b237), .val (.ref b260), .val (.ref b283), .unset, .unset, .unset, .unset] [(.int xpl), (.ref b237)])) _
      refine XS.aload X292.here hx rfl (hb hby at_168) rfl rfl ?_
      show Steps p.tables e below (T292.setTop (mkF m 170 #[.val (.int p1), .val (.long q2), .second, .val (.long q3), .second, .val (.long q4), .second, .val (.long q5), .second, .val (.int xpl), .val (.int xtl), .val (.ref b237), .val (.ref b260), .val (.ref b283), .unset, .unset, .unset, .unset] [(.ref b260), (.int xpl), (.ref b237)])) _
      refine XS.iload X292.here hx rfl (hb hby at_170) rfl ?_
      show Steps p.tables e below (T292.setTop (mkF m 172 #[.val (.int p1), .val (.long q2), .second, .val (.long q3), .second, .val (.long q4), .second, .val (.long q5), .second, .val (.int xpl), .val (.int xtl), .val (.ref b237), .val (.ref b260), .val (.ref b283), .unset, .unset, .unset, .unset] [(.int xtl), (.ref b260), (.int xpl), (.ref b237)])) _
      refine XS.aload X292.here hx rfl (hb hby at_172) rfl rfl ?_
      show Steps p.tables e below (T292.setTop (mkF m 174 #[.val (.int p1), .val (.long q2), .second, .val (.long q3), .second, .val (.long q4), .second, .val (.long q5), .second, .val (.int xpl), .val (.int xtl), .val (.ref b237), .val (.ref b260), .val (.ref b283), .unset, .unset, .unset, .unset] [(.ref b283), (.int xtl), (.ref b260), (.int xpl), (.ref b237)])) _
      refine XS.iconst X292.here hx rfl (hb hby at_174) ?_
      exact kg)
  obtain ⟨_, _, ⟨T295, L295, c295, n295⟩, -, X295, ⟨Lc295, hQ295, l295, y295, z295⟩, st295⟩ := Jvm.LawKit.callS X292 hx (y := (⟨"com/example/modalis/modalis/dicom/service/WildcardMatchesPatternPinLaw", "row", "([II[II[ZI)V"⟩ : MethodName)) hown (mvT hZ (hw _ (List.mem_of_getElem? (i := 9) rfl))) (mvT hZ (hw _ (List.mem_of_getElem? (i := 10) rfl))) (mvT hZ (hw _ (List.mem_of_getElem? (i := 3) rfl))) (mvT hZ (hw _ (List.mem_of_getElem? (i := 11) rfl))) (by decide) (backOf (W := 0) (rm3 l Z a0 hw [] b237 xpl b260 xtl b283 (1 : Int32) pl tl 1 pf tf g2 T292.heap n0 Zm hxpl hxtl (by decide) hpl4 htl4 (by decide) gm np nt Vp Vt Vm D2) hZ (hw _ (List.mem_of_getElem? (i := 11) rfl)) (hw _ (List.mem_of_getElem? (i := 3) rfl)) (by decide) (by decide)) (g := (mkF m 175 #[.val (.int p1), .val (.long q2), .second, .val (.long q3), .second, .val (.long q4), .second, .val (.long q5), .second, .val (.int xpl), .val (.int xtl), .val (.ref b237), .val (.ref b260), .val (.ref b283), .unset, .unset, .unset, .unset] [(.int (1 : Int32)), (.ref b283), (.int xtl), (.ref b260), (.int xpl), (.ref b237)])) rfl (by rw [hml]; rfl) (argsL := [(.ref b237), (.int xpl), (.ref b260), (.int xtl), (.ref b283), (.int (1 : Int32))]) (rest := []) (lenOf own_pd1 rfl) rfl (by show 2 * 0 + _ ≤ _; exact Nat.le_of_eq rfl) (hb hby at_175) (fun _ _ => ⟨rfl, rfl, (by decide : 3 + 0 ≤ _), (by decide : 44 + 0 ≤ _)⟩)
  dsimp only [Pt.U, Pt.locs, Pt.cells, Pt.slots] at X295 l295 y295 z295 st295 hQ295
  obtain rfl : c295 = 3 := y295
  obtain rfl : n295 = 44 := z295
  obtain ⟨rfl, N295q, K1, g1, Vm, D1⟩ := hQ295
  have N295 := own_frE l295 (Fr.app N292 N295q)
  have k296 : ∀ tg, Steps p.tables e below (T295.setTop (mkF m 178 #[.val (.int p1), .val (.long q2), .second, .val (.long q3), .second, .val (.long q4), .second, .val (.long q5), .second, .val (.int xpl), .val (.int xtl), .val (.ref b237), .val (.ref b260), .val (.ref b283), .unset, .unset, .unset, .unset] [])) tg → Steps p.tables e below (s₁.setTop (entryFrame m #[(.int p1), (.long q2), (.long q3), (.long q4), (.long q5)] maxLocals)) tg := fun tg kg => k294 tg (st295 tg kg)
  have Zm : n0 ≤ T295.heap.size := Nat.le_trans Zm K1.1
  have Vp := Vp.keep K1 (own_ni1 np)
  have Vt := Vt.keep K1 (own_ni1 nt)
  have k297 : ∀ tg, Steps p.tables e below (T295.setTop (mkF m 189 #[.val (.int p1), .val (.long q2), .second, .val (.long q3), .second, .val (.long q4), .second, .val (.long q5), .second, .val (.int xpl), .val (.int xtl), .val (.ref b237), .val (.ref b260), .val (.ref b283), .unset, .unset, .unset, .unset] [(.int (0 : Int32)), (.ref b283), (.int xtl), (.ref b260), (.int xpl), (.ref b237)])) tg → Steps p.tables e below (s₁.setTop (entryFrame m #[(.int p1), (.long q2), (.long q3), (.long q4), (.long q5)] maxLocals)) tg := fun tg kg => k296 tg (by
      show Steps p.tables e below (T295.setTop (mkF m 178 #[.val (.int p1), .val (.long q2), .second, .val (.long q3), .second, .val (.long q4), .second, .val (.long q5), .second, .val (.int xpl), .val (.int xtl), .val (.ref b237), .val (.ref b260), .val (.ref b283), .unset, .unset, .unset, .unset] [])) _
      refine XS.aload X295.here hx rfl (hb hby at_178) rfl rfl ?_
      show Steps p.tables e below (T295.setTop (mkF m 180 #[.val (.int p1), .val (.long q2), .second, .val (.long q3), .second, .val (.long q4), .second, .val (.long q5), .second, .val (.int xpl), .val (.int xtl), .val (.ref b237), .val (.ref b260), .val (.ref b283), .unset, .unset, .unset, .unset] [(.ref b237)])) _
      refine XS.iload X295.here hx rfl (hb hby at_180) rfl ?_
      show Steps p.tables e below (T295.setTop (mkF m 182 #[.val (.int p1), .val (.long q2), .second, .val (.long q3), .second, .val (.long q4), .second, .val (.long q5), .second, .val (.int xpl), .val (.int xtl), .val (.ref b237), .val (.ref b260), .val (.ref b283), .unset, .unset, .unset, .unset] [(.int xpl), (.ref b237)])) _
      refine XS.aload X295.here hx rfl (hb hby at_182) rfl rfl ?_
      show Steps p.tables e below (T295.setTop (mkF m 184 #[.val (.int p1), .val (.long q2), .second, .val (.long q3), .second, .val (.long q4), .second, .val (.long q5), .second, .val (.int xpl), .val (.int xtl), .val (.ref b237), .val (.ref b260), .val (.ref b283), .unset, .unset, .unset, .unset] [(.ref b260), (.int xpl), (.ref b237)])) _
      refine XS.iload X295.here hx rfl (hb hby at_184) rfl ?_
      show Steps p.tables e below (T295.setTop (mkF m 186 #[.val (.int p1), .val (.long q2), .second, .val (.long q3), .second, .val (.long q4), .second, .val (.long q5), .second, .val (.int xpl), .val (.int xtl), .val (.ref b237), .val (.ref b260), .val (.ref b283), .unset, .unset, .unset, .unset] [(.int xtl), (.ref b260), (.int xpl), (.ref b237)])) _
      refine XS.aload X295.here hx rfl (hb hby at_186) rfl rfl ?_
      show Steps p.tables e below (T295.setTop (mkF m 188 #[.val (.int p1), .val (.long q2), .second, .val (.long q3), .second, .val (.long q4), .second, .val (.long q5), .second, .val (.int xpl), .val (.int xtl), .val (.ref b237), .val (.ref b260), .val (.ref b283), .unset, .unset, .unset, .unset] [(.ref b283), (.int xtl), (.ref b260), (.int xpl), (.ref b237)])) _
      refine XS.iconst X295.here hx rfl (hb hby at_188) ?_
      exact kg)
  obtain ⟨_, _, ⟨T298, L298, c298, n298⟩, -, X298, ⟨Lc298, hQ298, l298, y298, z298⟩, st298⟩ := Jvm.LawKit.callS X295 hx (y := (⟨"com/example/modalis/modalis/dicom/service/WildcardMatchesPatternPinLaw", "row", "([II[II[ZI)V"⟩ : MethodName)) hown (mvT hZ (hw _ (List.mem_of_getElem? (i := 9) rfl))) (mvT hZ (hw _ (List.mem_of_getElem? (i := 10) rfl))) (mvT hZ (hw _ (List.mem_of_getElem? (i := 3) rfl))) (mvT hZ (hw _ (List.mem_of_getElem? (i := 11) rfl))) (by decide) (backOf (W := 0) (rm3 l Z a0 hw [] b237 xpl b260 xtl b283 (0 : Int32) pl tl 0 pf tf g1 T295.heap n0 Zm hxpl hxtl (by decide) hpl4 htl4 (by decide) gm np nt Vp Vt Vm D1) hZ (hw _ (List.mem_of_getElem? (i := 11) rfl)) (hw _ (List.mem_of_getElem? (i := 3) rfl)) (by decide) (by decide)) (g := (mkF m 189 #[.val (.int p1), .val (.long q2), .second, .val (.long q3), .second, .val (.long q4), .second, .val (.long q5), .second, .val (.int xpl), .val (.int xtl), .val (.ref b237), .val (.ref b260), .val (.ref b283), .unset, .unset, .unset, .unset] [(.int (0 : Int32)), (.ref b283), (.int xtl), (.ref b260), (.int xpl), (.ref b237)])) rfl (by rw [hml]; rfl) (argsL := [(.ref b237), (.int xpl), (.ref b260), (.int xtl), (.ref b283), (.int (0 : Int32))]) (rest := []) (lenOf own_pd1 rfl) rfl (by show 2 * 0 + _ ≤ _; exact Nat.le_of_eq rfl) (hb hby at_189) (fun _ _ => ⟨rfl, rfl, (by decide : 3 + 0 ≤ _), (by decide : 44 + 0 ≤ _)⟩)
  dsimp only [Pt.U, Pt.locs, Pt.cells, Pt.slots] at X298 l298 y298 z298 st298 hQ298
  obtain rfl : c298 = 3 := y298
  obtain rfl : n298 = 44 := z298
  obtain ⟨rfl, N298q, K0, g0, Vm, D0⟩ := hQ298
  have N298 := own_frE l298 (Fr.app N295 N298q)
  have k299 : ∀ tg, Steps p.tables e below (T298.setTop (mkF m 192 #[.val (.int p1), .val (.long q2), .second, .val (.long q3), .second, .val (.long q4), .second, .val (.long q5), .second, .val (.int xpl), .val (.int xtl), .val (.ref b237), .val (.ref b260), .val (.ref b283), .unset, .unset, .unset, .unset] [])) tg → Steps p.tables e below (s₁.setTop (entryFrame m #[(.int p1), (.long q2), (.long q3), (.long q4), (.long q5)] maxLocals)) tg := fun tg kg => k297 tg (st298 tg kg)
  have Zm : n0 ≤ T298.heap.size := Nat.le_trans Zm K0.1
  have Vp := Vp.keep K0 (own_ni1 np)
  have Vt := Vt.keep K0 (own_ni1 nt)
  have hexp : g0 0 = own_b (own_mm pl tl pf tf 0 0) := D0 0 0 (Nat.zero_le _) (Nat.zero_le _) (Or.inr ⟨rfl, Nat.le_refl _⟩)
  obtain ⟨cm, Am, Sm, Gm⟩ := Vm
  have k300 : ∀ tg, Steps p.tables e below (T298.setTop (mkF m 202 #[.val (.int p1), .val (.long q2), .second, .val (.long q3), .second, .val (.long q4), .second, .val (.long q5), .second, .val (.int xpl), .val (.int xtl), .val (.ref b237), .val (.ref b260), .val (.ref b283), .val (.int (g0 0)), .unset, .unset, .unset] [(.int xpl), (.ref b237)])) tg → Steps p.tables e below (s₁.setTop (entryFrame m #[(.int p1), (.long q2), (.long q3), (.long q4), (.long q5)] maxLocals)) tg := fun tg kg => k299 tg (by
      show Steps p.tables e below (T298.setTop (mkF m 192 #[.val (.int p1), .val (.long q2), .second, .val (.long q3), .second, .val (.long q4), .second, .val (.long q5), .second, .val (.int xpl), .val (.int xtl), .val (.ref b237), .val (.ref b260), .val (.ref b283), .unset, .unset, .unset, .unset] [])) _
      refine XS.aload X298.here hx rfl (hb hby at_192) rfl rfl ?_
      show Steps p.tables e below (T298.setTop (mkF m 194 #[.val (.int p1), .val (.long q2), .second, .val (.long q3), .second, .val (.long q4), .second, .val (.long q5), .second, .val (.int xpl), .val (.int xtl), .val (.ref b237), .val (.ref b260), .val (.ref b283), .unset, .unset, .unset, .unset] [(.ref b283)])) _
      refine XS.iconst X298.here hx rfl (hb hby at_194) ?_
      show Steps p.tables e below (T298.setTop (mkF m 195 #[.val (.int p1), .val (.long q2), .second, .val (.long q3), .second, .val (.long q4), .second, .val (.long q5), .second, .val (.int xpl), .val (.int xtl), .val (.ref b237), .val (.ref b260), .val (.ref b283), .unset, .unset, .unset, .unset] [(.int (0 : Int32)), (.ref b283)])) _
      refine X298.baloadBooleans hx (j := (0 : Int32)) (v := (.int (g0 0))) Am.1 (State.isArrayOf_alike hZ.alike Am.2.1) Am.2.2 (own_hin Sm (i := 0) (by decide) (by decide)) (own_hat Gm (i := 0) (by decide) (by decide)) (g := (mkF m 195 #[.val (.int p1), .val (.long q2), .second, .val (.long q3), .second, .val (.long q4), .second, .val (.long q5), .second, .val (.int xpl), .val (.int xtl), .val (.ref b237), .val (.ref b260), .val (.ref b283), .unset, .unset, .unset, .unset] [(.int (0 : Int32)), (.ref b283)])) rfl rfl (hb hby at_195) _ ?_
      show Steps p.tables e below (T298.setTop (mkF m 196 #[.val (.int p1), .val (.long q2), .second, .val (.long q3), .second, .val (.long q4), .second, .val (.long q5), .second, .val (.int xpl), .val (.int xtl), .val (.ref b237), .val (.ref b260), .val (.ref b283), .unset, .unset, .unset, .unset] [(.int (g0 0))])) _
      refine XS.istore X298.here hx rfl (hb hby at_196) rfl (l' := #[.val (.int p1), .val (.long q2), .second, .val (.long q3), .second, .val (.long q4), .second, .val (.long q5), .second, .val (.int xpl), .val (.int xtl), .val (.ref b237), .val (.ref b260), .val (.ref b283), .val (.int (g0 0)), .unset, .unset, .unset]) rfl ?_
      show Steps p.tables e below (T298.setTop (mkF m 198 #[.val (.int p1), .val (.long q2), .second, .val (.long q3), .second, .val (.long q4), .second, .val (.long q5), .second, .val (.int xpl), .val (.int xtl), .val (.ref b237), .val (.ref b260), .val (.ref b283), .val (.int (g0 0)), .unset, .unset, .unset] [])) _
      refine XS.aload X298.here hx rfl (hb hby at_198) rfl rfl ?_
      show Steps p.tables e below (T298.setTop (mkF m 200 #[.val (.int p1), .val (.long q2), .second, .val (.long q3), .second, .val (.long q4), .second, .val (.long q5), .second, .val (.int xpl), .val (.int xtl), .val (.ref b237), .val (.ref b260), .val (.ref b283), .val (.int (g0 0)), .unset, .unset, .unset] [(.ref b237)])) _
      refine XS.iload X298.here hx rfl (hb hby at_200) rfl ?_
      exact kg)
  obtain ⟨_, _, ⟨T301, L301, c301, n301⟩, -, X301, ⟨Lc301, hQ301, l301, y301, z301⟩, st301⟩ := Jvm.LawKit.callS X298 hx (y := (⟨"com/example/modalis/modalis/dicom/service/WildcardMatchesPatternPinLaw", "prefix", "([II)[I"⟩ : MethodName)) hown (mvT hZ (hw _ (List.mem_of_getElem? (i := 15) rfl))) (mvT hZ (hw _ (List.mem_of_getElem? (i := 16) rfl))) (mvT hZ (hw _ (List.mem_of_getElem? (i := 3) rfl))) (mvT hZ (hw _ (List.mem_of_getElem? (i := 17) rfl))) (by decide) (backOf (W := 0) (rm5 l Z a0 hw [] b237 xpl pl pf T298.heap n0 Zm hxpl hpl4 Vp) hZ (hw _ (List.mem_of_getElem? (i := 17) rfl)) (hw _ (List.mem_of_getElem? (i := 3) rfl)) (by decide) (by decide)) (g := (mkF m 202 #[.val (.int p1), .val (.long q2), .second, .val (.long q3), .second, .val (.long q4), .second, .val (.long q5), .second, .val (.int xpl), .val (.int xtl), .val (.ref b237), .val (.ref b260), .val (.ref b283), .val (.int (g0 0)), .unset, .unset, .unset] [(.int xpl), (.ref b237)])) rfl (by rw [hml]; rfl) (argsL := [(.ref b237), (.int xpl)]) (rest := []) (lenOf own_pd3 rfl) rfl (by show 2 * 0 + _ ≤ _; exact Nat.le_of_eq rfl) (hb hby at_202) (fun _ _ => ⟨rfl, rfl, (by decide : 3 + 1 ≤ _), (by decide : 44 + 4 ≤ _)⟩)
  dsimp only [Pt.U, Pt.locs, Pt.cells, Pt.slots] at X301 l301 y301 z301 st301 hQ301
  obtain rfl : c301 = 4 := y301
  obtain rfl : n301 = 48 := z301
  obtain ⟨bp, rfl, N301q, Kp, Vpp⟩ := hQ301
  have N301 := own_frE l301 (Fr.app N298 N301q)
  have k302 : ∀ tg, Steps p.tables e below (T301.setTop (mkF m 205 #[.val (.int p1), .val (.long q2), .second, .val (.long q3), .second, .val (.long q4), .second, .val (.long q5), .second, .val (.int xpl), .val (.int xtl), .val (.ref b237), .val (.ref b260), .val (.ref b283), .val (.int (g0 0)), .unset, .unset, .unset] [(.ref bp)])) tg → Steps p.tables e below (s₁.setTop (entryFrame m #[(.int p1), (.long q2), (.long q3), (.long q4), (.long q5)] maxLocals)) tg := fun tg kg => k300 tg (st301 tg kg)
  have Vt := Vt.keep Kp nin0
  have Zr : n0 ≤ T301.heap.size := Nat.le_trans Zm Kp.1
  have k303 : ∀ tg, Steps p.tables e below (T301.setTop (mkF m 211 #[.val (.int p1), .val (.long q2), .second, .val (.long q3), .second, .val (.long q4), .second, .val (.long q5), .second, .val (.int xpl), .val (.int xtl), .val (.ref b237), .val (.ref b260), .val (.ref b283), .val (.int (g0 0)), .val (.ref bp), .unset, .unset] [(.int xtl), (.ref b260)])) tg → Steps p.tables e below (s₁.setTop (entryFrame m #[(.int p1), (.long q2), (.long q3), (.long q4), (.long q5)] maxLocals)) tg := fun tg kg => k302 tg (by
      show Steps p.tables e below (T301.setTop (mkF m 205 #[.val (.int p1), .val (.long q2), .second, .val (.long q3), .second, .val (.long q4), .second, .val (.long q5), .second, .val (.int xpl), .val (.int xtl), .val (.ref b237), .val (.ref b260), .val (.ref b283), .val (.int (g0 0)), .unset, .unset, .unset] [(.ref bp)])) _
      refine XS.astore X301.here hx rfl (hb hby at_205) rfl rfl (l' := #[.val (.int p1), .val (.long q2), .second, .val (.long q3), .second, .val (.long q4), .second, .val (.long q5), .second, .val (.int xpl), .val (.int xtl), .val (.ref b237), .val (.ref b260), .val (.ref b283), .val (.int (g0 0)), .val (.ref bp), .unset, .unset]) rfl ?_
      show Steps p.tables e below (T301.setTop (mkF m 207 #[.val (.int p1), .val (.long q2), .second, .val (.long q3), .second, .val (.long q4), .second, .val (.long q5), .second, .val (.int xpl), .val (.int xtl), .val (.ref b237), .val (.ref b260), .val (.ref b283), .val (.int (g0 0)), .val (.ref bp), .unset, .unset] [])) _
      refine XS.aload X301.here hx rfl (hb hby at_207) rfl rfl ?_
      show Steps p.tables e below (T301.setTop (mkF m 209 #[.val (.int p1), .val (.long q2), .second, .val (.long q3), .second, .val (.long q4), .second, .val (.long q5), .second, .val (.int xpl), .val (.int xtl), .val (.ref b237), .val (.ref b260), .val (.ref b283), .val (.int (g0 0)), .val (.ref bp), .unset, .unset] [(.ref b260)])) _
      refine XS.iload X301.here hx rfl (hb hby at_209) rfl ?_
      exact kg)
  obtain ⟨_, _, ⟨T304, L304, c304, n304⟩, -, X304, ⟨Lc304, hQ304, l304, y304, z304⟩, st304⟩ := Jvm.LawKit.callS X301 hx (y := (⟨"com/example/modalis/modalis/dicom/service/WildcardMatchesPatternPinLaw", "prefix", "([II)[I"⟩ : MethodName)) hown (mvT hZ (hw _ (List.mem_of_getElem? (i := 15) rfl))) (mvT hZ (hw _ (List.mem_of_getElem? (i := 16) rfl))) (mvT hZ (hw _ (List.mem_of_getElem? (i := 3) rfl))) (mvT hZ (hw _ (List.mem_of_getElem? (i := 17) rfl))) (by decide) (backOf (W := 0) (rm5 l Z a0 hw [] b260 xtl tl tf T301.heap n0 Zr hxtl htl4 Vt) hZ (hw _ (List.mem_of_getElem? (i := 17) rfl)) (hw _ (List.mem_of_getElem? (i := 3) rfl)) (by decide) (by decide)) (g := (mkF m 211 #[.val (.int p1), .val (.long q2), .second, .val (.long q3), .second, .val (.long q4), .second, .val (.long q5), .second, .val (.int xpl), .val (.int xtl), .val (.ref b237), .val (.ref b260), .val (.ref b283), .val (.int (g0 0)), .val (.ref bp), .unset, .unset] [(.int xtl), (.ref b260)])) rfl (by rw [hml]; rfl) (argsL := [(.ref b260), (.int xtl)]) (rest := []) (lenOf own_pd3 rfl) rfl (by show 2 * 0 + _ ≤ _; exact Nat.le_of_eq rfl) (hb hby at_211) (fun _ _ => ⟨rfl, rfl, (by decide : 4 + 1 ≤ _), (by decide : 48 + 4 ≤ _)⟩)
  dsimp only [Pt.U, Pt.locs, Pt.cells, Pt.slots] at X304 l304 y304 z304 st304 hQ304
  obtain rfl : c304 = 5 := y304
  obtain rfl : n304 = 52 := z304
  obtain ⟨bt, rfl, N304q, Kt, Vtt⟩ := hQ304
  have N304 := own_frE l304 (Fr.app N301 N304q)
  have k305 : ∀ tg, Steps p.tables e below (T304.setTop (mkF m 214 #[.val (.int p1), .val (.long q2), .second, .val (.long q3), .second, .val (.long q4), .second, .val (.long q5), .second, .val (.int xpl), .val (.int xtl), .val (.ref b237), .val (.ref b260), .val (.ref b283), .val (.int (g0 0)), .val (.ref bp), .unset, .unset] [(.ref bt)])) tg → Steps p.tables e below (s₁.setTop (entryFrame m #[(.int p1), (.long q2), (.long q3), (.long q4), (.long q5)] maxLocals)) tg := fun tg kg => k303 tg (st304 tg kg)
  have Vpp := Vpp.keep Kt nin0
  have Zs : n0 ≤ T304.heap.size := Nat.le_trans Zr Kt.1
  have k306 : ∀ tg, Steps p.tables e below (T304.setTop (mkF m 220 #[.val (.int p1), .val (.long q2), .second, .val (.long q3), .second, .val (.long q4), .second, .val (.long q5), .second, .val (.int xpl), .val (.int xtl), .val (.ref b237), .val (.ref b260), .val (.ref b283), .val (.int (g0 0)), .val (.ref bp), .val (.ref bt), .unset] [(.ref bt), (.ref bp)])) tg → Steps p.tables e below (s₁.setTop (entryFrame m #[(.int p1), (.long q2), (.long q3), (.long q4), (.long q5)] maxLocals)) tg := fun tg kg => k305 tg (by
      show Steps p.tables e below (T304.setTop (mkF m 214 #[.val (.int p1), .val (.long q2), .second, .val (.long q3), .second, .val (.long q4), .second, .val (.long q5), .second, .val (.int xpl), .val (.int xtl), .val (.ref b237), .val (.ref b260), .val (.ref b283), .val (.int (g0 0)), .val (.ref bp), .unset, .unset] [(.ref bt)])) _
      refine XS.astore X304.here hx rfl (hb hby at_214) rfl rfl (l' := #[.val (.int p1), .val (.long q2), .second, .val (.long q3), .second, .val (.long q4), .second, .val (.long q5), .second, .val (.int xpl), .val (.int xtl), .val (.ref b237), .val (.ref b260), .val (.ref b283), .val (.int (g0 0)), .val (.ref bp), .val (.ref bt), .unset]) rfl ?_
      show Steps p.tables e below (T304.setTop (mkF m 216 #[.val (.int p1), .val (.long q2), .second, .val (.long q3), .second, .val (.long q4), .second, .val (.long q5), .second, .val (.int xpl), .val (.int xtl), .val (.ref b237), .val (.ref b260), .val (.ref b283), .val (.int (g0 0)), .val (.ref bp), .val (.ref bt), .unset] [])) _
      refine XS.aload X304.here hx rfl (hb hby at_216) rfl rfl ?_
      show Steps p.tables e below (T304.setTop (mkF m 218 #[.val (.int p1), .val (.long q2), .second, .val (.long q3), .second, .val (.long q4), .second, .val (.long q5), .second, .val (.int xpl), .val (.int xtl), .val (.ref b237), .val (.ref b260), .val (.ref b283), .val (.int (g0 0)), .val (.ref bp), .val (.ref bt), .unset] [(.ref bp)])) _
      refine XS.aload X304.here hx rfl (hb hby at_218) rfl rfl ?_
      exact kg)
  obtain ⟨_, _, ⟨T307, L307, c307, n307⟩, -, X307, ⟨Lc307, hQ307, l307, y307, z307⟩, st307⟩ := Jvm.LawKit.callS X304 hx (y := (⟨"com/example/modalis/modalis/dicom/service/MatchingKey$Wildcard", "matchesPattern", "([I[I)Z"⟩ : MethodName)) hown (mvT hZ (hw _ (List.mem_of_getElem? (i := 18) rfl))) (mvT hZ (hw _ (List.mem_of_getElem? (i := 19) rfl))) (mvT hZ (hw _ (List.mem_of_getElem? (i := 20) rfl))) (mvT hZ (hw _ (List.mem_of_getElem? (i := 21) rfl))) (by decide) (backOf (W := 0) (rm6 l Z a0 hw [] bp bt xpl xtl pl tl pf tf T304.heap n0 Zs hxpl hxtl hpl4 htl4 Vpp Vtt) hZ (hw _ (List.mem_of_getElem? (i := 21) rfl)) (hw _ (List.mem_of_getElem? (i := 20) rfl)) (by decide) (by decide)) (g := (mkF m 220 #[.val (.int p1), .val (.long q2), .second, .val (.long q3), .second, .val (.long q4), .second, .val (.long q5), .second, .val (.int xpl), .val (.int xtl), .val (.ref b237), .val (.ref b260), .val (.ref b283), .val (.int (g0 0)), .val (.ref bp), .val (.ref bt), .unset] [(.ref bt), (.ref bp)])) rfl (by rw [hml]; rfl) (argsL := [(.ref bp), (.ref bt)]) (rest := []) (lenOf own_pd4 rfl) rfl (by show 2 * 0 + _ ≤ _; exact Nat.le_of_eq rfl) (hb hby at_220) (fun _ _ => ⟨rfl, rfl, (by decide : 5 + 0 ≤ _), (by decide : 52 + 0 ≤ _)⟩)
  dsimp only [Pt.U, Pt.locs, Pt.cells, Pt.slots] at X307 l307 y307 z307 st307 hQ307
  obtain rfl : c307 = 5 := y307
  obtain rfl : n307 = 52 := z307
  obtain ⟨rfl, N307q, e307⟩ := hQ307
  have N307 := own_frE l307 (Fr.app N304 N307q)
  have k308 : ∀ tg, Steps p.tables e below (T307.setTop (mkF m 223 #[.val (.int p1), .val (.long q2), .second, .val (.long q3), .second, .val (.long q4), .second, .val (.long q5), .second, .val (.int xpl), .val (.int xtl), .val (.ref b237), .val (.ref b260), .val (.ref b283), .val (.int (g0 0)), .val (.ref bp), .val (.ref bt), .unset] [(.int (own_b (own_mm pl tl pf tf 0 0)))])) tg → Steps p.tables e below (s₁.setTop (entryFrame m #[(.int p1), (.long q2), (.long q3), (.long q4), (.long q5)] maxLocals)) tg := fun tg kg => k306 tg (st307 tg kg)
  have k309 : ∀ tg, Steps p.tables e below (T307.setTop (mkF m 237 #[.val (.int p1), .val (.long q2), .second, .val (.long q3), .second, .val (.long q4), .second, .val (.long q5), .second, .val (.int xpl), .val (.int xtl), .val (.ref b237), .val (.ref b260), .val (.ref b283), .val (.int (g0 0)), .val (.ref bp), .val (.ref bt), .val (.int (own_b (own_mm pl tl pf tf 0 0)))] [(.int (1 : Int32))])) tg → Steps p.tables e below (s₁.setTop (entryFrame m #[(.int p1), (.long q2), (.long q3), (.long q4), (.long q5)] maxLocals)) tg := fun tg kg => k308 tg (by
      show Steps p.tables e below (T307.setTop (mkF m 223 #[.val (.int p1), .val (.long q2), .second, .val (.long q3), .second, .val (.long q4), .second, .val (.long q5), .second, .val (.int xpl), .val (.int xtl), .val (.ref b237), .val (.ref b260), .val (.ref b283), .val (.int (g0 0)), .val (.ref bp), .val (.ref bt), .unset] [(.int (own_b (own_mm pl tl pf tf 0 0)))])) _
      refine XS.istore X307.here hx rfl (hb hby at_223) rfl (l' := #[.val (.int p1), .val (.long q2), .second, .val (.long q3), .second, .val (.long q4), .second, .val (.long q5), .second, .val (.int xpl), .val (.int xtl), .val (.ref b237), .val (.ref b260), .val (.ref b283), .val (.int (g0 0)), .val (.ref bp), .val (.ref bt), .val (.int (own_b (own_mm pl tl pf tf 0 0)))]) rfl ?_
      show Steps p.tables e below (T307.setTop (mkF m 225 #[.val (.int p1), .val (.long q2), .second, .val (.long q3), .second, .val (.long q4), .second, .val (.long q5), .second, .val (.int xpl), .val (.int xtl), .val (.ref b237), .val (.ref b260), .val (.ref b283), .val (.int (g0 0)), .val (.ref bp), .val (.ref bt), .val (.int (own_b (own_mm pl tl pf tf 0 0)))] [])) _
      refine XS.iload X307.here hx rfl (hb hby at_225) rfl ?_
      show Steps p.tables e below (T307.setTop (mkF m 227 #[.val (.int p1), .val (.long q2), .second, .val (.long q3), .second, .val (.long q4), .second, .val (.long q5), .second, .val (.int xpl), .val (.int xtl), .val (.ref b237), .val (.ref b260), .val (.ref b283), .val (.int (g0 0)), .val (.ref bp), .val (.ref bt), .val (.int (own_b (own_mm pl tl pf tf 0 0)))] [(.int (own_b (own_mm pl tl pf tf 0 0)))])) _
      refine XS.iload X307.here hx rfl (hb hby at_227) rfl ?_
      show Steps p.tables e below (T307.setTop (mkF m 229 #[.val (.int p1), .val (.long q2), .second, .val (.long q3), .second, .val (.long q4), .second, .val (.long q5), .second, .val (.int xpl), .val (.int xtl), .val (.ref b237), .val (.ref b260), .val (.ref b283), .val (.int (g0 0)), .val (.ref bp), .val (.ref bt), .val (.int (own_b (own_mm pl tl pf tf 0 0)))] [(.int (g0 0)), (.int (own_b (own_mm pl tl pf tf 0 0)))])) _
      refine XS.icmpNo X307.here hx rfl (hb hby at_229) rfl (teq hexp.symm).2 ?_
      show Steps p.tables e below (T307.setTop (mkF m 232 #[.val (.int p1), .val (.long q2), .second, .val (.long q3), .second, .val (.long q4), .second, .val (.long q5), .second, .val (.int xpl), .val (.int xtl), .val (.ref b237), .val (.ref b260), .val (.ref b283), .val (.int (g0 0)), .val (.ref bp), .val (.ref bt), .val (.int (own_b (own_mm pl tl pf tf 0 0)))] [])) _
      refine XS.iconst X307.here hx rfl (hb hby at_232) ?_
      show Steps p.tables e below (T307.setTop (mkF m 233 #[.val (.int p1), .val (.long q2), .second, .val (.long q3), .second, .val (.long q4), .second, .val (.long q5), .second, .val (.int xpl), .val (.int xtl), .val (.ref b237), .val (.ref b260), .val (.ref b283), .val (.int (g0 0)), .val (.ref bp), .val (.ref bt), .val (.int (own_b (own_mm pl tl pf tf 0 0)))] [(.int (1 : Int32))])) _
      refine XS.goto X307.here hx rfl (pc0 := 233) (pc' := 237) rfl (hb hby at_233) (by decide) (by decide) ?_
      exact kg)
  obtain ⟨fs, hr, hrun, hended, hW, hsame⟩ := X307.leave (v := some (.int (1 : Int32))) (fun h => by rw [Bd.returns] at h; cases h)
  refine ⟨_, _, k309 _ ?_, hrun, hended, _, _, rfl, ?_, ⟨_, rfl⟩, hW, hsame.mono (by decide) (by decide)⟩
  · show Steps p.tables e below (T307.setTop (mkF m 237 #[.val (.int p1), .val (.long q2), .second, .val (.long q3), .second, .val (.long q4), .second, .val (.long q5), .second, .val (.int xpl), .val (.int xtl), .val (.ref b237), .val (.ref b260), .val (.ref b283), .val (.int (g0 0)), .val (.ref bp), .val (.ref bt), .val (.int (own_b (own_mm pl tl pf tf 0 0)))] [(.int (1 : Int32))])) _
    exact retN X307 hx (t := .boolean) Bd.returns (by simp) (hb hby at_237) hr
  · show Q0 _ _ _ _ _ _ _ _ _ T307.heap _
    rw [e307]
    exact ⟨rfl, N307⟩
set_option maxRecDepth 65536 in
set_option maxHeartbeats 40000000 in
theorem comes_1 {Post : Tables → Env → Array Value → State → Outcome → State → Prop} (hpost : ∀ tb e args s v u, (limb_1_1.after args s (.returned v) u = true ∧ limb_1_2.after args s (.returned v) u = true ∧ True) → FrameEnd s (.returned v) u (Jvm.fieldLocs frame_1_writes args s ++ Jvm.arrayLocs frame_1_arrays args s ++ Jvm.staticLocs frame_1_statics s) 24 192 → Post tb e args s (.returned v) u) :
    ArmFor flags0 classFile x code maxLocals ret World_1 tables_1 room_1 Calls_1 rest_1 Pre_1 Post := by
  intro l hfl _ _ p e ha hc hk s m args below hf hA hF happ hP
  obtain ⟨hcalls, hrest, hpre⟩ := hP
  obtain ⟨-, -, -, hnamed, -, -, -, hat⟩ := (Spec.applies_iff hf).mp happ
  obtain ⟨hg, hn⟩ := and_e (Cond.before_iff.mp (show (Jvm.Cond.and given_1 narrow_1).before args s = true from hpre))
  obtain ⟨g1a, g1b⟩ := and_e hg
  obtain ⟨g2a, g2b⟩ := and_e g1b
  obtain ⟨g3a, g3b⟩ := and_e g2b
  obtain ⟨g4a, g4b⟩ := and_e g3b
  obtain ⟨g5a, g5b⟩ := and_e g4b
  obtain ⟨w0, w1, w2, w3, w4, rfl⟩ : ∃ w0 w1 w2 w3 w4 : Value, args = #[w0, w1, w2, w3, w4] := by
    have hs : args.size = 5 := by simpa [Cond.value, given_1] using g1a
    obtain ⟨L⟩ := args
    match L, hs with
    | [w0, w1, w2, w3, w4], _ => exact ⟨w0, w1, w2, w3, w4, rfl⟩
  have hw := fun d (hd : d ∈ tables_1) => atoms_spec (ws := Jvm.Cond.code x code maxLocals ret :: tables_1) hat d (List.mem_cons_of_mem _ hd)
  obtain ⟨i0, ei0⟩ := is_v g2a
  obtain rfl : w0 = (.int i0) := Option.some.inj ei0
  obtain ⟨i1, ei1⟩ := isL_v g3a
  obtain rfl : w1 = (.long i1) := Option.some.inj ei1
  obtain ⟨i2, ei2⟩ := isL_v g4a
  obtain rfl : w2 = (.long i2) := Option.some.inj ei2
  obtain ⟨i3, ei3⟩ := isL_v g5a
  obtain rfl : w3 = (.long i3) := Option.some.inj ei3
  obtain ⟨i4, ei4⟩ := isL_v g5b
  obtain rfl : w4 = (.long i4) := Option.some.inj ei4
  obtain ⟨n, o, h1, h2, h3, _, L, rfl, ⟨rfl, N⟩, hq⟩ := rm0 l s _ hw tables_1 i0 i1 i2 i3 i4  s.heap s.heap.size (Nat.le_refl _)  p e ha hc hk s m _ below hf ((Spec.applies_iff_loose hf).mp happ).1 ⟨rfl, State.Warmed39.refl s, rfl⟩ trivial
  refine ⟨n, _, h1, h2, h3, hpost _ _ _ _ _ _ ⟨Cond.after_iff.mpr rfl, Cond.after_iff.mpr (eq_i res_at (Term.int_eval (1)) rfl), trivial⟩ ⟨hq.1, hq.2.1, (hq.2.2.sift fun y hy => Or.inr (N y hy)).mono (by decide) (by decide)⟩⟩
theorem main_1_1 : Claimed_1_1 := comes_1 fun _ _ _ _ _ _ h hF => ⟨h.1, hF⟩
theorem main_1_2 : Claimed_1_2 := comes_1 fun _ _ _ _ _ _ h hF => ⟨h.2.1, hF⟩
end Jvm.Pilot.@@N@@
namespace Jvm.Pilot.@@N@@
open Jvm Jvm.ClassFile Sem Op Lib Jvm.Free Jvm.Stand Jvm.Pilot.@@N@@.Jvm.D
/-! MADE BY PROGRAM (witnessworld.py) out of the Statement's table words and the real class files: 13 classes; the members and pool entries that the words name. The judged class is class 1, her method 1. -/
namespace start1
open Jvm.ClassFile
def u (s : String) : CpInfo := .utf8 (stringToUtf16 s)
/-- a pool by its gaps: so many unusable entries, then the entry; so many at the end -/
def gap : Nat → List CpInfo → List CpInfo
  | 0, r => r
  | n + 1, r => .unusable :: gap n r
def poolList (es : List (Nat × CpInfo)) (last : Nat) : List CpInfo := es.foldr (fun e r => gap e.1 (e.2 :: r)) (gap last [])
def pool (es : List (Nat × CpInfo)) (last : Nat) : Array CpInfo := ⟨poolList es last⟩
def fileOf (pool : Array CpInfo) (this : Nat) (attrs : Array Attribute := #[]) (ms : Array MethodInfo := #[]) (fl : Nat := 33) (sup : Nat := 0) (ifs : Array Nat := #[]) (fds : Array FieldInfo := #[]) : ClassFile where
  minorVersion := 0
  majorVersion := 65
  constantPool := pool
  accessFlags := fl
  thisClass := this
  superClass := sup
  interfaces := ifs
  fields := fds
  methods := ms
  attributes := attrs
def plain (name : String) (sup : Option ClassId) : Class where
  name := name
  kind := .ordinary
  loader := none
  accessFlags := 33
  super := sup
  interfaces := #[]
  cf := none
  fields := #[]
  methods := #[]
  instanceTypes := #[]
  staticTypes := #[]
  resolved := #[]
  callSites := []
  init := .initialized
  statics := none
  mirror := none

def pool0 : Array CpInfo := pool [(5, u "<init>"), (0, u "()V"), (1, .class_ 10), (1, u "java/lang/Object")] 113

def k0m0 : Method := { name := "<init>", desc := "()V", sig := { parameters := [], returnType := none }, accessFlags := 1, code := none }
/-- java/lang/Object -/
def k0 : Class := { plain "java/lang/Object" none with
  accessFlags := 33
  interfaces := #[]
  cf := some (fileOf pool0 8 #[] #[{ accessFlags := 1, nameIndex := 5, descriptorIndex := 6, attributes := #[] }] 33 0 #[] #[])
  fields := #[]
  methods := #[k0m0]
  instanceTypes := #[]
  staticTypes := #[]
  resolved := Array.replicate 124 none
  statics := none }

def pool1 : Array CpInfo := pool [(2, .class_ 4), (1, u "java/lang/Object"), (0, u "<init>"), (0, u "()V"), (0, .methodref 8 9), (0, .class_ 10), (0, .nameAndType 11 12), (0, u "com/example/modalis/modalis/dicom/service/WildcardMatchesPatternPinLaw"), (0, u "pc"), (0, u "(I)I"), (0, .methodref 8 14), (0, .nameAndType 15 12), (0, u "tc"), (0, .methodref 8 17), (0, .nameAndType 18 19), (0, u "row"), (0, u "([II[II[ZI)V"), (0, .methodref 8 21), (0, .nameAndType 22 23), (0, u "prefix"), (0, u "([II)[I"), (0, .methodref 25 26), (0, .class_ 27), (0, .nameAndType 28 29), (0, u "com/example/modalis/modalis/dicom/service/MatchingKey$Wildcard"), (0, u "matchesPattern"), (0, u "([I[I)Z"), (0, .methodref 8 31), (0, .nameAndType 32 33), (0, u "cell"), (0, u "([II[II[ZII)V"), (2, u "law"), (0, u "(IJJJJ)Z")] 11

def k1m0 : Method := { name := "<init>", desc := "()V", sig := { parameters := [], returnType := none }, accessFlags := 2, code := none }
def k1c1 : Code := { maxStack := 6, maxLocals := 18, code := code, exceptionTable := #[], attributes := #[] }
def k1m1 : Method := { name := "law", desc := "(IJJJJ)Z", sig := { parameters := [.int, .long, .long, .long, .long], returnType := some .boolean }, accessFlags := 9, code := some k1c1 }
def k1c2 : Code := { maxStack := 3, maxLocals := 2, code := method_3_code, exceptionTable := #[], attributes := #[] }
def k1m2 : Method := { name := "pc", desc := "(I)I", sig := { parameters := [.int], returnType := some .int }, accessFlags := 10, code := some k1c2 }
def k1c3 : Code := { maxStack := 3, maxLocals := 1, code := method_4_code, exceptionTable := #[], attributes := #[] }
def k1m3 : Method := { name := "tc", desc := "(I)I", sig := { parameters := [.int], returnType := some .int }, accessFlags := 10, code := some k1c3 }
def k1c4 : Code := { maxStack := 5, maxLocals := 2, code := method_5_code, exceptionTable := #[], attributes := #[] }
def k1m4 : Method := { name := "prefix", desc := "([II)[I", sig := { parameters := [(.array .int), .int], returnType := some (.array .int) }, accessFlags := 10, code := some k1c4 }
def k1c5 : Code := { maxStack := 7, maxLocals := 6, code := method_6_code, exceptionTable := #[], attributes := #[] }
def k1m5 : Method := { name := "row", desc := "([II[II[ZI)V", sig := { parameters := [(.array .int), .int, (.array .int), .int, (.array .boolean), .int], returnType := none }, accessFlags := 10, code := some k1c5 }
def k1c6 : Code := { maxStack := 5, maxLocals := 8, code := method_7_code, exceptionTable := #[], attributes := #[] }
def k1m6 : Method := { name := "cell", desc := "([II[II[ZII)V", sig := { parameters := [(.array .int), .int, (.array .int), .int, (.array .boolean), .int, .int], returnType := none }, accessFlags := 10, code := some k1c6 }
/-- com/example/modalis/modalis/dicom/service/WildcardMatchesPatternPinLaw -/
def k1 : Class := { plain "com/example/modalis/modalis/dicom/service/WildcardMatchesPatternPinLaw" (some 0) with
  accessFlags := 49
  interfaces := #[]
  cf := some (fileOf pool1 8 #[] #[{ accessFlags := 2, nameIndex := 5, descriptorIndex := 6, attributes := #[] }, { accessFlags := 9, nameIndex := 36, descriptorIndex := 37, attributes := #[] }, { accessFlags := 10, nameIndex := 11, descriptorIndex := 12, attributes := #[] }, { accessFlags := 10, nameIndex := 15, descriptorIndex := 12, attributes := #[] }, { accessFlags := 10, nameIndex := 22, descriptorIndex := 23, attributes := #[] }, { accessFlags := 10, nameIndex := 18, descriptorIndex := 19, attributes := #[] }, { accessFlags := 10, nameIndex := 32, descriptorIndex := 33, attributes := #[] }] 49 2 #[] #[])
  fields := #[]
  methods := #[k1m0, k1m1, k1m2, k1m3, k1m4, k1m5, k1m6]
  instanceTypes := #[]
  staticTypes := #[]
  resolved := Array.replicate 49 none
  statics := none }

def pool2 : Array CpInfo := pool [(2, .class_ 4), (1, u "java/lang/Object"), (0, u "<init>"), (0, u "()V"), (0, .class_ 8), (0, u "java/lang/Record")] 13

def k2m0 : Method := { name := "<init>", desc := "()V", sig := { parameters := [], returnType := none }, accessFlags := 4, code := none }
/-- java/lang/Record -/
def k2 : Class := { plain "java/lang/Record" (some 0) with
  accessFlags := 1057
  interfaces := #[]
  cf := some (fileOf pool2 7 #[] #[{ accessFlags := 4, nameIndex := 5, descriptorIndex := 6, attributes := #[] }] 1057 2 #[] #[])
  fields := #[]
  methods := #[k2m0]
  instanceTypes := #[]
  staticTypes := #[]
  resolved := Array.replicate 22 none
  statics := none }

def pool3 : Array CpInfo := pool [(47, .class_ 49), (1, u "com/example/modalis/modalis/dicom/service/MatchingKey$Range"), (5, .class_ 56), (0, u "com/example/modalis/modalis/dicom/service/MatchingKey$UidList"), (17, .class_ 76), (1, u "com/example/modalis/modalis/dicom/service/MatchingKey"), (0, u "WILDCARD_VRS"), (0, u "Ljava/util/Set;"), (27, .class_ 107), (0, u "com/example/modalis/modalis/dicom/service/MatchingKey$Wildcard"), (10, .class_ 119), (0, u "com/example/modalis/modalis/dicom/service/MatchingKey$Text"), (3, .class_ 124), (0, u "com/example/modalis/modalis/dicom/service/MatchingKey$Bytes"), (69, .class_ 195), (0, u "java/lang/Object")] 48

/-- com/example/modalis/modalis/dicom/service/MatchingKey -/
def k3 : Class := { plain "com/example/modalis/modalis/dicom/service/MatchingKey" (some 0) with
  accessFlags := 1536
  interfaces := #[]
  cf := some (fileOf pool3 74 #[.nestMembers #[47, 106, 55, 123, 118]] #[] 1536 194 #[] #[{ accessFlags := 25, nameIndex := 77, descriptorIndex := 78, attributes := #[] }])
  fields := #[{ name := "WILDCARD_VRS", type := (.object "java/util/Set"), accessFlags := 25, slot := 0, constantValue := 0 }]
  methods := #[]
  instanceTypes := #[]
  staticTypes := #[(.object "java/util/Set")]
  resolved := Array.replicate 244 none
  statics := none }

def pool4 : Array CpInfo := pool [(2, .class_ 4), (1, u "java/lang/Record"), (3, .class_ 10), (1, u "com/example/modalis/modalis/dicom/service/MatchingKey$Wildcard"), (0, u "tag"), (0, u "I"), (2, u "pattern"), (0, u "[I"), (1, .class_ 20), (1, u "com/example/modalis/modalis/dicom/service/MatchingKey"), (32, u "matchesPattern"), (0, u "([I[I)Z")] 46

def k4c0 : Code := { maxStack := 3, maxLocals := 6, code := prog_48_method_3_code, exceptionTable := #[], attributes := #[] }
def k4m0 : Method := { name := "matchesPattern", desc := "([I[I)Z", sig := { parameters := [(.array .int), (.array .int)], returnType := some .boolean }, accessFlags := 8, code := some k4c0 }
/-- com/example/modalis/modalis/dicom/service/MatchingKey$Wildcard -/
def k4 : Class := { plain "com/example/modalis/modalis/dicom/service/MatchingKey$Wildcard" (some 2) with
  accessFlags := 49
  interfaces := #[3]
  cf := some (fileOf pool4 8 #[.nestHost 18] #[{ accessFlags := 8, nameIndex := 53, descriptorIndex := 54, attributes := #[] }] 49 2 #[18] #[{ accessFlags := 18, nameIndex := 11, descriptorIndex := 12, attributes := #[] }, { accessFlags := 18, nameIndex := 15, descriptorIndex := 16, attributes := #[] }])
  fields := #[{ name := "tag", type := .int, accessFlags := 18, slot := 0, constantValue := 0 }, { name := "pattern", type := (.array .int), accessFlags := 18, slot := 1, constantValue := 0 }]
  methods := #[k4m0]
  instanceTypes := #[.int, (.array .int)]
  staticTypes := #[]
  resolved := Array.replicate 101 none
  statics := none }

def pool5 : Array CpInfo := pool [(1, u "java/lang/Cloneable"), (0, .class_ 1), (0, u "java/lang/Object"), (0, .class_ 3)] 3

/-- java/lang/Cloneable -/
def k5 : Class := { plain "java/lang/Cloneable" (some 0) with
  accessFlags := 1537
  interfaces := #[]
  cf := some (fileOf pool5 2 #[] #[] 1537 4 #[] #[])
  fields := #[]
  methods := #[]
  instanceTypes := #[]
  staticTypes := #[]
  resolved := Array.replicate 8 none
  statics := none }

def pool6 : Array CpInfo := pool [(1, u "java/io/Serializable"), (0, .class_ 1), (0, u "java/lang/Object"), (0, .class_ 3)] 3

/-- java/io/Serializable -/
def k6 : Class := { plain "java/io/Serializable" (some 0) with
  accessFlags := 1537
  interfaces := #[]
  cf := some (fileOf pool6 2 #[] #[] 1537 4 #[] #[])
  fields := #[]
  methods := #[]
  instanceTypes := #[]
  staticTypes := #[]
  resolved := Array.replicate 8 none
  statics := none }

/-- the primitive boolean -/
def k7 : Class := { plain "boolean" none with kind := .primitive 'Z', accessFlags := 0x411 }
/-- [Z -/
def k8 : Class := { plain "[Z" (some 0) with kind := .array 7 .boolean, interfaces := #[5, 6], accessFlags := 1041 }

/-- the primitive byte -/
def k9 : Class := { plain "byte" none with kind := .primitive 'B', accessFlags := 0x411 }
/-- [B -/
def k10 : Class := { plain "[B" (some 0) with kind := .array 9 .byte, interfaces := #[5, 6], accessFlags := 1041 }

/-- the primitive int -/
def k11 : Class := { plain "int" none with kind := .primitive 'I', accessFlags := 0x411 }
/-- [I -/
def k12 : Class := { plain "[I" (some 0) with kind := .array 11 .int, interfaces := #[5, 6], accessFlags := 1041 }

def heap : Heap := #[]
def classes : Array Class := #[k0, k1, k2, k3, k4, k5, k6, k7, k8, k9, k10, k11, k12]
def interned : List (Array UInt16 × Addr) := []
def slotsUsed : Nat := 0
def theMethod : MethodId := ⟨1, 1⟩
def args0 : Array Value := #[.int 27, .long 5, .long 6, .long 7, .long 6]
def aboutOver (below : List Frame) : State where
  vm := { classes := classes, interned := interned.toArray }
  heap := heap
  slotsUsed := slotsUsed
  threads := #[{ frames := .invoking theMethod args0 :: below }]
def below0 : List Frame := [.native { method := ⟨0, 0⟩, args := #[] }]
def about1 : State := aboutOver below0
def p0 : Program := .bare "" "" ""
def e0 : Env := launch0.env 0 0 0
theorem w_frames : about1.frames = Frame.invoking theMethod args0 :: below0 := rfl
set_option maxRecDepth 65536 in
theorem w_args : argsFit about1.vm theMethod args0 = true := by decide +kernel
set_option maxRecDepth 65536 in
theorem w_heap : heapFits about1 = true := by decide +kernel
set_option maxRecDepth 65536 in
theorem w_runnable : about1.curStatus? = some .runnable := by decide +kernel
set_option maxRecDepth 65536 in
theorem w_alone : about1.alone = true := by decide +kernel
set_option maxRecDepth 65536 in
theorem w_named : about1.methodNamed? x = some theMethod := by decide +kernel
set_option maxRecDepth 65536 in
theorem w_hears : about1.hears theMethod below0 = true := by decide +kernel
set_option maxRecDepth 65536 in
theorem w_ripe : about1.ripe theMethod args0 below0 = true := by decide +kernel
theorem w_running : about1.status = .running := rfl
set_option maxRecDepth 65536 in
theorem w_room : about1.hasRoom e0.platform room_1 = true :=
  launch0.hasRoom_least _ room_1 (by decide +kernel) (by decide +kernel) (by decide +kernel) (by decide +kernel) (by decide +kernel) (by decide +kernel)
theorem allAtoms_all (ts : List Jvm.Cond) (a : Array Jvm.Value) (st : Jvm.State) : (allAtoms ts).before a st = ts.all (fun c => c.before a st) := by
  induction ts with
  | nil => rfl
  | cons c t ih =>
    show (Jvm.Cond.and c (allAtoms t)).before a st = _
    rw [Jvm.Cond.before_and, ih, List.all_cons]
def words1 : List Jvm.Cond := Jvm.Cond.code x code maxLocals ret :: tables_1
/-- a 'code' word, met by the world's own term for the bytes: nothing is compared byte by byte -/
theorem code_word {y : MethodName} {bytes : ByteArray} {mx : Nat} {rt : Option FieldType} {a : Array Value} {s : State} {m : MethodId} {meth : Method} {c : Code} (h1 : s.methodNamed? y = some m) (h2 : s.vm.method? m = some meth) (h3 : meth.code = some c) (h4 : c.code = bytes)
    (h5 : (c.maxLocals == mx && c.exceptionTable.isEmpty && decide (c.maxStack ≤ mostOperands) && decide (meth.sig.returnType = rt) && !meth.locks && decide (parseMethodDescriptor y.desc = some meth.sig)) = true) : (Jvm.Cond.code y bytes mx rt).before a s = true := by
  simp only [Bool.and_eq_true, beq_iff_eq, Bool.not_eq_true', decide_eq_true_eq] at h5
  obtain ⟨⟨⟨⟨⟨g1, g2⟩, g3⟩, g4⟩, g5⟩, g6⟩ := h5
  simp [Cond.before, Cond.holds, Cond.value, h1, h2, h3, h4, g1, g2, g3, g4, g5, g6]
def isCode : Jvm.Cond → Bool
  | .code _ _ _ _ => true
  | _ => false
theorem all_split {L : List Jvm.Cond} {P : Jvm.Cond → Bool} (h1 : L.all (fun c => isCode c || P c) = true) (h2 : ∀ c ∈ L.filter isCode, P c = true) : L.all P = true := by
  refine List.all_eq_true.mpr fun c hc => ?_
  have h := List.all_eq_true.mp h1 c hc
  rcases Bool.eq_false_or_eq_true (isCode c) with hi | hi
  · exact h2 c (List.mem_filter.mpr ⟨hc, hi⟩)
  · simpa [hi] using h
set_option maxRecDepth 65536 in
theorem w_c0 : (Jvm.Cond.code x code maxLocals ret).before args0 about1 = true := code_word (m := ⟨1, 1⟩) (meth := k1m1) (c := k1c1) (by decide +kernel) rfl rfl rfl (by decide +kernel)
set_option maxRecDepth 65536 in
theorem w_c1 : (Jvm.Cond.code ({ cls := "com/example/modalis/modalis/dicom/service/WildcardMatchesPatternPinLaw", name := "pc", desc := "(I)I" } : Jvm.MethodName) method_3_code (2 : Nat) (Option.some Jvm.ClassFile.FieldType.int)).before args0 about1 = true := code_word (m := ⟨1, 2⟩) (meth := k1m2) (c := k1c2) (by decide +kernel) rfl rfl rfl (by decide +kernel)
set_option maxRecDepth 65536 in
theorem w_c2 : (Jvm.Cond.code ({ cls := "com/example/modalis/modalis/dicom/service/WildcardMatchesPatternPinLaw", name := "tc", desc := "(I)I" } : Jvm.MethodName) method_4_code (1 : Nat) (Option.some Jvm.ClassFile.FieldType.int)).before args0 about1 = true := code_word (m := ⟨1, 3⟩) (meth := k1m3) (c := k1c3) (by decide +kernel) rfl rfl rfl (by decide +kernel)
set_option maxRecDepth 65536 in
theorem w_c3 : (Jvm.Cond.code ({ cls := "com/example/modalis/modalis/dicom/service/WildcardMatchesPatternPinLaw", name := "row", desc := "([II[II[ZI)V" } : Jvm.MethodName) method_6_code (6 : Nat) (Option.none : Option Jvm.ClassFile.FieldType)).before args0 about1 = true := code_word (m := ⟨1, 5⟩) (meth := k1m5) (c := k1c5) (by decide +kernel) rfl rfl rfl (by decide +kernel)
set_option maxRecDepth 65536 in
theorem w_c4 : (Jvm.Cond.code ({ cls := "com/example/modalis/modalis/dicom/service/WildcardMatchesPatternPinLaw", name := "cell", desc := "([II[II[ZII)V" } : Jvm.MethodName) method_7_code (8 : Nat) (Option.none : Option Jvm.ClassFile.FieldType)).before args0 about1 = true := code_word (m := ⟨1, 6⟩) (meth := k1m6) (c := k1c6) (by decide +kernel) rfl rfl rfl (by decide +kernel)
set_option maxRecDepth 65536 in
theorem w_c5 : (Jvm.Cond.code ({ cls := "com/example/modalis/modalis/dicom/service/WildcardMatchesPatternPinLaw", name := "prefix", desc := "([II)[I" } : Jvm.MethodName) method_5_code (2 : Nat) (Option.some (Jvm.ClassFile.FieldType.array Jvm.ClassFile.FieldType.int))).before args0 about1 = true := code_word (m := ⟨1, 4⟩) (meth := k1m4) (c := k1c4) (by decide +kernel) rfl rfl rfl (by decide +kernel)
set_option maxRecDepth 65536 in
theorem w_c6 : (Jvm.Cond.code ({ cls := "com/example/modalis/modalis/dicom/service/MatchingKey$Wildcard", name := "matchesPattern", desc := "([I[I)Z" } : Jvm.MethodName) prog_48_method_3_code (6 : Nat) (Option.some Jvm.ClassFile.FieldType.boolean)).before args0 about1 = true := code_word (m := ⟨4, 0⟩) (meth := k4m0) (c := k4c0) (by decide +kernel) rfl rfl rfl (by decide +kernel)
def codes1 : List Jvm.Cond := [Jvm.Cond.code x code maxLocals ret, Jvm.Cond.code ({ cls := "com/example/modalis/modalis/dicom/service/WildcardMatchesPatternPinLaw", name := "pc", desc := "(I)I" } : Jvm.MethodName) method_3_code (2 : Nat) (Option.some Jvm.ClassFile.FieldType.int), Jvm.Cond.code ({ cls := "com/example/modalis/modalis/dicom/service/WildcardMatchesPatternPinLaw", name := "tc", desc := "(I)I" } : Jvm.MethodName) method_4_code (1 : Nat) (Option.some Jvm.ClassFile.FieldType.int), Jvm.Cond.code ({ cls := "com/example/modalis/modalis/dicom/service/WildcardMatchesPatternPinLaw", name := "row", desc := "([II[II[ZI)V" } : Jvm.MethodName) method_6_code (6 : Nat) (Option.none : Option Jvm.ClassFile.FieldType), Jvm.Cond.code ({ cls := "com/example/modalis/modalis/dicom/service/WildcardMatchesPatternPinLaw", name := "cell", desc := "([II[II[ZII)V" } : Jvm.MethodName) method_7_code (8 : Nat) (Option.none : Option Jvm.ClassFile.FieldType), Jvm.Cond.code ({ cls := "com/example/modalis/modalis/dicom/service/WildcardMatchesPatternPinLaw", name := "prefix", desc := "([II)[I" } : Jvm.MethodName) method_5_code (2 : Nat) (Option.some (Jvm.ClassFile.FieldType.array Jvm.ClassFile.FieldType.int)), Jvm.Cond.code ({ cls := "com/example/modalis/modalis/dicom/service/MatchingKey$Wildcard", name := "matchesPattern", desc := "([I[I)Z" } : Jvm.MethodName) prog_48_method_3_code (6 : Nat) (Option.some Jvm.ClassFile.FieldType.boolean)]
set_option maxRecDepth 65536 in
theorem codes_eq : words1.filter isCode = codes1 := rfl
theorem w_codes : ∀ c ∈ words1.filter isCode, c.before args0 about1 = true := by
  rw [codes_eq]
  intro c hc
  simp only [codes1, List.mem_cons, List.not_mem_nil, or_false] at hc
  rcases hc with rfl | rfl | rfl | rfl | rfl | rfl | rfl
  · exact w_c0
  · exact w_c1
  · exact w_c2
  · exact w_c3
  · exact w_c4
  · exact w_c5
  · exact w_c6
set_option maxRecDepth 65536 in
theorem w_t1 : words1.all (fun c => isCode c || c.before args0 about1) = true := by decide +kernel
theorem w_tables : (allAtoms (Jvm.Cond.code x code maxLocals ret :: tables_1)).before args0 about1 = true := by
  rw [allAtoms_all]
  show words1.all (fun c => c.before args0 about1) = true
  refine all_split ?_ w_codes
  rw [w_t1]
set_option maxRecDepth 65536 in
theorem w_case : (Jvm.Cond.and given_1 narrow_1).before args0 about1 = true := by decide +kernel
theorem w_applies : (headSpec (Jvm.Cond.code x code maxLocals ret :: tables_1) room_1).applies x e0.platform about1 = true :=
  (Spec.applies_iff w_frames).mpr ⟨w_running, w_runnable, w_alone, w_named, w_hears, w_ripe, w_room, w_tables⟩
theorem atStart : AtStart classFile x code maxLocals ret World_1 tables_1 room_1 Calls_1 rest_1 Pre_1 launch0 p0 e0 about1 theMethod args0 below0 :=
  ⟨lists_1, trivial, launch0.admits_env _ _ _, launch0.least_env, fairChoices_fair.cas, fairChoices_fair.clock, w_frames, w_args, w_heap, w_applies, trivial, trivial, w_case⟩
end start1
theorem witness_1 : WitnessClaimed_1 := ⟨start1.p0, start1.e0, start1.about1, start1.theMethod, start1.args0, start1.below0, start1.atStart⟩
end Jvm.Pilot.@@N@@
