import JvmDerived
import JvmDerived.Pilot.@@N@@Statement
import JvmDerived.Pilot.@@N@@Code
set_option linter.unusedVariables false
set_option linter.unusedSimpArgs false
namespace Jvm.RoadKit
open Sem ClassFile Op Lib Jvm.Stand Jvm.Free Jvm.LawKit
section New
variable {p : Program} {l : Launch} {e : Env} {R : Room} {s : State} {m : MethodId} {args : Array Value} {below : List Frame} {meth : Method} {c : Code} {T : State} {locs : List Loc} {cells slots : Nat}
theorem retI (X : Stand p l e R s m args below meth c T locs cells slots) (hx : p.tables.exec = Jvm.exec) {pc : Nat} {Ls : Array Slot} {z : Int32} {rest : List Value} (hret : meth.sig.returnType = some .int) (hd : decode c.code pc = .ok (.ireturn, 1)) {fs : List Frame}
    (hl : ∀ (f : JFrame) (acts : List Action), f.method = m → f.locked = none → f.entered = [] → (doReturn e (T.setTop f) acts (some (.int z))).1 = T.setFrames fs) : Steps p.tables e below (T.setTop (mkF m pc Ls (.int z :: rest))) (T.setFrames fs) := by
  have hm' : T.vm.method? m = some meth := X.method'
  have hn : narrow .int (.int z) = .int z := rfl
  show Steps p.tables e below (T.setTop { method := m, pc := pc, locals := Ls, stack := _ :: rest, locked := none }) _
  jvm_step X.here [X.here.top, hx, hd, hm', hret, hn]
  first | (intro acts; rw [hl _ acts rfl rfl rfl]) | rw [hl _ _ rfl rfl rfl]
  exact Steps.refl _
end New
end Jvm.RoadKit
namespace Jvm.Pilot.@@N@@
open Jvm Jvm.ClassFile Sem Op Lib Jvm.Free Jvm.Stand Jvm.LawKit Jvm.RoadKit Bundle Jvm.Pilot.@@N@@.Jvm.D
theorem own_pd0 : parseMethodDescriptor "(I)V" = some ⟨[.int], none⟩ := by decide +kernel
theorem own_pd1 : parseMethodDescriptor "()V" = some ⟨[], none⟩ := by decide +kernel
theorem own_pd2 : parseMethodDescriptor "(II)I" = some ⟨[.int, .int], some .int⟩ := by decide +kernel
theorem own_pd3 : parseMethodDescriptor "(Lcom/example/upya/upya/policy/LongRing;III[J)V" = some ⟨[(.object "com/example/upya/upya/policy/LongRing"), .int, .int, .int, (.array .long)], none⟩ := by decide +kernel
theorem own_pd4 : parseMethodDescriptor "()I" = some ⟨[], some .int⟩ := by decide +kernel
theorem own_pd5 : parseMethodDescriptor "(Lcom/example/upya/upya/policy/LongRing;III[J)Z" = some ⟨[(.object "com/example/upya/upya/policy/LongRing"), .int, .int, .int, (.array .long)], some .boolean⟩ := by decide +kernel
theorem own_pd6 : parseMethodDescriptor "(J)V" = some ⟨[.long], none⟩ := by decide +kernel
theorem own_pd7 : parseMethodDescriptor "(I)J" = some ⟨[.int], some .long⟩ := by decide +kernel
theorem own_ni {a b : Addr} {n : Nat} (h : a < n) (g : b = n) : a ∉ [b] := fun q => absurd (List.mem_singleton.mp q) (Nat.ne_of_lt (g ▸ h))
theorem own_in0 (a : Addr) (l : List Addr) : a ∈ a :: l := List.mem_cons_self ..
/-- an array: its kind, its length, what each place holds -/
def Av (Z : State) (h : Heap) (a : Addr) (ty : FieldType) (N : Nat) (g : Nat → Value) : Prop := ∃ c : Cell, Arr Z h a c ty ∧ c.slots.size = N ∧ ∀ j, j < N → c.slots[j]? = some (g j)
theorem Av.lt {Z : State} {h : Heap} {a : Addr} {ty : FieldType} {N : Nat} {g : Nat → Value} (V : Av Z h a ty N g) : a < h.size := by obtain ⟨c, A, -⟩ := V; exact A.lt
theorem Av.ext {Z : State} {h h' : Heap} {a : Addr} {ty : FieldType} {N : Nat} {g : Nat → Value} (V : Av Z h a ty N g) (E : Ext h h') : Av Z h' a ty N g := by obtain ⟨c, A, r⟩ := V; exact ⟨c, A.ext E, r⟩
theorem Av.other {Z : State} {h h' : Heap} {a b : Addr} {ty : FieldType} {N sl : Nat} {v : Value} {g : Nat → Value} (V : Av Z h b ty N g) (W : Wr h h' a sl v) (q : b ≠ a) : Av Z h' b ty N g := by obtain ⟨c, A, r⟩ := V; exact ⟨c, A.other W q, r⟩
theorem Av.keep {Z : State} {h h' : Heap} {a : Addr} {ty : FieldType} {N : Nat} {g : Nat → Value} {ws : List Addr} (V : Av Z h a ty N g) (K : Keep h h' ws) (q : a ∉ ws) : Av Z h' a ty N g := by obtain ⟨c, A, r⟩ := V; exact ⟨c, ⟨K.2.1 a c A.1 q, A.2⟩, r⟩
theorem Av.congr {Z : State} {h : Heap} {a : Addr} {ty : FieldType} {N : Nat} {g g' : Nat → Value} (V : Av Z h a ty N g) (q : ∀ j, j < N → g j = g' j) : Av Z h a ty N g' := by obtain ⟨c, A, S, G⟩ := V; exact ⟨c, A, S, fun j hj => (G j hj).trans (congrArg some (q j hj))⟩
theorem Av.new {Z : State} {h : Heap} {a : Addr} {cA : ClassId} {ty : FieldType} {n : Int32} (A : Arr Z h a (newA cA ty n) ty) {N : Nat} (hN : n.toInt = N) : Av Z h a ty N (fun _ => defaultValue ty) := by
  have e : n.toNatClampNeg = N := by rw [Int32.toNatClampNeg, hN]; rfl
  refine ⟨_, A, (sz_new _ _ _).trans e, fun j hj => ?_⟩
  simp [newA, e, hj]
theorem own_tn {j : Int32} {i : Nat} (hj : j.toInt = i) : j.toNatClampNeg = i := by rw [Int32.toNatClampNeg, hj]; rfl
theorem own_hin {cl : Cell} {N i : Nat} {j : Int32} (S : cl.slots.size = N) (hj : j.toInt = i) (hi : i < N) : ¬ (j < 0 ∨ cl.slots.size ≤ j.toNatClampNeg) := by
  rw [S, own_tn hj, Int32.lt_iff_toInt_lt, hj, show (0 : Int32).toInt = 0 from rfl]
  omega
theorem own_hat {cl : Cell} {N i : Nat} {j : Int32} {g : Nat → Value} (G : ∀ j, j < N → cl.slots[j]? = some (g j)) (hj : j.toInt = i) (hi : i < N) : cl.slots[j.toNatClampNeg]? = some (g i) := by
  rw [own_tn hj]; exact G i hi
theorem Av.set {Z : State} {h h' : Heap} {a : Addr} {ty : FieldType} {N i : Nat} {g : Nat → Value} {v : Value} {c : Cell} {j : Int32} (A : Arr Z h a c ty) (S : c.slots.size = N) (G : ∀ j, j < N → c.slots[j]? = some (g j)) (hj : j.toInt = i) (W : Wr h h' a j.toNatClampNeg v) : Av Z h' a ty N (fun k => if k = i then v else g k) := by
  refine ⟨_, A.same W, (sz_set _ _ _).trans S, fun k hk => ?_⟩
  show (c.slots.setIfInBounds j.toNatClampNeg v)[k]? = some (if k = i then v else g k)
  rw [own_tn hj, Array.getElem?_setIfInBounds]
  by_cases q : i = k
  · subst q; simp [S, hk]
  · rw [if_neg q, if_neg (fun z => q z.symm)]; exact G k hk
theorem own_nneg {j : Int32} {i : Nat} (hj : j.toInt = i) : ¬ j < 0 := by
  rw [Int32.lt_iff_toInt_lt, hj, show (0 : Int32).toInt = 0 from rfl]; omega
theorem own_sz {cl : Cell} {N : Nat} {j : Int32} (S : cl.slots.size = N) (hj : j.toInt = N) : cl.slots.size = j.toNatClampNeg := by rw [S, own_tn hj]
theorem own_ni1 {a b : Addr} (h : a ≠ b) : a ∉ [b] := fun q => h (List.mem_singleton.mp q)
theorem own_inc {x : Int32} {i : Nat} (hx : x.toInt = i) (hi : i < 2147483647) : (x + (1 : Int32)).toInt = ((i + 1 : Nat) : Int) := by
  have h := c_iadd x (1 : Int32)
  have := rng32 (x + (1 : Int32))
  rw [show (1 : Int32).toInt = 1 from by decide] at h
  omega
theorem own_addN {x y : Int32} {a b : Nat} (hx : x.toInt = a) (hy : y.toInt = b) (hi : a + b < 2147483648) : (x + y).toInt = ((a + b : Nat) : Int) := by
  have h := c_iadd x y
  have := rng32 (x + y)
  omega
theorem own_subN {x y : Int32} {a b : Nat} (hx : x.toInt = a) (hy : y.toInt = b) (hi : b ≤ a) : (x - y).toInt = ((a - b : Nat) : Int) := by
  have h := c_isub x y
  have := rng32 (x - y); have := rng32 x
  omega
theorem own_lt {x y : Int32} {i j : Nat} (hx : x.toInt = i) (hy : y.toInt = j) : x < y ↔ i < j := by
  rw [Int32.lt_iff_toInt_lt, hx, hy]; omega
theorem own_eqi {x y : Int32} {i j : Nat} (hx : x.toInt = i) (hy : y.toInt = j) : x = y ↔ i = j := by
  rw [← Int32.toInt_inj, hx, hy]; omega
theorem own_rem {x y : Int32} {a b : Nat} (hx : x.toInt = a) (hy : y.toInt = b) : (x % y).toInt = ((a % b : Nat) : Int) := by
  rw [(c_irem x y b hy).1 (by omega), hx, Int.natCast_emod]
theorem own_ne0 {x : Int32} {a : Nat} (hx : x.toInt = a) (ha : 0 < a) : x ≠ 0 := fun q => by
  rw [q, show (0 : Int32).toInt = 0 from by decide] at hx; omega
theorem own_of {x : Int32} {n : Nat} (h : x.toInt = n) : x = Int32.ofInt n := by
  rw [← h]; exact (Int32.ofInt_toInt x).symm
def own_max (a b : Int32) : Int32 := if a < b then b else a
def own_min (a b : Int32) : Int32 := if b < a then b else a
theorem own_minN {x y : Int32} {a b : Nat} (hx : x.toInt = a) (hy : y.toInt = b) : (own_min x y).toInt = ((min a b : Nat) : Int) := by
  rw [own_min]; simp only [own_lt hy hx]; split <;> omega
/-- the ring at a: its array is at b, of cap places; it holds the last sz of the first t numbers of seq -/
def RS (Z : State) (h : Heap) (a b : Addr) (xc : Int32) (cap sz t : Nat) (seq : Nat → Int64) : Prop :=
  Exa Z h a "com/example/upya/upya/policy/LongRing" ∧ Fld Z h a "com/example/upya/upya/policy/LongRing" "capacity" "I" (.int xc) ∧ Fld Z h a "com/example/upya/upya/policy/LongRing" "values" "[J" (.ref b) ∧ ∃ (xh xs : Int32) (hd : Nat) (f : Nat → Int64), xh.toInt = hd ∧ xs.toInt = sz ∧ hd < cap ∧ Fld Z h a "com/example/upya/upya/policy/LongRing" "head" "I" (.int xh) ∧ Fld Z h a "com/example/upya/upya/policy/LongRing" "size" "I" (.int xs) ∧
    Av Z h b .long cap (fun j => .long (f j)) ∧ sz ≤ t ∧ ∀ i, i < sz → f ((hd + i) % cap) = seq (t - sz + i)
theorem RS.ext {Z : State} {h h' : Heap} {a b : Addr} {xc : Int32} {cap sz t : Nat} {seq : Nat → Int64} (R : RS Z h a b xc cap sz t seq) (E : Ext h h') : RS Z h' a b xc cap sz t seq := by
  obtain ⟨r1, r2, r3, xh, xs, hd, f, r4, r5, r6, r7, r8, r9, r⟩ := R
  exact ⟨r1.ext E, r2.ext E, r3.ext E, xh, xs, hd, f, r4, r5, r6, r7.ext E, r8.ext E, r9.ext E, r⟩
def own_set (f : Nat → Int64) (i : Nat) (q : Int64) : Nat → Int64 := fun k => if k = i then q else f k
theorem own_four {cap : Nat} (h1 : 1 ≤ cap) (h4 : cap ≤ 4) : cap = 1 ∨ cap = 2 ∨ cap = 3 ∨ cap = 4 := by omega
theorem own_full {cap hd t : Nat} {f seq : Nat → Int64} (h1 : 1 ≤ cap) (h4 : cap ≤ 4) (hh : hd < cap) (ht : cap ≤ t) (H : ∀ i, i < cap → f ((hd + i) % cap) = seq (t - cap + i)) : ∀ i, i < cap → own_set f hd (seq t) (((hd + 1) % cap + i) % cap) = seq (t + 1 - cap + i) := by
  intro i hi
  unfold own_set
  by_cases q : i = cap - 1
  · rw [if_pos (by rcases own_four h1 h4 with rfl | rfl | rfl | rfl <;> omega)]
    congr 1; omega
  · rw [if_neg (by rcases own_four h1 h4 with rfl | rfl | rfl | rfl <;> omega), show ((hd + 1) % cap + i) % cap = (hd + (i + 1)) % cap by rcases own_four h1 h4 with rfl | rfl | rfl | rfl <;> omega, H (i + 1) (by omega)]
    congr 1; omega
theorem own_more {cap hd sz t : Nat} {f seq : Nat → Int64} (h1 : 1 ≤ cap) (h4 : cap ≤ 4) (hh : hd < cap) (hs : sz < cap) (ht : sz ≤ t) (H : ∀ i, i < sz → f ((hd + i) % cap) = seq (t - sz + i)) : ∀ i, i < sz + 1 → own_set f ((hd + sz) % cap) (seq t) ((hd + i) % cap) = seq (t + 1 - (sz + 1) + i) := by
  intro i hi
  unfold own_set
  by_cases q : i = sz
  · rw [if_pos (by rw [q])]
    congr 1; omega
  · rw [if_neg (by rcases own_four h1 h4 with rfl | rfl | rfl | rfl <;> omega), H i (by omega)]
    congr 1; omega
theorem own_less {cap hd sz t : Nat} {f seq : Nat → Int64} (h1 : 1 ≤ cap) (h4 : cap ≤ 4) (hh : hd < cap) (ht : sz ≤ t) (H : ∀ i, i < sz → f ((hd + i) % cap) = seq (t - sz + i)) (h0 : 0 < sz) : ∀ i, i < sz - 1 → f (((hd + 1) % cap + i) % cap) = seq (t - (sz - 1) + i) := by
  intro i hi
  rw [show ((hd + 1) % cap + i) % cap = (hd + (i + 1)) % cap by rcases own_four h1 h4 with rfl | rfl | rfl | rfl <;> omega, H (i + 1) (by omega)]
  congr 1; omega
/-- the size behind one step of the law -/
def own_s1 (cap n tot i sz : Nat) : Nat := if i < tot then min ((if i = n then sz - 1 else sz) + 1) cap else (if i = n then sz - 1 else sz)
theorem own_s1le {cap n tot i sz : Nat} (h : sz ≤ cap) : own_s1 cap n tot i sz ≤ cap := by unfold own_s1; split <;> split <;> omega
theorem own_all : ∀ c : Fin 5, ∀ n : Fin 6, ∀ m : Fin 6, 1 ≤ c.val → n.val + m.val ≤ 5 → own_s1 c.val n.val (n.val + m.val) 5 (own_s1 c.val n.val (n.val + m.val) 4 (own_s1 c.val n.val (n.val + m.val) 3 (own_s1 c.val n.val (n.val + m.val) 2 (own_s1 c.val n.val (n.val + m.val) 1 (own_s1 c.val n.val (n.val + m.val) 0 0))))) = min ((min n.val c.val - 1) + m.val) c.val := by decide +kernel
def own_seq (v0 v1 v2 v3 v4 : Int64) : Nat → Int64 := fun j => if j = 4 then v4 else if j = 3 then v3 else if j = 2 then v2 else if j = 1 then v1 else if j = 0 then v0 else 0
theorem own_ni2 {a b c : Addr} (h1 : a ≠ b) (h2 : a ≠ c) : a ∉ [b, c] := fun q => by
  rcases List.mem_cons.mp q with q | q
  · exact h1 q
  · exact h2 (List.mem_singleton.mp q)
theorem d3_0 : decode jdk_29_method_69_code 0 = .ok (.iload_n 0, 1) := by decide +kernel
theorem d3_1 : decode jdk_29_method_69_code 1 = .ok (.iload_n 1, 1) := by decide +kernel
theorem d3_2 : decode jdk_29_method_69_code 2 = .ok (.if_icmp .gt 7, 3) := by decide +kernel
theorem d3_5 : decode jdk_29_method_69_code 5 = .ok (.iload_n 0, 1) := by decide +kernel
theorem d3_6 : decode jdk_29_method_69_code 6 = .ok (.goto 4, 3) := by decide +kernel
theorem d3_9 : decode jdk_29_method_69_code 9 = .ok (.iload_n 1, 1) := by decide +kernel
theorem d3_10 : decode jdk_29_method_69_code 10 = .ok (.ireturn, 1) := by decide +kernel
theorem ef_3 (m : MethodId) (x0 : Int32) (x1 : Int32) : entryFrame m #[(.int x0), (.int x1)] 2 = mkF m 0 #[.val (.int x0), .val (.int x1)] [] := by first | (simp [entryFrame, mkF, argsToLocals, Value.category]; done) | rfl
def Q3 (Z : State) (p1 p2 : Int32) (h0 : Heap) (n0 : Nat) (v : Option Value) (h : Heap) (L : List Loc) : Prop := v = some (.int (own_min p1 p2)) ∧ Fr n0 L ∧ h = h0
set_option maxRecDepth 65536 in
set_option maxHeartbeats 40000000 in
theorem rm3 (l : Launch) (Z : State) (a0 : Array Value) (hw : ∀ d ∈ tables_1, d.before a0 Z = true) (ws : List Jvm.Cond) (p1 : Int32) (p2 : Int32)  (h0 : Heap) (n0 : Nat) (Z0 : n0 ≤ h0.size)  :
    MetFree l (⟨"java/lang/Math", "min", "(II)I"⟩ : MethodName) (head1 (Jvm.Cond.code (⟨"java/lang/Math", "min", "(II)I"⟩ : MethodName) jdk_29_method_69_code 2 (some .int) :: ws) ({ frames := 0, cells := 0, slots := 0, locals := 0 } : Room)) (fun a U => a = #[(.int p1), (.int p2)] ∧ Z.Warmed39 U.vm ∧ U.heap = h0) (fun _ _ _ _ _ => True) (fun _ U o U' => ∃ v L, o = .returned v ∧ Q3 Z p1 p2 h0 n0 v U'.heap L ∧ FrameEnd U o U' L ({ frames := 0, cells := 0, slots := 0, locals := 0 } : Room).cells ({ frames := 0, cells := 0, slots := 0, locals := 0 } : Room).slots) := by
  refine MetFree.of_bodySF (Jvm.Free.JP.mathPlain rfl (by decide +kernel)) hisR ?_
  intro p e s m args below meth c s₁ Bd hml0 hP hK
  obtain ⟨rfl, hZ, hh⟩ := hP
  have hx := Bd.exec
  have hby := Bd.bytes
  have hml : c.maxLocals = 2 := hml0
  have hown : s.vm.findClass "java/lang/Math" = some m.cls := findClass_of_methodNamed Bd.named
  have hnm := (name_of_methodNamed Bd.named Bd.method).1
  have X0 : Stand p l e ({ frames := 0, cells := 0, slots := 0, locals := 0 } : Room) s m #[(.int p1), (.int p2)] below meth c s₁ [] 0 0 := Stand.of_body Bd
  have e0 : s₁.heap = h0 := by rw [← hh, Bd.state]; rfl
  have N0 := Fr.nil n0
  have pre0 : ∀ t, Steps p.tables e below (s₁.setTop (mkF m 0 #[.val (.int p1), .val (.int p2)] [])) t → Steps p.tables e below (s₁.setTop (entryFrame m #[(.int p1), (.int p2)] 2)) t := fun t k => castTop (ef_3 m p1 p2) k
  have k1 : ∀ t, Steps p.tables e below (s₁.setTop (mkF m 2 #[.val (.int p1), .val (.int p2)] [(.int p2), (.int p1)])) t → Steps p.tables e below (s₁.setTop (entryFrame m #[(.int p1), (.int p2)] 2)) t := fun t k => pre0 t (by
      show Steps p.tables e below (s₁.setTop (mkF m 0 #[.val (.int p1), .val (.int p2)] [])) _
      refine XS.iloadN X0.here hx rfl (hb hby d3_0) rfl ?_
      show Steps p.tables e below (s₁.setTop (mkF m 1 #[.val (.int p1), .val (.int p2)] [(.int p1)])) _
      refine XS.iloadN X0.here hx rfl (hb hby d3_1) rfl ?_
      exact k)
  by_cases hc2 : p2 < p1
  · have k3 : ∀ t, Steps p.tables e below (s₁.setTop (mkF m 9 #[.val (.int p1), .val (.int p2)] [])) t → Steps p.tables e below (s₁.setTop (entryFrame m #[(.int p1), (.int p2)] 2)) t := fun t k => k1 t (by
        show Steps p.tables e below (s₁.setTop (mkF m 2 #[.val (.int p1), .val (.int p2)] [(.int p2), (.int p1)])) _
        refine XS.icmpYes X0.here hx rfl (pc0 := 2) (pc' := 9) rfl (hb hby d3_2) rfl (tlt hc2).2.2.1 (by decide) (by decide) ?_
        exact k)
    have k4 : ∀ t, Steps p.tables e below (s₁.setTop (mkF m 10 #[.val (.int p1), .val (.int p2)] [(.int p2)])) t → Steps p.tables e below (s₁.setTop (entryFrame m #[(.int p1), (.int p2)] 2)) t := fun t k => k3 t (by
        show Steps p.tables e below (s₁.setTop (mkF m 9 #[.val (.int p1), .val (.int p2)] [])) _
        refine XS.iloadN X0.here hx rfl (hb hby d3_9) rfl ?_
        exact k)
    obtain ⟨fs, hr, hrun, hended, hW, hsame⟩ := X0.leave (v := some (.int p2)) (fun h => by rw [Bd.returns] at h; cases h)
    refine ⟨_, _, k4 _ ?_, hrun, hended, _, _, rfl, ?_, ⟨_, rfl⟩, hW, hsame.mono (by decide) (by decide)⟩
    · show Steps p.tables e below (s₁.setTop (mkF m 10 #[.val (.int p1), .val (.int p2)] [(.int p2)])) _
      exact retI X0 hx Bd.returns (hb hby d3_10) hr
    · show Q3 Z p1 p2 h0 n0 _ s₁.heap _
      rw [e0]
      exact ⟨by rw [own_min, if_pos hc2], N0, rfl⟩
  · have k5 : ∀ t, Steps p.tables e below (s₁.setTop (mkF m 5 #[.val (.int p1), .val (.int p2)] [])) t → Steps p.tables e below (s₁.setTop (entryFrame m #[(.int p1), (.int p2)] 2)) t := fun t k => k1 t (by
        show Steps p.tables e below (s₁.setTop (mkF m 2 #[.val (.int p1), .val (.int p2)] [(.int p2), (.int p1)])) _
        refine XS.icmpNo X0.here hx rfl (hb hby d3_2) rfl (flt hc2).2.2.1 ?_
        exact k)
    have k6 : ∀ t, Steps p.tables e below (s₁.setTop (mkF m 10 #[.val (.int p1), .val (.int p2)] [(.int p1)])) t → Steps p.tables e below (s₁.setTop (entryFrame m #[(.int p1), (.int p2)] 2)) t := fun t k => k5 t (by
        show Steps p.tables e below (s₁.setTop (mkF m 5 #[.val (.int p1), .val (.int p2)] [])) _
        refine XS.iloadN X0.here hx rfl (hb hby d3_5) rfl ?_
        show Steps p.tables e below (s₁.setTop (mkF m 6 #[.val (.int p1), .val (.int p2)] [(.int p1)])) _
        refine XS.goto X0.here hx rfl (pc0 := 6) (pc' := 10) rfl (hb hby d3_6) (by decide) (by decide) ?_
        exact k)
    obtain ⟨fs, hr, hrun, hended, hW, hsame⟩ := X0.leave (v := some (.int p1)) (fun h => by rw [Bd.returns] at h; cases h)
    refine ⟨_, _, k6 _ ?_, hrun, hended, _, _, rfl, ?_, ⟨_, rfl⟩, hW, hsame.mono (by decide) (by decide)⟩
    · show Steps p.tables e below (s₁.setTop (mkF m 10 #[.val (.int p1), .val (.int p2)] [(.int p1)])) _
      exact retI X0 hx Bd.returns (hb hby d3_10) hr
    · show Q3 Z p1 p2 h0 n0 _ s₁.heap _
      rw [e0]
      exact ⟨by rw [own_min, if_neg hc2], N0, rfl⟩
theorem d6_0 : decode jdk_29_method_65_code 0 = .ok (.iload_n 0, 1) := by decide +kernel
theorem d6_1 : decode jdk_29_method_65_code 1 = .ok (.iload_n 1, 1) := by decide +kernel
theorem d6_2 : decode jdk_29_method_65_code 2 = .ok (.if_icmp .lt 7, 3) := by decide +kernel
theorem d6_5 : decode jdk_29_method_65_code 5 = .ok (.iload_n 0, 1) := by decide +kernel
theorem d6_6 : decode jdk_29_method_65_code 6 = .ok (.goto 4, 3) := by decide +kernel
theorem d6_9 : decode jdk_29_method_65_code 9 = .ok (.iload_n 1, 1) := by decide +kernel
theorem d6_10 : decode jdk_29_method_65_code 10 = .ok (.ireturn, 1) := by decide +kernel
theorem ef_6 (m : MethodId) (x0 : Int32) (x1 : Int32) : entryFrame m #[(.int x0), (.int x1)] 2 = mkF m 0 #[.val (.int x0), .val (.int x1)] [] := by first | (simp [entryFrame, mkF, argsToLocals, Value.category]; done) | rfl
def Q6 (Z : State) (p1 p2 : Int32) (h0 : Heap) (n0 : Nat) (v : Option Value) (h : Heap) (L : List Loc) : Prop := v = some (.int (own_max p1 p2)) ∧ Fr n0 L ∧ h = h0
set_option maxRecDepth 65536 in
set_option maxHeartbeats 40000000 in
theorem rm6 (l : Launch) (Z : State) (a0 : Array Value) (hw : ∀ d ∈ tables_1, d.before a0 Z = true) (ws : List Jvm.Cond) (p1 : Int32) (p2 : Int32)  (h0 : Heap) (n0 : Nat) (Z0 : n0 ≤ h0.size)  :
    MetFree l (⟨"java/lang/Math", "max", "(II)I"⟩ : MethodName) (head1 (Jvm.Cond.code (⟨"java/lang/Math", "max", "(II)I"⟩ : MethodName) jdk_29_method_65_code 2 (some .int) :: ws) ({ frames := 0, cells := 0, slots := 0, locals := 0 } : Room)) (fun a U => a = #[(.int p1), (.int p2)] ∧ Z.Warmed39 U.vm ∧ U.heap = h0) (fun _ _ _ _ _ => True) (fun _ U o U' => ∃ v L, o = .returned v ∧ Q6 Z p1 p2 h0 n0 v U'.heap L ∧ FrameEnd U o U' L ({ frames := 0, cells := 0, slots := 0, locals := 0 } : Room).cells ({ frames := 0, cells := 0, slots := 0, locals := 0 } : Room).slots) := by
  refine MetFree.of_bodySF (Jvm.Free.JP.mathPlain rfl (by decide +kernel)) hisR ?_
  intro p e s m args below meth c s₁ Bd hml0 hP hK
  obtain ⟨rfl, hZ, hh⟩ := hP
  have hx := Bd.exec
  have hby := Bd.bytes
  have hml : c.maxLocals = 2 := hml0
  have hown : s.vm.findClass "java/lang/Math" = some m.cls := findClass_of_methodNamed Bd.named
  have hnm := (name_of_methodNamed Bd.named Bd.method).1
  have X0 : Stand p l e ({ frames := 0, cells := 0, slots := 0, locals := 0 } : Room) s m #[(.int p1), (.int p2)] below meth c s₁ [] 0 0 := Stand.of_body Bd
  have e0 : s₁.heap = h0 := by rw [← hh, Bd.state]; rfl
  have N0 := Fr.nil n0
  have pre0 : ∀ t, Steps p.tables e below (s₁.setTop (mkF m 0 #[.val (.int p1), .val (.int p2)] [])) t → Steps p.tables e below (s₁.setTop (entryFrame m #[(.int p1), (.int p2)] 2)) t := fun t k => castTop (ef_6 m p1 p2) k
  have k7 : ∀ t, Steps p.tables e below (s₁.setTop (mkF m 2 #[.val (.int p1), .val (.int p2)] [(.int p2), (.int p1)])) t → Steps p.tables e below (s₁.setTop (entryFrame m #[(.int p1), (.int p2)] 2)) t := fun t k => pre0 t (by
      show Steps p.tables e below (s₁.setTop (mkF m 0 #[.val (.int p1), .val (.int p2)] [])) _
      refine XS.iloadN X0.here hx rfl (hb hby d6_0) rfl ?_
      show Steps p.tables e below (s₁.setTop (mkF m 1 #[.val (.int p1), .val (.int p2)] [(.int p1)])) _
      refine XS.iloadN X0.here hx rfl (hb hby d6_1) rfl ?_
      exact k)
  by_cases hc8 : p1 < p2
  · have k9 : ∀ t, Steps p.tables e below (s₁.setTop (mkF m 9 #[.val (.int p1), .val (.int p2)] [])) t → Steps p.tables e below (s₁.setTop (entryFrame m #[(.int p1), (.int p2)] 2)) t := fun t k => k7 t (by
        show Steps p.tables e below (s₁.setTop (mkF m 2 #[.val (.int p1), .val (.int p2)] [(.int p2), (.int p1)])) _
        refine XS.icmpYes X0.here hx rfl (pc0 := 2) (pc' := 9) rfl (hb hby d6_2) rfl (tlt hc8).1 (by decide) (by decide) ?_
        exact k)
    have k10 : ∀ t, Steps p.tables e below (s₁.setTop (mkF m 10 #[.val (.int p1), .val (.int p2)] [(.int p2)])) t → Steps p.tables e below (s₁.setTop (entryFrame m #[(.int p1), (.int p2)] 2)) t := fun t k => k9 t (by
        show Steps p.tables e below (s₁.setTop (mkF m 9 #[.val (.int p1), .val (.int p2)] [])) _
        refine XS.iloadN X0.here hx rfl (hb hby d6_9) rfl ?_
        exact k)
    obtain ⟨fs, hr, hrun, hended, hW, hsame⟩ := X0.leave (v := some (.int p2)) (fun h => by rw [Bd.returns] at h; cases h)
    refine ⟨_, _, k10 _ ?_, hrun, hended, _, _, rfl, ?_, ⟨_, rfl⟩, hW, hsame.mono (by decide) (by decide)⟩
    · show Steps p.tables e below (s₁.setTop (mkF m 10 #[.val (.int p1), .val (.int p2)] [(.int p2)])) _
      exact retI X0 hx Bd.returns (hb hby d6_10) hr
    · show Q6 Z p1 p2 h0 n0 _ s₁.heap _
      rw [e0]
      exact ⟨by rw [own_max, if_pos hc8], N0, rfl⟩
  · have k11 : ∀ t, Steps p.tables e below (s₁.setTop (mkF m 5 #[.val (.int p1), .val (.int p2)] [])) t → Steps p.tables e below (s₁.setTop (entryFrame m #[(.int p1), (.int p2)] 2)) t := fun t k => k7 t (by
        show Steps p.tables e below (s₁.setTop (mkF m 2 #[.val (.int p1), .val (.int p2)] [(.int p2), (.int p1)])) _
        refine XS.icmpNo X0.here hx rfl (hb hby d6_2) rfl (flt hc8).1 ?_
        exact k)
    have k12 : ∀ t, Steps p.tables e below (s₁.setTop (mkF m 10 #[.val (.int p1), .val (.int p2)] [(.int p1)])) t → Steps p.tables e below (s₁.setTop (entryFrame m #[(.int p1), (.int p2)] 2)) t := fun t k => k11 t (by
        show Steps p.tables e below (s₁.setTop (mkF m 5 #[.val (.int p1), .val (.int p2)] [])) _
        refine XS.iloadN X0.here hx rfl (hb hby d6_5) rfl ?_
        show Steps p.tables e below (s₁.setTop (mkF m 6 #[.val (.int p1), .val (.int p2)] [(.int p1)])) _
        refine XS.goto X0.here hx rfl (pc0 := 6) (pc' := 10) rfl (hb hby d6_6) (by decide) (by decide) ?_
        exact k)
    obtain ⟨fs, hr, hrun, hended, hW, hsame⟩ := X0.leave (v := some (.int p1)) (fun h => by rw [Bd.returns] at h; cases h)
    refine ⟨_, _, k12 _ ?_, hrun, hended, _, _, rfl, ?_, ⟨_, rfl⟩, hW, hsame.mono (by decide) (by decide)⟩
    · show Steps p.tables e below (s₁.setTop (mkF m 10 #[.val (.int p1), .val (.int p2)] [(.int p1)])) _
      exact retI X0 hx Bd.returns (hb hby d6_10) hr
    · show Q6 Z p1 p2 h0 n0 _ s₁.heap _
      rw [e0]
      exact ⟨by rw [own_max, if_neg hc8], N0, rfl⟩
theorem d7_0 : decode prog_51_method_5_code 0 = .ok (.aload_n 0, 1) := by decide +kernel
theorem d7_1 : decode prog_51_method_5_code 1 = .ok (.getfield 32, 3) := by decide +kernel
theorem d7_4 : decode prog_51_method_5_code 4 = .ok (.ireturn, 1) := by decide +kernel
theorem pn_7 : plainName "com/example/upya/upya/policy/LongRing" = true := by first | (simp [plainName, overriddenIn]; done) | decide +kernel
theorem ef_7 (m : MethodId) (x0 : Addr) : entryFrame m #[(.ref x0)] 1 = mkF m 0 #[.val (.ref x0)] [] := by first | (simp [entryFrame, mkF, argsToLocals, Value.category]; done) | rfl
def Q7 (Z : State) (sz : Nat) (h0 : Heap) (n0 : Nat) (v : Option Value) (h : Heap) (L : List Loc) : Prop := v = some (.int (Int32.ofInt sz)) ∧ Fr n0 L ∧ h = h0
set_option maxRecDepth 65536 in
set_option maxHeartbeats 40000000 in
theorem rm7 (l : Launch) (Z : State) (a0 : Array Value) (hw : ∀ d ∈ tables_1, d.before a0 Z = true) (ws : List Jvm.Cond) (a1 : Addr) (b : Addr) (xc : Int32) (cap sz tn : Nat) (seq : Nat → Int64) (h0 : Heap) (n0 : Nat) (Z0 : n0 ≤ h0.size) (R : RS Z h0 a1 b xc cap sz tn seq) :
    MetFree l (⟨"com/example/upya/upya/policy/LongRing", "size", "()I"⟩ : MethodName) (head1 (Jvm.Cond.code (⟨"com/example/upya/upya/policy/LongRing", "size", "()I"⟩ : MethodName) prog_51_method_5_code 1 (some .int) :: ws) ({ frames := 0, cells := 0, slots := 0, locals := 0 } : Room)) (fun a U => a = #[(.ref a1)] ∧ Z.Warmed39 U.vm ∧ U.heap = h0) (fun _ _ _ _ _ => True) (fun _ U o U' => ∃ v L, o = .returned v ∧ Q7 Z sz h0 n0 v U'.heap L ∧ FrameEnd U o U' L ({ frames := 0, cells := 0, slots := 0, locals := 0 } : Room).cells ({ frames := 0, cells := 0, slots := 0, locals := 0 } : Room).slots) := by
  refine MetFree.of_bodySF (plainFor_of_name pn_7) hisR ?_
  intro p e s m args below meth c s₁ Bd hml0 hP hK
  obtain ⟨rfl, hZ, hh⟩ := hP
  have hx := Bd.exec
  have hby := Bd.bytes
  have hml : c.maxLocals = 1 := hml0
  have hown : s.vm.findClass "com/example/upya/upya/policy/LongRing" = some m.cls := findClass_of_methodNamed Bd.named
  have hnm := (name_of_methodNamed Bd.named Bd.method).1
  have X0 : Stand p l e ({ frames := 0, cells := 0, slots := 0, locals := 0 } : Room) s m #[(.ref a1)] below meth c s₁ [] 0 0 := Stand.of_body Bd
  have e0 : s₁.heap = h0 := by rw [← hh, Bd.state]; rfl
  have N0 := Fr.nil n0
  have pre0 : ∀ t, Steps p.tables e below (s₁.setTop (mkF m 0 #[.val (.ref a1)] [])) t → Steps p.tables e below (s₁.setTop (entryFrame m #[(.ref a1)] 1)) t := fun t k => castTop (ef_7 m a1) k
  obtain ⟨E, Fc, Fv, xh, xs, hd, f, hxh, hxs, hhd, Fh, Fs, V, hst, hsuf⟩ := R
  have k13 : ∀ t, Steps p.tables e below (s₁.setTop (mkF m 1 #[.val (.ref a1)] [(.ref a1)])) t → Steps p.tables e below (s₁.setTop (entryFrame m #[(.ref a1)] 1)) t := fun t k => pre0 t (by
      show Steps p.tables e below (s₁.setTop (mkF m 0 #[.val (.ref a1)] [])) _
      refine XS.aloadN X0.here hx rfl (hb hby d7_0) rfl rfl ?_
      exact k)
  obtain ⟨T14, X14, e14, st14⟩ := getF X0 hx hZ hown (host := "") (Or.inl (hw _ (List.mem_of_getElem? (i := 27) rfl))) Via.refl e0 Fs (g := (mkF m 1 #[.val (.ref a1)] [(.ref a1)])) rfl rfl (hb hby d7_1)
  have k15 : ∀ t, Steps p.tables e below (T14.setTop (mkF m 4 #[.val (.ref a1)] [(.int xs)])) t → Steps p.tables e below (s₁.setTop (entryFrame m #[(.ref a1)] 1)) t := fun t k => k13 t (st14 t k)
  obtain ⟨fs, hr, hrun, hended, hW, hsame⟩ := X14.leave (v := some (.int xs)) (fun h => by rw [Bd.returns] at h; cases h)
  refine ⟨_, _, k15 _ ?_, hrun, hended, _, _, rfl, ?_, ⟨_, rfl⟩, hW, hsame.mono (by decide) (by decide)⟩
  · show Steps p.tables e below (T14.setTop (mkF m 4 #[.val (.ref a1)] [(.int xs)])) _
    exact retI X14 hx Bd.returns (hb hby d7_4) hr
  · show Q7 Z sz h0 n0 _ T14.heap _
    rw [e14]
    exact ⟨by rw [own_of hxs], N0, rfl⟩
theorem d10_0 : decode prog_51_method_4_code 0 = .ok (.iload_n 1, 1) := by decide +kernel
theorem d10_1 : decode prog_51_method_4_code 1 = .ok (.ifCond .lt 11, 3) := by decide +kernel
theorem d10_4 : decode prog_51_method_4_code 4 = .ok (.iload_n 1, 1) := by decide +kernel
theorem d10_5 : decode prog_51_method_4_code 5 = .ok (.aload_n 0, 1) := by decide +kernel
theorem d10_6 : decode prog_51_method_4_code 6 = .ok (.getfield 32, 3) := by decide +kernel
theorem d10_9 : decode prog_51_method_4_code 9 = .ok (.if_icmp .lt 21, 3) := by decide +kernel
theorem d10_12 : decode prog_51_method_4_code 12 = .ok (.new 41, 3) := by decide +kernel
theorem d10_15 : decode prog_51_method_4_code 15 = .ok (.dup, 1) := by decide +kernel
theorem d10_16 : decode prog_51_method_4_code 16 = .ok (.iload_n 1, 1) := by decide +kernel
theorem d10_17 : decode prog_51_method_4_code 17 = .ok (.aload_n 0, 1) := by decide +kernel
theorem d10_18 : decode prog_51_method_4_code 18 = .ok (.getfield 32, 3) := by decide +kernel
theorem d10_21 : decode prog_51_method_4_code 21 = .ok (.invokedynamic 43, 5) := by decide +kernel
theorem d10_26 : decode prog_51_method_4_code 26 = .ok (.invokespecial 46, 3) := by decide +kernel
theorem d10_29 : decode prog_51_method_4_code 29 = .ok (.athrow, 1) := by decide +kernel
theorem d10_30 : decode prog_51_method_4_code 30 = .ok (.aload_n 0, 1) := by decide +kernel
theorem d10_31 : decode prog_51_method_4_code 31 = .ok (.getfield 28, 3) := by decide +kernel
theorem d10_34 : decode prog_51_method_4_code 34 = .ok (.aload_n 0, 1) := by decide +kernel
theorem d10_35 : decode prog_51_method_4_code 35 = .ok (.getfield 35, 3) := by decide +kernel
theorem d10_38 : decode prog_51_method_4_code 38 = .ok (.iload_n 1, 1) := by decide +kernel
theorem d10_39 : decode prog_51_method_4_code 39 = .ok (.iadd, 1) := by decide +kernel
theorem d10_40 : decode prog_51_method_4_code 40 = .ok (.aload_n 0, 1) := by decide +kernel
theorem d10_41 : decode prog_51_method_4_code 41 = .ok (.getfield 28, 3) := by decide +kernel
theorem d10_44 : decode prog_51_method_4_code 44 = .ok (.arraylength, 1) := by decide +kernel
theorem d10_45 : decode prog_51_method_4_code 45 = .ok (.irem, 1) := by decide +kernel
theorem d10_46 : decode prog_51_method_4_code 46 = .ok (.laload, 1) := by decide +kernel
theorem d10_47 : decode prog_51_method_4_code 47 = .ok (.lreturn, 1) := by decide +kernel
theorem pn_10 : plainName "com/example/upya/upya/policy/LongRing" = true := by first | (simp [plainName, overriddenIn]; done) | decide +kernel
theorem ef_10 (m : MethodId) (x0 : Addr) (x1 : Int32) : entryFrame m #[(.ref x0), (.int x1)] 2 = mkF m 0 #[.val (.ref x0), .val (.int x1)] [] := by first | (simp [entryFrame, mkF, argsToLocals, Value.category]; done) | rfl
def Q10 (Z : State) (sz tn i : Nat) (seq : Nat → Int64) (h0 : Heap) (n0 : Nat) (v : Option Value) (h : Heap) (L : List Loc) : Prop := v = some (.long (seq (tn - sz + i))) ∧ Fr n0 L ∧ h = h0
set_option maxRecDepth 65536 in
set_option maxHeartbeats 40000000 in
theorem rm10 (l : Launch) (Z : State) (a0 : Array Value) (hw : ∀ d ∈ tables_1, d.before a0 Z = true) (ws : List Jvm.Cond) (a1 : Addr) (p2 : Int32) (b : Addr) (xc : Int32) (cap sz tn : Nat) (seq : Nat → Int64) (i : Nat) (h0 : Heap) (n0 : Nat) (Z0 : n0 ≤ h0.size) (hxc : xc.toInt = cap) (hc1 : 1 ≤ cap) (hc4 : cap ≤ 4) (hsz : sz ≤ cap) (ne : a1 ≠ b) (ga : n0 ≤ a1) (gb : n0 ≤ b) (R : RS Z h0 a1 b xc cap sz tn seq) (hi : p2.toInt = i) (his : i < sz) :
    MetFree l (⟨"com/example/upya/upya/policy/LongRing", "get", "(I)J"⟩ : MethodName) (head1 (Jvm.Cond.code (⟨"com/example/upya/upya/policy/LongRing", "get", "(I)J"⟩ : MethodName) prog_51_method_4_code 2 (some .long) :: ws) ({ frames := 0, cells := 0, slots := 0, locals := 0 } : Room)) (fun a U => a = #[(.ref a1), (.int p2)] ∧ Z.Warmed39 U.vm ∧ U.heap = h0) (fun _ _ _ _ _ => True) (fun _ U o U' => ∃ v L, o = .returned v ∧ Q10 Z sz tn i seq h0 n0 v U'.heap L ∧ FrameEnd U o U' L ({ frames := 0, cells := 0, slots := 0, locals := 0 } : Room).cells ({ frames := 0, cells := 0, slots := 0, locals := 0 } : Room).slots) := by
  refine MetFree.of_bodySF (plainFor_of_name pn_10) hisR ?_
  intro p e s m args below meth c s₁ Bd hml0 hP hK
  obtain ⟨rfl, hZ, hh⟩ := hP
  have hx := Bd.exec
  have hby := Bd.bytes
  have hml : c.maxLocals = 2 := hml0
  have hown : s.vm.findClass "com/example/upya/upya/policy/LongRing" = some m.cls := findClass_of_methodNamed Bd.named
  have hnm := (name_of_methodNamed Bd.named Bd.method).1
  have X0 : Stand p l e ({ frames := 0, cells := 0, slots := 0, locals := 0 } : Room) s m #[(.ref a1), (.int p2)] below meth c s₁ [] 0 0 := Stand.of_body Bd
  have e0 : s₁.heap = h0 := by rw [← hh, Bd.state]; rfl
  have N0 := Fr.nil n0
  have pre0 : ∀ t, Steps p.tables e below (s₁.setTop (mkF m 0 #[.val (.ref a1), .val (.int p2)] [])) t → Steps p.tables e below (s₁.setTop (entryFrame m #[(.ref a1), (.int p2)] 2)) t := fun t k => castTop (ef_10 m a1 p2) k
  obtain ⟨E, Fc, Fv, xh, xs, hd, f, hxh, hxs, hhd, Fh, Fs, V, hst, hsuf⟩ := R
  obtain ⟨cl, Ar, S, G⟩ := V
  have hm := own_rem (own_addN hxh hi (by omega)) hxc
  have hml2 : (hd + i) % cap < cap := Nat.mod_lt _ (by omega)
  have k16 : ∀ t, Steps p.tables e below (s₁.setTop (mkF m 6 #[.val (.ref a1), .val (.int p2)] [(.ref a1), (.int p2)])) t → Steps p.tables e below (s₁.setTop (entryFrame m #[(.ref a1), (.int p2)] 2)) t := fun t k => pre0 t (by
      show Steps p.tables e below (s₁.setTop (mkF m 0 #[.val (.ref a1), .val (.int p2)] [])) _
      refine XS.iloadN X0.here hx rfl (hb hby d10_0) rfl ?_
      show Steps p.tables e below (s₁.setTop (mkF m 1 #[.val (.ref a1), .val (.int p2)] [(.int p2)])) _
      refine XS.ifNo X0.here hx rfl (hb hby d10_1) rfl ((if0 _ _).trans (flt (own_nneg hi)).1) ?_
      show Steps p.tables e below (s₁.setTop (mkF m 4 #[.val (.ref a1), .val (.int p2)] [])) _
      refine XS.iloadN X0.here hx rfl (hb hby d10_4) rfl ?_
      show Steps p.tables e below (s₁.setTop (mkF m 5 #[.val (.ref a1), .val (.int p2)] [(.int p2)])) _
      refine XS.aloadN X0.here hx rfl (hb hby d10_5) rfl rfl ?_
      exact k)
  obtain ⟨T17, X17, e17, st17⟩ := getF X0 hx hZ hown (host := "") (Or.inl (hw _ (List.mem_of_getElem? (i := 27) rfl))) Via.refl e0 Fs (g := (mkF m 6 #[.val (.ref a1), .val (.int p2)] [(.ref a1), (.int p2)])) rfl rfl (hb hby d10_6)
  have k18 : ∀ t, Steps p.tables e below (T17.setTop (mkF m 9 #[.val (.ref a1), .val (.int p2)] [(.int xs), (.int p2)])) t → Steps p.tables e below (s₁.setTop (entryFrame m #[(.ref a1), (.int p2)] 2)) t := fun t k => k16 t (st17 t k)
  have k19 : ∀ t, Steps p.tables e below (T17.setTop (mkF m 31 #[.val (.ref a1), .val (.int p2)] [(.ref a1)])) t → Steps p.tables e below (s₁.setTop (entryFrame m #[(.ref a1), (.int p2)] 2)) t := fun t k => k18 t (by
      show Steps p.tables e below (T17.setTop (mkF m 9 #[.val (.ref a1), .val (.int p2)] [(.int xs), (.int p2)])) _
      refine XS.icmpYes X17.here hx rfl (pc0 := 9) (pc' := 30) rfl (hb hby d10_9) rfl (tlt ((own_lt hi hxs).mpr his)).1 (by decide) (by decide) ?_
      show Steps p.tables e below (T17.setTop (mkF m 30 #[.val (.ref a1), .val (.int p2)] [])) _
      refine XS.aloadN X17.here hx rfl (hb hby d10_30) rfl rfl ?_
      exact k)
  obtain ⟨T20, X20, e20, st20⟩ := getF X17 hx hZ hown (host := "") (Or.inl (hw _ (List.mem_of_getElem? (i := 16) rfl))) Via.refl e17 Fv (g := (mkF m 31 #[.val (.ref a1), .val (.int p2)] [(.ref a1)])) rfl rfl (hb hby d10_31)
  have k21 : ∀ t, Steps p.tables e below (T20.setTop (mkF m 34 #[.val (.ref a1), .val (.int p2)] [(.ref b)])) t → Steps p.tables e below (s₁.setTop (entryFrame m #[(.ref a1), (.int p2)] 2)) t := fun t k => k19 t (st20 t k)
  have k22 : ∀ t, Steps p.tables e below (T20.setTop (mkF m 35 #[.val (.ref a1), .val (.int p2)] [(.ref a1), (.ref b)])) t → Steps p.tables e below (s₁.setTop (entryFrame m #[(.ref a1), (.int p2)] 2)) t := fun t k => k21 t (by
      show Steps p.tables e below (T20.setTop (mkF m 34 #[.val (.ref a1), .val (.int p2)] [(.ref b)])) _
      refine XS.aloadN X20.here hx rfl (hb hby d10_34) rfl rfl ?_
      exact k)
  obtain ⟨T23, X23, e23, st23⟩ := getF X20 hx hZ hown (host := "") (Or.inl (hw _ (List.mem_of_getElem? (i := 46) rfl))) Via.refl e20 Fh (g := (mkF m 35 #[.val (.ref a1), .val (.int p2)] [(.ref a1), (.ref b)])) rfl rfl (hb hby d10_35)
  have k24 : ∀ t, Steps p.tables e below (T23.setTop (mkF m 38 #[.val (.ref a1), .val (.int p2)] [(.int xh), (.ref b)])) t → Steps p.tables e below (s₁.setTop (entryFrame m #[(.ref a1), (.int p2)] 2)) t := fun t k => k22 t (st23 t k)
  have k25 : ∀ t, Steps p.tables e below (T23.setTop (mkF m 41 #[.val (.ref a1), .val (.int p2)] [(.ref a1), (.int (xh + p2)), (.ref b)])) t → Steps p.tables e below (s₁.setTop (entryFrame m #[(.ref a1), (.int p2)] 2)) t := fun t k => k24 t (by
      show Steps p.tables e below (T23.setTop (mkF m 38 #[.val (.ref a1), .val (.int p2)] [(.int xh), (.ref b)])) _
      refine XS.iloadN X23.here hx rfl (hb hby d10_38) rfl ?_
      show Steps p.tables e below (T23.setTop (mkF m 39 #[.val (.ref a1), .val (.int p2)] [(.int p2), (.int xh), (.ref b)])) _
      refine XS.iadd X23.here hx rfl (hb hby d10_39) rfl ?_
      show Steps p.tables e below (T23.setTop (mkF m 40 #[.val (.ref a1), .val (.int p2)] [(.int (xh + p2)), (.ref b)])) _
      refine XS.aloadN X23.here hx rfl (hb hby d10_40) rfl rfl ?_
      exact k)
  obtain ⟨T26, X26, e26, st26⟩ := getF X23 hx hZ hown (host := "") (Or.inl (hw _ (List.mem_of_getElem? (i := 16) rfl))) Via.refl e23 Fv (g := (mkF m 41 #[.val (.ref a1), .val (.int p2)] [(.ref a1), (.int (xh + p2)), (.ref b)])) rfl rfl (hb hby d10_41)
  have k27 : ∀ t, Steps p.tables e below (T26.setTop (mkF m 44 #[.val (.ref a1), .val (.int p2)] [(.ref b), (.int (xh + p2)), (.ref b)])) t → Steps p.tables e below (s₁.setTop (entryFrame m #[(.ref a1), (.int p2)] 2)) t := fun t k => k25 t (st26 t k)
  have k28 : ∀ t, Steps p.tables e below (T26.setTop (mkF m 47 #[.val (.ref a1), .val (.int p2)] [(.long (f ((hd + i) % cap)))])) t → Steps p.tables e below (s₁.setTop (entryFrame m #[(.ref a1), (.int p2)] 2)) t := fun t k => k27 t (by
      show Steps p.tables e below (T26.setTop (mkF m 44 #[.val (.ref a1), .val (.int p2)] [(.ref b), (.int (xh + p2)), (.ref b)])) _
      refine X26.arraylength hx (by rw [e26]; exact Ar.1) (State.isArrayOf_alike hZ.alike Ar.2.1) (g := (mkF m 44 #[.val (.ref a1), .val (.int p2)] [(.ref b), (.int (xh + p2)), (.ref b)])) rfl rfl (hb hby d10_44) _ ?_
      rw [len_of (own_sz S hxc) (own_nneg hxc)]
      show Steps p.tables e below (T26.setTop (mkF m 45 #[.val (.ref a1), .val (.int p2)] [(.int xc), (.int (xh + p2)), (.ref b)])) _
      refine iremM X26 hx rfl (hb hby d10_45) rfl (own_ne0 hxc hc1) ?_
      show Steps p.tables e below (T26.setTop (mkF m 46 #[.val (.ref a1), .val (.int p2)] [(.int ((xh + p2) % xc)), (.ref b)])) _
      refine X26.laload hx (j := ((xh + p2) % xc)) (v := (.long (f ((hd + i) % cap)))) (by rw [e26]; exact Ar.1) (State.isArrayOf_alike hZ.alike Ar.2.1) Ar.2.2 (own_hin S hm hml2) (own_hat G hm hml2) (g := (mkF m 46 #[.val (.ref a1), .val (.int p2)] [(.int ((xh + p2) % xc)), (.ref b)])) rfl rfl (hb hby d10_46) _ ?_
      exact k)
  obtain ⟨fs, hr, hrun, hended, hW, hsame⟩ := X26.leave (v := some (.long (f ((hd + i) % cap)))) (fun h => by rw [Bd.returns] at h; cases h)
  refine ⟨_, _, k28 _ ?_, hrun, hended, _, _, rfl, ?_, ⟨_, rfl⟩, hW, hsame.mono (by decide) (by decide)⟩
  · show Steps p.tables e below (T26.setTop (mkF m 47 #[.val (.ref a1), .val (.int p2)] [(.long (f ((hd + i) % cap)))])) _
    exact retOut X26 hx Bd.returns rfl (Or.inr (Or.inl ⟨rfl, rfl, _, rfl⟩)) (hb hby d10_47) hr
  · show Q10 Z sz tn i seq h0 n0 _ T26.heap _
    rw [e26]
    exact ⟨by rw [hsuf i his], N0, rfl⟩
theorem d5_0 : decode prog_51_method_3_code 0 = .ok (.aload_n 0, 1) := by decide +kernel
theorem d5_1 : decode prog_51_method_3_code 1 = .ok (.getfield 32, 3) := by decide +kernel
theorem d5_4 : decode prog_51_method_3_code 4 = .ok (.ifCond .le 29, 3) := by decide +kernel
theorem d5_7 : decode prog_51_method_3_code 7 = .ok (.aload_n 0, 1) := by decide +kernel
theorem d5_8 : decode prog_51_method_3_code 8 = .ok (.aload_n 0, 1) := by decide +kernel
theorem d5_9 : decode prog_51_method_3_code 9 = .ok (.getfield 35, 3) := by decide +kernel
theorem d5_12 : decode prog_51_method_3_code 12 = .ok (.iconst 1, 1) := by decide +kernel
theorem d5_13 : decode prog_51_method_3_code 13 = .ok (.iadd, 1) := by decide +kernel
theorem d5_14 : decode prog_51_method_3_code 14 = .ok (.aload_n 0, 1) := by decide +kernel
theorem d5_15 : decode prog_51_method_3_code 15 = .ok (.getfield 28, 3) := by decide +kernel
theorem d5_18 : decode prog_51_method_3_code 18 = .ok (.arraylength, 1) := by decide +kernel
theorem d5_19 : decode prog_51_method_3_code 19 = .ok (.irem, 1) := by decide +kernel
theorem d5_20 : decode prog_51_method_3_code 20 = .ok (.putfield 35, 3) := by decide +kernel
theorem d5_23 : decode prog_51_method_3_code 23 = .ok (.aload_n 0, 1) := by decide +kernel
theorem d5_24 : decode prog_51_method_3_code 24 = .ok (.dup, 1) := by decide +kernel
theorem d5_25 : decode prog_51_method_3_code 25 = .ok (.getfield 32, 3) := by decide +kernel
theorem d5_28 : decode prog_51_method_3_code 28 = .ok (.iconst 1, 1) := by decide +kernel
theorem d5_29 : decode prog_51_method_3_code 29 = .ok (.isub, 1) := by decide +kernel
theorem d5_30 : decode prog_51_method_3_code 30 = .ok (.putfield 32, 3) := by decide +kernel
theorem d5_33 : decode prog_51_method_3_code 33 = .ok (.return_, 1) := by decide +kernel
theorem pn_5 : plainName "com/example/upya/upya/policy/LongRing" = true := by first | (simp [plainName, overriddenIn]; done) | decide +kernel
theorem ef_5 (m : MethodId) (x0 : Addr) : entryFrame m #[(.ref x0)] 1 = mkF m 0 #[.val (.ref x0)] [] := by first | (simp [entryFrame, mkF, argsToLocals, Value.category]; done) | rfl
def Q5 (Z : State) (a1 b : Addr) (xc : Int32) (cap sz tn : Nat) (seq : Nat → Int64) (h0 : Heap) (n0 : Nat) (v : Option Value) (h : Heap) (L : List Loc) : Prop := v = none ∧ Fr n0 L ∧ Keep h0 h [a1, b] ∧ RS Z h a1 b xc cap (sz - 1) tn seq
set_option maxRecDepth 65536 in
set_option maxHeartbeats 40000000 in
theorem rm5 (l : Launch) (Z : State) (a0 : Array Value) (hw : ∀ d ∈ tables_1, d.before a0 Z = true) (ws : List Jvm.Cond) (a1 : Addr) (b : Addr) (xc : Int32) (cap sz tn : Nat) (seq : Nat → Int64) (h0 : Heap) (n0 : Nat) (Z0 : n0 ≤ h0.size) (hxc : xc.toInt = cap) (hc1 : 1 ≤ cap) (hc4 : cap ≤ 4) (hsz : sz ≤ cap) (ne : a1 ≠ b) (ga : n0 ≤ a1) (gb : n0 ≤ b) (R : RS Z h0 a1 b xc cap sz tn seq) :
    MetFree l (⟨"com/example/upya/upya/policy/LongRing", "removeOldest", "()V"⟩ : MethodName) (head1 (Jvm.Cond.code (⟨"com/example/upya/upya/policy/LongRing", "removeOldest", "()V"⟩ : MethodName) prog_51_method_3_code 1 none :: ws) ({ frames := 0, cells := 0, slots := 0, locals := 0 } : Room)) (fun a U => a = #[(.ref a1)] ∧ Z.Warmed39 U.vm ∧ U.heap = h0) (fun _ _ _ _ _ => True) (fun _ U o U' => ∃ v L, o = .returned v ∧ Q5 Z a1 b xc cap sz tn seq h0 n0 v U'.heap L ∧ FrameEnd U o U' L ({ frames := 0, cells := 0, slots := 0, locals := 0 } : Room).cells ({ frames := 0, cells := 0, slots := 0, locals := 0 } : Room).slots) := by
  refine MetFree.of_bodySF (plainFor_of_name pn_5) hisR ?_
  intro p e s m args below meth c s₁ Bd hml0 hP hK
  obtain ⟨rfl, hZ, hh⟩ := hP
  have hx := Bd.exec
  have hby := Bd.bytes
  have hml : c.maxLocals = 1 := hml0
  have hown : s.vm.findClass "com/example/upya/upya/policy/LongRing" = some m.cls := findClass_of_methodNamed Bd.named
  have hnm := (name_of_methodNamed Bd.named Bd.method).1
  have X0 : Stand p l e ({ frames := 0, cells := 0, slots := 0, locals := 0 } : Room) s m #[(.ref a1)] below meth c s₁ [] 0 0 := Stand.of_body Bd
  have e0 : s₁.heap = h0 := by rw [← hh, Bd.state]; rfl
  have N0 := Fr.nil n0
  have pre0 : ∀ t, Steps p.tables e below (s₁.setTop (mkF m 0 #[.val (.ref a1)] [])) t → Steps p.tables e below (s₁.setTop (entryFrame m #[(.ref a1)] 1)) t := fun t k => castTop (ef_5 m a1) k
  obtain ⟨E, Fc, Fv, xh, xs, hd, f, hxh, hxs, hhd, Fh, Fs, V, hst, hsuf⟩ := R
  have k29 : ∀ t, Steps p.tables e below (s₁.setTop (mkF m 1 #[.val (.ref a1)] [(.ref a1)])) t → Steps p.tables e below (s₁.setTop (entryFrame m #[(.ref a1)] 1)) t := fun t k => pre0 t (by
      show Steps p.tables e below (s₁.setTop (mkF m 0 #[.val (.ref a1)] [])) _
      refine XS.aloadN X0.here hx rfl (hb hby d5_0) rfl rfl ?_
      exact k)
  obtain ⟨T30, X30, e30, st30⟩ := getF X0 hx hZ hown (host := "") (Or.inl (hw _ (List.mem_of_getElem? (i := 27) rfl))) Via.refl e0 Fs (g := (mkF m 1 #[.val (.ref a1)] [(.ref a1)])) rfl rfl (hb hby d5_1)
  have k31 : ∀ t, Steps p.tables e below (T30.setTop (mkF m 4 #[.val (.ref a1)] [(.int xs)])) t → Steps p.tables e below (s₁.setTop (entryFrame m #[(.ref a1)] 1)) t := fun t k => k29 t (st30 t k)
  by_cases h0s : (0 : Int32) < xs
  · have hs1 : 0 < sz := by rw [Int32.lt_iff_toInt_lt, hxs, show (0 : Int32).toInt = 0 from by decide] at h0s; omega
    obtain ⟨cl, Ar, S, G⟩ := V
    have hm := own_rem (own_inc hxh (by omega)) hxc
    have hml2 : (hd + 1) % cap < cap := Nat.mod_lt _ (by omega)
    have k32 : ∀ t, Steps p.tables e below (T30.setTop (mkF m 7 #[.val (.ref a1)] [])) t → Steps p.tables e below (s₁.setTop (entryFrame m #[(.ref a1)] 1)) t := fun t k => k31 t (by
        show Steps p.tables e below (T30.setTop (mkF m 4 #[.val (.ref a1)] [(.int xs)])) _
        refine XS.ifNo X30.here hx rfl (hb hby d5_4) rfl ((if0 _ _).trans (tlt h0s).2.2.2) ?_
        exact k)
    have k33 : ∀ t, Steps p.tables e below (T30.setTop (mkF m 9 #[.val (.ref a1)] [(.ref a1), (.ref a1)])) t → Steps p.tables e below (s₁.setTop (entryFrame m #[(.ref a1)] 1)) t := fun t k => k32 t (by
        show Steps p.tables e below (T30.setTop (mkF m 7 #[.val (.ref a1)] [])) _
        refine XS.aloadN X30.here hx rfl (hb hby d5_7) rfl rfl ?_
        show Steps p.tables e below (T30.setTop (mkF m 8 #[.val (.ref a1)] [(.ref a1)])) _
        refine XS.aloadN X30.here hx rfl (hb hby d5_8) rfl rfl ?_
        exact k)
    obtain ⟨T34, X34, e34, st34⟩ := getF X30 hx hZ hown (host := "") (Or.inl (hw _ (List.mem_of_getElem? (i := 46) rfl))) Via.refl e30 Fh (g := (mkF m 9 #[.val (.ref a1)] [(.ref a1), (.ref a1)])) rfl rfl (hb hby d5_9)
    have k35 : ∀ t, Steps p.tables e below (T34.setTop (mkF m 12 #[.val (.ref a1)] [(.int xh), (.ref a1)])) t → Steps p.tables e below (s₁.setTop (entryFrame m #[(.ref a1)] 1)) t := fun t k => k33 t (st34 t k)
    have k36 : ∀ t, Steps p.tables e below (T34.setTop (mkF m 15 #[.val (.ref a1)] [(.ref a1), (.int (xh + (1 : Int32))), (.ref a1)])) t → Steps p.tables e below (s₁.setTop (entryFrame m #[(.ref a1)] 1)) t := fun t k => k35 t (by
        show Steps p.tables e below (T34.setTop (mkF m 12 #[.val (.ref a1)] [(.int xh), (.ref a1)])) _
        refine XS.iconst X34.here hx rfl (hb hby d5_12) ?_
        show Steps p.tables e below (T34.setTop (mkF m 13 #[.val (.ref a1)] [(.int (1 : Int32)), (.int xh), (.ref a1)])) _
        refine XS.iadd X34.here hx rfl (hb hby d5_13) rfl ?_
        show Steps p.tables e below (T34.setTop (mkF m 14 #[.val (.ref a1)] [(.int (xh + (1 : Int32))), (.ref a1)])) _
        refine XS.aloadN X34.here hx rfl (hb hby d5_14) rfl rfl ?_
        exact k)
    obtain ⟨T37, X37, e37, st37⟩ := getF X34 hx hZ hown (host := "") (Or.inl (hw _ (List.mem_of_getElem? (i := 16) rfl))) Via.refl e34 Fv (g := (mkF m 15 #[.val (.ref a1)] [(.ref a1), (.int (xh + (1 : Int32))), (.ref a1)])) rfl rfl (hb hby d5_15)
    have k38 : ∀ t, Steps p.tables e below (T37.setTop (mkF m 18 #[.val (.ref a1)] [(.ref b), (.int (xh + (1 : Int32))), (.ref a1)])) t → Steps p.tables e below (s₁.setTop (entryFrame m #[(.ref a1)] 1)) t := fun t k => k36 t (st37 t k)
    have k39 : ∀ t, Steps p.tables e below (T37.setTop (mkF m 20 #[.val (.ref a1)] [(.int ((xh + (1 : Int32)) % xc)), (.ref a1)])) t → Steps p.tables e below (s₁.setTop (entryFrame m #[(.ref a1)] 1)) t := fun t k => k38 t (by
        show Steps p.tables e below (T37.setTop (mkF m 18 #[.val (.ref a1)] [(.ref b), (.int (xh + (1 : Int32))), (.ref a1)])) _
        refine X37.arraylength hx (by rw [e37]; exact Ar.1) (State.isArrayOf_alike hZ.alike Ar.2.1) (g := (mkF m 18 #[.val (.ref a1)] [(.ref b), (.int (xh + (1 : Int32))), (.ref a1)])) rfl rfl (hb hby d5_18) _ ?_
        rw [len_of (own_sz S hxc) (own_nneg hxc)]
        show Steps p.tables e below (T37.setTop (mkF m 19 #[.val (.ref a1)] [(.int xc), (.int (xh + (1 : Int32))), (.ref a1)])) _
        refine iremM X37 hx rfl (hb hby d5_19) rfl (own_ne0 hxc hc1) ?_
        exact k)
    obtain ⟨T40, h40, X40, e40, W40, st40⟩ := putF X37 hx hZ hown (host := "") (Or.inl (hw _ (List.mem_of_getElem? (i := 46) rfl))) Via.refl e37 Fh E (Or.inl (hw _ (List.mem_of_getElem? (i := 47) rfl))) (hw _ (List.mem_of_getElem? (i := 2) rfl)) (ty := .int) (by decide) rfl rfl (g := (mkF m 20 #[.val (.ref a1)] [(.int ((xh + (1 : Int32)) % xc)), (.ref a1)])) rfl rfl (hb hby d5_20)
    have N40 := Fr.snoc X40 N0 ga
    have k41 : ∀ t, Steps p.tables e below (T40.setTop (mkF m 23 #[.val (.ref a1)] [])) t → Steps p.tables e below (s₁.setTop (entryFrame m #[(.ref a1)] 1)) t := fun t k => k39 t (st40 t k)
    have Fc := Fc.other W40 (Or.inr (slot_ne (Or.inr (hw _ (List.mem_of_getElem? (i := 11) rfl))) (Or.inl (hw _ (List.mem_of_getElem? (i := 47) rfl))) (by decide) (t := .int) (t' := .int) (by decide) (by decide)))
    have Fv := Fv.other W40 (Or.inr (slot_ne (Or.inl (hw _ (List.mem_of_getElem? (i := 17) rfl))) (Or.inl (hw _ (List.mem_of_getElem? (i := 47) rfl))) (by decide) (t := (.array .long)) (t' := .int) (by decide) (by decide)))
    have Fh := Fh.same W40
    have Fs := Fs.other W40 (Or.inr (slot_ne (Or.inl (hw _ (List.mem_of_getElem? (i := 28) rfl))) (Or.inl (hw _ (List.mem_of_getElem? (i := 47) rfl))) (by decide) (t := .int) (t' := .int) (by decide) (by decide)))
    have E := E.wr W40
    have k42 : ∀ t, Steps p.tables e below (T40.setTop (mkF m 25 #[.val (.ref a1)] [(.ref a1), (.ref a1)])) t → Steps p.tables e below (s₁.setTop (entryFrame m #[(.ref a1)] 1)) t := fun t k => k41 t (by
        show Steps p.tables e below (T40.setTop (mkF m 23 #[.val (.ref a1)] [])) _
        refine XS.aloadN X40.here hx rfl (hb hby d5_23) rfl rfl ?_
        show Steps p.tables e below (T40.setTop (mkF m 24 #[.val (.ref a1)] [(.ref a1)])) _
        refine XS.dup X40.here hx rfl (hb hby d5_24) rfl rfl ?_
        exact k)
    obtain ⟨T43, X43, e43, st43⟩ := getF X40 hx hZ hown (host := "") (Or.inl (hw _ (List.mem_of_getElem? (i := 27) rfl))) Via.refl e40 Fs (g := (mkF m 25 #[.val (.ref a1)] [(.ref a1), (.ref a1)])) rfl rfl (hb hby d5_25)
    have k44 : ∀ t, Steps p.tables e below (T43.setTop (mkF m 28 #[.val (.ref a1)] [(.int xs), (.ref a1)])) t → Steps p.tables e below (s₁.setTop (entryFrame m #[(.ref a1)] 1)) t := fun t k => k42 t (st43 t k)
    have k45 : ∀ t, Steps p.tables e below (T43.setTop (mkF m 30 #[.val (.ref a1)] [(.int (xs - (1 : Int32))), (.ref a1)])) t → Steps p.tables e below (s₁.setTop (entryFrame m #[(.ref a1)] 1)) t := fun t k => k44 t (by
        show Steps p.tables e below (T43.setTop (mkF m 28 #[.val (.ref a1)] [(.int xs), (.ref a1)])) _
        refine XS.iconst X43.here hx rfl (hb hby d5_28) ?_
        show Steps p.tables e below (T43.setTop (mkF m 29 #[.val (.ref a1)] [(.int (1 : Int32)), (.int xs), (.ref a1)])) _
        refine XS.isub X43.here hx rfl (hb hby d5_29) rfl ?_
        exact k)
    obtain ⟨T46, h46, X46, e46, W46, st46⟩ := putF X43 hx hZ hown (host := "") (Or.inl (hw _ (List.mem_of_getElem? (i := 27) rfl))) Via.refl e43 Fs E (Or.inl (hw _ (List.mem_of_getElem? (i := 28) rfl))) (hw _ (List.mem_of_getElem? (i := 2) rfl)) (ty := .int) (by decide) rfl rfl (g := (mkF m 30 #[.val (.ref a1)] [(.int (xs - (1 : Int32))), (.ref a1)])) rfl rfl (hb hby d5_30)
    have N46 := Fr.snoc X46 N40 ga
    have k47 : ∀ t, Steps p.tables e below (T46.setTop (mkF m 33 #[.val (.ref a1)] [])) t → Steps p.tables e below (s₁.setTop (entryFrame m #[(.ref a1)] 1)) t := fun t k => k45 t (st46 t k)
    have Fc := Fc.other W46 (Or.inr (slot_ne (Or.inr (hw _ (List.mem_of_getElem? (i := 11) rfl))) (Or.inl (hw _ (List.mem_of_getElem? (i := 28) rfl))) (by decide) (t := .int) (t' := .int) (by decide) (by decide)))
    have Fv := Fv.other W46 (Or.inr (slot_ne (Or.inl (hw _ (List.mem_of_getElem? (i := 17) rfl))) (Or.inl (hw _ (List.mem_of_getElem? (i := 28) rfl))) (by decide) (t := (.array .long)) (t' := .int) (by decide) (by decide)))
    have Fh := Fh.other W46 (Or.inr (slot_ne (Or.inl (hw _ (List.mem_of_getElem? (i := 47) rfl))) (Or.inl (hw _ (List.mem_of_getElem? (i := 28) rfl))) (by decide) (t := .int) (t' := .int) (by decide) (by decide)))
    have Fs := Fs.same W46
    have E := E.wr W46
    have V2 : Av Z h0 b .long cap (fun j => .long (f j)) := ⟨cl, Ar, S, G⟩
    obtain ⟨fs, hr, hrun, hended, hW, hsame⟩ := X46.leave (v := none) (fun _ => rfl)
    refine ⟨_, _, k47 _ ?_, hrun, hended, _, _, rfl, ?_, ⟨_, rfl⟩, hW, hsame.mono (by decide) (by decide)⟩
    · show Steps p.tables e below (T46.setTop (mkF m 33 #[.val (.ref a1)] [])) _
      exact X46.returnOut hx Bd.returns (hb hby d5_33) hr
    · show Q5 Z a1 b xc cap sz tn seq h0 n0 _ T46.heap _
      rw [e46]
      exact ⟨rfl, N46, ((Keep.refl h0 [a1, b]).wr W40 (Or.inl (own_in0 _ _))).wr W46 (Or.inl (own_in0 _ _)), E, Fc, Fv, _, _, _, f, hm, own_subN hxs (b := 1) (by decide) (by omega), hml2, Fh, Fs, (V2.other W40 ne.symm).other W46 ne.symm, by omega, own_less hc1 hc4 hhd hst hsuf hs1⟩
  · have hs0 : sz - 1 = sz := by rw [Int32.lt_iff_toInt_lt, hxs, show (0 : Int32).toInt = 0 from by decide] at h0s; omega
    have k48 : ∀ t, Steps p.tables e below (T30.setTop (mkF m 33 #[.val (.ref a1)] [])) t → Steps p.tables e below (s₁.setTop (entryFrame m #[(.ref a1)] 1)) t := fun t k => k31 t (by
        show Steps p.tables e below (T30.setTop (mkF m 4 #[.val (.ref a1)] [(.int xs)])) _
        refine XS.ifYes X30.here hx rfl (pc0 := 4) (pc' := 33) rfl (hb hby d5_4) rfl ((if0 _ _).trans (flt h0s).2.2.2) (by decide) (by decide) ?_
        exact k)
    obtain ⟨fs, hr, hrun, hended, hW, hsame⟩ := X30.leave (v := none) (fun _ => rfl)
    refine ⟨_, _, k48 _ ?_, hrun, hended, _, _, rfl, ?_, ⟨_, rfl⟩, hW, hsame.mono (by decide) (by decide)⟩
    · show Steps p.tables e below (T30.setTop (mkF m 33 #[.val (.ref a1)] [])) _
      exact X30.returnOut hx Bd.returns (hb hby d5_33) hr
    · show Q5 Z a1 b xc cap sz tn seq h0 n0 _ T30.heap _
      rw [e30]
      exact ⟨rfl, N0, Keep.refl h0 [a1, b], by rw [hs0]; exact ⟨E, Fc, Fv, xh, xs, hd, f, hxh, hxs, hhd, Fh, Fs, V, hst, hsuf⟩⟩
theorem d9_0 : decode prog_51_method_2_code 0 = .ok (.aload_n 0, 1) := by decide +kernel
theorem d9_1 : decode prog_51_method_2_code 1 = .ok (.getfield 32, 3) := by decide +kernel
theorem d9_4 : decode prog_51_method_2_code 4 = .ok (.aload_n 0, 1) := by decide +kernel
theorem d9_5 : decode prog_51_method_2_code 5 = .ok (.getfield 16, 3) := by decide +kernel
theorem d9_8 : decode prog_51_method_2_code 8 = .ok (.if_icmp .ne 30, 3) := by decide +kernel
theorem d9_11 : decode prog_51_method_2_code 11 = .ok (.aload_n 0, 1) := by decide +kernel
theorem d9_12 : decode prog_51_method_2_code 12 = .ok (.getfield 28, 3) := by decide +kernel
theorem d9_15 : decode prog_51_method_2_code 15 = .ok (.aload_n 0, 1) := by decide +kernel
theorem d9_16 : decode prog_51_method_2_code 16 = .ok (.getfield 35, 3) := by decide +kernel
theorem d9_19 : decode prog_51_method_2_code 19 = .ok (.lload_n 1, 1) := by decide +kernel
theorem d9_20 : decode prog_51_method_2_code 20 = .ok (.lastore, 1) := by decide +kernel
theorem d9_21 : decode prog_51_method_2_code 21 = .ok (.aload_n 0, 1) := by decide +kernel
theorem d9_22 : decode prog_51_method_2_code 22 = .ok (.aload_n 0, 1) := by decide +kernel
theorem d9_23 : decode prog_51_method_2_code 23 = .ok (.getfield 35, 3) := by decide +kernel
theorem d9_26 : decode prog_51_method_2_code 26 = .ok (.iconst 1, 1) := by decide +kernel
theorem d9_27 : decode prog_51_method_2_code 27 = .ok (.iadd, 1) := by decide +kernel
theorem d9_28 : decode prog_51_method_2_code 28 = .ok (.aload_n 0, 1) := by decide +kernel
theorem d9_29 : decode prog_51_method_2_code 29 = .ok (.getfield 28, 3) := by decide +kernel
theorem d9_32 : decode prog_51_method_2_code 32 = .ok (.arraylength, 1) := by decide +kernel
theorem d9_33 : decode prog_51_method_2_code 33 = .ok (.irem, 1) := by decide +kernel
theorem d9_34 : decode prog_51_method_2_code 34 = .ok (.putfield 35, 3) := by decide +kernel
theorem d9_37 : decode prog_51_method_2_code 37 = .ok (.return_, 1) := by decide +kernel
theorem d9_38 : decode prog_51_method_2_code 38 = .ok (.aload_n 0, 1) := by decide +kernel
theorem d9_39 : decode prog_51_method_2_code 39 = .ok (.getfield 32, 3) := by decide +kernel
theorem d9_42 : decode prog_51_method_2_code 42 = .ok (.aload_n 0, 1) := by decide +kernel
theorem d9_43 : decode prog_51_method_2_code 43 = .ok (.getfield 28, 3) := by decide +kernel
theorem d9_46 : decode prog_51_method_2_code 46 = .ok (.arraylength, 1) := by decide +kernel
theorem d9_47 : decode prog_51_method_2_code 47 = .ok (.if_icmp .ne 7, 3) := by decide +kernel
theorem d9_50 : decode prog_51_method_2_code 50 = .ok (.aload_n 0, 1) := by decide +kernel
theorem d9_51 : decode prog_51_method_2_code 51 = .ok (.invokevirtual 38, 3) := by decide +kernel
theorem d9_54 : decode prog_51_method_2_code 54 = .ok (.aload_n 0, 1) := by decide +kernel
theorem d9_55 : decode prog_51_method_2_code 55 = .ok (.getfield 28, 3) := by decide +kernel
theorem d9_58 : decode prog_51_method_2_code 58 = .ok (.aload_n 0, 1) := by decide +kernel
theorem d9_59 : decode prog_51_method_2_code 59 = .ok (.getfield 35, 3) := by decide +kernel
theorem d9_62 : decode prog_51_method_2_code 62 = .ok (.aload_n 0, 1) := by decide +kernel
theorem d9_63 : decode prog_51_method_2_code 63 = .ok (.getfield 32, 3) := by decide +kernel
theorem d9_66 : decode prog_51_method_2_code 66 = .ok (.iadd, 1) := by decide +kernel
theorem d9_67 : decode prog_51_method_2_code 67 = .ok (.aload_n 0, 1) := by decide +kernel
theorem d9_68 : decode prog_51_method_2_code 68 = .ok (.getfield 28, 3) := by decide +kernel
theorem d9_71 : decode prog_51_method_2_code 71 = .ok (.arraylength, 1) := by decide +kernel
theorem d9_72 : decode prog_51_method_2_code 72 = .ok (.irem, 1) := by decide +kernel
theorem d9_73 : decode prog_51_method_2_code 73 = .ok (.lload_n 1, 1) := by decide +kernel
theorem d9_74 : decode prog_51_method_2_code 74 = .ok (.lastore, 1) := by decide +kernel
theorem d9_75 : decode prog_51_method_2_code 75 = .ok (.aload_n 0, 1) := by decide +kernel
theorem d9_76 : decode prog_51_method_2_code 76 = .ok (.dup, 1) := by decide +kernel
theorem d9_77 : decode prog_51_method_2_code 77 = .ok (.getfield 32, 3) := by decide +kernel
theorem d9_80 : decode prog_51_method_2_code 80 = .ok (.iconst 1, 1) := by decide +kernel
theorem d9_81 : decode prog_51_method_2_code 81 = .ok (.iadd, 1) := by decide +kernel
theorem d9_82 : decode prog_51_method_2_code 82 = .ok (.putfield 32, 3) := by decide +kernel
theorem d9_85 : decode prog_51_method_2_code 85 = .ok (.return_, 1) := by decide +kernel
theorem pn_9 : plainName "com/example/upya/upya/policy/LongRing" = true := by first | (simp [plainName, overriddenIn]; done) | decide +kernel
theorem ef_9 (m : MethodId) (x0 : Addr) (x1 : Int64) : entryFrame m #[(.ref x0), (.long x1)] 3 = mkF m 0 #[.val (.ref x0), .val (.long x1), .second] [] := by first | (simp [entryFrame, mkF, argsToLocals, Value.category]; done) | rfl
def Q9 (Z : State) (a1 b : Addr) (xc : Int32) (cap sz tn : Nat) (seq : Nat → Int64) (h0 : Heap) (n0 : Nat) (v : Option Value) (h : Heap) (L : List Loc) : Prop := v = none ∧ Fr n0 L ∧ Keep h0 h [a1, b] ∧ RS Z h a1 b xc cap (min (sz + 1) cap) (tn + 1) seq
set_option maxRecDepth 65536 in
set_option maxHeartbeats 40000000 in
theorem rm9 (l : Launch) (Z : State) (a0 : Array Value) (hw : ∀ d ∈ tables_1, d.before a0 Z = true) (ws : List Jvm.Cond) (a1 : Addr) (q2 : Int64) (b : Addr) (xc : Int32) (cap sz tn : Nat) (seq : Nat → Int64) (h0 : Heap) (n0 : Nat) (Z0 : n0 ≤ h0.size) (hxc : xc.toInt = cap) (hc1 : 1 ≤ cap) (hc4 : cap ≤ 4) (hsz : sz ≤ cap) (ne : a1 ≠ b) (ga : n0 ≤ a1) (gb : n0 ≤ b) (R : RS Z h0 a1 b xc cap sz tn seq) (hq : q2 = seq tn) :
    MetFree l (⟨"com/example/upya/upya/policy/LongRing", "add", "(J)V"⟩ : MethodName) (head1 (Jvm.Cond.code (⟨"com/example/upya/upya/policy/LongRing", "add", "(J)V"⟩ : MethodName) prog_51_method_2_code 3 none :: ws) ({ frames := 0, cells := 0, slots := 0, locals := 0 } : Room)) (fun a U => a = #[(.ref a1), (.long q2)] ∧ Z.Warmed39 U.vm ∧ U.heap = h0) (fun _ _ _ _ _ => True) (fun _ U o U' => ∃ v L, o = .returned v ∧ Q9 Z a1 b xc cap sz tn seq h0 n0 v U'.heap L ∧ FrameEnd U o U' L ({ frames := 0, cells := 0, slots := 0, locals := 0 } : Room).cells ({ frames := 0, cells := 0, slots := 0, locals := 0 } : Room).slots) := by
  refine MetFree.of_bodySF (plainFor_of_name pn_9) hisR ?_
  intro p e s m args below meth c s₁ Bd hml0 hP hK
  obtain ⟨rfl, hZ, hh⟩ := hP
  have hx := Bd.exec
  have hby := Bd.bytes
  have hml : c.maxLocals = 3 := hml0
  have hown : s.vm.findClass "com/example/upya/upya/policy/LongRing" = some m.cls := findClass_of_methodNamed Bd.named
  have hnm := (name_of_methodNamed Bd.named Bd.method).1
  have X0 : Stand p l e ({ frames := 0, cells := 0, slots := 0, locals := 0 } : Room) s m #[(.ref a1), (.long q2)] below meth c s₁ [] 0 0 := Stand.of_body Bd
  have e0 : s₁.heap = h0 := by rw [← hh, Bd.state]; rfl
  have N0 := Fr.nil n0
  have pre0 : ∀ t, Steps p.tables e below (s₁.setTop (mkF m 0 #[.val (.ref a1), .val (.long q2), .second] [])) t → Steps p.tables e below (s₁.setTop (entryFrame m #[(.ref a1), (.long q2)] 3)) t := fun t k => castTop (ef_9 m a1 q2) k
  obtain ⟨E, Fc, Fv, xh, xs, hd, f, hxh, hxs, hhd, Fh, Fs, V, hst, hsuf⟩ := R
  have V0 := V
  obtain ⟨cl, Ar, S, G⟩ := V
  have k49 : ∀ t, Steps p.tables e below (s₁.setTop (mkF m 1 #[.val (.ref a1), .val (.long q2), .second] [(.ref a1)])) t → Steps p.tables e below (s₁.setTop (entryFrame m #[(.ref a1), (.long q2)] 3)) t := fun t k => pre0 t (by
      show Steps p.tables e below (s₁.setTop (mkF m 0 #[.val (.ref a1), .val (.long q2), .second] [])) _
      refine XS.aloadN X0.here hx rfl (hb hby d9_0) rfl rfl ?_
      exact k)
  obtain ⟨T50, X50, e50, st50⟩ := getF X0 hx hZ hown (host := "") (Or.inl (hw _ (List.mem_of_getElem? (i := 27) rfl))) Via.refl e0 Fs (g := (mkF m 1 #[.val (.ref a1), .val (.long q2), .second] [(.ref a1)])) rfl rfl (hb hby d9_1)
  have k51 : ∀ t, Steps p.tables e below (T50.setTop (mkF m 4 #[.val (.ref a1), .val (.long q2), .second] [(.int xs)])) t → Steps p.tables e below (s₁.setTop (entryFrame m #[(.ref a1), (.long q2)] 3)) t := fun t k => k49 t (st50 t k)
  have k52 : ∀ t, Steps p.tables e below (T50.setTop (mkF m 5 #[.val (.ref a1), .val (.long q2), .second] [(.ref a1), (.int xs)])) t → Steps p.tables e below (s₁.setTop (entryFrame m #[(.ref a1), (.long q2)] 3)) t := fun t k => k51 t (by
      show Steps p.tables e below (T50.setTop (mkF m 4 #[.val (.ref a1), .val (.long q2), .second] [(.int xs)])) _
      refine XS.aloadN X50.here hx rfl (hb hby d9_4) rfl rfl ?_
      exact k)
  obtain ⟨T53, X53, e53, st53⟩ := getF X50 hx hZ hown (host := "") (Or.inl (hw _ (List.mem_of_getElem? (i := 10) rfl))) Via.refl e50 Fc (g := (mkF m 5 #[.val (.ref a1), .val (.long q2), .second] [(.ref a1), (.int xs)])) rfl rfl (hb hby d9_5)
  have k54 : ∀ t, Steps p.tables e below (T53.setTop (mkF m 8 #[.val (.ref a1), .val (.long q2), .second] [(.int xc), (.int xs)])) t → Steps p.tables e below (s₁.setTop (entryFrame m #[(.ref a1), (.long q2)] 3)) t := fun t k => k52 t (st53 t k)
  by_cases hfull : xs = xc
  · have hs : sz = cap := (own_eqi hxs hxc).mp hfull
    have hm := own_rem (own_inc hxh (by omega)) hxc
    have hml2 : (hd + 1) % cap < cap := Nat.mod_lt _ (by omega)
    have k55 : ∀ t, Steps p.tables e below (T53.setTop (mkF m 11 #[.val (.ref a1), .val (.long q2), .second] [])) t → Steps p.tables e below (s₁.setTop (entryFrame m #[(.ref a1), (.long q2)] 3)) t := fun t k => k54 t (by
        show Steps p.tables e below (T53.setTop (mkF m 8 #[.val (.ref a1), .val (.long q2), .second] [(.int xc), (.int xs)])) _
        refine XS.icmpNo X53.here hx rfl (hb hby d9_8) rfl (teq hfull).2 ?_
        exact k)
    have k56 : ∀ t, Steps p.tables e below (T53.setTop (mkF m 12 #[.val (.ref a1), .val (.long q2), .second] [(.ref a1)])) t → Steps p.tables e below (s₁.setTop (entryFrame m #[(.ref a1), (.long q2)] 3)) t := fun t k => k55 t (by
        show Steps p.tables e below (T53.setTop (mkF m 11 #[.val (.ref a1), .val (.long q2), .second] [])) _
        refine XS.aloadN X53.here hx rfl (hb hby d9_11) rfl rfl ?_
        exact k)
    obtain ⟨T57, X57, e57, st57⟩ := getF X53 hx hZ hown (host := "") (Or.inl (hw _ (List.mem_of_getElem? (i := 16) rfl))) Via.refl e53 Fv (g := (mkF m 12 #[.val (.ref a1), .val (.long q2), .second] [(.ref a1)])) rfl rfl (hb hby d9_12)
    have k58 : ∀ t, Steps p.tables e below (T57.setTop (mkF m 15 #[.val (.ref a1), .val (.long q2), .second] [(.ref b)])) t → Steps p.tables e below (s₁.setTop (entryFrame m #[(.ref a1), (.long q2)] 3)) t := fun t k => k56 t (st57 t k)
    have k59 : ∀ t, Steps p.tables e below (T57.setTop (mkF m 16 #[.val (.ref a1), .val (.long q2), .second] [(.ref a1), (.ref b)])) t → Steps p.tables e below (s₁.setTop (entryFrame m #[(.ref a1), (.long q2)] 3)) t := fun t k => k58 t (by
        show Steps p.tables e below (T57.setTop (mkF m 15 #[.val (.ref a1), .val (.long q2), .second] [(.ref b)])) _
        refine XS.aloadN X57.here hx rfl (hb hby d9_15) rfl rfl ?_
        exact k)
    obtain ⟨T60, X60, e60, st60⟩ := getF X57 hx hZ hown (host := "") (Or.inl (hw _ (List.mem_of_getElem? (i := 46) rfl))) Via.refl e57 Fh (g := (mkF m 16 #[.val (.ref a1), .val (.long q2), .second] [(.ref a1), (.ref b)])) rfl rfl (hb hby d9_16)
    have k61 : ∀ t, Steps p.tables e below (T60.setTop (mkF m 19 #[.val (.ref a1), .val (.long q2), .second] [(.int xh), (.ref b)])) t → Steps p.tables e below (s₁.setTop (entryFrame m #[(.ref a1), (.long q2)] 3)) t := fun t k => k59 t (st60 t k)
    have k62 : ∀ t, Steps p.tables e below (T60.setTop (mkF m 20 #[.val (.ref a1), .val (.long q2), .second] [(.long q2), (.int xh), (.ref b)])) t → Steps p.tables e below (s₁.setTop (entryFrame m #[(.ref a1), (.long q2)] 3)) t := fun t k => k61 t (by
        show Steps p.tables e below (T60.setTop (mkF m 19 #[.val (.ref a1), .val (.long q2), .second] [(.int xh), (.ref b)])) _
        refine XS.lloadN X60.here hx rfl (hb hby d9_19) rfl ?_
        exact k)
    obtain ⟨T63, h63, X63, e63, W63, st63⟩ := stJ X60 hx hZ e60 Ar (j := xh) (own_hin S hxh hhd) (g := (mkF m 20 #[.val (.ref a1), .val (.long q2), .second] [(.long q2), (.int xh), (.ref b)])) rfl rfl (hb hby d9_20)
    have N63 := Fr.snoc X63 N0 gb
    have k64 : ∀ t, Steps p.tables e below (T63.setTop (mkF m 21 #[.val (.ref a1), .val (.long q2), .second] [])) t → Steps p.tables e below (s₁.setTop (entryFrame m #[(.ref a1), (.long q2)] 3)) t := fun t k => k62 t (st63 t k)
    have Fc := Fc.other W63 (Or.inl ne)
    have Fv := Fv.other W63 (Or.inl ne)
    have Fh := Fh.other W63 (Or.inl ne)
    have Fs := Fs.other W63 (Or.inl ne)
    have E := E.wr W63
    have V2 := (Av.set Ar S G hxh W63).congr (g' := fun j => .long (own_set f hd q2 j)) (fun j _ => by dsimp only [own_set]; split <;> rfl)
    have V3 := V2
    obtain ⟨cl2, Ar2, S2, G2⟩ := V3
    have k65 : ∀ t, Steps p.tables e below (T63.setTop (mkF m 23 #[.val (.ref a1), .val (.long q2), .second] [(.ref a1), (.ref a1)])) t → Steps p.tables e below (s₁.setTop (entryFrame m #[(.ref a1), (.long q2)] 3)) t := fun t k => k64 t (by
        show Steps p.tables e below (T63.setTop (mkF m 21 #[.val (.ref a1), .val (.long q2), .second] [])) _
        refine XS.aloadN X63.here hx rfl (hb hby d9_21) rfl rfl ?_
        show Steps p.tables e below (T63.setTop (mkF m 22 #[.val (.ref a1), .val (.long q2), .second] [(.ref a1)])) _
        refine XS.aloadN X63.here hx rfl (hb hby d9_22) rfl rfl ?_
        exact k)
    obtain ⟨T66, X66, e66, st66⟩ := getF X63 hx hZ hown (host := "") (Or.inl (hw _ (List.mem_of_getElem? (i := 46) rfl))) Via.refl e63 Fh (g := (mkF m 23 #[.val (.ref a1), .val (.long q2), .second] [(.ref a1), (.ref a1)])) rfl rfl (hb hby d9_23)
    have k67 : ∀ t, Steps p.tables e below (T66.setTop (mkF m 26 #[.val (.ref a1), .val (.long q2), .second] [(.int xh), (.ref a1)])) t → Steps p.tables e below (s₁.setTop (entryFrame m #[(.ref a1), (.long q2)] 3)) t := fun t k => k65 t (st66 t k)
    have k68 : ∀ t, Steps p.tables e below (T66.setTop (mkF m 29 #[.val (.ref a1), .val (.long q2), .second] [(.ref a1), (.int (xh + (1 : Int32))), (.ref a1)])) t → Steps p.tables e below (s₁.setTop (entryFrame m #[(.ref a1), (.long q2)] 3)) t := fun t k => k67 t (by
        show Steps p.tables e below (T66.setTop (mkF m 26 #[.val (.ref a1), .val (.long q2), .second] [(.int xh), (.ref a1)])) _
        refine XS.iconst X66.here hx rfl (hb hby d9_26) ?_
        show Steps p.tables e below (T66.setTop (mkF m 27 #[.val (.ref a1), .val (.long q2), .second] [(.int (1 : Int32)), (.int xh), (.ref a1)])) _
        refine XS.iadd X66.here hx rfl (hb hby d9_27) rfl ?_
        show Steps p.tables e below (T66.setTop (mkF m 28 #[.val (.ref a1), .val (.long q2), .second] [(.int (xh + (1 : Int32))), (.ref a1)])) _
        refine XS.aloadN X66.here hx rfl (hb hby d9_28) rfl rfl ?_
        exact k)
    obtain ⟨T69, X69, e69, st69⟩ := getF X66 hx hZ hown (host := "") (Or.inl (hw _ (List.mem_of_getElem? (i := 16) rfl))) Via.refl e66 Fv (g := (mkF m 29 #[.val (.ref a1), .val (.long q2), .second] [(.ref a1), (.int (xh + (1 : Int32))), (.ref a1)])) rfl rfl (hb hby d9_29)
    have k70 : ∀ t, Steps p.tables e below (T69.setTop (mkF m 32 #[.val (.ref a1), .val (.long q2), .second] [(.ref b), (.int (xh + (1 : Int32))), (.ref a1)])) t → Steps p.tables e below (s₁.setTop (entryFrame m #[(.ref a1), (.long q2)] 3)) t := fun t k => k68 t (st69 t k)
    have k71 : ∀ t, Steps p.tables e below (T69.setTop (mkF m 34 #[.val (.ref a1), .val (.long q2), .second] [(.int ((xh + (1 : Int32)) % xc)), (.ref a1)])) t → Steps p.tables e below (s₁.setTop (entryFrame m #[(.ref a1), (.long q2)] 3)) t := fun t k => k70 t (by
        show Steps p.tables e below (T69.setTop (mkF m 32 #[.val (.ref a1), .val (.long q2), .second] [(.ref b), (.int (xh + (1 : Int32))), (.ref a1)])) _
        refine X69.arraylength hx (by rw [e69]; exact Ar2.1) (State.isArrayOf_alike hZ.alike Ar2.2.1) (g := (mkF m 32 #[.val (.ref a1), .val (.long q2), .second] [(.ref b), (.int (xh + (1 : Int32))), (.ref a1)])) rfl rfl (hb hby d9_32) _ ?_
        rw [len_of (own_sz S2 hxc) (own_nneg hxc)]
        show Steps p.tables e below (T69.setTop (mkF m 33 #[.val (.ref a1), .val (.long q2), .second] [(.int xc), (.int (xh + (1 : Int32))), (.ref a1)])) _
        refine iremM X69 hx rfl (hb hby d9_33) rfl (own_ne0 hxc hc1) ?_
        exact k)
    obtain ⟨T72, h72, X72, e72, W72, st72⟩ := putF X69 hx hZ hown (host := "") (Or.inl (hw _ (List.mem_of_getElem? (i := 46) rfl))) Via.refl e69 Fh E (Or.inl (hw _ (List.mem_of_getElem? (i := 47) rfl))) (hw _ (List.mem_of_getElem? (i := 2) rfl)) (ty := .int) (by decide) rfl rfl (g := (mkF m 34 #[.val (.ref a1), .val (.long q2), .second] [(.int ((xh + (1 : Int32)) % xc)), (.ref a1)])) rfl rfl (hb hby d9_34)
    have N72 := Fr.snoc X72 N63 ga
    have k73 : ∀ t, Steps p.tables e below (T72.setTop (mkF m 37 #[.val (.ref a1), .val (.long q2), .second] [])) t → Steps p.tables e below (s₁.setTop (entryFrame m #[(.ref a1), (.long q2)] 3)) t := fun t k => k71 t (st72 t k)
    have Fc := Fc.other W72 (Or.inr (slot_ne (Or.inr (hw _ (List.mem_of_getElem? (i := 11) rfl))) (Or.inl (hw _ (List.mem_of_getElem? (i := 47) rfl))) (by decide) (t := .int) (t' := .int) (by decide) (by decide)))
    have Fv := Fv.other W72 (Or.inr (slot_ne (Or.inl (hw _ (List.mem_of_getElem? (i := 17) rfl))) (Or.inl (hw _ (List.mem_of_getElem? (i := 47) rfl))) (by decide) (t := (.array .long)) (t' := .int) (by decide) (by decide)))
    have Fh := Fh.same W72
    have Fs := Fs.other W72 (Or.inr (slot_ne (Or.inl (hw _ (List.mem_of_getElem? (i := 28) rfl))) (Or.inl (hw _ (List.mem_of_getElem? (i := 47) rfl))) (by decide) (t := .int) (t' := .int) (by decide) (by decide)))
    have E := E.wr W72
    have e1 : min (sz + 1) cap = sz := by omega
    obtain ⟨fs, hr, hrun, hended, hW, hsame⟩ := X72.leave (v := none) (fun _ => rfl)
    refine ⟨_, _, k73 _ ?_, hrun, hended, _, _, rfl, ?_, ⟨_, rfl⟩, hW, hsame.mono (by decide) (by decide)⟩
    · show Steps p.tables e below (T72.setTop (mkF m 37 #[.val (.ref a1), .val (.long q2), .second] [])) _
      exact X72.returnOut hx Bd.returns (hb hby d9_37) hr
    · show Q9 Z a1 b xc cap sz tn seq h0 n0 _ T72.heap _
      rw [e72]
      exact ⟨rfl, N72, ((Keep.refl h0 [a1, b]).wr W63 (Or.inl (List.mem_cons_of_mem _ (own_in0 _ _)))).wr W72 (Or.inl (own_in0 _ _)), by rw [e1]; exact ⟨E, Fc, Fv, _, _, _, _, hm, hxs, hml2, Fh, Fs, V2.other W72 ne.symm, by omega, by rw [hq, hs]; rw [hs] at hsuf hst; exact own_full hc1 hc4 hhd hst hsuf⟩⟩
  · have hs : sz < cap := by have : sz ≠ cap := fun q => hfull ((own_eqi hxs hxc).mpr q); omega
    have hm := own_rem (own_addN hxh hxs (by omega)) hxc
    have hml2 : (hd + sz) % cap < cap := Nat.mod_lt _ (by omega)
    have k74 : ∀ t, Steps p.tables e below (T53.setTop (mkF m 38 #[.val (.ref a1), .val (.long q2), .second] [])) t → Steps p.tables e below (s₁.setTop (entryFrame m #[(.ref a1), (.long q2)] 3)) t := fun t k => k54 t (by
        show Steps p.tables e below (T53.setTop (mkF m 8 #[.val (.ref a1), .val (.long q2), .second] [(.int xc), (.int xs)])) _
        refine XS.icmpYes X53.here hx rfl (pc0 := 8) (pc' := 38) rfl (hb hby d9_8) rfl (feq hfull).2 (by decide) (by decide) ?_
        exact k)
    have k75 : ∀ t, Steps p.tables e below (T53.setTop (mkF m 39 #[.val (.ref a1), .val (.long q2), .second] [(.ref a1)])) t → Steps p.tables e below (s₁.setTop (entryFrame m #[(.ref a1), (.long q2)] 3)) t := fun t k => k74 t (by
        show Steps p.tables e below (T53.setTop (mkF m 38 #[.val (.ref a1), .val (.long q2), .second] [])) _
        refine XS.aloadN X53.here hx rfl (hb hby d9_38) rfl rfl ?_
        exact k)
    obtain ⟨T76, X76, e76, st76⟩ := getF X53 hx hZ hown (host := "") (Or.inl (hw _ (List.mem_of_getElem? (i := 27) rfl))) Via.refl e53 Fs (g := (mkF m 39 #[.val (.ref a1), .val (.long q2), .second] [(.ref a1)])) rfl rfl (hb hby d9_39)
    have k77 : ∀ t, Steps p.tables e below (T76.setTop (mkF m 42 #[.val (.ref a1), .val (.long q2), .second] [(.int xs)])) t → Steps p.tables e below (s₁.setTop (entryFrame m #[(.ref a1), (.long q2)] 3)) t := fun t k => k75 t (st76 t k)
    have k78 : ∀ t, Steps p.tables e below (T76.setTop (mkF m 43 #[.val (.ref a1), .val (.long q2), .second] [(.ref a1), (.int xs)])) t → Steps p.tables e below (s₁.setTop (entryFrame m #[(.ref a1), (.long q2)] 3)) t := fun t k => k77 t (by
        show Steps p.tables e below (T76.setTop (mkF m 42 #[.val (.ref a1), .val (.long q2), .second] [(.int xs)])) _
        refine XS.aloadN X76.here hx rfl (hb hby d9_42) rfl rfl ?_
        exact k)
    obtain ⟨T79, X79, e79, st79⟩ := getF X76 hx hZ hown (host := "") (Or.inl (hw _ (List.mem_of_getElem? (i := 16) rfl))) Via.refl e76 Fv (g := (mkF m 43 #[.val (.ref a1), .val (.long q2), .second] [(.ref a1), (.int xs)])) rfl rfl (hb hby d9_43)
    have k80 : ∀ t, Steps p.tables e below (T79.setTop (mkF m 46 #[.val (.ref a1), .val (.long q2), .second] [(.ref b), (.int xs)])) t → Steps p.tables e below (s₁.setTop (entryFrame m #[(.ref a1), (.long q2)] 3)) t := fun t k => k78 t (st79 t k)
    have k81 : ∀ t, Steps p.tables e below (T79.setTop (mkF m 55 #[.val (.ref a1), .val (.long q2), .second] [(.ref a1)])) t → Steps p.tables e below (s₁.setTop (entryFrame m #[(.ref a1), (.long q2)] 3)) t := fun t k => k80 t (by
        show Steps p.tables e below (T79.setTop (mkF m 46 #[.val (.ref a1), .val (.long q2), .second] [(.ref b), (.int xs)])) _
        refine X79.arraylength hx (by rw [e79]; exact Ar.1) (State.isArrayOf_alike hZ.alike Ar.2.1) (g := (mkF m 46 #[.val (.ref a1), .val (.long q2), .second] [(.ref b), (.int xs)])) rfl rfl (hb hby d9_46) _ ?_
        rw [len_of (own_sz S hxc) (own_nneg hxc)]
        show Steps p.tables e below (T79.setTop (mkF m 47 #[.val (.ref a1), .val (.long q2), .second] [(.int xc), (.int xs)])) _
        refine XS.icmpYes X79.here hx rfl (pc0 := 47) (pc' := 54) rfl (hb hby d9_47) rfl (feq hfull).2 (by decide) (by decide) ?_
        show Steps p.tables e below (T79.setTop (mkF m 54 #[.val (.ref a1), .val (.long q2), .second] [])) _
        refine XS.aloadN X79.here hx rfl (hb hby d9_54) rfl rfl ?_
        exact k)
    obtain ⟨T82, X82, e82, st82⟩ := getF X79 hx hZ hown (host := "") (Or.inl (hw _ (List.mem_of_getElem? (i := 16) rfl))) Via.refl e79 Fv (g := (mkF m 55 #[.val (.ref a1), .val (.long q2), .second] [(.ref a1)])) rfl rfl (hb hby d9_55)
    have k83 : ∀ t, Steps p.tables e below (T82.setTop (mkF m 58 #[.val (.ref a1), .val (.long q2), .second] [(.ref b)])) t → Steps p.tables e below (s₁.setTop (entryFrame m #[(.ref a1), (.long q2)] 3)) t := fun t k => k81 t (st82 t k)
    have k84 : ∀ t, Steps p.tables e below (T82.setTop (mkF m 59 #[.val (.ref a1), .val (.long q2), .second] [(.ref a1), (.ref b)])) t → Steps p.tables e below (s₁.setTop (entryFrame m #[(.ref a1), (.long q2)] 3)) t := fun t k => k83 t (by
        show Steps p.tables e below (T82.setTop (mkF m 58 #[.val (.ref a1), .val (.long q2), .second] [(.ref b)])) _
        refine XS.aloadN X82.here hx rfl (hb hby d9_58) rfl rfl ?_
        exact k)
    obtain ⟨T85, X85, e85, st85⟩ := getF X82 hx hZ hown (host := "") (Or.inl (hw _ (List.mem_of_getElem? (i := 46) rfl))) Via.refl e82 Fh (g := (mkF m 59 #[.val (.ref a1), .val (.long q2), .second] [(.ref a1), (.ref b)])) rfl rfl (hb hby d9_59)
    have k86 : ∀ t, Steps p.tables e below (T85.setTop (mkF m 62 #[.val (.ref a1), .val (.long q2), .second] [(.int xh), (.ref b)])) t → Steps p.tables e below (s₁.setTop (entryFrame m #[(.ref a1), (.long q2)] 3)) t := fun t k => k84 t (st85 t k)
    have k87 : ∀ t, Steps p.tables e below (T85.setTop (mkF m 63 #[.val (.ref a1), .val (.long q2), .second] [(.ref a1), (.int xh), (.ref b)])) t → Steps p.tables e below (s₁.setTop (entryFrame m #[(.ref a1), (.long q2)] 3)) t := fun t k => k86 t (by
        show Steps p.tables e below (T85.setTop (mkF m 62 #[.val (.ref a1), .val (.long q2), .second] [(.int xh), (.ref b)])) _
        refine XS.aloadN X85.here hx rfl (hb hby d9_62) rfl rfl ?_
        exact k)
    obtain ⟨T88, X88, e88, st88⟩ := getF X85 hx hZ hown (host := "") (Or.inl (hw _ (List.mem_of_getElem? (i := 27) rfl))) Via.refl e85 Fs (g := (mkF m 63 #[.val (.ref a1), .val (.long q2), .second] [(.ref a1), (.int xh), (.ref b)])) rfl rfl (hb hby d9_63)
    have k89 : ∀ t, Steps p.tables e below (T88.setTop (mkF m 66 #[.val (.ref a1), .val (.long q2), .second] [(.int xs), (.int xh), (.ref b)])) t → Steps p.tables e below (s₁.setTop (entryFrame m #[(.ref a1), (.long q2)] 3)) t := fun t k => k87 t (st88 t k)
    have k90 : ∀ t, Steps p.tables e below (T88.setTop (mkF m 68 #[.val (.ref a1), .val (.long q2), .second] [(.ref a1), (.int (xh + xs)), (.ref b)])) t → Steps p.tables e below (s₁.setTop (entryFrame m #[(.ref a1), (.long q2)] 3)) t := fun t k => k89 t (by
        show Steps p.tables e below (T88.setTop (mkF m 66 #[.val (.ref a1), .val (.long q2), .second] [(.int xs), (.int xh), (.ref b)])) _
        refine XS.iadd X88.here hx rfl (hb hby d9_66) rfl ?_
        show Steps p.tables e below (T88.setTop (mkF m 67 #[.val (.ref a1), .val (.long q2), .second] [(.int (xh + xs)), (.ref b)])) _
        refine XS.aloadN X88.here hx rfl (hb hby d9_67) rfl rfl ?_
        exact k)
    obtain ⟨T91, X91, e91, st91⟩ := getF X88 hx hZ hown (host := "") (Or.inl (hw _ (List.mem_of_getElem? (i := 16) rfl))) Via.refl e88 Fv (g := (mkF m 68 #[.val (.ref a1), .val (.long q2), .second] [(.ref a1), (.int (xh + xs)), (.ref b)])) rfl rfl (hb hby d9_68)
    have k92 : ∀ t, Steps p.tables e below (T91.setTop (mkF m 71 #[.val (.ref a1), .val (.long q2), .second] [(.ref b), (.int (xh + xs)), (.ref b)])) t → Steps p.tables e below (s₁.setTop (entryFrame m #[(.ref a1), (.long q2)] 3)) t := fun t k => k90 t (st91 t k)
    have k93 : ∀ t, Steps p.tables e below (T91.setTop (mkF m 74 #[.val (.ref a1), .val (.long q2), .second] [(.long q2), (.int ((xh + xs) % xc)), (.ref b)])) t → Steps p.tables e below (s₁.setTop (entryFrame m #[(.ref a1), (.long q2)] 3)) t := fun t k => k92 t (by
        show Steps p.tables e below (T91.setTop (mkF m 71 #[.val (.ref a1), .val (.long q2), .second] [(.ref b), (.int (xh + xs)), (.ref b)])) _
        refine X91.arraylength hx (by rw [e91]; exact Ar.1) (State.isArrayOf_alike hZ.alike Ar.2.1) (g := (mkF m 71 #[.val (.ref a1), .val (.long q2), .second] [(.ref b), (.int (xh + xs)), (.ref b)])) rfl rfl (hb hby d9_71) _ ?_
        rw [len_of (own_sz S hxc) (own_nneg hxc)]
        show Steps p.tables e below (T91.setTop (mkF m 72 #[.val (.ref a1), .val (.long q2), .second] [(.int xc), (.int (xh + xs)), (.ref b)])) _
        refine iremM X91 hx rfl (hb hby d9_72) rfl (own_ne0 hxc hc1) ?_
        show Steps p.tables e below (T91.setTop (mkF m 73 #[.val (.ref a1), .val (.long q2), .second] [(.int ((xh + xs) % xc)), (.ref b)])) _
        refine XS.lloadN X91.here hx rfl (hb hby d9_73) rfl ?_
        exact k)
    obtain ⟨T94, h94, X94, e94, W94, st94⟩ := stJ X91 hx hZ e91 Ar (j := ((xh + xs) % xc)) (own_hin S hm hml2) (g := (mkF m 74 #[.val (.ref a1), .val (.long q2), .second] [(.long q2), (.int ((xh + xs) % xc)), (.ref b)])) rfl rfl (hb hby d9_74)
    have N94 := Fr.snoc X94 N0 gb
    have k95 : ∀ t, Steps p.tables e below (T94.setTop (mkF m 75 #[.val (.ref a1), .val (.long q2), .second] [])) t → Steps p.tables e below (s₁.setTop (entryFrame m #[(.ref a1), (.long q2)] 3)) t := fun t k => k93 t (st94 t k)
    have Fc := Fc.other W94 (Or.inl ne)
    have Fv := Fv.other W94 (Or.inl ne)
    have Fh := Fh.other W94 (Or.inl ne)
    have Fs := Fs.other W94 (Or.inl ne)
    have E := E.wr W94
    have V2 := (Av.set Ar S G hm W94).congr (g' := fun j => .long (own_set f ((hd + sz) % cap) q2 j)) (fun j _ => by dsimp only [own_set]; split <;> rfl)
    have k96 : ∀ t, Steps p.tables e below (T94.setTop (mkF m 77 #[.val (.ref a1), .val (.long q2), .second] [(.ref a1), (.ref a1)])) t → Steps p.tables e below (s₁.setTop (entryFrame m #[(.ref a1), (.long q2)] 3)) t := fun t k => k95 t (by
        show Steps p.tables e below (T94.setTop (mkF m 75 #[.val (.ref a1), .val (.long q2), .second] [])) _
        refine XS.aloadN X94.here hx rfl (hb hby d9_75) rfl rfl ?_
        show Steps p.tables e below (T94.setTop (mkF m 76 #[.val (.ref a1), .val (.long q2), .second] [(.ref a1)])) _
        refine XS.dup X94.here hx rfl (hb hby d9_76) rfl rfl ?_
        exact k)
    obtain ⟨T97, X97, e97, st97⟩ := getF X94 hx hZ hown (host := "") (Or.inl (hw _ (List.mem_of_getElem? (i := 27) rfl))) Via.refl e94 Fs (g := (mkF m 77 #[.val (.ref a1), .val (.long q2), .second] [(.ref a1), (.ref a1)])) rfl rfl (hb hby d9_77)
    have k98 : ∀ t, Steps p.tables e below (T97.setTop (mkF m 80 #[.val (.ref a1), .val (.long q2), .second] [(.int xs), (.ref a1)])) t → Steps p.tables e below (s₁.setTop (entryFrame m #[(.ref a1), (.long q2)] 3)) t := fun t k => k96 t (st97 t k)
    have k99 : ∀ t, Steps p.tables e below (T97.setTop (mkF m 82 #[.val (.ref a1), .val (.long q2), .second] [(.int (xs + (1 : Int32))), (.ref a1)])) t → Steps p.tables e below (s₁.setTop (entryFrame m #[(.ref a1), (.long q2)] 3)) t := fun t k => k98 t (by
        show Steps p.tables e below (T97.setTop (mkF m 80 #[.val (.ref a1), .val (.long q2), .second] [(.int xs), (.ref a1)])) _
        refine XS.iconst X97.here hx rfl (hb hby d9_80) ?_
        show Steps p.tables e below (T97.setTop (mkF m 81 #[.val (.ref a1), .val (.long q2), .second] [(.int (1 : Int32)), (.int xs), (.ref a1)])) _
        refine XS.iadd X97.here hx rfl (hb hby d9_81) rfl ?_
        exact k)
    obtain ⟨T100, h100, X100, e100, W100, st100⟩ := putF X97 hx hZ hown (host := "") (Or.inl (hw _ (List.mem_of_getElem? (i := 27) rfl))) Via.refl e97 Fs E (Or.inl (hw _ (List.mem_of_getElem? (i := 28) rfl))) (hw _ (List.mem_of_getElem? (i := 2) rfl)) (ty := .int) (by decide) rfl rfl (g := (mkF m 82 #[.val (.ref a1), .val (.long q2), .second] [(.int (xs + (1 : Int32))), (.ref a1)])) rfl rfl (hb hby d9_82)
    have N100 := Fr.snoc X100 N94 ga
    have k101 : ∀ t, Steps p.tables e below (T100.setTop (mkF m 85 #[.val (.ref a1), .val (.long q2), .second] [])) t → Steps p.tables e below (s₁.setTop (entryFrame m #[(.ref a1), (.long q2)] 3)) t := fun t k => k99 t (st100 t k)
    have Fc := Fc.other W100 (Or.inr (slot_ne (Or.inr (hw _ (List.mem_of_getElem? (i := 11) rfl))) (Or.inl (hw _ (List.mem_of_getElem? (i := 28) rfl))) (by decide) (t := .int) (t' := .int) (by decide) (by decide)))
    have Fv := Fv.other W100 (Or.inr (slot_ne (Or.inl (hw _ (List.mem_of_getElem? (i := 17) rfl))) (Or.inl (hw _ (List.mem_of_getElem? (i := 28) rfl))) (by decide) (t := (.array .long)) (t' := .int) (by decide) (by decide)))
    have Fh := Fh.other W100 (Or.inr (slot_ne (Or.inl (hw _ (List.mem_of_getElem? (i := 47) rfl))) (Or.inl (hw _ (List.mem_of_getElem? (i := 28) rfl))) (by decide) (t := .int) (t' := .int) (by decide) (by decide)))
    have Fs := Fs.same W100
    have E := E.wr W100
    have e1 : min (sz + 1) cap = sz + 1 := by omega
    obtain ⟨fs, hr, hrun, hended, hW, hsame⟩ := X100.leave (v := none) (fun _ => rfl)
    refine ⟨_, _, k101 _ ?_, hrun, hended, _, _, rfl, ?_, ⟨_, rfl⟩, hW, hsame.mono (by decide) (by decide)⟩
    · show Steps p.tables e below (T100.setTop (mkF m 85 #[.val (.ref a1), .val (.long q2), .second] [])) _
      exact X100.returnOut hx Bd.returns (hb hby d9_85) hr
    · show Q9 Z a1 b xc cap sz tn seq h0 n0 _ T100.heap _
      rw [e100]
      exact ⟨rfl, N100, ((Keep.refl h0 [a1, b]).wr W94 (Or.inl (List.mem_cons_of_mem _ (own_in0 _ _)))).wr W100 (Or.inl (own_in0 _ _)), by rw [e1]; exact ⟨E, Fc, Fv, _, _, _, _, hxh, own_inc hxs (by omega), hhd, Fh, Fs, V2.other W100 ne.symm, by omega, by rw [hq]; exact own_more hc1 hc4 hhd hs hst hsuf⟩⟩
theorem d4_0 : decode method_3_code 0 = .ok (.iload_n 1, 1) := by decide +kernel
theorem d4_1 : decode method_3_code 1 = .ok (.iload_n 2, 1) := by decide +kernel
theorem d4_2 : decode method_3_code 2 = .ok (.if_icmp .ne 7, 3) := by decide +kernel
theorem d4_5 : decode method_3_code 5 = .ok (.aload_n 0, 1) := by decide +kernel
theorem d4_6 : decode method_3_code 6 = .ok (.invokevirtual 35, 3) := by decide +kernel
theorem d4_9 : decode method_3_code 9 = .ok (.iload_n 1, 1) := by decide +kernel
theorem d4_10 : decode method_3_code 10 = .ok (.iload_n 3, 1) := by decide +kernel
theorem d4_11 : decode method_3_code 11 = .ok (.if_icmp .ge 11, 3) := by decide +kernel
theorem d4_14 : decode method_3_code 14 = .ok (.aload_n 0, 1) := by decide +kernel
theorem d4_15 : decode method_3_code 15 = .ok (.aload 4, 2) := by decide +kernel
theorem d4_17 : decode method_3_code 17 = .ok (.iload_n 1, 1) := by decide +kernel
theorem d4_18 : decode method_3_code 18 = .ok (.laload, 1) := by decide +kernel
theorem d4_19 : decode method_3_code 19 = .ok (.invokevirtual 38, 3) := by decide +kernel
theorem d4_22 : decode method_3_code 22 = .ok (.return_, 1) := by decide +kernel
theorem pn_4 : plainName "com/example/upya/upya/policy/LongRingRemoveOldestPinLaw" = true := by first | (simp [plainName, overriddenIn]; done) | decide +kernel
theorem ef_4 (m : MethodId) (x0 : Addr) (x1 : Int32) (x2 : Int32) (x3 : Int32) (x4 : Addr) : entryFrame m #[(.ref x0), (.int x1), (.int x2), (.int x3), (.ref x4)] 5 = mkF m 0 #[.val (.ref x0), .val (.int x1), .val (.int x2), .val (.int x3), .val (.ref x4)] [] := by first | (simp [entryFrame, mkF, argsToLocals, Value.category]; done) | rfl
def Q4 (Z : State) (a1 b : Addr) (xc : Int32) (cap sz tn : Nat) (seq : Nat → Int64) (i n tot : Nat) (h0 : Heap) (n0 : Nat) (v : Option Value) (h : Heap) (L : List Loc) : Prop := v = none ∧ Fr n0 L ∧ Keep h0 h [a1, b] ∧ RS Z h a1 b xc cap (own_s1 cap n tot i sz) (if i < tot then tn + 1 else tn) seq
set_option maxRecDepth 65536 in
set_option maxHeartbeats 40000000 in
theorem rm4 (l : Launch) (Z : State) (a0 : Array Value) (hw : ∀ d ∈ tables_1, d.before a0 Z = true) (ws : List Jvm.Cond) (a1 : Addr) (p2 : Int32) (p3 : Int32) (p4 : Int32) (v : Addr) (b : Addr) (xc : Int32) (cap sz tn : Nat) (seq : Nat → Int64) (i n tot : Nat) (h0 : Heap) (n0 : Nat) (Z0 : n0 ≤ h0.size) (hxc : xc.toInt = cap) (hc1 : 1 ≤ cap) (hc4 : cap ≤ 4) (hsz : sz ≤ cap) (ne : a1 ≠ b) (ga : n0 ≤ a1) (gb : n0 ≤ b) (R : RS Z h0 a1 b xc cap sz tn seq) (hi : p2.toInt = i) (hn : p3.toInt = n) (ht : p4.toInt = tot) (ht5 : tot ≤ 5) (hti : i < tot → tn = i) (Vv : Av Z h0 v .long 5 (fun j => .long (seq j))) (nv : v ∉ [a1, b]) :
    MetFree l (⟨"com/example/upya/upya/policy/LongRingRemoveOldestPinLaw", "step", "(Lcom/example/upya/upya/policy/LongRing;III[J)V"⟩ : MethodName) (head1 (Jvm.Cond.code (⟨"com/example/upya/upya/policy/LongRingRemoveOldestPinLaw", "step", "(Lcom/example/upya/upya/policy/LongRing;III[J)V"⟩ : MethodName) method_3_code 5 none :: ws) ({ frames := 1, cells := 0, slots := 0, locals := 14 } : Room)) (fun a U => a = #[(.ref a1), (.int p2), (.int p3), (.int p4), (.ref v)] ∧ Z.Warmed39 U.vm ∧ U.heap = h0) (fun _ _ _ _ _ => True) (fun _ U o U' => ∃ v L, o = .returned v ∧ Q4 Z a1 b xc cap sz tn seq i n tot h0 n0 v U'.heap L ∧ FrameEnd U o U' L ({ frames := 1, cells := 0, slots := 0, locals := 14 } : Room).cells ({ frames := 1, cells := 0, slots := 0, locals := 14 } : Room).slots) := by
  refine MetFree.of_bodySF (plainFor_of_name pn_4) hisR ?_
  intro p e s m args below meth c s₁ Bd hml0 hP hK
  obtain ⟨rfl, hZ, hh⟩ := hP
  have hx := Bd.exec
  have hby := Bd.bytes
  have hml : c.maxLocals = 5 := hml0
  have hown : s.vm.findClass "com/example/upya/upya/policy/LongRingRemoveOldestPinLaw" = some m.cls := findClass_of_methodNamed Bd.named
  have hnm := (name_of_methodNamed Bd.named Bd.method).1
  have X0 : Stand p l e ({ frames := 1, cells := 0, slots := 0, locals := 14 } : Room) s m #[(.ref a1), (.int p2), (.int p3), (.int p4), (.ref v)] below meth c s₁ [] 0 0 := Stand.of_body Bd
  have e0 : s₁.heap = h0 := by rw [← hh, Bd.state]; rfl
  have N0 := Fr.nil n0
  have pre0 : ∀ t, Steps p.tables e below (s₁.setTop (mkF m 0 #[.val (.ref a1), .val (.int p2), .val (.int p3), .val (.int p4), .val (.ref v)] [])) t → Steps p.tables e below (s₁.setTop (entryFrame m #[(.ref a1), (.int p2), (.int p3), (.int p4), (.ref v)] 5)) t := fun t k => castTop (ef_4 m a1 p2 p3 p4 v) k
  have k102 : ∀ t, Steps p.tables e below (s₁.setTop (mkF m 2 #[.val (.ref a1), .val (.int p2), .val (.int p3), .val (.int p4), .val (.ref v)] [(.int p3), (.int p2)])) t → Steps p.tables e below (s₁.setTop (entryFrame m #[(.ref a1), (.int p2), (.int p3), (.int p4), (.ref v)] 5)) t := fun t k => pre0 t (by
      show Steps p.tables e below (s₁.setTop (mkF m 0 #[.val (.ref a1), .val (.int p2), .val (.int p3), .val (.int p4), .val (.ref v)] [])) _
      refine XS.iloadN X0.here hx rfl (hb hby d4_0) rfl ?_
      show Steps p.tables e below (s₁.setTop (mkF m 1 #[.val (.ref a1), .val (.int p2), .val (.int p3), .val (.int p4), .val (.ref v)] [(.int p2)])) _
      refine XS.iloadN X0.here hx rfl (hb hby d4_1) rfl ?_
      exact k)
  by_cases hin1 : p2 = p3
  · have hinn : i = n := (own_eqi hi hn).mp hin1
    have k103 : ∀ t, Steps p.tables e below (s₁.setTop (mkF m 5 #[.val (.ref a1), .val (.int p2), .val (.int p3), .val (.int p4), .val (.ref v)] [])) t → Steps p.tables e below (s₁.setTop (entryFrame m #[(.ref a1), (.int p2), (.int p3), (.int p4), (.ref v)] 5)) t := fun t k => k102 t (by
        show Steps p.tables e below (s₁.setTop (mkF m 2 #[.val (.ref a1), .val (.int p2), .val (.int p3), .val (.int p4), .val (.ref v)] [(.int p3), (.int p2)])) _
        refine XS.icmpNo X0.here hx rfl (hb hby d4_2) rfl (teq hin1).2 ?_
        exact k)
    have k104 : ∀ t, Steps p.tables e below (s₁.setTop (mkF m 6 #[.val (.ref a1), .val (.int p2), .val (.int p3), .val (.int p4), .val (.ref v)] [(.ref a1)])) t → Steps p.tables e below (s₁.setTop (entryFrame m #[(.ref a1), (.int p2), (.int p3), (.int p4), (.ref v)] 5)) t := fun t k => k103 t (by
        show Steps p.tables e below (s₁.setTop (mkF m 5 #[.val (.ref a1), .val (.int p2), .val (.int p3), .val (.int p4), .val (.ref v)] [])) _
        refine XS.aloadN X0.here hx rfl (hb hby d4_5) rfl rfl ?_
        exact k)
    obtain ⟨cq105, kq105, q105a, q105b, q105c⟩ := isOf hZ e0 R.1
    obtain ⟨_, _, ⟨T105, L105, c105, n105⟩, -, X105, ⟨Lc105, hQ105, l105, y105, z105⟩, st105⟩ := X0.virtualBack hx (y := (⟨"com/example/upya/upya/policy/LongRing", "removeOldest", "()V"⟩ : MethodName)) (z := (⟨"com/example/upya/upya/policy/LongRing", "removeOldest", "()V"⟩ : MethodName)) hown (mvT hZ (hw _ (List.mem_of_getElem? (i := 22) rfl))) (mvT hZ (hw _ (List.mem_of_getElem? (i := 23) rfl))) (notFace_of_selects (args := #[]) (mvT hZ (hw _ (List.mem_of_getElem? (i := 25) rfl)))) (mvT hZ (hw _ (List.mem_of_getElem? (i := 25) rfl))) (mvT hZ (hw _ (List.mem_of_getElem? (i := 24) rfl))) (by decide) (backOf (W := 0) (rm5 l Z a0 hw [] a1 b xc cap sz tn seq h0 n0 Z0 hxc hc1 hc4 hsz ne ga gb R) hZ (hw _ (List.mem_of_getElem? (i := 26) rfl)) (hw _ (List.mem_of_getElem? (i := 3) rfl)) (by decide) (by decide)) q105a q105c (g := (mkF m 6 #[.val (.ref a1), .val (.int p2), .val (.int p3), .val (.int p4), .val (.ref v)] [(.ref a1)])) rfl (by rw [hml]; rfl) (Steps.refl _) (argsL := []) (rest := []) (lenOf own_pd1 rfl) rfl (by show 2 * 0 + _ ≤ _; exact Nat.le_of_eq rfl) (hb hby d4_6) (fun _ _ => ⟨rfl, e0, (by decide : 0 + 0 ≤ _), (by decide : 0 + 0 ≤ _)⟩)
    dsimp only [Pt.U, Pt.locs, Pt.cells, Pt.slots] at X105 l105 y105 z105 st105 hQ105
    subst l105 y105 z105
    obtain ⟨rfl, N105q, K8, R8⟩ := hQ105
    have N105 := Fr.app N0 N105q
    have k106 : ∀ t, Steps p.tables e below (T105.setTop (mkF m 9 #[.val (.ref a1), .val (.int p2), .val (.int p3), .val (.int p4), .val (.ref v)] [])) t → Steps p.tables e below (s₁.setTop (entryFrame m #[(.ref a1), (.int p2), (.int p3), (.int p4), (.ref v)] 5)) t := fun t k => k104 t (st105.trans k)
    have Z8 : n0 ≤ T105.heap.size := Nat.le_trans Z0 K8.1
    have Vv8 := Vv.keep K8 nv
    have k107 : ∀ t, Steps p.tables e below (T105.setTop (mkF m 11 #[.val (.ref a1), .val (.int p2), .val (.int p3), .val (.int p4), .val (.ref v)] [(.int p4), (.int p2)])) t → Steps p.tables e below (s₁.setTop (entryFrame m #[(.ref a1), (.int p2), (.int p3), (.int p4), (.ref v)] 5)) t := fun t k => k106 t (by
        show Steps p.tables e below (T105.setTop (mkF m 9 #[.val (.ref a1), .val (.int p2), .val (.int p3), .val (.int p4), .val (.ref v)] [])) _
        refine XS.iloadN X105.here hx rfl (hb hby d4_9) rfl ?_
        show Steps p.tables e below (T105.setTop (mkF m 10 #[.val (.ref a1), .val (.int p2), .val (.int p3), .val (.int p4), .val (.ref v)] [(.int p2)])) _
        refine XS.iloadN X105.here hx rfl (hb hby d4_10) rfl ?_
        exact k)
    by_cases hlt : p2 < p4
    · have hlt2 : i < tot := (own_lt hi ht).mp hlt
      obtain ⟨cl, Ar, S, G⟩ := Vv8
      have k108 : ∀ t, Steps p.tables e below (T105.setTop (mkF m 14 #[.val (.ref a1), .val (.int p2), .val (.int p3), .val (.int p4), .val (.ref v)] [])) t → Steps p.tables e below (s₁.setTop (entryFrame m #[(.ref a1), (.int p2), (.int p3), (.int p4), (.ref v)] 5)) t := fun t k => k107 t (by
          show Steps p.tables e below (T105.setTop (mkF m 11 #[.val (.ref a1), .val (.int p2), .val (.int p3), .val (.int p4), .val (.ref v)] [(.int p4), (.int p2)])) _
          refine XS.icmpNo X105.here hx rfl (hb hby d4_11) rfl (tlt hlt).2.1 ?_
          exact k)
      have k109 : ∀ t, Steps p.tables e below (T105.setTop (mkF m 19 #[.val (.ref a1), .val (.int p2), .val (.int p3), .val (.int p4), .val (.ref v)] [(.long (seq i)), (.ref a1)])) t → Steps p.tables e below (s₁.setTop (entryFrame m #[(.ref a1), (.int p2), (.int p3), (.int p4), (.ref v)] 5)) t := fun t k => k108 t (by
          show Steps p.tables e below (T105.setTop (mkF m 14 #[.val (.ref a1), .val (.int p2), .val (.int p3), .val (.int p4), .val (.ref v)] [])) _
          refine XS.aloadN X105.here hx rfl (hb hby d4_14) rfl rfl ?_
          show Steps p.tables e below (T105.setTop (mkF m 15 #[.val (.ref a1), .val (.int p2), .val (.int p3), .val (.int p4), .val (.ref v)] [(.ref a1)])) _
          refine XS.aload X105.here hx rfl (hb hby d4_15) rfl rfl ?_
          show Steps p.tables e below (T105.setTop (mkF m 17 #[.val (.ref a1), .val (.int p2), .val (.int p3), .val (.int p4), .val (.ref v)] [(.ref v), (.ref a1)])) _
          refine XS.iloadN X105.here hx rfl (hb hby d4_17) rfl ?_
          show Steps p.tables e below (T105.setTop (mkF m 18 #[.val (.ref a1), .val (.int p2), .val (.int p3), .val (.int p4), .val (.ref v)] [(.int p2), (.ref v), (.ref a1)])) _
          refine X105.laload hx (j := p2) (v := (.long (seq i))) Ar.1 (State.isArrayOf_alike hZ.alike Ar.2.1) Ar.2.2 (own_hin S hi (by omega)) (own_hat G hi (by omega)) (g := (mkF m 18 #[.val (.ref a1), .val (.int p2), .val (.int p3), .val (.int p4), .val (.ref v)] [(.int p2), (.ref v), (.ref a1)])) rfl rfl (hb hby d4_18) _ ?_
          exact k)
      obtain ⟨cq110, kq110, q110a, q110b, q110c⟩ := isOf hZ rfl R8.1
      obtain ⟨_, _, ⟨T110, L110, c110, n110⟩, -, X110, ⟨Lc110, hQ110, l110, y110, z110⟩, st110⟩ := X105.virtualBack hx (y := (⟨"com/example/upya/upya/policy/LongRing", "add", "(J)V"⟩ : MethodName)) (z := (⟨"com/example/upya/upya/policy/LongRing", "add", "(J)V"⟩ : MethodName)) hown (mvT hZ (hw _ (List.mem_of_getElem? (i := 41) rfl))) (mvT hZ (hw _ (List.mem_of_getElem? (i := 42) rfl))) (notFace_of_selects (args := #[]) (mvT hZ (hw _ (List.mem_of_getElem? (i := 44) rfl)))) (mvT hZ (hw _ (List.mem_of_getElem? (i := 44) rfl))) (mvT hZ (hw _ (List.mem_of_getElem? (i := 43) rfl))) (by decide) (backOf (W := 0) (rm9 l Z a0 hw [] a1 (seq i) b xc cap (sz - 1) tn seq T105.heap n0 Z8 hxc hc1 hc4 (by omega) ne ga gb R8 (by rw [hti hlt2])) hZ (hw _ (List.mem_of_getElem? (i := 45) rfl)) (hw _ (List.mem_of_getElem? (i := 3) rfl)) (by decide) (by decide)) q110a q110c (g := (mkF m 19 #[.val (.ref a1), .val (.int p2), .val (.int p3), .val (.int p4), .val (.ref v)] [(.long (seq i)), (.ref a1)])) rfl (by rw [hml]; rfl) (Steps.refl _) (argsL := [(.long (seq i))]) (rest := []) (lenOf own_pd6 rfl) rfl (by show 2 * 0 + _ ≤ _; exact Nat.le_of_eq rfl) (hb hby d4_19) (fun _ _ => ⟨rfl, rfl, (by decide : 0 + 0 ≤ _), (by decide : 0 + 0 ≤ _)⟩)
      dsimp only [Pt.U, Pt.locs, Pt.cells, Pt.slots] at X110 l110 y110 z110 st110 hQ110
      subst l110 y110 z110
      obtain ⟨rfl, N110q, K9, R9⟩ := hQ110
      have N110 := Fr.app N105 N110q
      have k111 : ∀ t, Steps p.tables e below (T110.setTop (mkF m 22 #[.val (.ref a1), .val (.int p2), .val (.int p3), .val (.int p4), .val (.ref v)] [])) t → Steps p.tables e below (s₁.setTop (entryFrame m #[(.ref a1), (.int p2), (.int p3), (.int p4), (.ref v)] 5)) t := fun t k => k109 t (st110.trans k)
      obtain ⟨fs, hr, hrun, hended, hW, hsame⟩ := X110.leave (v := none) (fun _ => rfl)
      refine ⟨_, _, k111 _ ?_, hrun, hended, _, _, rfl, ?_, ⟨_, rfl⟩, hW, hsame.mono (by decide) (by decide)⟩
      · show Steps p.tables e below (T110.setTop (mkF m 22 #[.val (.ref a1), .val (.int p2), .val (.int p3), .val (.int p4), .val (.ref v)] [])) _
        exact X110.returnOut hx Bd.returns (hb hby d4_22) hr
      · show Q4 Z a1 b xc cap sz tn seq i n tot h0 n0 _ T110.heap _
        exact ⟨rfl, N110, K8.trans K9 (fun x hx => Or.inl hx), by rw [own_s1, if_pos hlt2, if_pos hlt2, if_pos hinn]; exact R9⟩
    · have hlt2 : ¬ i < tot := fun q => hlt ((own_lt hi ht).mpr q)
      have k112 : ∀ t, Steps p.tables e below (T105.setTop (mkF m 22 #[.val (.ref a1), .val (.int p2), .val (.int p3), .val (.int p4), .val (.ref v)] [])) t → Steps p.tables e below (s₁.setTop (entryFrame m #[(.ref a1), (.int p2), (.int p3), (.int p4), (.ref v)] 5)) t := fun t k => k107 t (by
          show Steps p.tables e below (T105.setTop (mkF m 11 #[.val (.ref a1), .val (.int p2), .val (.int p3), .val (.int p4), .val (.ref v)] [(.int p4), (.int p2)])) _
          refine XS.icmpYes X105.here hx rfl (pc0 := 11) (pc' := 22) rfl (hb hby d4_11) rfl (flt hlt).2.1 (by decide) (by decide) ?_
          exact k)
      obtain ⟨fs, hr, hrun, hended, hW, hsame⟩ := X105.leave (v := none) (fun _ => rfl)
      refine ⟨_, _, k112 _ ?_, hrun, hended, _, _, rfl, ?_, ⟨_, rfl⟩, hW, hsame.mono (by decide) (by decide)⟩
      · show Steps p.tables e below (T105.setTop (mkF m 22 #[.val (.ref a1), .val (.int p2), .val (.int p3), .val (.int p4), .val (.ref v)] [])) _
        exact X105.returnOut hx Bd.returns (hb hby d4_22) hr
      · show Q4 Z a1 b xc cap sz tn seq i n tot h0 n0 _ T105.heap _
        exact ⟨rfl, N105, K8, by rw [own_s1, if_neg hlt2, if_neg hlt2, if_pos hinn]; exact R8⟩
  · have hinn : ¬ i = n := fun q => hin1 ((own_eqi hi hn).mpr q)
    have k113 : ∀ t, Steps p.tables e below (s₁.setTop (mkF m 9 #[.val (.ref a1), .val (.int p2), .val (.int p3), .val (.int p4), .val (.ref v)] [])) t → Steps p.tables e below (s₁.setTop (entryFrame m #[(.ref a1), (.int p2), (.int p3), (.int p4), (.ref v)] 5)) t := fun t k => k102 t (by
        show Steps p.tables e below (s₁.setTop (mkF m 2 #[.val (.ref a1), .val (.int p2), .val (.int p3), .val (.int p4), .val (.ref v)] [(.int p3), (.int p2)])) _
        refine XS.icmpYes X0.here hx rfl (pc0 := 2) (pc' := 9) rfl (hb hby d4_2) rfl (feq hin1).2 (by decide) (by decide) ?_
        exact k)
    have k114 : ∀ t, Steps p.tables e below (s₁.setTop (mkF m 11 #[.val (.ref a1), .val (.int p2), .val (.int p3), .val (.int p4), .val (.ref v)] [(.int p4), (.int p2)])) t → Steps p.tables e below (s₁.setTop (entryFrame m #[(.ref a1), (.int p2), (.int p3), (.int p4), (.ref v)] 5)) t := fun t k => k113 t (by
        show Steps p.tables e below (s₁.setTop (mkF m 9 #[.val (.ref a1), .val (.int p2), .val (.int p3), .val (.int p4), .val (.ref v)] [])) _
        refine XS.iloadN X0.here hx rfl (hb hby d4_9) rfl ?_
        show Steps p.tables e below (s₁.setTop (mkF m 10 #[.val (.ref a1), .val (.int p2), .val (.int p3), .val (.int p4), .val (.ref v)] [(.int p2)])) _
        refine XS.iloadN X0.here hx rfl (hb hby d4_10) rfl ?_
        exact k)
    by_cases hlt : p2 < p4
    · have hlt2 : i < tot := (own_lt hi ht).mp hlt
      obtain ⟨cl, Ar, S, G⟩ := Vv
      have k115 : ∀ t, Steps p.tables e below (s₁.setTop (mkF m 14 #[.val (.ref a1), .val (.int p2), .val (.int p3), .val (.int p4), .val (.ref v)] [])) t → Steps p.tables e below (s₁.setTop (entryFrame m #[(.ref a1), (.int p2), (.int p3), (.int p4), (.ref v)] 5)) t := fun t k => k114 t (by
          show Steps p.tables e below (s₁.setTop (mkF m 11 #[.val (.ref a1), .val (.int p2), .val (.int p3), .val (.int p4), .val (.ref v)] [(.int p4), (.int p2)])) _
          refine XS.icmpNo X0.here hx rfl (hb hby d4_11) rfl (tlt hlt).2.1 ?_
          exact k)
      have k116 : ∀ t, Steps p.tables e below (s₁.setTop (mkF m 19 #[.val (.ref a1), .val (.int p2), .val (.int p3), .val (.int p4), .val (.ref v)] [(.long (seq i)), (.ref a1)])) t → Steps p.tables e below (s₁.setTop (entryFrame m #[(.ref a1), (.int p2), (.int p3), (.int p4), (.ref v)] 5)) t := fun t k => k115 t (by
          show Steps p.tables e below (s₁.setTop (mkF m 14 #[.val (.ref a1), .val (.int p2), .val (.int p3), .val (.int p4), .val (.ref v)] [])) _
          refine XS.aloadN X0.here hx rfl (hb hby d4_14) rfl rfl ?_
          show Steps p.tables e below (s₁.setTop (mkF m 15 #[.val (.ref a1), .val (.int p2), .val (.int p3), .val (.int p4), .val (.ref v)] [(.ref a1)])) _
          refine XS.aload X0.here hx rfl (hb hby d4_15) rfl rfl ?_
          show Steps p.tables e below (s₁.setTop (mkF m 17 #[.val (.ref a1), .val (.int p2), .val (.int p3), .val (.int p4), .val (.ref v)] [(.ref v), (.ref a1)])) _
          refine XS.iloadN X0.here hx rfl (hb hby d4_17) rfl ?_
          show Steps p.tables e below (s₁.setTop (mkF m 18 #[.val (.ref a1), .val (.int p2), .val (.int p3), .val (.int p4), .val (.ref v)] [(.int p2), (.ref v), (.ref a1)])) _
          refine X0.laload hx (j := p2) (v := (.long (seq i))) (by rw [e0]; exact Ar.1) (State.isArrayOf_alike hZ.alike Ar.2.1) Ar.2.2 (own_hin S hi (by omega)) (own_hat G hi (by omega)) (g := (mkF m 18 #[.val (.ref a1), .val (.int p2), .val (.int p3), .val (.int p4), .val (.ref v)] [(.int p2), (.ref v), (.ref a1)])) rfl rfl (hb hby d4_18) _ ?_
          exact k)
      obtain ⟨cq117, kq117, q117a, q117b, q117c⟩ := isOf hZ e0 R.1
      obtain ⟨_, _, ⟨T117, L117, c117, n117⟩, -, X117, ⟨Lc117, hQ117, l117, y117, z117⟩, st117⟩ := X0.virtualBack hx (y := (⟨"com/example/upya/upya/policy/LongRing", "add", "(J)V"⟩ : MethodName)) (z := (⟨"com/example/upya/upya/policy/LongRing", "add", "(J)V"⟩ : MethodName)) hown (mvT hZ (hw _ (List.mem_of_getElem? (i := 41) rfl))) (mvT hZ (hw _ (List.mem_of_getElem? (i := 42) rfl))) (notFace_of_selects (args := #[]) (mvT hZ (hw _ (List.mem_of_getElem? (i := 44) rfl)))) (mvT hZ (hw _ (List.mem_of_getElem? (i := 44) rfl))) (mvT hZ (hw _ (List.mem_of_getElem? (i := 43) rfl))) (by decide) (backOf (W := 0) (rm9 l Z a0 hw [] a1 (seq i) b xc cap sz tn seq h0 n0 Z0 hxc hc1 hc4 hsz ne ga gb R (by rw [hti hlt2])) hZ (hw _ (List.mem_of_getElem? (i := 45) rfl)) (hw _ (List.mem_of_getElem? (i := 3) rfl)) (by decide) (by decide)) q117a q117c (g := (mkF m 19 #[.val (.ref a1), .val (.int p2), .val (.int p3), .val (.int p4), .val (.ref v)] [(.long (seq i)), (.ref a1)])) rfl (by rw [hml]; rfl) (Steps.refl _) (argsL := [(.long (seq i))]) (rest := []) (lenOf own_pd6 rfl) rfl (by show 2 * 0 + _ ≤ _; exact Nat.le_of_eq rfl) (hb hby d4_19) (fun _ _ => ⟨rfl, e0, (by decide : 0 + 0 ≤ _), (by decide : 0 + 0 ≤ _)⟩)
      dsimp only [Pt.U, Pt.locs, Pt.cells, Pt.slots] at X117 l117 y117 z117 st117 hQ117
      subst l117 y117 z117
      obtain ⟨rfl, N117q, K9, R9⟩ := hQ117
      have N117 := Fr.app N0 N117q
      have k118 : ∀ t, Steps p.tables e below (T117.setTop (mkF m 22 #[.val (.ref a1), .val (.int p2), .val (.int p3), .val (.int p4), .val (.ref v)] [])) t → Steps p.tables e below (s₁.setTop (entryFrame m #[(.ref a1), (.int p2), (.int p3), (.int p4), (.ref v)] 5)) t := fun t k => k116 t (st117.trans k)
      obtain ⟨fs, hr, hrun, hended, hW, hsame⟩ := X117.leave (v := none) (fun _ => rfl)
      refine ⟨_, _, k118 _ ?_, hrun, hended, _, _, rfl, ?_, ⟨_, rfl⟩, hW, hsame.mono (by decide) (by decide)⟩
      · show Steps p.tables e below (T117.setTop (mkF m 22 #[.val (.ref a1), .val (.int p2), .val (.int p3), .val (.int p4), .val (.ref v)] [])) _
        exact X117.returnOut hx Bd.returns (hb hby d4_22) hr
      · show Q4 Z a1 b xc cap sz tn seq i n tot h0 n0 _ T117.heap _
        exact ⟨rfl, N117, K9, by rw [own_s1, if_pos hlt2, if_pos hlt2, if_neg hinn]; exact R9⟩
    · have hlt2 : ¬ i < tot := fun q => hlt ((own_lt hi ht).mpr q)
      have k119 : ∀ t, Steps p.tables e below (s₁.setTop (mkF m 22 #[.val (.ref a1), .val (.int p2), .val (.int p3), .val (.int p4), .val (.ref v)] [])) t → Steps p.tables e below (s₁.setTop (entryFrame m #[(.ref a1), (.int p2), (.int p3), (.int p4), (.ref v)] 5)) t := fun t k => k114 t (by
          show Steps p.tables e below (s₁.setTop (mkF m 11 #[.val (.ref a1), .val (.int p2), .val (.int p3), .val (.int p4), .val (.ref v)] [(.int p4), (.int p2)])) _
          refine XS.icmpYes X0.here hx rfl (pc0 := 11) (pc' := 22) rfl (hb hby d4_11) rfl (flt hlt).2.1 (by decide) (by decide) ?_
          exact k)
      obtain ⟨fs, hr, hrun, hended, hW, hsame⟩ := X0.leave (v := none) (fun _ => rfl)
      refine ⟨_, _, k119 _ ?_, hrun, hended, _, _, rfl, ?_, ⟨_, rfl⟩, hW, hsame.mono (by decide) (by decide)⟩
      · show Steps p.tables e below (s₁.setTop (mkF m 22 #[.val (.ref a1), .val (.int p2), .val (.int p3), .val (.int p4), .val (.ref v)] [])) _
        exact X0.returnOut hx Bd.returns (hb hby d4_22) hr
      · show Q4 Z a1 b xc cap sz tn seq i n tot h0 n0 _ s₁.heap _
        rw [e0]
        exact ⟨rfl, N0, Keep.refl h0 _, by rw [own_s1, if_neg hlt2, if_neg hlt2, if_neg hinn]; exact R⟩
theorem d8_0 : decode method_4_code 0 = .ok (.iload_n 1, 1) := by decide +kernel
theorem d8_1 : decode method_4_code 1 = .ok (.iload_n 2, 1) := by decide +kernel
theorem d8_2 : decode method_4_code 2 = .ok (.if_icmp .lt 5, 3) := by decide +kernel
theorem d8_5 : decode method_4_code 5 = .ok (.iconst 1, 1) := by decide +kernel
theorem d8_6 : decode method_4_code 6 = .ok (.ireturn, 1) := by decide +kernel
theorem d8_7 : decode method_4_code 7 = .ok (.aload_n 0, 1) := by decide +kernel
theorem d8_8 : decode method_4_code 8 = .ok (.iload_n 1, 1) := by decide +kernel
theorem d8_9 : decode method_4_code 9 = .ok (.invokevirtual 42, 3) := by decide +kernel
theorem d8_12 : decode method_4_code 12 = .ok (.aload 4, 2) := by decide +kernel
theorem d8_14 : decode method_4_code 14 = .ok (.iload_n 3, 1) := by decide +kernel
theorem d8_15 : decode method_4_code 15 = .ok (.iload_n 2, 1) := by decide +kernel
theorem d8_16 : decode method_4_code 16 = .ok (.isub, 1) := by decide +kernel
theorem d8_17 : decode method_4_code 17 = .ok (.iload_n 1, 1) := by decide +kernel
theorem d8_18 : decode method_4_code 18 = .ok (.iadd, 1) := by decide +kernel
theorem d8_19 : decode method_4_code 19 = .ok (.laload, 1) := by decide +kernel
theorem d8_20 : decode method_4_code 20 = .ok (.lcmp, 1) := by decide +kernel
theorem d8_21 : decode method_4_code 21 = .ok (.ifCond .ne 7, 3) := by decide +kernel
theorem d8_24 : decode method_4_code 24 = .ok (.iconst 1, 1) := by decide +kernel
theorem d8_25 : decode method_4_code 25 = .ok (.goto 4, 3) := by decide +kernel
theorem d8_28 : decode method_4_code 28 = .ok (.iconst 0, 1) := by decide +kernel
theorem d8_29 : decode method_4_code 29 = .ok (.ireturn, 1) := by decide +kernel
theorem pn_8 : plainName "com/example/upya/upya/policy/LongRingRemoveOldestPinLaw" = true := by first | (simp [plainName, overriddenIn]; done) | decide +kernel
theorem ef_8 (m : MethodId) (x0 : Addr) (x1 : Int32) (x2 : Int32) (x3 : Int32) (x4 : Addr) : entryFrame m #[(.ref x0), (.int x1), (.int x2), (.int x3), (.ref x4)] 5 = mkF m 0 #[.val (.ref x0), .val (.int x1), .val (.int x2), .val (.int x3), .val (.ref x4)] [] := by first | (simp [entryFrame, mkF, argsToLocals, Value.category]; done) | rfl
def Q8 (Z : State)  (h0 : Heap) (n0 : Nat) (v : Option Value) (h : Heap) (L : List Loc) : Prop := v = some (.int 1) ∧ Fr n0 L ∧ h = h0
set_option maxRecDepth 65536 in
set_option maxHeartbeats 40000000 in
theorem rm8 (l : Launch) (Z : State) (a0 : Array Value) (hw : ∀ d ∈ tables_1, d.before a0 Z = true) (ws : List Jvm.Cond) (a1 : Addr) (p2 : Int32) (p3 : Int32) (p4 : Int32) (v : Addr) (b : Addr) (xc : Int32) (cap sz tn : Nat) (seq : Nat → Int64) (i : Nat) (h0 : Heap) (n0 : Nat) (Z0 : n0 ≤ h0.size) (hxc : xc.toInt = cap) (hc1 : 1 ≤ cap) (hc4 : cap ≤ 4) (hsz : sz ≤ cap) (ne : a1 ≠ b) (ga : n0 ≤ a1) (gb : n0 ≤ b) (R : RS Z h0 a1 b xc cap sz tn seq) (hi : p2.toInt = i) (hn : p3.toInt = sz) (ht : p4.toInt = tn) (ht5 : tn ≤ 5) (Vv : Av Z h0 v .long 5 (fun j => .long (seq j))) :
    MetFree l (⟨"com/example/upya/upya/policy/LongRingRemoveOldestPinLaw", "check", "(Lcom/example/upya/upya/policy/LongRing;III[J)Z"⟩ : MethodName) (head1 (Jvm.Cond.code (⟨"com/example/upya/upya/policy/LongRingRemoveOldestPinLaw", "check", "(Lcom/example/upya/upya/policy/LongRing;III[J)Z"⟩ : MethodName) method_4_code 5 (some .boolean) :: ws) ({ frames := 1, cells := 0, slots := 0, locals := 13 } : Room)) (fun a U => a = #[(.ref a1), (.int p2), (.int p3), (.int p4), (.ref v)] ∧ Z.Warmed39 U.vm ∧ U.heap = h0) (fun _ _ _ _ _ => True) (fun _ U o U' => ∃ v L, o = .returned v ∧ Q8 Z  h0 n0 v U'.heap L ∧ FrameEnd U o U' L ({ frames := 1, cells := 0, slots := 0, locals := 13 } : Room).cells ({ frames := 1, cells := 0, slots := 0, locals := 13 } : Room).slots) := by
  refine MetFree.of_bodySF (plainFor_of_name pn_8) hisR ?_
  intro p e s m args below meth c s₁ Bd hml0 hP hK
  obtain ⟨rfl, hZ, hh⟩ := hP
  have hx := Bd.exec
  have hby := Bd.bytes
  have hml : c.maxLocals = 5 := hml0
  have hown : s.vm.findClass "com/example/upya/upya/policy/LongRingRemoveOldestPinLaw" = some m.cls := findClass_of_methodNamed Bd.named
  have hnm := (name_of_methodNamed Bd.named Bd.method).1
  have X0 : Stand p l e ({ frames := 1, cells := 0, slots := 0, locals := 13 } : Room) s m #[(.ref a1), (.int p2), (.int p3), (.int p4), (.ref v)] below meth c s₁ [] 0 0 := Stand.of_body Bd
  have e0 : s₁.heap = h0 := by rw [← hh, Bd.state]; rfl
  have N0 := Fr.nil n0
  have pre0 : ∀ t, Steps p.tables e below (s₁.setTop (mkF m 0 #[.val (.ref a1), .val (.int p2), .val (.int p3), .val (.int p4), .val (.ref v)] [])) t → Steps p.tables e below (s₁.setTop (entryFrame m #[(.ref a1), (.int p2), (.int p3), (.int p4), (.ref v)] 5)) t := fun t k => castTop (ef_8 m a1 p2 p3 p4 v) k
  have k120 : ∀ t, Steps p.tables e below (s₁.setTop (mkF m 2 #[.val (.ref a1), .val (.int p2), .val (.int p3), .val (.int p4), .val (.ref v)] [(.int p3), (.int p2)])) t → Steps p.tables e below (s₁.setTop (entryFrame m #[(.ref a1), (.int p2), (.int p3), (.int p4), (.ref v)] 5)) t := fun t k => pre0 t (by
      show Steps p.tables e below (s₁.setTop (mkF m 0 #[.val (.ref a1), .val (.int p2), .val (.int p3), .val (.int p4), .val (.ref v)] [])) _
      refine XS.iloadN X0.here hx rfl (hb hby d8_0) rfl ?_
      show Steps p.tables e below (s₁.setTop (mkF m 1 #[.val (.ref a1), .val (.int p2), .val (.int p3), .val (.int p4), .val (.ref v)] [(.int p2)])) _
      refine XS.iloadN X0.here hx rfl (hb hby d8_1) rfl ?_
      exact k)
  by_cases hlt : p2 < p3
  · have hlt2 : i < sz := (own_lt hi hn).mp hlt
    obtain ⟨cl, Ar, S, G⟩ := Vv
    have hst : sz ≤ tn := by obtain ⟨_, _, _, _, _, _, _, _, _, _, _, _, _, q, _⟩ := R; exact q
    have hix := own_addN (own_subN ht hn hst) hi (by omega)
    have k121 : ∀ t, Steps p.tables e below (s₁.setTop (mkF m 7 #[.val (.ref a1), .val (.int p2), .val (.int p3), .val (.int p4), .val (.ref v)] [])) t → Steps p.tables e below (s₁.setTop (entryFrame m #[(.ref a1), (.int p2), (.int p3), (.int p4), (.ref v)] 5)) t := fun t k => k120 t (by
        show Steps p.tables e below (s₁.setTop (mkF m 2 #[.val (.ref a1), .val (.int p2), .val (.int p3), .val (.int p4), .val (.ref v)] [(.int p3), (.int p2)])) _
        refine XS.icmpYes X0.here hx rfl (pc0 := 2) (pc' := 7) rfl (hb hby d8_2) rfl (tlt hlt).1 (by decide) (by decide) ?_
        exact k)
    have k122 : ∀ t, Steps p.tables e below (s₁.setTop (mkF m 9 #[.val (.ref a1), .val (.int p2), .val (.int p3), .val (.int p4), .val (.ref v)] [(.int p2), (.ref a1)])) t → Steps p.tables e below (s₁.setTop (entryFrame m #[(.ref a1), (.int p2), (.int p3), (.int p4), (.ref v)] 5)) t := fun t k => k121 t (by
        show Steps p.tables e below (s₁.setTop (mkF m 7 #[.val (.ref a1), .val (.int p2), .val (.int p3), .val (.int p4), .val (.ref v)] [])) _
        refine XS.aloadN X0.here hx rfl (hb hby d8_7) rfl rfl ?_
        show Steps p.tables e below (s₁.setTop (mkF m 8 #[.val (.ref a1), .val (.int p2), .val (.int p3), .val (.int p4), .val (.ref v)] [(.ref a1)])) _
        refine XS.iloadN X0.here hx rfl (hb hby d8_8) rfl ?_
        exact k)
    obtain ⟨cq123, kq123, q123a, q123b, q123c⟩ := isOf hZ e0 R.1
    obtain ⟨_, _, ⟨T123, L123, c123, n123⟩, -, X123, ⟨Lc123, hQ123, l123, y123, z123⟩, st123⟩ := X0.virtualBack hx (y := (⟨"com/example/upya/upya/policy/LongRing", "get", "(I)J"⟩ : MethodName)) (z := (⟨"com/example/upya/upya/policy/LongRing", "get", "(I)J"⟩ : MethodName)) hown (mvT hZ (hw _ (List.mem_of_getElem? (i := 48) rfl))) (mvT hZ (hw _ (List.mem_of_getElem? (i := 49) rfl))) (notFace_of_selects (args := #[]) (mvT hZ (hw _ (List.mem_of_getElem? (i := 51) rfl)))) (mvT hZ (hw _ (List.mem_of_getElem? (i := 51) rfl))) (mvT hZ (hw _ (List.mem_of_getElem? (i := 50) rfl))) (by decide) (backOf (W := 0) (rm10 l Z a0 hw [] a1 p2 b xc cap sz tn seq i h0 n0 Z0 hxc hc1 hc4 hsz ne ga gb R hi hlt2) hZ (hw _ (List.mem_of_getElem? (i := 52) rfl)) (hw _ (List.mem_of_getElem? (i := 3) rfl)) (by decide) (by decide)) q123a q123c (g := (mkF m 9 #[.val (.ref a1), .val (.int p2), .val (.int p3), .val (.int p4), .val (.ref v)] [(.int p2), (.ref a1)])) rfl (by rw [hml]; rfl) (Steps.refl _) (argsL := [(.int p2)]) (rest := []) (lenOf own_pd7 rfl) rfl (by show 2 * 0 + _ ≤ _; exact Nat.le_of_eq rfl) (hb hby d8_9) (fun _ _ => ⟨rfl, e0, (by decide : 0 + 0 ≤ _), (by decide : 0 + 0 ≤ _)⟩)
    dsimp only [Pt.U, Pt.locs, Pt.cells, Pt.slots] at X123 l123 y123 z123 st123 hQ123
    subst l123 y123 z123
    obtain ⟨rfl, N123q, e123⟩ := hQ123
    have N123 := Fr.app N0 N123q
    have k124 : ∀ t, Steps p.tables e below (T123.setTop (mkF m 12 #[.val (.ref a1), .val (.int p2), .val (.int p3), .val (.int p4), .val (.ref v)] [(.long (seq (tn - sz + i)))])) t → Steps p.tables e below (s₁.setTop (entryFrame m #[(.ref a1), (.int p2), (.int p3), (.int p4), (.ref v)] 5)) t := fun t k => k122 t (st123.trans k)
    have k125 : ∀ t, Steps p.tables e below (T123.setTop (mkF m 29 #[.val (.ref a1), .val (.int p2), .val (.int p3), .val (.int p4), .val (.ref v)] [(.int (1 : Int32))])) t → Steps p.tables e below (s₁.setTop (entryFrame m #[(.ref a1), (.int p2), (.int p3), (.int p4), (.ref v)] 5)) t := fun t k => k124 t (by
        show Steps p.tables e below (T123.setTop (mkF m 12 #[.val (.ref a1), .val (.int p2), .val (.int p3), .val (.int p4), .val (.ref v)] [(.long (seq (tn - sz + i)))])) _
        refine XS.aload X123.here hx rfl (hb hby d8_12) rfl rfl ?_
        show Steps p.tables e below (T123.setTop (mkF m 14 #[.val (.ref a1), .val (.int p2), .val (.int p3), .val (.int p4), .val (.ref v)] [(.ref v), (.long (seq (tn - sz + i)))])) _
        refine XS.iloadN X123.here hx rfl (hb hby d8_14) rfl ?_
        show Steps p.tables e below (T123.setTop (mkF m 15 #[.val (.ref a1), .val (.int p2), .val (.int p3), .val (.int p4), .val (.ref v)] [(.int p4), (.ref v), (.long (seq (tn - sz + i)))])) _
        refine XS.iloadN X123.here hx rfl (hb hby d8_15) rfl ?_
        show Steps p.tables e below (T123.setTop (mkF m 16 #[.val (.ref a1), .val (.int p2), .val (.int p3), .val (.int p4), .val (.ref v)] [(.int p3), (.int p4), (.ref v), (.long (seq (tn - sz + i)))])) _
        refine XS.isub X123.here hx rfl (hb hby d8_16) rfl ?_
        show Steps p.tables e below (T123.setTop (mkF m 17 #[.val (.ref a1), .val (.int p2), .val (.int p3), .val (.int p4), .val (.ref v)] [(.int (p4 - p3)), (.ref v), (.long (seq (tn - sz + i)))])) _
        refine XS.iloadN X123.here hx rfl (hb hby d8_17) rfl ?_
        show Steps p.tables e below (T123.setTop (mkF m 18 #[.val (.ref a1), .val (.int p2), .val (.int p3), .val (.int p4), .val (.ref v)] [(.int p2), (.int (p4 - p3)), (.ref v), (.long (seq (tn - sz + i)))])) _
        refine XS.iadd X123.here hx rfl (hb hby d8_18) rfl ?_
        show Steps p.tables e below (T123.setTop (mkF m 19 #[.val (.ref a1), .val (.int p2), .val (.int p3), .val (.int p4), .val (.ref v)] [(.int ((p4 - p3) + p2)), (.ref v), (.long (seq (tn - sz + i)))])) _
        refine X123.laload hx (j := ((p4 - p3) + p2)) (v := (.long (seq (tn - sz + i)))) (by rw [e123]; exact Ar.1) (State.isArrayOf_alike hZ.alike Ar.2.1) Ar.2.2 (own_hin S hix (by omega)) (own_hat G hix (by omega)) (g := (mkF m 19 #[.val (.ref a1), .val (.int p2), .val (.int p3), .val (.int p4), .val (.ref v)] [(.int ((p4 - p3) + p2)), (.ref v), (.long (seq (tn - sz + i)))])) rfl rfl (hb hby d8_19) _ ?_
        show Steps p.tables e below (T123.setTop (mkF m 20 #[.val (.ref a1), .val (.int p2), .val (.int p3), .val (.int p4), .val (.ref v)] [(.long (seq (tn - sz + i))), (.long (seq (tn - sz + i)))])) _
        refine XS.lcmp X123.here hx rfl (hb hby d8_20) rfl ?_
        show Steps p.tables e below (T123.setTop (mkF m 21 #[.val (.ref a1), .val (.int p2), .val (.int p3), .val (.int p4), .val (.ref v)] [(.int (lcmpW (seq (tn - sz + i)) (seq (tn - sz + i))))])) _
        refine XS.ifNo X123.here hx rfl (hb hby d8_21) rfl ((if0 _ _).trans (teq ((lw_eq _ _).mpr rfl)).2) ?_
        show Steps p.tables e below (T123.setTop (mkF m 24 #[.val (.ref a1), .val (.int p2), .val (.int p3), .val (.int p4), .val (.ref v)] [])) _
        refine XS.iconst X123.here hx rfl (hb hby d8_24) ?_
        show Steps p.tables e below (T123.setTop (mkF m 25 #[.val (.ref a1), .val (.int p2), .val (.int p3), .val (.int p4), .val (.ref v)] [(.int (1 : Int32))])) _
        refine XS.goto X123.here hx rfl (pc0 := 25) (pc' := 29) rfl (hb hby d8_25) (by decide) (by decide) ?_
        exact k)
    obtain ⟨fs, hr, hrun, hended, hW, hsame⟩ := X123.leave (v := some (.int (1 : Int32))) (fun h => by rw [Bd.returns] at h; cases h)
    refine ⟨_, _, k125 _ ?_, hrun, hended, _, _, rfl, ?_, ⟨_, rfl⟩, hW, hsame.mono (by decide) (by decide)⟩
    · show Steps p.tables e below (T123.setTop (mkF m 29 #[.val (.ref a1), .val (.int p2), .val (.int p3), .val (.int p4), .val (.ref v)] [(.int (1 : Int32))])) _
      exact retN X123 hx (t := .boolean) Bd.returns (by simp) (hb hby d8_29) hr
    · show Q8 Z  h0 n0 _ T123.heap _
      rw [e123]
      exact ⟨rfl, N123, rfl⟩
  · have k126 : ∀ t, Steps p.tables e below (s₁.setTop (mkF m 5 #[.val (.ref a1), .val (.int p2), .val (.int p3), .val (.int p4), .val (.ref v)] [])) t → Steps p.tables e below (s₁.setTop (entryFrame m #[(.ref a1), (.int p2), (.int p3), (.int p4), (.ref v)] 5)) t := fun t k => k120 t (by
        show Steps p.tables e below (s₁.setTop (mkF m 2 #[.val (.ref a1), .val (.int p2), .val (.int p3), .val (.int p4), .val (.ref v)] [(.int p3), (.int p2)])) _
        refine XS.icmpNo X0.here hx rfl (hb hby d8_2) rfl (flt hlt).1 ?_
        exact k)
    have k127 : ∀ t, Steps p.tables e below (s₁.setTop (mkF m 6 #[.val (.ref a1), .val (.int p2), .val (.int p3), .val (.int p4), .val (.ref v)] [(.int (1 : Int32))])) t → Steps p.tables e below (s₁.setTop (entryFrame m #[(.ref a1), (.int p2), (.int p3), (.int p4), (.ref v)] 5)) t := fun t k => k126 t (by
        show Steps p.tables e below (s₁.setTop (mkF m 5 #[.val (.ref a1), .val (.int p2), .val (.int p3), .val (.int p4), .val (.ref v)] [])) _
        refine XS.iconst X0.here hx rfl (hb hby d8_5) ?_
        exact k)
    obtain ⟨fs, hr, hrun, hended, hW, hsame⟩ := X0.leave (v := some (.int (1 : Int32))) (fun h => by rw [Bd.returns] at h; cases h)
    refine ⟨_, _, k127 _ ?_, hrun, hended, _, _, rfl, ?_, ⟨_, rfl⟩, hW, hsame.mono (by decide) (by decide)⟩
    · show Steps p.tables e below (s₁.setTop (mkF m 6 #[.val (.ref a1), .val (.int p2), .val (.int p3), .val (.int p4), .val (.ref v)] [(.int (1 : Int32))])) _
      exact retN X0 hx (t := .boolean) Bd.returns (by simp) (hb hby d8_6) hr
    · show Q8 Z  h0 n0 _ s₁.heap _
      rw [e0]
      exact ⟨rfl, N0, rfl⟩
theorem d1_0 : decode prog_51_method_1_code 0 = .ok (.aload_n 0, 1) := by decide +kernel
theorem d1_1 : decode prog_51_method_1_code 1 = .ok (.invokespecial 1, 3) := by decide +kernel
theorem d1_4 : decode prog_51_method_1_code 4 = .ok (.iload_n 1, 1) := by decide +kernel
theorem d1_5 : decode prog_51_method_1_code 5 = .ok (.ifCond .gt 17, 3) := by decide +kernel
theorem d1_8 : decode prog_51_method_1_code 8 = .ok (.new 7, 3) := by decide +kernel
theorem d1_11 : decode prog_51_method_1_code 11 = .ok (.dup, 1) := by decide +kernel
theorem d1_12 : decode prog_51_method_1_code 12 = .ok (.iload_n 1, 1) := by decide +kernel
theorem d1_13 : decode prog_51_method_1_code 13 = .ok (.invokedynamic 9, 5) := by decide +kernel
theorem d1_18 : decode prog_51_method_1_code 18 = .ok (.invokespecial 13, 3) := by decide +kernel
theorem d1_21 : decode prog_51_method_1_code 21 = .ok (.athrow, 1) := by decide +kernel
theorem d1_22 : decode prog_51_method_1_code 22 = .ok (.aload_n 0, 1) := by decide +kernel
theorem d1_23 : decode prog_51_method_1_code 23 = .ok (.iload_n 1, 1) := by decide +kernel
theorem d1_24 : decode prog_51_method_1_code 24 = .ok (.putfield 16, 3) := by decide +kernel
theorem d1_27 : decode prog_51_method_1_code 27 = .ok (.aload_n 0, 1) := by decide +kernel
theorem d1_28 : decode prog_51_method_1_code 28 = .ok (.iload_n 1, 1) := by decide +kernel
theorem d1_29 : decode prog_51_method_1_code 29 = .ok (.bipush 16, 2) := by decide +kernel
theorem d1_31 : decode prog_51_method_1_code 31 = .ok (.invokestatic 22, 3) := by decide +kernel
theorem d1_34 : decode prog_51_method_1_code 34 = .ok (.newarray .long, 2) := by decide +kernel
theorem d1_36 : decode prog_51_method_1_code 36 = .ok (.putfield 28, 3) := by decide +kernel
theorem d1_39 : decode prog_51_method_1_code 39 = .ok (.return_, 1) := by decide +kernel
theorem pn_1 : plainName "com/example/upya/upya/policy/LongRing" = true := by first | (simp [plainName, overriddenIn]; done) | decide +kernel
theorem ef_1 (m : MethodId) (x0 : Addr) (x1 : Int32) : entryFrame m #[(.ref x0), (.int x1)] 2 = mkF m 0 #[.val (.ref x0), .val (.int x1)] [] := by first | (simp [entryFrame, mkF, argsToLocals, Value.category]; done) | rfl
def Q1 (Z : State) (a1 : Addr) (p2 : Int32) (cap : Nat) (seq : Nat → Int64) (h0 : Heap) (n0 : Nat) (v : Option Value) (h : Heap) (L : List Loc) : Prop := v = none ∧ Fr n0 L ∧ Keep h0 h [a1] ∧ ∃ b : Addr, n0 ≤ b ∧ h0.size ≤ b ∧ a1 ≠ b ∧ RS Z h a1 b p2 cap 0 0 seq
set_option maxRecDepth 65536 in
set_option maxHeartbeats 40000000 in
theorem rm1 (l : Launch) (Z : State) (a0 : Array Value) (hw : ∀ d ∈ tables_1, d.before a0 Z = true) (ws : List Jvm.Cond) (a1 : Addr) (p2 : Int32) (cap : Nat) (seq : Nat → Int64) (h0 : Heap) (n0 : Nat) (Z0 : n0 ≤ h0.size) (E : Exa Z h0 a1 "com/example/upya/upya/policy/LongRing") (Fc : Fld Z h0 a1 "com/example/upya/upya/policy/LongRing" "capacity" "I" (.int (0 : Int32))) (Fv : Fld Z h0 a1 "com/example/upya/upya/policy/LongRing" "values" "[J" .null) (Fh : Fld Z h0 a1 "com/example/upya/upya/policy/LongRing" "head" "I" (.int (0 : Int32))) (Fs : Fld Z h0 a1 "com/example/upya/upya/policy/LongRing" "size" "I" (.int (0 : Int32))) (ge : n0 ≤ a1) (hxc : p2.toInt = cap) (hc1 : 1 ≤ cap) (hc4 : cap ≤ 4) :
    MetFree l (⟨"com/example/upya/upya/policy/LongRing", "<init>", "(I)V"⟩ : MethodName) (head1 (Jvm.Cond.code (⟨"com/example/upya/upya/policy/LongRing", "<init>", "(I)V"⟩ : MethodName) prog_51_method_1_code 2 none :: ws) ({ frames := 1, cells := 1, slots := 16, locals := 14 } : Room)) (fun a U => a = #[(.ref a1), (.int p2)] ∧ Z.Warmed39 U.vm ∧ U.heap = h0) (fun _ _ _ _ _ => True) (fun _ U o U' => ∃ v L, o = .returned v ∧ Q1 Z a1 p2 cap seq h0 n0 v U'.heap L ∧ FrameEnd U o U' L ({ frames := 1, cells := 1, slots := 16, locals := 14 } : Room).cells ({ frames := 1, cells := 1, slots := 16, locals := 14 } : Room).slots) := by
  refine MetFree.of_bodySF (plainFor_of_name pn_1) hisR ?_
  intro p e s m args below meth c s₁ Bd hml0 hP hK
  obtain ⟨rfl, hZ, hh⟩ := hP
  have hx := Bd.exec
  have hby := Bd.bytes
  have hml : c.maxLocals = 2 := hml0
  have hown : s.vm.findClass "com/example/upya/upya/policy/LongRing" = some m.cls := findClass_of_methodNamed Bd.named
  have hnm := (name_of_methodNamed Bd.named Bd.method).1
  have X0 : Stand p l e ({ frames := 1, cells := 1, slots := 16, locals := 14 } : Room) s m #[(.ref a1), (.int p2)] below meth c s₁ [] 0 0 := Stand.of_body Bd
  have e0 : s₁.heap = h0 := by rw [← hh, Bd.state]; rfl
  have N0 := Fr.nil n0
  have pre0 : ∀ t, Steps p.tables e below (s₁.setTop (mkF m 0 #[.val (.ref a1), .val (.int p2)] [])) t → Steps p.tables e below (s₁.setTop (entryFrame m #[(.ref a1), (.int p2)] 2)) t := fun t k => castTop (ef_1 m a1 p2) k
  have k128 : ∀ t, Steps p.tables e below (s₁.setTop (mkF m 1 #[.val (.ref a1), .val (.int p2)] [(.ref a1)])) t → Steps p.tables e below (s₁.setTop (entryFrame m #[(.ref a1), (.int p2)] 2)) t := fun t k => pre0 t (by
      show Steps p.tables e below (s₁.setTop (mkF m 0 #[.val (.ref a1), .val (.int p2)] [])) _
      refine XS.aloadN X0.here hx rfl (hb hby d1_0) rfl rfl ?_
      exact k)
  obtain ⟨T129, X129, e129, st129⟩ := initO X0 hx hZ hown (hw _ (List.mem_of_getElem? (i := 7) rfl)) (hw _ (List.mem_of_getElem? (i := 8) rfl)) (hw _ (List.mem_of_getElem? (i := 9) rfl)) e0 (g := (mkF m 1 #[.val (.ref a1), .val (.int p2)] [(.ref a1)])) rfl (by rw [hml]; rfl) rfl (hb hby d1_1) (by decide) (W := 0) (by show 2 * 0 + _ ≤ _; exact Nat.le_of_eq rfl) (by decide)
  have k130 : ∀ t, Steps p.tables e below (T129.setTop (mkF m 4 #[.val (.ref a1), .val (.int p2)] [])) t → Steps p.tables e below (s₁.setTop (entryFrame m #[(.ref a1), (.int p2)] 2)) t := fun t k => k128 t (st129 t k)
  have hpos : (0 : Int32) < p2 := by rw [Int32.lt_iff_toInt_lt, hxc, show (0 : Int32).toInt = 0 from by decide]; omega
  have hmin : own_min p2 (16 : Int32) = p2 := by rw [own_min, if_neg]; rw [Int32.lt_iff_toInt_lt, hxc, show (16 : Int32).toInt = 16 from by decide]; omega
  have k131 : ∀ t, Steps p.tables e below (T129.setTop (mkF m 24 #[.val (.ref a1), .val (.int p2)] [(.int p2), (.ref a1)])) t → Steps p.tables e below (s₁.setTop (entryFrame m #[(.ref a1), (.int p2)] 2)) t := fun t k => k130 t (by
      show Steps p.tables e below (T129.setTop (mkF m 4 #[.val (.ref a1), .val (.int p2)] [])) _
      refine XS.iloadN X129.here hx rfl (hb hby d1_4) rfl ?_
      show Steps p.tables e below (T129.setTop (mkF m 5 #[.val (.ref a1), .val (.int p2)] [(.int p2)])) _
      refine XS.ifYes X129.here hx rfl (pc0 := 5) (pc' := 22) rfl (hb hby d1_5) rfl ((if0 _ _).trans (tlt hpos).2.2.1) (by decide) (by decide) ?_
      show Steps p.tables e below (T129.setTop (mkF m 22 #[.val (.ref a1), .val (.int p2)] [])) _
      refine XS.aloadN X129.here hx rfl (hb hby d1_22) rfl rfl ?_
      show Steps p.tables e below (T129.setTop (mkF m 23 #[.val (.ref a1), .val (.int p2)] [(.ref a1)])) _
      refine XS.iloadN X129.here hx rfl (hb hby d1_23) rfl ?_
      exact k)
  obtain ⟨T132, h132, X132, e132, W132, st132⟩ := putF X129 hx hZ hown (host := "") (Or.inl (hw _ (List.mem_of_getElem? (i := 10) rfl))) Via.refl e129 Fc E (Or.inr ⟨(hw _ (List.mem_of_getElem? (i := 11) rfl)), rfl, hnm⟩) (hw _ (List.mem_of_getElem? (i := 2) rfl)) (ty := .int) (by decide) rfl rfl (g := (mkF m 24 #[.val (.ref a1), .val (.int p2)] [(.int p2), (.ref a1)])) rfl rfl (hb hby d1_24)
  have N132 := Fr.snoc X132 N0 ge
  have k133 : ∀ t, Steps p.tables e below (T132.setTop (mkF m 27 #[.val (.ref a1), .val (.int p2)] [])) t → Steps p.tables e below (s₁.setTop (entryFrame m #[(.ref a1), (.int p2)] 2)) t := fun t k => k131 t (st132 t k)
  have Fc := Fc.same W132
  have Fv := Fv.other W132 (Or.inr (slot_ne (Or.inl (hw _ (List.mem_of_getElem? (i := 17) rfl))) (Or.inr (hw _ (List.mem_of_getElem? (i := 11) rfl))) (by decide) (t := (.array .long)) (t' := .int) (by decide) (by decide)))
  have Fh := Fh.other W132 (Or.inr (slot_ne (Or.inl (hw _ (List.mem_of_getElem? (i := 47) rfl))) (Or.inr (hw _ (List.mem_of_getElem? (i := 11) rfl))) (by decide) (t := .int) (t' := .int) (by decide) (by decide)))
  have Fs := Fs.other W132 (Or.inr (slot_ne (Or.inl (hw _ (List.mem_of_getElem? (i := 28) rfl))) (Or.inr (hw _ (List.mem_of_getElem? (i := 11) rfl))) (by decide) (t := .int) (t' := .int) (by decide) (by decide)))
  have E := E.wr W132
  have Z1 : n0 ≤ h132.size := Nat.le_trans Z0 (Keep.of_wr W132).1
  have k134 : ∀ t, Steps p.tables e below (T132.setTop (mkF m 31 #[.val (.ref a1), .val (.int p2)] [(.int (16 : Int32)), (.int p2), (.ref a1)])) t → Steps p.tables e below (s₁.setTop (entryFrame m #[(.ref a1), (.int p2)] 2)) t := fun t k => k133 t (by
      show Steps p.tables e below (T132.setTop (mkF m 27 #[.val (.ref a1), .val (.int p2)] [])) _
      refine XS.aloadN X132.here hx rfl (hb hby d1_27) rfl rfl ?_
      show Steps p.tables e below (T132.setTop (mkF m 28 #[.val (.ref a1), .val (.int p2)] [(.ref a1)])) _
      refine XS.iloadN X132.here hx rfl (hb hby d1_28) rfl ?_
      show Steps p.tables e below (T132.setTop (mkF m 29 #[.val (.ref a1), .val (.int p2)] [(.int p2), (.ref a1)])) _
      refine XS.bipush X132.here hx rfl (hb hby d1_29) ?_
      exact k)
  obtain ⟨_, _, ⟨T135, L135, c135, n135⟩, -, X135, ⟨Lc135, hQ135, l135, y135, z135⟩, st135⟩ := Jvm.LawKit.callS X132 hx (y := (⟨"java/lang/Math", "min", "(II)I"⟩ : MethodName)) hown (mvT hZ (hw _ (List.mem_of_getElem? (i := 12) rfl))) (mvT hZ (hw _ (List.mem_of_getElem? (i := 13) rfl))) (mvT hZ (hw _ (List.mem_of_getElem? (i := 14) rfl))) (mvT hZ (hw _ (List.mem_of_getElem? (i := 15) rfl))) (by decide) (backOf (W := 1) (rm3 l Z a0 hw [] p2 (16 : Int32) h132 n0 Z1) hZ (hw _ (List.mem_of_getElem? (i := 15) rfl)) (hw _ (List.mem_of_getElem? (i := 14) rfl)) (by decide) (by decide)) (g := (mkF m 31 #[.val (.ref a1), .val (.int p2)] [(.int (16 : Int32)), (.int p2), (.ref a1)])) rfl (by rw [hml]; rfl) (argsL := [(.int p2), (.int (16 : Int32))]) (rest := [(.ref a1)]) (lenOf own_pd2 rfl) rfl (by show 2 * 0 + _ ≤ _; exact Nat.le_of_eq rfl) (hb hby d1_31) (fun _ _ => ⟨rfl, e132, (by decide : 0 + 0 ≤ _), (by decide : 0 + 0 ≤ _)⟩)
  dsimp only [Pt.U, Pt.locs, Pt.cells, Pt.slots] at X135 l135 y135 z135 st135 hQ135
  subst l135 y135 z135
  obtain ⟨rfl, N135q, e135⟩ := hQ135
  have N135 := Fr.app N132 N135q
  have k136 : ∀ t, Steps p.tables e below (T135.setTop (mkF m 34 #[.val (.ref a1), .val (.int p2)] [(.int (own_min p2 (16 : Int32))), (.ref a1)])) t → Steps p.tables e below (s₁.setTop (entryFrame m #[(.ref a1), (.int p2)] 2)) t := fun t k => k134 t (st135 t k)
  rw [hmin] at k136
  obtain ⟨T137, h137, c137, X137, e137, E137, A137, st137⟩ := newP X135 hx hZ (hw _ (List.mem_of_getElem? (i := 0) rfl)) e135 (g := (mkF m 34 #[.val (.ref a1), .val (.int p2)] [(.int p2), (.ref a1)])) rfl (hb hby d1_34) rfl (own_nneg hxc) (cap := 16) (by rw [own_tn hxc]; omega) (by decide) (by decide) (by decide)
  obtain ⟨b137, g137⟩ : ∃ z, z = h132.size := ⟨_, rfl⟩
  rw [← g137] at A137 st137
  have k138 : ∀ t, Steps p.tables e below (T137.setTop (mkF m 36 #[.val (.ref a1), .val (.int p2)] [(.ref b137), (.ref a1)])) t → Steps p.tables e below (s₁.setTop (entryFrame m #[(.ref a1), (.int p2)] 2)) t := fun t k => k136 t (st137 t k)
  have V := Av.new A137 hxc
  have gb : n0 ≤ b137 := Nat.le_trans Z1 (Nat.le_of_eq g137.symm)
  have nb : a1 ≠ b137 := Nat.ne_of_lt (g137 ▸ E.lt)
  have sb : h0.size ≤ b137 := Nat.le_trans (Keep.of_wr W132).1 (Nat.le_of_eq g137.symm)
  have E := E.ext E137
  have Fc := Fc.ext E137
  have Fv := Fv.ext E137
  have Fh := Fh.ext E137
  have Fs := Fs.ext E137
  obtain ⟨T139, h139, X139, e139, W139, st139⟩ := putF X137 hx hZ hown (host := "") (Or.inl (hw _ (List.mem_of_getElem? (i := 16) rfl))) Via.refl e137 Fv E (Or.inl (hw _ (List.mem_of_getElem? (i := 17) rfl))) (hw _ (List.mem_of_getElem? (i := 2) rfl)) (ty := (.array .long)) (by decide) rfl rfl (g := (mkF m 36 #[.val (.ref a1), .val (.int p2)] [(.ref b137), (.ref a1)])) rfl rfl (hb hby d1_36)
  have N139 := Fr.snoc X139 N135 ge
  have k140 : ∀ t, Steps p.tables e below (T139.setTop (mkF m 39 #[.val (.ref a1), .val (.int p2)] [])) t → Steps p.tables e below (s₁.setTop (entryFrame m #[(.ref a1), (.int p2)] 2)) t := fun t k => k138 t (st139 t k)
  have Fc := Fc.other W139 (Or.inr (slot_ne (Or.inr (hw _ (List.mem_of_getElem? (i := 11) rfl))) (Or.inl (hw _ (List.mem_of_getElem? (i := 17) rfl))) (by decide) (t := .int) (t' := (.array .long)) (by decide) (by decide)))
  have Fv := Fv.same W139
  have Fh := Fh.other W139 (Or.inr (slot_ne (Or.inl (hw _ (List.mem_of_getElem? (i := 47) rfl))) (Or.inl (hw _ (List.mem_of_getElem? (i := 17) rfl))) (by decide) (t := .int) (t' := (.array .long)) (by decide) (by decide)))
  have Fs := Fs.other W139 (Or.inr (slot_ne (Or.inl (hw _ (List.mem_of_getElem? (i := 28) rfl))) (Or.inl (hw _ (List.mem_of_getElem? (i := 17) rfl))) (by decide) (t := .int) (t' := (.array .long)) (by decide) (by decide)))
  have E := E.wr W139
  obtain ⟨fs, hr, hrun, hended, hW, hsame⟩ := X139.leave (v := none) (fun _ => rfl)
  refine ⟨_, _, k140 _ ?_, hrun, hended, _, _, rfl, ?_, ⟨_, rfl⟩, hW, hsame.mono (by decide) (by decide)⟩
  · show Steps p.tables e below (T139.setTop (mkF m 39 #[.val (.ref a1), .val (.int p2)] [])) _
    exact X139.returnOut hx Bd.returns (hb hby d1_39) hr
  · show Q1 Z a1 p2 cap seq h0 n0 _ T139.heap _
    rw [e139]
    exact ⟨rfl, N139, (((Keep.refl h0 [a1]).wr W132 (Or.inl (own_in0 _ _))).ext E137).wr W139 (Or.inl (own_in0 _ _)), b137, gb, sb, nb, E, Fc, Fv, (0 : Int32), (0 : Int32), 0, fun _ => 0, by decide, by decide, by omega, Fh, Fs, V.other W139 nb.symm, Nat.le_refl _, fun i hi => absurd hi (Nat.not_lt_zero _)⟩
theorem pn_0 : plainName "com/example/upya/upya/policy/LongRingRemoveOldestPinLaw" = true := by first | (simp [plainName, overriddenIn]; done) | decide +kernel
theorem ef_0 (m : MethodId) (x0 : Int32) (x1 : Int64) (x2 : Int64) (x3 : Int64) (x4 : Int64) (x5 : Int64) : entryFrame m #[(.int x0), (.long x1), (.long x2), (.long x3), (.long x4), (.long x5)] maxLocals = mkF m 0 #[.val (.int x0), .val (.long x1), .second, .val (.long x2), .second, .val (.long x3), .second, .val (.long x4), .second, .val (.long x5), .second, .unset, .unset, .unset, .unset, .unset, .unset, .unset, .unset, .unset] [] := by first | (simp [entryFrame, mkF, argsToLocals, Value.category, maxLocals]; done) | rfl
def Q0 (Z : State) (p1 : Int32) (q2 q3 q4 q5 q6 : Int64) (h0 : Heap) (n0 : Nat) (v : Option Value) (h : Heap) (L : List Loc) : Prop := v = some (.int 1) ∧ Fr n0 L
set_option maxRecDepth 65536 in
set_option maxHeartbeats 40000000 in
theorem rm0 (l : Launch) (Z : State) (a0 : Array Value) (hw : ∀ d ∈ tables_1, d.before a0 Z = true) (ws : List Jvm.Cond) (p1 : Int32) (q2 : Int64) (q3 : Int64) (q4 : Int64) (q5 : Int64) (q6 : Int64)  (h0 : Heap) (n0 : Nat) (Z0 : n0 ≤ h0.size)  :
    MetFree l x (head1 (Jvm.Cond.code x code maxLocals ret :: ws) room_1) (fun a U => a = #[(.int p1), (.long q2), (.long q3), (.long q4), (.long q5), (.long q6)] ∧ Z.Warmed39 U.vm ∧ U.heap = h0) (fun _ _ _ _ _ => True) (fun _ U o U' => ∃ v L, o = .returned v ∧ Q0 Z p1 q2 q3 q4 q5 q6 h0 n0 v U'.heap L ∧ FrameEnd U o U' L room_1.cells room_1.slots) := by
  refine MetFree.of_bodySF (plainFor_of_name pn_0) hisR ?_
  intro p e s m args below meth c s₁ Bd hml0 hP hK
  obtain ⟨rfl, hZ, hh⟩ := hP
  have hx := Bd.exec
  have hby := Bd.bytes
  have hml : c.maxLocals = 20 := hml0
  have hown : s.vm.findClass "com/example/upya/upya/policy/LongRingRemoveOldestPinLaw" = some m.cls := findClass_of_methodNamed Bd.named
  have hnm := (name_of_methodNamed Bd.named Bd.method).1
  have X0 : Stand p l e room_1 s m #[(.int p1), (.long q2), (.long q3), (.long q4), (.long q5), (.long q6)] below meth c s₁ [] 0 0 := Stand.of_body Bd
  have e0 : s₁.heap = h0 := by rw [← hh, Bd.state]; rfl
  have N0 := Fr.nil n0
  have pre0 : ∀ t, Steps p.tables e below (s₁.setTop (mkF m 0 #[.val (.int p1), .val (.long q2), .second, .val (.long q3), .second, .val (.long q4), .second, .val (.long q5), .second, .val (.long q6), .second, .unset, .unset, .unset, .unset, .unset, .unset, .unset, .unset, .unset] [])) t → Steps p.tables e below (s₁.setTop (entryFrame m #[(.int p1), (.long q2), (.long q3), (.long q4), (.long q5), (.long q6)] maxLocals)) t := fun t k => castTop (ef_0 m p1 q2 q3 q4 q5 q6) k

  have k141 : ∀ t, Steps p.tables e below (s₁.setTop (mkF m 7 #[.val (.int p1), .val (.long q2), .second, .val (.long q3), .second, .val (.long q4), .second, .val (.long q5), .second, .val (.long q6), .second, .val (.int ((1 : Int32) + (p1 &&& (3 : Int32)))), .unset, .unset, .unset, .unset, .unset, .unset, .unset, .unset] [])) t → Steps p.tables e below (s₁.setTop (entryFrame m #[(.int p1), (.long q2), (.long q3), (.long q4), (.long q5), (.long q6)] maxLocals)) t := fun t k => pre0 t (by
      show Steps p.tables e below (s₁.setTop (mkF m 0 #[.val (.int p1), .val (.long q2), .second, .val (.long q3), .second, .val (.long q4), .second, .val (.long q5), .second, .val (.long q6), .second, .unset, .unset, .unset, .unset, .unset, .unset, .unset, .unset, .unset] [])) _
      refine XS.iconst X0.here hx rfl (hb hby at_0) ?_
      show Steps p.tables e below (s₁.setTop (mkF m 1 #[.val (.int p1), .val (.long q2), .second, .val (.long q3), .second, .val (.long q4), .second, .val (.long q5), .second, .val (.long q6), .second, .unset, .unset, .unset, .unset, .unset, .unset, .unset, .unset, .unset] [(.int (1 : Int32))])) _
      refine XS.iloadN X0.here hx rfl (hb hby at_1) rfl ?_
      show Steps p.tables e below (s₁.setTop (mkF m 2 #[.val (.int p1), .val (.long q2), .second, .val (.long q3), .second, .val (.long q4), .second, .val (.long q5), .second, .val (.long q6), .second, .unset, .unset, .unset, .unset, .unset, .unset, .unset, .unset, .unset] [(.int p1), (.int (1 : Int32))])) _
      refine XS.iconst X0.here hx rfl (hb hby at_2) ?_
      show Steps p.tables e below (s₁.setTop (mkF m 3 #[.val (.int p1), .val (.long q2), .second, .val (.long q3), .second, .val (.long q4), .second, .val (.long q5), .second, .val (.long q6), .second, .unset, .unset, .unset, .unset, .unset, .unset, .unset, .unset, .unset] [(.int (3 : Int32)), (.int p1), (.int (1 : Int32))])) _
      refine XS.iand X0.here hx rfl (hb hby at_3) rfl ?_
      show Steps p.tables e below (s₁.setTop (mkF m 4 #[.val (.int p1), .val (.long q2), .second, .val (.long q3), .second, .val (.long q4), .second, .val (.long q5), .second, .val (.long q6), .second, .unset, .unset, .unset, .unset, .unset, .unset, .unset, .unset, .unset] [(.int (p1 &&& (3 : Int32))), (.int (1 : Int32))])) _
      refine XS.iadd X0.here hx rfl (hb hby at_4) rfl ?_
      show Steps p.tables e below (s₁.setTop (mkF m 5 #[.val (.int p1), .val (.long q2), .second, .val (.long q3), .second, .val (.long q4), .second, .val (.long q5), .second, .val (.long q6), .second, .unset, .unset, .unset, .unset, .unset, .unset, .unset, .unset, .unset] [(.int ((1 : Int32) + (p1 &&& (3 : Int32))))])) _
      refine XS.istore X0.here hx rfl (hb hby at_5) rfl (l' := #[.val (.int p1), .val (.long q2), .second, .val (.long q3), .second, .val (.long q4), .second, .val (.long q5), .second, .val (.long q6), .second, .val (.int ((1 : Int32) + (p1 &&& (3 : Int32)))), .unset, .unset, .unset, .unset, .unset, .unset, .unset, .unset]) rfl ?_
      exact k)
  obtain ⟨cap, hc1, hc4, hxc⟩ : ∃ cap : Nat, 1 ≤ cap ∧ cap ≤ 4 ∧ ((1 : Int32) + (p1 &&& (3 : Int32))).toInt = cap := by
    have h := c_and p1 (3 : Int32) (by decide)
    rw [show (3 : Int32).toInt = 3 from by decide] at h
    have e := own_addN (x := (1 : Int32)) (y := (p1 &&& (3 : Int32))) (a := 1) (b := (p1 &&& (3 : Int32)).toInt.toNat) (by decide) (by omega) (by omega)
    exact ⟨_, by omega, by omega, e⟩
  obtain ⟨xc, exc⟩ : ∃ z, z = ((1 : Int32) + (p1 &&& (3 : Int32))) := ⟨_, rfl⟩
  rw [← exc] at k141
  rw [← exc] at hxc
  have k142 : ∀ t, Steps p.tables e below (s₁.setTop (mkF m 18 #[.val (.int p1), .val (.long q2), .second, .val (.long q3), .second, .val (.long q4), .second, .val (.long q5), .second, .val (.long q6), .second, .val (.int xc), .val (.int ((((p1.toUInt32 >>> ((2 : Int32) &&& 31).toUInt32).toInt32) &&& (7 : Int32)) % (6 : Int32))), .unset, .unset, .unset, .unset, .unset, .unset, .unset] [])) t → Steps p.tables e below (s₁.setTop (entryFrame m #[(.int p1), (.long q2), (.long q3), (.long q4), (.long q5), (.long q6)] maxLocals)) t := fun t k => k141 t (by
      show Steps p.tables e below (s₁.setTop (mkF m 7 #[.val (.int p1), .val (.long q2), .second, .val (.long q3), .second, .val (.long q4), .second, .val (.long q5), .second, .val (.long q6), .second, .val (.int xc), .unset, .unset, .unset, .unset, .unset, .unset, .unset, .unset] [])) _
      refine XS.iloadN X0.here hx rfl (hb hby at_7) rfl ?_
      show Steps p.tables e below (s₁.setTop (mkF m 8 #[.val (.int p1), .val (.long q2), .second, .val (.long q3), .second, .val (.long q4), .second, .val (.long q5), .second, .val (.long q6), .second, .val (.int xc), .unset, .unset, .unset, .unset, .unset, .unset, .unset, .unset] [(.int p1)])) _
      refine XS.iconst X0.here hx rfl (hb hby at_8) ?_
      show Steps p.tables e below (s₁.setTop (mkF m 9 #[.val (.int p1), .val (.long q2), .second, .val (.long q3), .second, .val (.long q4), .second, .val (.long q5), .second, .val (.long q6), .second, .val (.int xc), .unset, .unset, .unset, .unset, .unset, .unset, .unset, .unset] [(.int (2 : Int32)), (.int p1)])) _
      refine XS.iushr X0.here hx rfl (hb hby at_9) rfl ?_
      show Steps p.tables e below (s₁.setTop (mkF m 10 #[.val (.int p1), .val (.long q2), .second, .val (.long q3), .second, .val (.long q4), .second, .val (.long q5), .second, .val (.long q6), .second, .val (.int xc), .unset, .unset, .unset, .unset, .unset, .unset, .unset, .unset] [(.int ((p1.toUInt32 >>> ((2 : Int32) &&& 31).toUInt32).toInt32))])) _
      refine XS.bipush X0.here hx rfl (hb hby at_10) ?_
      show Steps p.tables e below (s₁.setTop (mkF m 12 #[.val (.int p1), .val (.long q2), .second, .val (.long q3), .second, .val (.long q4), .second, .val (.long q5), .second, .val (.long q6), .second, .val (.int xc), .unset, .unset, .unset, .unset, .unset, .unset, .unset, .unset] [(.int (7 : Int32)), (.int ((p1.toUInt32 >>> ((2 : Int32) &&& 31).toUInt32).toInt32))])) _
      refine XS.iand X0.here hx rfl (hb hby at_12) rfl ?_
      show Steps p.tables e below (s₁.setTop (mkF m 13 #[.val (.int p1), .val (.long q2), .second, .val (.long q3), .second, .val (.long q4), .second, .val (.long q5), .second, .val (.long q6), .second, .val (.int xc), .unset, .unset, .unset, .unset, .unset, .unset, .unset, .unset] [(.int (((p1.toUInt32 >>> ((2 : Int32) &&& 31).toUInt32).toInt32) &&& (7 : Int32)))])) _
      refine XS.bipush X0.here hx rfl (hb hby at_13) ?_
      show Steps p.tables e below (s₁.setTop (mkF m 15 #[.val (.int p1), .val (.long q2), .second, .val (.long q3), .second, .val (.long q4), .second, .val (.long q5), .second, .val (.long q6), .second, .val (.int xc), .unset, .unset, .unset, .unset, .unset, .unset, .unset, .unset] [(.int (6 : Int32)), (.int (((p1.toUInt32 >>> ((2 : Int32) &&& 31).toUInt32).toInt32) &&& (7 : Int32)))])) _
      refine iremM X0 hx rfl (hb hby at_15) rfl (by decide) ?_
      show Steps p.tables e below (s₁.setTop (mkF m 16 #[.val (.int p1), .val (.long q2), .second, .val (.long q3), .second, .val (.long q4), .second, .val (.long q5), .second, .val (.long q6), .second, .val (.int xc), .unset, .unset, .unset, .unset, .unset, .unset, .unset, .unset] [(.int ((((p1.toUInt32 >>> ((2 : Int32) &&& 31).toUInt32).toInt32) &&& (7 : Int32)) % (6 : Int32)))])) _
      refine XS.istore X0.here hx rfl (hb hby at_16) rfl (l' := #[.val (.int p1), .val (.long q2), .second, .val (.long q3), .second, .val (.long q4), .second, .val (.long q5), .second, .val (.long q6), .second, .val (.int xc), .val (.int ((((p1.toUInt32 >>> ((2 : Int32) &&& 31).toUInt32).toInt32) &&& (7 : Int32)) % (6 : Int32))), .unset, .unset, .unset, .unset, .unset, .unset, .unset]) rfl ?_
      exact k)
  obtain ⟨n, hn5, hxn⟩ : ∃ n : Nat, n ≤ 5 ∧ ((((p1.toUInt32 >>> ((2 : Int32) &&& 31).toUInt32).toInt32) &&& (7 : Int32)) % (6 : Int32)).toInt = n := by
    have h := c_and ((p1.toUInt32 >>> ((2 : Int32) &&& 31).toUInt32).toInt32) (7 : Int32) (by decide)
    have e := own_rem (x := (((p1.toUInt32 >>> ((2 : Int32) &&& 31).toUInt32).toInt32) &&& (7 : Int32))) (y := (6 : Int32)) (a := (((p1.toUInt32 >>> ((2 : Int32) &&& 31).toUInt32).toInt32) &&& (7 : Int32)).toInt.toNat) (b := 6) (by omega) (by decide)
    exact ⟨_, by omega, e⟩
  obtain ⟨xn, exn⟩ : ∃ z, z = ((((p1.toUInt32 >>> ((2 : Int32) &&& 31).toUInt32).toInt32) &&& (7 : Int32)) % (6 : Int32)) := ⟨_, rfl⟩
  rw [← exn] at k142
  rw [← exn] at hxn
  have h6 := own_subN (x := (6 : Int32)) (a := 6) (by decide) hxn (by omega)
  have k143 : ∀ t, Steps p.tables e below (s₁.setTop (mkF m 32 #[.val (.int p1), .val (.long q2), .second, .val (.long q3), .second, .val (.long q4), .second, .val (.long q5), .second, .val (.long q6), .second, .val (.int xc), .val (.int xn), .val (.int ((((p1.toUInt32 >>> ((5 : Int32) &&& 31).toUInt32).toInt32) &&& (7 : Int32)) % ((6 : Int32) - xn))), .unset, .unset, .unset, .unset, .unset, .unset] [])) t → Steps p.tables e below (s₁.setTop (entryFrame m #[(.int p1), (.long q2), (.long q3), (.long q4), (.long q5), (.long q6)] maxLocals)) t := fun t k => k142 t (by
      show Steps p.tables e below (s₁.setTop (mkF m 18 #[.val (.int p1), .val (.long q2), .second, .val (.long q3), .second, .val (.long q4), .second, .val (.long q5), .second, .val (.long q6), .second, .val (.int xc), .val (.int xn), .unset, .unset, .unset, .unset, .unset, .unset, .unset] [])) _
      refine XS.iloadN X0.here hx rfl (hb hby at_18) rfl ?_
      show Steps p.tables e below (s₁.setTop (mkF m 19 #[.val (.int p1), .val (.long q2), .second, .val (.long q3), .second, .val (.long q4), .second, .val (.long q5), .second, .val (.long q6), .second, .val (.int xc), .val (.int xn), .unset, .unset, .unset, .unset, .unset, .unset, .unset] [(.int p1)])) _
      refine XS.iconst X0.here hx rfl (hb hby at_19) ?_
      show Steps p.tables e below (s₁.setTop (mkF m 20 #[.val (.int p1), .val (.long q2), .second, .val (.long q3), .second, .val (.long q4), .second, .val (.long q5), .second, .val (.long q6), .second, .val (.int xc), .val (.int xn), .unset, .unset, .unset, .unset, .unset, .unset, .unset] [(.int (5 : Int32)), (.int p1)])) _
      refine XS.iushr X0.here hx rfl (hb hby at_20) rfl ?_
      show Steps p.tables e below (s₁.setTop (mkF m 21 #[.val (.int p1), .val (.long q2), .second, .val (.long q3), .second, .val (.long q4), .second, .val (.long q5), .second, .val (.long q6), .second, .val (.int xc), .val (.int xn), .unset, .unset, .unset, .unset, .unset, .unset, .unset] [(.int ((p1.toUInt32 >>> ((5 : Int32) &&& 31).toUInt32).toInt32))])) _
      refine XS.bipush X0.here hx rfl (hb hby at_21) ?_
      show Steps p.tables e below (s₁.setTop (mkF m 23 #[.val (.int p1), .val (.long q2), .second, .val (.long q3), .second, .val (.long q4), .second, .val (.long q5), .second, .val (.long q6), .second, .val (.int xc), .val (.int xn), .unset, .unset, .unset, .unset, .unset, .unset, .unset] [(.int (7 : Int32)), (.int ((p1.toUInt32 >>> ((5 : Int32) &&& 31).toUInt32).toInt32))])) _
      refine XS.iand X0.here hx rfl (hb hby at_23) rfl ?_
      show Steps p.tables e below (s₁.setTop (mkF m 24 #[.val (.int p1), .val (.long q2), .second, .val (.long q3), .second, .val (.long q4), .second, .val (.long q5), .second, .val (.long q6), .second, .val (.int xc), .val (.int xn), .unset, .unset, .unset, .unset, .unset, .unset, .unset] [(.int (((p1.toUInt32 >>> ((5 : Int32) &&& 31).toUInt32).toInt32) &&& (7 : Int32)))])) _
      refine XS.bipush X0.here hx rfl (hb hby at_24) ?_
      show Steps p.tables e below (s₁.setTop (mkF m 26 #[.val (.int p1), .val (.long q2), .second, .val (.long q3), .second, .val (.long q4), .second, .val (.long q5), .second, .val (.long q6), .second, .val (.int xc), .val (.int xn), .unset, .unset, .unset, .unset, .unset, .unset, .unset] [(.int (6 : Int32)), (.int (((p1.toUInt32 >>> ((5 : Int32) &&& 31).toUInt32).toInt32) &&& (7 : Int32)))])) _
      refine XS.iload X0.here hx rfl (hb hby at_26) rfl ?_
      show Steps p.tables e below (s₁.setTop (mkF m 28 #[.val (.int p1), .val (.long q2), .second, .val (.long q3), .second, .val (.long q4), .second, .val (.long q5), .second, .val (.long q6), .second, .val (.int xc), .val (.int xn), .unset, .unset, .unset, .unset, .unset, .unset, .unset] [(.int xn), (.int (6 : Int32)), (.int (((p1.toUInt32 >>> ((5 : Int32) &&& 31).toUInt32).toInt32) &&& (7 : Int32)))])) _
      refine XS.isub X0.here hx rfl (hb hby at_28) rfl ?_
      show Steps p.tables e below (s₁.setTop (mkF m 29 #[.val (.int p1), .val (.long q2), .second, .val (.long q3), .second, .val (.long q4), .second, .val (.long q5), .second, .val (.long q6), .second, .val (.int xc), .val (.int xn), .unset, .unset, .unset, .unset, .unset, .unset, .unset] [(.int ((6 : Int32) - xn)), (.int (((p1.toUInt32 >>> ((5 : Int32) &&& 31).toUInt32).toInt32) &&& (7 : Int32)))])) _
      refine iremM X0 hx rfl (hb hby at_29) rfl (own_ne0 h6 (by omega)) ?_
      show Steps p.tables e below (s₁.setTop (mkF m 30 #[.val (.int p1), .val (.long q2), .second, .val (.long q3), .second, .val (.long q4), .second, .val (.long q5), .second, .val (.long q6), .second, .val (.int xc), .val (.int xn), .unset, .unset, .unset, .unset, .unset, .unset, .unset] [(.int ((((p1.toUInt32 >>> ((5 : Int32) &&& 31).toUInt32).toInt32) &&& (7 : Int32)) % ((6 : Int32) - xn)))])) _
      refine XS.istore X0.here hx rfl (hb hby at_30) rfl (l' := #[.val (.int p1), .val (.long q2), .second, .val (.long q3), .second, .val (.long q4), .second, .val (.long q5), .second, .val (.long q6), .second, .val (.int xc), .val (.int xn), .val (.int ((((p1.toUInt32 >>> ((5 : Int32) &&& 31).toUInt32).toInt32) &&& (7 : Int32)) % ((6 : Int32) - xn))), .unset, .unset, .unset, .unset, .unset, .unset]) rfl ?_
      exact k)
  obtain ⟨m1, hm5, hxm⟩ : ∃ m1 : Nat, n + m1 ≤ 5 ∧ ((((p1.toUInt32 >>> ((5 : Int32) &&& 31).toUInt32).toInt32) &&& (7 : Int32)) % ((6 : Int32) - xn)).toInt = m1 := by
    have h := c_and ((p1.toUInt32 >>> ((5 : Int32) &&& 31).toUInt32).toInt32) (7 : Int32) (by decide)
    have e := own_rem (x := (((p1.toUInt32 >>> ((5 : Int32) &&& 31).toUInt32).toInt32) &&& (7 : Int32))) (a := (((p1.toUInt32 >>> ((5 : Int32) &&& 31).toUInt32).toInt32) &&& (7 : Int32)).toInt.toNat) (by omega) h6
    have l := Nat.mod_lt ((((p1.toUInt32 >>> ((5 : Int32) &&& 31).toUInt32).toInt32) &&& (7 : Int32)).toInt.toNat) (show 0 < 6 - n by omega)
    exact ⟨_, by omega, e⟩
  obtain ⟨xm, exm⟩ : ∃ z, z = ((((p1.toUInt32 >>> ((5 : Int32) &&& 31).toUInt32).toInt32) &&& (7 : Int32)) % ((6 : Int32) - xn)) := ⟨_, rfl⟩
  rw [← exm] at k143
  rw [← exm] at hxm
  have k144 : ∀ t, Steps p.tables e below (s₁.setTop (mkF m 39 #[.val (.int p1), .val (.long q2), .second, .val (.long q3), .second, .val (.long q4), .second, .val (.long q5), .second, .val (.long q6), .second, .val (.int xc), .val (.int xn), .val (.int xm), .val (.int (xn + xm)), .unset, .unset, .unset, .unset, .unset] [])) t → Steps p.tables e below (s₁.setTop (entryFrame m #[(.int p1), (.long q2), (.long q3), (.long q4), (.long q5), (.long q6)] maxLocals)) t := fun t k => k143 t (by
      show Steps p.tables e below (s₁.setTop (mkF m 32 #[.val (.int p1), .val (.long q2), .second, .val (.long q3), .second, .val (.long q4), .second, .val (.long q5), .second, .val (.long q6), .second, .val (.int xc), .val (.int xn), .val (.int xm), .unset, .unset, .unset, .unset, .unset, .unset] [])) _
      refine XS.iload X0.here hx rfl (hb hby at_32) rfl ?_
      show Steps p.tables e below (s₁.setTop (mkF m 34 #[.val (.int p1), .val (.long q2), .second, .val (.long q3), .second, .val (.long q4), .second, .val (.long q5), .second, .val (.long q6), .second, .val (.int xc), .val (.int xn), .val (.int xm), .unset, .unset, .unset, .unset, .unset, .unset] [(.int xn)])) _
      refine XS.iload X0.here hx rfl (hb hby at_34) rfl ?_
      show Steps p.tables e below (s₁.setTop (mkF m 36 #[.val (.int p1), .val (.long q2), .second, .val (.long q3), .second, .val (.long q4), .second, .val (.long q5), .second, .val (.long q6), .second, .val (.int xc), .val (.int xn), .val (.int xm), .unset, .unset, .unset, .unset, .unset, .unset] [(.int xm), (.int xn)])) _
      refine XS.iadd X0.here hx rfl (hb hby at_36) rfl ?_
      show Steps p.tables e below (s₁.setTop (mkF m 37 #[.val (.int p1), .val (.long q2), .second, .val (.long q3), .second, .val (.long q4), .second, .val (.long q5), .second, .val (.long q6), .second, .val (.int xc), .val (.int xn), .val (.int xm), .unset, .unset, .unset, .unset, .unset, .unset] [(.int (xn + xm))])) _
      refine XS.istore X0.here hx rfl (hb hby at_37) rfl (l' := #[.val (.int p1), .val (.long q2), .second, .val (.long q3), .second, .val (.long q4), .second, .val (.long q5), .second, .val (.long q6), .second, .val (.int xc), .val (.int xn), .val (.int xm), .val (.int (xn + xm)), .unset, .unset, .unset, .unset, .unset]) rfl ?_
      exact k)
  have hxt := own_addN hxn hxm (by omega)
  obtain ⟨xt, ext⟩ : ∃ z, z = (xn + xm) := ⟨_, rfl⟩
  rw [← ext] at k144
  rw [← ext] at hxt
  obtain ⟨tot, etot⟩ : ∃ z, z = n + m1 := ⟨_, rfl⟩
  rw [← etot] at hxt
  have k145 : ∀ t, Steps p.tables e below (s₁.setTop (mkF m 40 #[.val (.int p1), .val (.long q2), .second, .val (.long q3), .second, .val (.long q4), .second, .val (.long q5), .second, .val (.long q6), .second, .val (.int xc), .val (.int xn), .val (.int xm), .val (.int xt), .unset, .unset, .unset, .unset, .unset] [(.int (5 : Int32))])) t → Steps p.tables e below (s₁.setTop (entryFrame m #[(.int p1), (.long q2), (.long q3), (.long q4), (.long q5), (.long q6)] maxLocals)) t := fun t k => k144 t (by
      show Steps p.tables e below (s₁.setTop (mkF m 39 #[.val (.int p1), .val (.long q2), .second, .val (.long q3), .second, .val (.long q4), .second, .val (.long q5), .second, .val (.long q6), .second, .val (.int xc), .val (.int xn), .val (.int xm), .val (.int xt), .unset, .unset, .unset, .unset, .unset] [])) _
      refine XS.iconst X0.here hx rfl (hb hby at_39) ?_
      exact k)
  obtain ⟨T146, h146, c146, X146, e146, E146, A146, st146⟩ := newP X0 hx hZ (hw _ (List.mem_of_getElem? (i := 0) rfl)) e0 (g := (mkF m 40 #[.val (.int p1), .val (.long q2), .second, .val (.long q3), .second, .val (.long q4), .second, .val (.long q5), .second, .val (.long q6), .second, .val (.int xc), .val (.int xn), .val (.int xm), .val (.int xt), .unset, .unset, .unset, .unset, .unset] [(.int (5 : Int32))])) rfl (hb hby at_40) rfl (by decide) (cap := 5) (by decide) (by decide) (by decide) (by decide)
  obtain ⟨b146, g146⟩ : ∃ z, z = h0.size := ⟨_, rfl⟩
  rw [← g146] at A146 st146
  have k147 : ∀ t, Steps p.tables e below (T146.setTop (mkF m 42 #[.val (.int p1), .val (.long q2), .second, .val (.long q3), .second, .val (.long q4), .second, .val (.long q5), .second, .val (.long q6), .second, .val (.int xc), .val (.int xn), .val (.int xm), .val (.int xt), .unset, .unset, .unset, .unset, .unset] [(.ref b146)])) t → Steps p.tables e below (s₁.setTop (entryFrame m #[(.int p1), (.long q2), (.long q3), (.long q4), (.long q5), (.long q6)] maxLocals)) t := fun t k => k145 t (st146 t k)
  have V0 := (Av.new A146 (N := 5) (by decide)).congr (g' := fun _ => .long (0 : Int64)) (fun _ _ => rfl)
  have gv : n0 ≤ b146 := Nat.le_trans Z0 (Nat.le_of_eq g146.symm)
  have Zv : n0 ≤ h146.size := Nat.le_trans Z0 E146.1
  have k148 : ∀ t, Steps p.tables e below (T146.setTop (mkF m 45 #[.val (.int p1), .val (.long q2), .second, .val (.long q3), .second, .val (.long q4), .second, .val (.long q5), .second, .val (.long q6), .second, .val (.int xc), .val (.int xn), .val (.int xm), .val (.int xt), .unset, .unset, .unset, .unset, .unset] [(.long q2), (.int (0 : Int32)), (.ref b146), (.ref b146)])) t → Steps p.tables e below (s₁.setTop (entryFrame m #[(.int p1), (.long q2), (.long q3), (.long q4), (.long q5), (.long q6)] maxLocals)) t := fun t k => k147 t (by
      show Steps p.tables e below (T146.setTop (mkF m 42 #[.val (.int p1), .val (.long q2), .second, .val (.long q3), .second, .val (.long q4), .second, .val (.long q5), .second, .val (.long q6), .second, .val (.int xc), .val (.int xn), .val (.int xm), .val (.int xt), .unset, .unset, .unset, .unset, .unset] [(.ref b146)])) _
      refine XS.dup X146.here hx rfl (hb hby at_42) rfl rfl ?_
      show Steps p.tables e below (T146.setTop (mkF m 43 #[.val (.int p1), .val (.long q2), .second, .val (.long q3), .second, .val (.long q4), .second, .val (.long q5), .second, .val (.long q6), .second, .val (.int xc), .val (.int xn), .val (.int xm), .val (.int xt), .unset, .unset, .unset, .unset, .unset] [(.ref b146), (.ref b146)])) _
      refine XS.iconst X146.here hx rfl (hb hby at_43) ?_
      show Steps p.tables e below (T146.setTop (mkF m 44 #[.val (.int p1), .val (.long q2), .second, .val (.long q3), .second, .val (.long q4), .second, .val (.long q5), .second, .val (.long q6), .second, .val (.int xc), .val (.int xn), .val (.int xm), .val (.int xt), .unset, .unset, .unset, .unset, .unset] [(.int (0 : Int32)), (.ref b146), (.ref b146)])) _
      refine XS.lloadN X146.here hx rfl (hb hby at_44) rfl ?_
      exact k)
  obtain ⟨cl0, Ar0, S0, G0⟩ := V0
  obtain ⟨T149, h149, X149, e149, W149, st149⟩ := stJ X146 hx hZ e146 Ar0 (j := (0 : Int32)) (own_hin S0 (i := 0) (by decide) (by decide)) (g := (mkF m 45 #[.val (.int p1), .val (.long q2), .second, .val (.long q3), .second, .val (.long q4), .second, .val (.long q5), .second, .val (.long q6), .second, .val (.int xc), .val (.int xn), .val (.int xm), .val (.int xt), .unset, .unset, .unset, .unset, .unset] [(.long q2), (.int (0 : Int32)), (.ref b146), (.ref b146)])) rfl rfl (hb hby at_45)
  have N149 := Fr.snoc X149 N0 gv
  have k150 : ∀ t, Steps p.tables e below (T149.setTop (mkF m 46 #[.val (.int p1), .val (.long q2), .second, .val (.long q3), .second, .val (.long q4), .second, .val (.long q5), .second, .val (.long q6), .second, .val (.int xc), .val (.int xn), .val (.int xm), .val (.int xt), .unset, .unset, .unset, .unset, .unset] [(.ref b146)])) t → Steps p.tables e below (s₁.setTop (entryFrame m #[(.int p1), (.long q2), (.long q3), (.long q4), (.long q5), (.long q6)] maxLocals)) t := fun t k => k148 t (st149 t k)
  have V1 := Av.set Ar0 S0 G0 (i := 0) (by decide) W149
  have Zv : n0 ≤ h149.size := Nat.le_trans Zv (Keep.of_wr W149).1
  have k151 : ∀ t, Steps p.tables e below (T149.setTop (mkF m 49 #[.val (.int p1), .val (.long q2), .second, .val (.long q3), .second, .val (.long q4), .second, .val (.long q5), .second, .val (.long q6), .second, .val (.int xc), .val (.int xn), .val (.int xm), .val (.int xt), .unset, .unset, .unset, .unset, .unset] [(.long q3), (.int (1 : Int32)), (.ref b146), (.ref b146)])) t → Steps p.tables e below (s₁.setTop (entryFrame m #[(.int p1), (.long q2), (.long q3), (.long q4), (.long q5), (.long q6)] maxLocals)) t := fun t k => k150 t (by
      show Steps p.tables e below (T149.setTop (mkF m 46 #[.val (.int p1), .val (.long q2), .second, .val (.long q3), .second, .val (.long q4), .second, .val (.long q5), .second, .val (.long q6), .second, .val (.int xc), .val (.int xn), .val (.int xm), .val (.int xt), .unset, .unset, .unset, .unset, .unset] [(.ref b146)])) _
      refine XS.dup X149.here hx rfl (hb hby at_46) rfl rfl ?_
      show Steps p.tables e below (T149.setTop (mkF m 47 #[.val (.int p1), .val (.long q2), .second, .val (.long q3), .second, .val (.long q4), .second, .val (.long q5), .second, .val (.long q6), .second, .val (.int xc), .val (.int xn), .val (.int xm), .val (.int xt), .unset, .unset, .unset, .unset, .unset] [(.ref b146), (.ref b146)])) _
      refine XS.iconst X149.here hx rfl (hb hby at_47) ?_
      show Steps p.tables e below (T149.setTop (mkF m 48 #[.val (.int p1), .val (.long q2), .second, .val (.long q3), .second, .val (.long q4), .second, .val (.long q5), .second, .val (.long q6), .second, .val (.int xc), .val (.int xn), .val (.int xm), .val (.int xt), .unset, .unset, .unset, .unset, .unset] [(.int (1 : Int32)), (.ref b146), (.ref b146)])) _
      refine XS.lloadN X149.here hx rfl (hb hby at_48) rfl ?_
      exact k)
  obtain ⟨cl1, Ar1, S1, G1⟩ := V1
  obtain ⟨T152, h152, X152, e152, W152, st152⟩ := stJ X149 hx hZ e149 Ar1 (j := (1 : Int32)) (own_hin S1 (i := 1) (by decide) (by decide)) (g := (mkF m 49 #[.val (.int p1), .val (.long q2), .second, .val (.long q3), .second, .val (.long q4), .second, .val (.long q5), .second, .val (.long q6), .second, .val (.int xc), .val (.int xn), .val (.int xm), .val (.int xt), .unset, .unset, .unset, .unset, .unset] [(.long q3), (.int (1 : Int32)), (.ref b146), (.ref b146)])) rfl rfl (hb hby at_49)
  have N152 := Fr.snoc X152 N149 gv
  have k153 : ∀ t, Steps p.tables e below (T152.setTop (mkF m 50 #[.val (.int p1), .val (.long q2), .second, .val (.long q3), .second, .val (.long q4), .second, .val (.long q5), .second, .val (.long q6), .second, .val (.int xc), .val (.int xn), .val (.int xm), .val (.int xt), .unset, .unset, .unset, .unset, .unset] [(.ref b146)])) t → Steps p.tables e below (s₁.setTop (entryFrame m #[(.int p1), (.long q2), (.long q3), (.long q4), (.long q5), (.long q6)] maxLocals)) t := fun t k => k151 t (st152 t k)
  have V2 := Av.set Ar1 S1 G1 (i := 1) (by decide) W152
  have Zv : n0 ≤ h152.size := Nat.le_trans Zv (Keep.of_wr W152).1
  have k154 : ∀ t, Steps p.tables e below (T152.setTop (mkF m 54 #[.val (.int p1), .val (.long q2), .second, .val (.long q3), .second, .val (.long q4), .second, .val (.long q5), .second, .val (.long q6), .second, .val (.int xc), .val (.int xn), .val (.int xm), .val (.int xt), .unset, .unset, .unset, .unset, .unset] [(.long q4), (.int (2 : Int32)), (.ref b146), (.ref b146)])) t → Steps p.tables e below (s₁.setTop (entryFrame m #[(.int p1), (.long q2), (.long q3), (.long q4), (.long q5), (.long q6)] maxLocals)) t := fun t k => k153 t (by
      show Steps p.tables e below (T152.setTop (mkF m 50 #[.val (.int p1), .val (.long q2), .second, .val (.long q3), .second, .val (.long q4), .second, .val (.long q5), .second, .val (.long q6), .second, .val (.int xc), .val (.int xn), .val (.int xm), .val (.int xt), .unset, .unset, .unset, .unset, .unset] [(.ref b146)])) _
      refine XS.dup X152.here hx rfl (hb hby at_50) rfl rfl ?_
      show Steps p.tables e below (T152.setTop (mkF m 51 #[.val (.int p1), .val (.long q2), .second, .val (.long q3), .second, .val (.long q4), .second, .val (.long q5), .second, .val (.long q6), .second, .val (.int xc), .val (.int xn), .val (.int xm), .val (.int xt), .unset, .unset, .unset, .unset, .unset] [(.ref b146), (.ref b146)])) _
      refine XS.iconst X152.here hx rfl (hb hby at_51) ?_
      show Steps p.tables e below (T152.setTop (mkF m 52 #[.val (.int p1), .val (.long q2), .second, .val (.long q3), .second, .val (.long q4), .second, .val (.long q5), .second, .val (.long q6), .second, .val (.int xc), .val (.int xn), .val (.int xm), .val (.int xt), .unset, .unset, .unset, .unset, .unset] [(.int (2 : Int32)), (.ref b146), (.ref b146)])) _
      refine XS.lload X152.here hx rfl (hb hby at_52) rfl ?_
      exact k)
  obtain ⟨cl2, Ar2, S2, G2⟩ := V2
  obtain ⟨T155, h155, X155, e155, W155, st155⟩ := stJ X152 hx hZ e152 Ar2 (j := (2 : Int32)) (own_hin S2 (i := 2) (by decide) (by decide)) (g := (mkF m 54 #[.val (.int p1), .val (.long q2), .second, .val (.long q3), .second, .val (.long q4), .second, .val (.long q5), .second, .val (.long q6), .second, .val (.int xc), .val (.int xn), .val (.int xm), .val (.int xt), .unset, .unset, .unset, .unset, .unset] [(.long q4), (.int (2 : Int32)), (.ref b146), (.ref b146)])) rfl rfl (hb hby at_54)
  have N155 := Fr.snoc X155 N152 gv
  have k156 : ∀ t, Steps p.tables e below (T155.setTop (mkF m 55 #[.val (.int p1), .val (.long q2), .second, .val (.long q3), .second, .val (.long q4), .second, .val (.long q5), .second, .val (.long q6), .second, .val (.int xc), .val (.int xn), .val (.int xm), .val (.int xt), .unset, .unset, .unset, .unset, .unset] [(.ref b146)])) t → Steps p.tables e below (s₁.setTop (entryFrame m #[(.int p1), (.long q2), (.long q3), (.long q4), (.long q5), (.long q6)] maxLocals)) t := fun t k => k154 t (st155 t k)
  have V3 := Av.set Ar2 S2 G2 (i := 2) (by decide) W155
  have Zv : n0 ≤ h155.size := Nat.le_trans Zv (Keep.of_wr W155).1
  have k157 : ∀ t, Steps p.tables e below (T155.setTop (mkF m 59 #[.val (.int p1), .val (.long q2), .second, .val (.long q3), .second, .val (.long q4), .second, .val (.long q5), .second, .val (.long q6), .second, .val (.int xc), .val (.int xn), .val (.int xm), .val (.int xt), .unset, .unset, .unset, .unset, .unset] [(.long q5), (.int (3 : Int32)), (.ref b146), (.ref b146)])) t → Steps p.tables e below (s₁.setTop (entryFrame m #[(.int p1), (.long q2), (.long q3), (.long q4), (.long q5), (.long q6)] maxLocals)) t := fun t k => k156 t (by
      show Steps p.tables e below (T155.setTop (mkF m 55 #[.val (.int p1), .val (.long q2), .second, .val (.long q3), .second, .val (.long q4), .second, .val (.long q5), .second, .val (.long q6), .second, .val (.int xc), .val (.int xn), .val (.int xm), .val (.int xt), .unset, .unset, .unset, .unset, .unset] [(.ref b146)])) _
      refine XS.dup X155.here hx rfl (hb hby at_55) rfl rfl ?_
      show Steps p.tables e below (T155.setTop (mkF m 56 #[.val (.int p1), .val (.long q2), .second, .val (.long q3), .second, .val (.long q4), .second, .val (.long q5), .second, .val (.long q6), .second, .val (.int xc), .val (.int xn), .val (.int xm), .val (.int xt), .unset, .unset, .unset, .unset, .unset] [(.ref b146), (.ref b146)])) _
      refine XS.iconst X155.here hx rfl (hb hby at_56) ?_
      show Steps p.tables e below (T155.setTop (mkF m 57 #[.val (.int p1), .val (.long q2), .second, .val (.long q3), .second, .val (.long q4), .second, .val (.long q5), .second, .val (.long q6), .second, .val (.int xc), .val (.int xn), .val (.int xm), .val (.int xt), .unset, .unset, .unset, .unset, .unset] [(.int (3 : Int32)), (.ref b146), (.ref b146)])) _
      refine XS.lload X155.here hx rfl (hb hby at_57) rfl ?_
      exact k)
  obtain ⟨cl3, Ar3, S3, G3⟩ := V3
  obtain ⟨T158, h158, X158, e158, W158, st158⟩ := stJ X155 hx hZ e155 Ar3 (j := (3 : Int32)) (own_hin S3 (i := 3) (by decide) (by decide)) (g := (mkF m 59 #[.val (.int p1), .val (.long q2), .second, .val (.long q3), .second, .val (.long q4), .second, .val (.long q5), .second, .val (.long q6), .second, .val (.int xc), .val (.int xn), .val (.int xm), .val (.int xt), .unset, .unset, .unset, .unset, .unset] [(.long q5), (.int (3 : Int32)), (.ref b146), (.ref b146)])) rfl rfl (hb hby at_59)
  have N158 := Fr.snoc X158 N155 gv
  have k159 : ∀ t, Steps p.tables e below (T158.setTop (mkF m 60 #[.val (.int p1), .val (.long q2), .second, .val (.long q3), .second, .val (.long q4), .second, .val (.long q5), .second, .val (.long q6), .second, .val (.int xc), .val (.int xn), .val (.int xm), .val (.int xt), .unset, .unset, .unset, .unset, .unset] [(.ref b146)])) t → Steps p.tables e below (s₁.setTop (entryFrame m #[(.int p1), (.long q2), (.long q3), (.long q4), (.long q5), (.long q6)] maxLocals)) t := fun t k => k157 t (st158 t k)
  have V4 := Av.set Ar3 S3 G3 (i := 3) (by decide) W158
  have Zv : n0 ≤ h158.size := Nat.le_trans Zv (Keep.of_wr W158).1
  have k160 : ∀ t, Steps p.tables e below (T158.setTop (mkF m 64 #[.val (.int p1), .val (.long q2), .second, .val (.long q3), .second, .val (.long q4), .second, .val (.long q5), .second, .val (.long q6), .second, .val (.int xc), .val (.int xn), .val (.int xm), .val (.int xt), .unset, .unset, .unset, .unset, .unset] [(.long q6), (.int (4 : Int32)), (.ref b146), (.ref b146)])) t → Steps p.tables e below (s₁.setTop (entryFrame m #[(.int p1), (.long q2), (.long q3), (.long q4), (.long q5), (.long q6)] maxLocals)) t := fun t k => k159 t (by
      show Steps p.tables e below (T158.setTop (mkF m 60 #[.val (.int p1), .val (.long q2), .second, .val (.long q3), .second, .val (.long q4), .second, .val (.long q5), .second, .val (.long q6), .second, .val (.int xc), .val (.int xn), .val (.int xm), .val (.int xt), .unset, .unset, .unset, .unset, .unset] [(.ref b146)])) _
      refine XS.dup X158.here hx rfl (hb hby at_60) rfl rfl ?_
      show Steps p.tables e below (T158.setTop (mkF m 61 #[.val (.int p1), .val (.long q2), .second, .val (.long q3), .second, .val (.long q4), .second, .val (.long q5), .second, .val (.long q6), .second, .val (.int xc), .val (.int xn), .val (.int xm), .val (.int xt), .unset, .unset, .unset, .unset, .unset] [(.ref b146), (.ref b146)])) _
      refine XS.iconst X158.here hx rfl (hb hby at_61) ?_
      show Steps p.tables e below (T158.setTop (mkF m 62 #[.val (.int p1), .val (.long q2), .second, .val (.long q3), .second, .val (.long q4), .second, .val (.long q5), .second, .val (.long q6), .second, .val (.int xc), .val (.int xn), .val (.int xm), .val (.int xt), .unset, .unset, .unset, .unset, .unset] [(.int (4 : Int32)), (.ref b146), (.ref b146)])) _
      refine XS.lload X158.here hx rfl (hb hby at_62) rfl ?_
      exact k)
  obtain ⟨cl4, Ar4, S4, G4⟩ := V4
  obtain ⟨T161, h161, X161, e161, W161, st161⟩ := stJ X158 hx hZ e158 Ar4 (j := (4 : Int32)) (own_hin S4 (i := 4) (by decide) (by decide)) (g := (mkF m 64 #[.val (.int p1), .val (.long q2), .second, .val (.long q3), .second, .val (.long q4), .second, .val (.long q5), .second, .val (.long q6), .second, .val (.int xc), .val (.int xn), .val (.int xm), .val (.int xt), .unset, .unset, .unset, .unset, .unset] [(.long q6), (.int (4 : Int32)), (.ref b146), (.ref b146)])) rfl rfl (hb hby at_64)
  have N161 := Fr.snoc X161 N158 gv
  have k162 : ∀ t, Steps p.tables e below (T161.setTop (mkF m 65 #[.val (.int p1), .val (.long q2), .second, .val (.long q3), .second, .val (.long q4), .second, .val (.long q5), .second, .val (.long q6), .second, .val (.int xc), .val (.int xn), .val (.int xm), .val (.int xt), .unset, .unset, .unset, .unset, .unset] [(.ref b146)])) t → Steps p.tables e below (s₁.setTop (entryFrame m #[(.int p1), (.long q2), (.long q3), (.long q4), (.long q5), (.long q6)] maxLocals)) t := fun t k => k160 t (st161 t k)
  have V5 := Av.set Ar4 S4 G4 (i := 4) (by decide) W161
  have Zv : n0 ≤ h161.size := Nat.le_trans Zv (Keep.of_wr W161).1
  obtain ⟨seq, eseq⟩ : ∃ z, z = own_seq q2 q3 q4 q5 q6 := ⟨_, rfl⟩
  have Vv : Av Z h161 b146 .long 5 (fun j => .long (seq j)) := V5.congr (fun j _ => by rw [eseq]; dsimp only [own_seq]; (repeat' split) <;> rfl)
  have k163 : ∀ t, Steps p.tables e below (T161.setTop (mkF m 67 #[.val (.int p1), .val (.long q2), .second, .val (.long q3), .second, .val (.long q4), .second, .val (.long q5), .second, .val (.long q6), .second, .val (.int xc), .val (.int xn), .val (.int xm), .val (.int xt), .val (.ref b146), .unset, .unset, .unset, .unset] [])) t → Steps p.tables e below (s₁.setTop (entryFrame m #[(.int p1), (.long q2), (.long q3), (.long q4), (.long q5), (.long q6)] maxLocals)) t := fun t k => k162 t (by
      show Steps p.tables e below (T161.setTop (mkF m 65 #[.val (.int p1), .val (.long q2), .second, .val (.long q3), .second, .val (.long q4), .second, .val (.long q5), .second, .val (.long q6), .second, .val (.int xc), .val (.int xn), .val (.int xm), .val (.int xt), .unset, .unset, .unset, .unset, .unset] [(.ref b146)])) _
      refine XS.astore X161.here hx rfl (hb hby at_65) rfl rfl (l' := #[.val (.int p1), .val (.long q2), .second, .val (.long q3), .second, .val (.long q4), .second, .val (.long q5), .second, .val (.long q6), .second, .val (.int xc), .val (.int xn), .val (.int xm), .val (.int xt), .val (.ref b146), .unset, .unset, .unset, .unset]) rfl ?_
      exact k)
  obtain ⟨T164, h164, X164, e164, E164, A164, D164, -, st164⟩ := newO X161 hx hZ hown (hw _ (List.mem_of_getElem? (i := 1) rfl)) (hw _ (List.mem_of_getElem? (i := 2) rfl)) (hw _ (List.mem_of_getElem? (i := 3) rfl)) e161 (g := (mkF m 67 #[.val (.int p1), .val (.long q2), .second, .val (.long q3), .second, .val (.long q4), .second, .val (.long q5), .second, .val (.long q6), .second, .val (.int xc), .val (.int xn), .val (.int xm), .val (.int xt), .val (.ref b146), .unset, .unset, .unset, .unset] [])) rfl (hb hby at_67) (by decide) (by decide)
  obtain ⟨b164, g164⟩ : ∃ z, z = h161.size := ⟨_, rfl⟩
  rw [← g164] at A164 D164 st164
  have F164_capacity : Fld Z h164 b164 "com/example/upya/upya/policy/LongRing" "capacity" "I" (.int (0 : Int32)) := D164 (Or.inr (hw _ (List.mem_of_getElem? (i := 11) rfl))) (ty := .int) (by decide)
  have F164_values : Fld Z h164 b164 "com/example/upya/upya/policy/LongRing" "values" "[J" .null := D164 (Or.inl (hw _ (List.mem_of_getElem? (i := 17) rfl))) (ty := (.array .long)) (by decide)
  have F164_size : Fld Z h164 b164 "com/example/upya/upya/policy/LongRing" "size" "I" (.int (0 : Int32)) := D164 (Or.inl (hw _ (List.mem_of_getElem? (i := 28) rfl))) (ty := .int) (by decide)
  have F164_head : Fld Z h164 b164 "com/example/upya/upya/policy/LongRing" "head" "I" (.int (0 : Int32)) := D164 (Or.inl (hw _ (List.mem_of_getElem? (i := 47) rfl))) (ty := .int) (by decide)
  have k165 : ∀ t, Steps p.tables e below (T164.setTop (mkF m 70 #[.val (.int p1), .val (.long q2), .second, .val (.long q3), .second, .val (.long q4), .second, .val (.long q5), .second, .val (.long q6), .second, .val (.int xc), .val (.int xn), .val (.int xm), .val (.int xt), .val (.ref b146), .unset, .unset, .unset, .unset] [(.ref b164)])) t → Steps p.tables e below (s₁.setTop (entryFrame m #[(.int p1), (.long q2), (.long q3), (.long q4), (.long q5), (.long q6)] maxLocals)) t := fun t k => k163 t (st164 t k)
  have Za : n0 ≤ h164.size := Nat.le_trans Zv E164.1
  have ge : n0 ≤ b164 := Nat.le_trans Zv (Nat.le_of_eq g164.symm)
  have nv1 : b146 ≠ b164 := Nat.ne_of_lt (g164 ▸ Vv.lt)
  have Vv := Vv.ext E164
  have k166 : ∀ t, Steps p.tables e below (T164.setTop (mkF m 73 #[.val (.int p1), .val (.long q2), .second, .val (.long q3), .second, .val (.long q4), .second, .val (.long q5), .second, .val (.long q6), .second, .val (.int xc), .val (.int xn), .val (.int xm), .val (.int xt), .val (.ref b146), .unset, .unset, .unset, .unset] [(.int xc), (.ref b164), (.ref b164)])) t → Steps p.tables e below (s₁.setTop (entryFrame m #[(.int p1), (.long q2), (.long q3), (.long q4), (.long q5), (.long q6)] maxLocals)) t := fun t k => k165 t (by
      show Steps p.tables e below (T164.setTop (mkF m 70 #[.val (.int p1), .val (.long q2), .second, .val (.long q3), .second, .val (.long q4), .second, .val (.long q5), .second, .val (.long q6), .second, .val (.int xc), .val (.int xn), .val (.int xm), .val (.int xt), .val (.ref b146), .unset, .unset, .unset, .unset] [(.ref b164)])) _
      refine XS.dup X164.here hx rfl (hb hby at_70) rfl rfl ?_
      show Steps p.tables e below (T164.setTop (mkF m 71 #[.val (.int p1), .val (.long q2), .second, .val (.long q3), .second, .val (.long q4), .second, .val (.long q5), .second, .val (.long q6), .second, .val (.int xc), .val (.int xn), .val (.int xm), .val (.int xt), .val (.ref b146), .unset, .unset, .unset, .unset] [(.ref b164), (.ref b164)])) _
      refine XS.iload X164.here hx rfl (hb hby at_71) rfl ?_
      exact k)
  obtain ⟨_, _, ⟨T167, L167, c167, n167⟩, -, X167, ⟨Lc167, hQ167, l167, y167, z167⟩, st167⟩ := X164.specialBack hx (y := (⟨"com/example/upya/upya/policy/LongRing", "<init>", "(I)V"⟩ : MethodName)) rfl hown (mvT hZ (hw _ (List.mem_of_getElem? (i := 4) rfl))) (mvT hZ (hw _ (List.mem_of_getElem? (i := 5) rfl))) (mvT hZ (hw _ (List.mem_of_getElem? (i := 6) rfl))) (by decide) (backOf (W := 1) (rm1 l Z a0 hw [] b164 xc cap seq h164 n0 Za A164 F164_capacity F164_values F164_head F164_size ge hxc hc1 hc4) hZ (hw _ (List.mem_of_getElem? (i := 6) rfl)) (hw _ (List.mem_of_getElem? (i := 3) rfl)) (by decide) (by decide)) (g := (mkF m 73 #[.val (.int p1), .val (.long q2), .second, .val (.long q3), .second, .val (.long q4), .second, .val (.long q5), .second, .val (.long q6), .second, .val (.int xc), .val (.int xn), .val (.int xm), .val (.int xt), .val (.ref b146), .unset, .unset, .unset, .unset] [(.int xc), (.ref b164), (.ref b164)])) rfl (by rw [hml]; rfl) (Steps.refl _) (a := b164) (argsL := [(.int xc)]) (rest := [(.ref b164)]) (lenOf own_pd0 rfl) rfl (by show 2 * 0 + _ ≤ _; exact Nat.le_of_eq rfl) (hb hby at_73) (fun _ _ => ⟨rfl, e164, (by decide : 2 + 1 ≤ _), (by decide : 9 + 16 ≤ _)⟩)
  dsimp only [Pt.U, Pt.locs, Pt.cells, Pt.slots] at X167 l167 y167 z167 st167 hQ167
  subst l167 y167 z167
  obtain ⟨rfl, N167q, Ka, bb, gb, sb, nb, R⟩ := hQ167
  have N167 := Fr.app N161 N167q
  have k168 : ∀ t, Steps p.tables e below (T167.setTop (mkF m 76 #[.val (.int p1), .val (.long q2), .second, .val (.long q3), .second, .val (.long q4), .second, .val (.long q5), .second, .val (.long q6), .second, .val (.int xc), .val (.int xn), .val (.int xm), .val (.int xt), .val (.ref b146), .unset, .unset, .unset, .unset] [(.ref b164)])) t → Steps p.tables e below (s₁.setTop (entryFrame m #[(.int p1), (.long q2), (.long q3), (.long q4), (.long q5), (.long q6)] maxLocals)) t := fun t k => k166 t (st167.trans k)
  have nv2 : b146 ≠ bb := Nat.ne_of_lt (Nat.lt_of_lt_of_le Vv.lt sb)
  have Vv := Vv.keep Ka (own_ni1 nv1)
  have Zb : n0 ≤ T167.heap.size := Nat.le_trans Za Ka.1
  have nv := own_ni2 nv1 nv2
  have hs0 : 0 ≤ cap := Nat.zero_le _
  have ht0 : 0 ≤ 0 := Nat.le_refl _
  obtain ⟨s0, es0⟩ : ∃ z : Nat, z = 0 := ⟨_, rfl⟩
  obtain ⟨t0, et0⟩ : ∃ z : Nat, z = min 0 tot := ⟨_, rfl⟩
  have R0 : RS Z T167.heap b164 bb xc cap s0 t0 seq := by rw [es0, et0, Nat.zero_min]; exact R
  have hs0 : s0 ≤ cap := by omega
  have k169 : ∀ t, Steps p.tables e below (T167.setTop (mkF m 87 #[.val (.int p1), .val (.long q2), .second, .val (.long q3), .second, .val (.long q4), .second, .val (.long q5), .second, .val (.long q6), .second, .val (.int xc), .val (.int xn), .val (.int xm), .val (.int xt), .val (.ref b146), .val (.ref b164), .unset, .unset, .unset] [(.ref b146), (.int xt), (.int xn), (.int (0 : Int32)), (.ref b164)])) t → Steps p.tables e below (s₁.setTop (entryFrame m #[(.int p1), (.long q2), (.long q3), (.long q4), (.long q5), (.long q6)] maxLocals)) t := fun t k => k168 t (by
      show Steps p.tables e below (T167.setTop (mkF m 76 #[.val (.int p1), .val (.long q2), .second, .val (.long q3), .second, .val (.long q4), .second, .val (.long q5), .second, .val (.long q6), .second, .val (.int xc), .val (.int xn), .val (.int xm), .val (.int xt), .val (.ref b146), .unset, .unset, .unset, .unset] [(.ref b164)])) _
      refine XS.astore X167.here hx rfl (hb hby at_76) rfl rfl (l' := #[.val (.int p1), .val (.long q2), .second, .val (.long q3), .second, .val (.long q4), .second, .val (.long q5), .second, .val (.long q6), .second, .val (.int xc), .val (.int xn), .val (.int xm), .val (.int xt), .val (.ref b146), .val (.ref b164), .unset, .unset, .unset]) rfl ?_
      show Steps p.tables e below (T167.setTop (mkF m 78 #[.val (.int p1), .val (.long q2), .second, .val (.long q3), .second, .val (.long q4), .second, .val (.long q5), .second, .val (.long q6), .second, .val (.int xc), .val (.int xn), .val (.int xm), .val (.int xt), .val (.ref b146), .val (.ref b164), .unset, .unset, .unset] [])) _
      refine XS.aload X167.here hx rfl (hb hby at_78) rfl rfl ?_
      show Steps p.tables e below (T167.setTop (mkF m 80 #[.val (.int p1), .val (.long q2), .second, .val (.long q3), .second, .val (.long q4), .second, .val (.long q5), .second, .val (.long q6), .second, .val (.int xc), .val (.int xn), .val (.int xm), .val (.int xt), .val (.ref b146), .val (.ref b164), .unset, .unset, .unset] [(.ref b164)])) _
      refine XS.iconst X167.here hx rfl (hb hby at_80) ?_
      show Steps p.tables e below (T167.setTop (mkF m 81 #[.val (.int p1), .val (.long q2), .second, .val (.long q3), .second, .val (.long q4), .second, .val (.long q5), .second, .val (.long q6), .second, .val (.int xc), .val (.int xn), .val (.int xm), .val (.int xt), .val (.ref b146), .val (.ref b164), .unset, .unset, .unset] [(.int (0 : Int32)), (.ref b164)])) _
      refine XS.iload X167.here hx rfl (hb hby at_81) rfl ?_
      show Steps p.tables e below (T167.setTop (mkF m 83 #[.val (.int p1), .val (.long q2), .second, .val (.long q3), .second, .val (.long q4), .second, .val (.long q5), .second, .val (.long q6), .second, .val (.int xc), .val (.int xn), .val (.int xm), .val (.int xt), .val (.ref b146), .val (.ref b164), .unset, .unset, .unset] [(.int xn), (.int (0 : Int32)), (.ref b164)])) _
      refine XS.iload X167.here hx rfl (hb hby at_83) rfl ?_
      show Steps p.tables e below (T167.setTop (mkF m 85 #[.val (.int p1), .val (.long q2), .second, .val (.long q3), .second, .val (.long q4), .second, .val (.long q5), .second, .val (.long q6), .second, .val (.int xc), .val (.int xn), .val (.int xm), .val (.int xt), .val (.ref b146), .val (.ref b164), .unset, .unset, .unset] [(.int xt), (.int xn), (.int (0 : Int32)), (.ref b164)])) _
      refine XS.aload X167.here hx rfl (hb hby at_85) rfl rfl ?_
      exact k)
  obtain ⟨_, _, ⟨T170, L170, c170, n170⟩, -, X170, ⟨Lc170, hQ170, l170, y170, z170⟩, st170⟩ := Jvm.LawKit.callS X167 hx (y := (⟨"com/example/upya/upya/policy/LongRingRemoveOldestPinLaw", "step", "(Lcom/example/upya/upya/policy/LongRing;III[J)V"⟩ : MethodName)) hown (mvT hZ (hw _ (List.mem_of_getElem? (i := 18) rfl))) (mvT hZ (hw _ (List.mem_of_getElem? (i := 19) rfl))) (mvT hZ (hw _ (List.mem_of_getElem? (i := 20) rfl))) (mvT hZ (hw _ (List.mem_of_getElem? (i := 21) rfl))) (by decide) (backOf (W := 0) (rm4 l Z a0 hw [] b164 (0 : Int32) xn xt b146 bb xc cap s0 t0 seq 0 n tot T167.heap n0 Zb hxc hc1 hc4 hs0 nb ge gb R0 (by decide) hxn hxt (by omega) (fun q => by omega) Vv nv) hZ (hw _ (List.mem_of_getElem? (i := 21) rfl)) (hw _ (List.mem_of_getElem? (i := 20) rfl)) (by decide) (by decide)) (g := (mkF m 87 #[.val (.int p1), .val (.long q2), .second, .val (.long q3), .second, .val (.long q4), .second, .val (.long q5), .second, .val (.long q6), .second, .val (.int xc), .val (.int xn), .val (.int xm), .val (.int xt), .val (.ref b146), .val (.ref b164), .unset, .unset, .unset] [(.ref b146), (.int xt), (.int xn), (.int (0 : Int32)), (.ref b164)])) rfl (by rw [hml]; rfl) (argsL := [(.ref b164), (.int (0 : Int32)), (.int xn), (.int xt), (.ref b146)]) (rest := []) (lenOf own_pd3 rfl) rfl (by show 2 * 0 + _ ≤ _; exact Nat.le_of_eq rfl) (hb hby at_87) (fun _ _ => ⟨rfl, rfl, (by decide : 3 + 0 ≤ _), (by decide : 25 + 0 ≤ _)⟩)
  dsimp only [Pt.U, Pt.locs, Pt.cells, Pt.slots] at X170 l170 y170 z170 st170 hQ170
  subst l170 y170 z170
  obtain ⟨rfl, N170q, K1, R1⟩ := hQ170
  have N170 := Fr.app N167 N170q
  have k171 : ∀ t, Steps p.tables e below (T170.setTop (mkF m 90 #[.val (.int p1), .val (.long q2), .second, .val (.long q3), .second, .val (.long q4), .second, .val (.long q5), .second, .val (.long q6), .second, .val (.int xc), .val (.int xn), .val (.int xm), .val (.int xt), .val (.ref b146), .val (.ref b164), .unset, .unset, .unset] [])) t → Steps p.tables e below (s₁.setTop (entryFrame m #[(.int p1), (.long q2), (.long q3), (.long q4), (.long q5), (.long q6)] maxLocals)) t := fun t k => k169 t (st170 t k)
  obtain ⟨s1, es1⟩ : ∃ z, z = own_s1 cap n tot 0 s0 := ⟨_, rfl⟩
  obtain ⟨t1, et1⟩ : ∃ z, z = min 1 tot := ⟨_, rfl⟩
  rw [← es1, show (if 0 < tot then t0 + 1 else t0) = t1 from by split <;> omega] at R1
  have hs1 : s1 ≤ cap := by rw [es1]; exact own_s1le hs0
  have Vv := Vv.keep K1 nv
  have Zb : n0 ≤ T170.heap.size := Nat.le_trans Zb K1.1
  have k172 : ∀ t, Steps p.tables e below (T170.setTop (mkF m 99 #[.val (.int p1), .val (.long q2), .second, .val (.long q3), .second, .val (.long q4), .second, .val (.long q5), .second, .val (.long q6), .second, .val (.int xc), .val (.int xn), .val (.int xm), .val (.int xt), .val (.ref b146), .val (.ref b164), .unset, .unset, .unset] [(.ref b146), (.int xt), (.int xn), (.int (1 : Int32)), (.ref b164)])) t → Steps p.tables e below (s₁.setTop (entryFrame m #[(.int p1), (.long q2), (.long q3), (.long q4), (.long q5), (.long q6)] maxLocals)) t := fun t k => k171 t (by
      show Steps p.tables e below (T170.setTop (mkF m 90 #[.val (.int p1), .val (.long q2), .second, .val (.long q3), .second, .val (.long q4), .second, .val (.long q5), .second, .val (.long q6), .second, .val (.int xc), .val (.int xn), .val (.int xm), .val (.int xt), .val (.ref b146), .val (.ref b164), .unset, .unset, .unset] [])) _
      refine XS.aload X170.here hx rfl (hb hby at_90) rfl rfl ?_
      show Steps p.tables e below (T170.setTop (mkF m 92 #[.val (.int p1), .val (.long q2), .second, .val (.long q3), .second, .val (.long q4), .second, .val (.long q5), .second, .val (.long q6), .second, .val (.int xc), .val (.int xn), .val (.int xm), .val (.int xt), .val (.ref b146), .val (.ref b164), .unset, .unset, .unset] [(.ref b164)])) _
      refine XS.iconst X170.here hx rfl (hb hby at_92) ?_
      show Steps p.tables e below (T170.setTop (mkF m 93 #[.val (.int p1), .val (.long q2), .second, .val (.long q3), .second, .val (.long q4), .second, .val (.long q5), .second, .val (.long q6), .second, .val (.int xc), .val (.int xn), .val (.int xm), .val (.int xt), .val (.ref b146), .val (.ref b164), .unset, .unset, .unset] [(.int (1 : Int32)), (.ref b164)])) _
      refine XS.iload X170.here hx rfl (hb hby at_93) rfl ?_
      show Steps p.tables e below (T170.setTop (mkF m 95 #[.val (.int p1), .val (.long q2), .second, .val (.long q3), .second, .val (.long q4), .second, .val (.long q5), .second, .val (.long q6), .second, .val (.int xc), .val (.int xn), .val (.int xm), .val (.int xt), .val (.ref b146), .val (.ref b164), .unset, .unset, .unset] [(.int xn), (.int (1 : Int32)), (.ref b164)])) _
      refine XS.iload X170.here hx rfl (hb hby at_95) rfl ?_
      show Steps p.tables e below (T170.setTop (mkF m 97 #[.val (.int p1), .val (.long q2), .second, .val (.long q3), .second, .val (.long q4), .second, .val (.long q5), .second, .val (.long q6), .second, .val (.int xc), .val (.int xn), .val (.int xm), .val (.int xt), .val (.ref b146), .val (.ref b164), .unset, .unset, .unset] [(.int xt), (.int xn), (.int (1 : Int32)), (.ref b164)])) _
      refine XS.aload X170.here hx rfl (hb hby at_97) rfl rfl ?_
      exact k)
  obtain ⟨_, _, ⟨T173, L173, c173, n173⟩, -, X173, ⟨Lc173, hQ173, l173, y173, z173⟩, st173⟩ := Jvm.LawKit.callS X170 hx (y := (⟨"com/example/upya/upya/policy/LongRingRemoveOldestPinLaw", "step", "(Lcom/example/upya/upya/policy/LongRing;III[J)V"⟩ : MethodName)) hown (mvT hZ (hw _ (List.mem_of_getElem? (i := 18) rfl))) (mvT hZ (hw _ (List.mem_of_getElem? (i := 19) rfl))) (mvT hZ (hw _ (List.mem_of_getElem? (i := 20) rfl))) (mvT hZ (hw _ (List.mem_of_getElem? (i := 21) rfl))) (by decide) (backOf (W := 0) (rm4 l Z a0 hw [] b164 (1 : Int32) xn xt b146 bb xc cap s1 t1 seq 1 n tot T170.heap n0 Zb hxc hc1 hc4 hs1 nb ge gb R1 (by decide) hxn hxt (by omega) (fun q => by omega) Vv nv) hZ (hw _ (List.mem_of_getElem? (i := 21) rfl)) (hw _ (List.mem_of_getElem? (i := 20) rfl)) (by decide) (by decide)) (g := (mkF m 99 #[.val (.int p1), .val (.long q2), .second, .val (.long q3), .second, .val (.long q4), .second, .val (.long q5), .second, .val (.long q6), .second, .val (.int xc), .val (.int xn), .val (.int xm), .val (.int xt), .val (.ref b146), .val (.ref b164), .unset, .unset, .unset] [(.ref b146), (.int xt), (.int xn), (.int (1 : Int32)), (.ref b164)])) rfl (by rw [hml]; rfl) (argsL := [(.ref b164), (.int (1 : Int32)), (.int xn), (.int xt), (.ref b146)]) (rest := []) (lenOf own_pd3 rfl) rfl (by show 2 * 0 + _ ≤ _; exact Nat.le_of_eq rfl) (hb hby at_99) (fun _ _ => ⟨rfl, rfl, (by decide : 3 + 0 ≤ _), (by decide : 25 + 0 ≤ _)⟩)
  dsimp only [Pt.U, Pt.locs, Pt.cells, Pt.slots] at X173 l173 y173 z173 st173 hQ173
  subst l173 y173 z173
  obtain ⟨rfl, N173q, K2, R2⟩ := hQ173
  have N173 := Fr.app N170 N173q
  have k174 : ∀ t, Steps p.tables e below (T173.setTop (mkF m 102 #[.val (.int p1), .val (.long q2), .second, .val (.long q3), .second, .val (.long q4), .second, .val (.long q5), .second, .val (.long q6), .second, .val (.int xc), .val (.int xn), .val (.int xm), .val (.int xt), .val (.ref b146), .val (.ref b164), .unset, .unset, .unset] [])) t → Steps p.tables e below (s₁.setTop (entryFrame m #[(.int p1), (.long q2), (.long q3), (.long q4), (.long q5), (.long q6)] maxLocals)) t := fun t k => k172 t (st173 t k)
  obtain ⟨s2, es2⟩ : ∃ z, z = own_s1 cap n tot 1 s1 := ⟨_, rfl⟩
  obtain ⟨t2, et2⟩ : ∃ z, z = min 2 tot := ⟨_, rfl⟩
  rw [← es2, show (if 1 < tot then t1 + 1 else t1) = t2 from by split <;> omega] at R2
  have hs2 : s2 ≤ cap := by rw [es2]; exact own_s1le hs1
  have Vv := Vv.keep K2 nv
  have Zb : n0 ≤ T173.heap.size := Nat.le_trans Zb K2.1
  have k175 : ∀ t, Steps p.tables e below (T173.setTop (mkF m 111 #[.val (.int p1), .val (.long q2), .second, .val (.long q3), .second, .val (.long q4), .second, .val (.long q5), .second, .val (.long q6), .second, .val (.int xc), .val (.int xn), .val (.int xm), .val (.int xt), .val (.ref b146), .val (.ref b164), .unset, .unset, .unset] [(.ref b146), (.int xt), (.int xn), (.int (2 : Int32)), (.ref b164)])) t → Steps p.tables e below (s₁.setTop (entryFrame m #[(.int p1), (.long q2), (.long q3), (.long q4), (.long q5), (.long q6)] maxLocals)) t := fun t k => k174 t (by
      show Steps p.tables e below (T173.setTop (mkF m 102 #[.val (.int p1), .val (.long q2), .second, .val (.long q3), .second, .val (.long q4), .second, .val (.long q5), .second, .val (.long q6), .second, .val (.int xc), .val (.int xn), .val (.int xm), .val (.int xt), .val (.ref b146), .val (.ref b164), .unset, .unset, .unset] [])) _
      refine XS.aload X173.here hx rfl (hb hby at_102) rfl rfl ?_
      show Steps p.tables e below (T173.setTop (mkF m 104 #[.val (.int p1), .val (.long q2), .second, .val (.long q3), .second, .val (.long q4), .second, .val (.long q5), .second, .val (.long q6), .second, .val (.int xc), .val (.int xn), .val (.int xm), .val (.int xt), .val (.ref b146), .val (.ref b164), .unset, .unset, .unset] [(.ref b164)])) _
      refine XS.iconst X173.here hx rfl (hb hby at_104) ?_
      show Steps p.tables e below (T173.setTop (mkF m 105 #[.val (.int p1), .val (.long q2), .second, .val (.long q3), .second, .val (.long q4), .second, .val (.long q5), .second, .val (.long q6), .second, .val (.int xc), .val (.int xn), .val (.int xm), .val (.int xt), .val (.ref b146), .val (.ref b164), .unset, .unset, .unset] [(.int (2 : Int32)), (.ref b164)])) _
      refine XS.iload X173.here hx rfl (hb hby at_105) rfl ?_
      show Steps p.tables e below (T173.setTop (mkF m 107 #[.val (.int p1), .val (.long q2), .second, .val (.long q3), .second, .val (.long q4), .second, .val (.long q5), .second, .val (.long q6), .second, .val (.int xc), .val (.int xn), .val (.int xm), .val (.int xt), .val (.ref b146), .val (.ref b164), .unset, .unset, .unset] [(.int xn), (.int (2 : Int32)), (.ref b164)])) _
      refine XS.iload X173.here hx rfl (hb hby at_107) rfl ?_
      show Steps p.tables e below (T173.setTop (mkF m 109 #[.val (.int p1), .val (.long q2), .second, .val (.long q3), .second, .val (.long q4), .second, .val (.long q5), .second, .val (.long q6), .second, .val (.int xc), .val (.int xn), .val (.int xm), .val (.int xt), .val (.ref b146), .val (.ref b164), .unset, .unset, .unset] [(.int xt), (.int xn), (.int (2 : Int32)), (.ref b164)])) _
      refine XS.aload X173.here hx rfl (hb hby at_109) rfl rfl ?_
      exact k)
  obtain ⟨_, _, ⟨T176, L176, c176, n176⟩, -, X176, ⟨Lc176, hQ176, l176, y176, z176⟩, st176⟩ := Jvm.LawKit.callS X173 hx (y := (⟨"com/example/upya/upya/policy/LongRingRemoveOldestPinLaw", "step", "(Lcom/example/upya/upya/policy/LongRing;III[J)V"⟩ : MethodName)) hown (mvT hZ (hw _ (List.mem_of_getElem? (i := 18) rfl))) (mvT hZ (hw _ (List.mem_of_getElem? (i := 19) rfl))) (mvT hZ (hw _ (List.mem_of_getElem? (i := 20) rfl))) (mvT hZ (hw _ (List.mem_of_getElem? (i := 21) rfl))) (by decide) (backOf (W := 0) (rm4 l Z a0 hw [] b164 (2 : Int32) xn xt b146 bb xc cap s2 t2 seq 2 n tot T173.heap n0 Zb hxc hc1 hc4 hs2 nb ge gb R2 (by decide) hxn hxt (by omega) (fun q => by omega) Vv nv) hZ (hw _ (List.mem_of_getElem? (i := 21) rfl)) (hw _ (List.mem_of_getElem? (i := 20) rfl)) (by decide) (by decide)) (g := (mkF m 111 #[.val (.int p1), .val (.long q2), .second, .val (.long q3), .second, .val (.long q4), .second, .val (.long q5), .second, .val (.long q6), .second, .val (.int xc), .val (.int xn), .val (.int xm), .val (.int xt), .val (.ref b146), .val (.ref b164), .unset, .unset, .unset] [(.ref b146), (.int xt), (.int xn), (.int (2 : Int32)), (.ref b164)])) rfl (by rw [hml]; rfl) (argsL := [(.ref b164), (.int (2 : Int32)), (.int xn), (.int xt), (.ref b146)]) (rest := []) (lenOf own_pd3 rfl) rfl (by show 2 * 0 + _ ≤ _; exact Nat.le_of_eq rfl) (hb hby at_111) (fun _ _ => ⟨rfl, rfl, (by decide : 3 + 0 ≤ _), (by decide : 25 + 0 ≤ _)⟩)
  dsimp only [Pt.U, Pt.locs, Pt.cells, Pt.slots] at X176 l176 y176 z176 st176 hQ176
  subst l176 y176 z176
  obtain ⟨rfl, N176q, K3, R3⟩ := hQ176
  have N176 := Fr.app N173 N176q
  have k177 : ∀ t, Steps p.tables e below (T176.setTop (mkF m 114 #[.val (.int p1), .val (.long q2), .second, .val (.long q3), .second, .val (.long q4), .second, .val (.long q5), .second, .val (.long q6), .second, .val (.int xc), .val (.int xn), .val (.int xm), .val (.int xt), .val (.ref b146), .val (.ref b164), .unset, .unset, .unset] [])) t → Steps p.tables e below (s₁.setTop (entryFrame m #[(.int p1), (.long q2), (.long q3), (.long q4), (.long q5), (.long q6)] maxLocals)) t := fun t k => k175 t (st176 t k)
  obtain ⟨s3, es3⟩ : ∃ z, z = own_s1 cap n tot 2 s2 := ⟨_, rfl⟩
  obtain ⟨t3, et3⟩ : ∃ z, z = min 3 tot := ⟨_, rfl⟩
  rw [← es3, show (if 2 < tot then t2 + 1 else t2) = t3 from by split <;> omega] at R3
  have hs3 : s3 ≤ cap := by rw [es3]; exact own_s1le hs2
  have Vv := Vv.keep K3 nv
  have Zb : n0 ≤ T176.heap.size := Nat.le_trans Zb K3.1
  have k178 : ∀ t, Steps p.tables e below (T176.setTop (mkF m 123 #[.val (.int p1), .val (.long q2), .second, .val (.long q3), .second, .val (.long q4), .second, .val (.long q5), .second, .val (.long q6), .second, .val (.int xc), .val (.int xn), .val (.int xm), .val (.int xt), .val (.ref b146), .val (.ref b164), .unset, .unset, .unset] [(.ref b146), (.int xt), (.int xn), (.int (3 : Int32)), (.ref b164)])) t → Steps p.tables e below (s₁.setTop (entryFrame m #[(.int p1), (.long q2), (.long q3), (.long q4), (.long q5), (.long q6)] maxLocals)) t := fun t k => k177 t (by
      show Steps p.tables e below (T176.setTop (mkF m 114 #[.val (.int p1), .val (.long q2), .second, .val (.long q3), .second, .val (.long q4), .second, .val (.long q5), .second, .val (.long q6), .second, .val (.int xc), .val (.int xn), .val (.int xm), .val (.int xt), .val (.ref b146), .val (.ref b164), .unset, .unset, .unset] [])) _
      refine XS.aload X176.here hx rfl (hb hby at_114) rfl rfl ?_
      show Steps p.tables e below (T176.setTop (mkF m 116 #[.val (.int p1), .val (.long q2), .second, .val (.long q3), .second, .val (.long q4), .second, .val (.long q5), .second, .val (.long q6), .second, .val (.int xc), .val (.int xn), .val (.int xm), .val (.int xt), .val (.ref b146), .val (.ref b164), .unset, .unset, .unset] [(.ref b164)])) _
      refine XS.iconst X176.here hx rfl (hb hby at_116) ?_
      show Steps p.tables e below (T176.setTop (mkF m 117 #[.val (.int p1), .val (.long q2), .second, .val (.long q3), .second, .val (.long q4), .second, .val (.long q5), .second, .val (.long q6), .second, .val (.int xc), .val (.int xn), .val (.int xm), .val (.int xt), .val (.ref b146), .val (.ref b164), .unset, .unset, .unset] [(.int (3 : Int32)), (.ref b164)])) _
      refine XS.iload X176.here hx rfl (hb hby at_117) rfl ?_
      show Steps p.tables e below (T176.setTop (mkF m 119 #[.val (.int p1), .val (.long q2), .second, .val (.long q3), .second, .val (.long q4), .second, .val (.long q5), .second, .val (.long q6), .second, .val (.int xc), .val (.int xn), .val (.int xm), .val (.int xt), .val (.ref b146), .val (.ref b164), .unset, .unset, .unset] [(.int xn), (.int (3 : Int32)), (.ref b164)])) _
      refine XS.iload X176.here hx rfl (hb hby at_119) rfl ?_
      show Steps p.tables e below (T176.setTop (mkF m 121 #[.val (.int p1), .val (.long q2), .second, .val (.long q3), .second, .val (.long q4), .second, .val (.long q5), .second, .val (.long q6), .second, .val (.int xc), .val (.int xn), .val (.int xm), .val (.int xt), .val (.ref b146), .val (.ref b164), .unset, .unset, .unset] [(.int xt), (.int xn), (.int (3 : Int32)), (.ref b164)])) _
      refine XS.aload X176.here hx rfl (hb hby at_121) rfl rfl ?_
      exact k)
  obtain ⟨_, _, ⟨T179, L179, c179, n179⟩, -, X179, ⟨Lc179, hQ179, l179, y179, z179⟩, st179⟩ := Jvm.LawKit.callS X176 hx (y := (⟨"com/example/upya/upya/policy/LongRingRemoveOldestPinLaw", "step", "(Lcom/example/upya/upya/policy/LongRing;III[J)V"⟩ : MethodName)) hown (mvT hZ (hw _ (List.mem_of_getElem? (i := 18) rfl))) (mvT hZ (hw _ (List.mem_of_getElem? (i := 19) rfl))) (mvT hZ (hw _ (List.mem_of_getElem? (i := 20) rfl))) (mvT hZ (hw _ (List.mem_of_getElem? (i := 21) rfl))) (by decide) (backOf (W := 0) (rm4 l Z a0 hw [] b164 (3 : Int32) xn xt b146 bb xc cap s3 t3 seq 3 n tot T176.heap n0 Zb hxc hc1 hc4 hs3 nb ge gb R3 (by decide) hxn hxt (by omega) (fun q => by omega) Vv nv) hZ (hw _ (List.mem_of_getElem? (i := 21) rfl)) (hw _ (List.mem_of_getElem? (i := 20) rfl)) (by decide) (by decide)) (g := (mkF m 123 #[.val (.int p1), .val (.long q2), .second, .val (.long q3), .second, .val (.long q4), .second, .val (.long q5), .second, .val (.long q6), .second, .val (.int xc), .val (.int xn), .val (.int xm), .val (.int xt), .val (.ref b146), .val (.ref b164), .unset, .unset, .unset] [(.ref b146), (.int xt), (.int xn), (.int (3 : Int32)), (.ref b164)])) rfl (by rw [hml]; rfl) (argsL := [(.ref b164), (.int (3 : Int32)), (.int xn), (.int xt), (.ref b146)]) (rest := []) (lenOf own_pd3 rfl) rfl (by show 2 * 0 + _ ≤ _; exact Nat.le_of_eq rfl) (hb hby at_123) (fun _ _ => ⟨rfl, rfl, (by decide : 3 + 0 ≤ _), (by decide : 25 + 0 ≤ _)⟩)
  dsimp only [Pt.U, Pt.locs, Pt.cells, Pt.slots] at X179 l179 y179 z179 st179 hQ179
  subst l179 y179 z179
  obtain ⟨rfl, N179q, K4, R4⟩ := hQ179
  have N179 := Fr.app N176 N179q
  have k180 : ∀ t, Steps p.tables e below (T179.setTop (mkF m 126 #[.val (.int p1), .val (.long q2), .second, .val (.long q3), .second, .val (.long q4), .second, .val (.long q5), .second, .val (.long q6), .second, .val (.int xc), .val (.int xn), .val (.int xm), .val (.int xt), .val (.ref b146), .val (.ref b164), .unset, .unset, .unset] [])) t → Steps p.tables e below (s₁.setTop (entryFrame m #[(.int p1), (.long q2), (.long q3), (.long q4), (.long q5), (.long q6)] maxLocals)) t := fun t k => k178 t (st179 t k)
  obtain ⟨s4, es4⟩ : ∃ z, z = own_s1 cap n tot 3 s3 := ⟨_, rfl⟩
  obtain ⟨t4, et4⟩ : ∃ z, z = min 4 tot := ⟨_, rfl⟩
  rw [← es4, show (if 3 < tot then t3 + 1 else t3) = t4 from by split <;> omega] at R4
  have hs4 : s4 ≤ cap := by rw [es4]; exact own_s1le hs3
  have Vv := Vv.keep K4 nv
  have Zb : n0 ≤ T179.heap.size := Nat.le_trans Zb K4.1
  have k181 : ∀ t, Steps p.tables e below (T179.setTop (mkF m 135 #[.val (.int p1), .val (.long q2), .second, .val (.long q3), .second, .val (.long q4), .second, .val (.long q5), .second, .val (.long q6), .second, .val (.int xc), .val (.int xn), .val (.int xm), .val (.int xt), .val (.ref b146), .val (.ref b164), .unset, .unset, .unset] [(.ref b146), (.int xt), (.int xn), (.int (4 : Int32)), (.ref b164)])) t → Steps p.tables e below (s₁.setTop (entryFrame m #[(.int p1), (.long q2), (.long q3), (.long q4), (.long q5), (.long q6)] maxLocals)) t := fun t k => k180 t (by
      show Steps p.tables e below (T179.setTop (mkF m 126 #[.val (.int p1), .val (.long q2), .second, .val (.long q3), .second, .val (.long q4), .second, .val (.long q5), .second, .val (.long q6), .second, .val (.int xc), .val (.int xn), .val (.int xm), .val (.int xt), .val (.ref b146), .val (.ref b164), .unset, .unset, .unset] [])) _
      refine XS.aload X179.here hx rfl (hb hby at_126) rfl rfl ?_
      show Steps p.tables e below (T179.setTop (mkF m 128 #[.val (.int p1), .val (.long q2), .second, .val (.long q3), .second, .val (.long q4), .second, .val (.long q5), .second, .val (.long q6), .second, .val (.int xc), .val (.int xn), .val (.int xm), .val (.int xt), .val (.ref b146), .val (.ref b164), .unset, .unset, .unset] [(.ref b164)])) _
      refine XS.iconst X179.here hx rfl (hb hby at_128) ?_
      show Steps p.tables e below (T179.setTop (mkF m 129 #[.val (.int p1), .val (.long q2), .second, .val (.long q3), .second, .val (.long q4), .second, .val (.long q5), .second, .val (.long q6), .second, .val (.int xc), .val (.int xn), .val (.int xm), .val (.int xt), .val (.ref b146), .val (.ref b164), .unset, .unset, .unset] [(.int (4 : Int32)), (.ref b164)])) _
      refine XS.iload X179.here hx rfl (hb hby at_129) rfl ?_
      show Steps p.tables e below (T179.setTop (mkF m 131 #[.val (.int p1), .val (.long q2), .second, .val (.long q3), .second, .val (.long q4), .second, .val (.long q5), .second, .val (.long q6), .second, .val (.int xc), .val (.int xn), .val (.int xm), .val (.int xt), .val (.ref b146), .val (.ref b164), .unset, .unset, .unset] [(.int xn), (.int (4 : Int32)), (.ref b164)])) _
      refine XS.iload X179.here hx rfl (hb hby at_131) rfl ?_
      show Steps p.tables e below (T179.setTop (mkF m 133 #[.val (.int p1), .val (.long q2), .second, .val (.long q3), .second, .val (.long q4), .second, .val (.long q5), .second, .val (.long q6), .second, .val (.int xc), .val (.int xn), .val (.int xm), .val (.int xt), .val (.ref b146), .val (.ref b164), .unset, .unset, .unset] [(.int xt), (.int xn), (.int (4 : Int32)), (.ref b164)])) _
      refine XS.aload X179.here hx rfl (hb hby at_133) rfl rfl ?_
      exact k)
  obtain ⟨_, _, ⟨T182, L182, c182, n182⟩, -, X182, ⟨Lc182, hQ182, l182, y182, z182⟩, st182⟩ := Jvm.LawKit.callS X179 hx (y := (⟨"com/example/upya/upya/policy/LongRingRemoveOldestPinLaw", "step", "(Lcom/example/upya/upya/policy/LongRing;III[J)V"⟩ : MethodName)) hown (mvT hZ (hw _ (List.mem_of_getElem? (i := 18) rfl))) (mvT hZ (hw _ (List.mem_of_getElem? (i := 19) rfl))) (mvT hZ (hw _ (List.mem_of_getElem? (i := 20) rfl))) (mvT hZ (hw _ (List.mem_of_getElem? (i := 21) rfl))) (by decide) (backOf (W := 0) (rm4 l Z a0 hw [] b164 (4 : Int32) xn xt b146 bb xc cap s4 t4 seq 4 n tot T179.heap n0 Zb hxc hc1 hc4 hs4 nb ge gb R4 (by decide) hxn hxt (by omega) (fun q => by omega) Vv nv) hZ (hw _ (List.mem_of_getElem? (i := 21) rfl)) (hw _ (List.mem_of_getElem? (i := 20) rfl)) (by decide) (by decide)) (g := (mkF m 135 #[.val (.int p1), .val (.long q2), .second, .val (.long q3), .second, .val (.long q4), .second, .val (.long q5), .second, .val (.long q6), .second, .val (.int xc), .val (.int xn), .val (.int xm), .val (.int xt), .val (.ref b146), .val (.ref b164), .unset, .unset, .unset] [(.ref b146), (.int xt), (.int xn), (.int (4 : Int32)), (.ref b164)])) rfl (by rw [hml]; rfl) (argsL := [(.ref b164), (.int (4 : Int32)), (.int xn), (.int xt), (.ref b146)]) (rest := []) (lenOf own_pd3 rfl) rfl (by show 2 * 0 + _ ≤ _; exact Nat.le_of_eq rfl) (hb hby at_135) (fun _ _ => ⟨rfl, rfl, (by decide : 3 + 0 ≤ _), (by decide : 25 + 0 ≤ _)⟩)
  dsimp only [Pt.U, Pt.locs, Pt.cells, Pt.slots] at X182 l182 y182 z182 st182 hQ182
  subst l182 y182 z182
  obtain ⟨rfl, N182q, K5, R5⟩ := hQ182
  have N182 := Fr.app N179 N182q
  have k183 : ∀ t, Steps p.tables e below (T182.setTop (mkF m 138 #[.val (.int p1), .val (.long q2), .second, .val (.long q3), .second, .val (.long q4), .second, .val (.long q5), .second, .val (.long q6), .second, .val (.int xc), .val (.int xn), .val (.int xm), .val (.int xt), .val (.ref b146), .val (.ref b164), .unset, .unset, .unset] [])) t → Steps p.tables e below (s₁.setTop (entryFrame m #[(.int p1), (.long q2), (.long q3), (.long q4), (.long q5), (.long q6)] maxLocals)) t := fun t k => k181 t (st182 t k)
  obtain ⟨s5, es5⟩ : ∃ z, z = own_s1 cap n tot 4 s4 := ⟨_, rfl⟩
  obtain ⟨t5, et5⟩ : ∃ z, z = min 5 tot := ⟨_, rfl⟩
  rw [← es5, show (if 4 < tot then t4 + 1 else t4) = t5 from by split <;> omega] at R5
  have hs5 : s5 ≤ cap := by rw [es5]; exact own_s1le hs4
  have Vv := Vv.keep K5 nv
  have Zb : n0 ≤ T182.heap.size := Nat.le_trans Zb K5.1
  have k184 : ∀ t, Steps p.tables e below (T182.setTop (mkF m 147 #[.val (.int p1), .val (.long q2), .second, .val (.long q3), .second, .val (.long q4), .second, .val (.long q5), .second, .val (.long q6), .second, .val (.int xc), .val (.int xn), .val (.int xm), .val (.int xt), .val (.ref b146), .val (.ref b164), .unset, .unset, .unset] [(.ref b146), (.int xt), (.int xn), (.int (5 : Int32)), (.ref b164)])) t → Steps p.tables e below (s₁.setTop (entryFrame m #[(.int p1), (.long q2), (.long q3), (.long q4), (.long q5), (.long q6)] maxLocals)) t := fun t k => k183 t (by
      show Steps p.tables e below (T182.setTop (mkF m 138 #[.val (.int p1), .val (.long q2), .second, .val (.long q3), .second, .val (.long q4), .second, .val (.long q5), .second, .val (.long q6), .second, .val (.int xc), .val (.int xn), .val (.int xm), .val (.int xt), .val (.ref b146), .val (.ref b164), .unset, .unset, .unset] [])) _
      refine XS.aload X182.here hx rfl (hb hby at_138) rfl rfl ?_
      show Steps p.tables e below (T182.setTop (mkF m 140 #[.val (.int p1), .val (.long q2), .second, .val (.long q3), .second, .val (.long q4), .second, .val (.long q5), .second, .val (.long q6), .second, .val (.int xc), .val (.int xn), .val (.int xm), .val (.int xt), .val (.ref b146), .val (.ref b164), .unset, .unset, .unset] [(.ref b164)])) _
      refine XS.iconst X182.here hx rfl (hb hby at_140) ?_
      show Steps p.tables e below (T182.setTop (mkF m 141 #[.val (.int p1), .val (.long q2), .second, .val (.long q3), .second, .val (.long q4), .second, .val (.long q5), .second, .val (.long q6), .second, .val (.int xc), .val (.int xn), .val (.int xm), .val (.int xt), .val (.ref b146), .val (.ref b164), .unset, .unset, .unset] [(.int (5 : Int32)), (.ref b164)])) _
      refine XS.iload X182.here hx rfl (hb hby at_141) rfl ?_
      show Steps p.tables e below (T182.setTop (mkF m 143 #[.val (.int p1), .val (.long q2), .second, .val (.long q3), .second, .val (.long q4), .second, .val (.long q5), .second, .val (.long q6), .second, .val (.int xc), .val (.int xn), .val (.int xm), .val (.int xt), .val (.ref b146), .val (.ref b164), .unset, .unset, .unset] [(.int xn), (.int (5 : Int32)), (.ref b164)])) _
      refine XS.iload X182.here hx rfl (hb hby at_143) rfl ?_
      show Steps p.tables e below (T182.setTop (mkF m 145 #[.val (.int p1), .val (.long q2), .second, .val (.long q3), .second, .val (.long q4), .second, .val (.long q5), .second, .val (.long q6), .second, .val (.int xc), .val (.int xn), .val (.int xm), .val (.int xt), .val (.ref b146), .val (.ref b164), .unset, .unset, .unset] [(.int xt), (.int xn), (.int (5 : Int32)), (.ref b164)])) _
      refine XS.aload X182.here hx rfl (hb hby at_145) rfl rfl ?_
      exact k)
  obtain ⟨_, _, ⟨T185, L185, c185, n185⟩, -, X185, ⟨Lc185, hQ185, l185, y185, z185⟩, st185⟩ := Jvm.LawKit.callS X182 hx (y := (⟨"com/example/upya/upya/policy/LongRingRemoveOldestPinLaw", "step", "(Lcom/example/upya/upya/policy/LongRing;III[J)V"⟩ : MethodName)) hown (mvT hZ (hw _ (List.mem_of_getElem? (i := 18) rfl))) (mvT hZ (hw _ (List.mem_of_getElem? (i := 19) rfl))) (mvT hZ (hw _ (List.mem_of_getElem? (i := 20) rfl))) (mvT hZ (hw _ (List.mem_of_getElem? (i := 21) rfl))) (by decide) (backOf (W := 0) (rm4 l Z a0 hw [] b164 (5 : Int32) xn xt b146 bb xc cap s5 t5 seq 5 n tot T182.heap n0 Zb hxc hc1 hc4 hs5 nb ge gb R5 (by decide) hxn hxt (by omega) (fun q => by omega) Vv nv) hZ (hw _ (List.mem_of_getElem? (i := 21) rfl)) (hw _ (List.mem_of_getElem? (i := 20) rfl)) (by decide) (by decide)) (g := (mkF m 147 #[.val (.int p1), .val (.long q2), .second, .val (.long q3), .second, .val (.long q4), .second, .val (.long q5), .second, .val (.long q6), .second, .val (.int xc), .val (.int xn), .val (.int xm), .val (.int xt), .val (.ref b146), .val (.ref b164), .unset, .unset, .unset] [(.ref b146), (.int xt), (.int xn), (.int (5 : Int32)), (.ref b164)])) rfl (by rw [hml]; rfl) (argsL := [(.ref b164), (.int (5 : Int32)), (.int xn), (.int xt), (.ref b146)]) (rest := []) (lenOf own_pd3 rfl) rfl (by show 2 * 0 + _ ≤ _; exact Nat.le_of_eq rfl) (hb hby at_147) (fun _ _ => ⟨rfl, rfl, (by decide : 3 + 0 ≤ _), (by decide : 25 + 0 ≤ _)⟩)
  dsimp only [Pt.U, Pt.locs, Pt.cells, Pt.slots] at X185 l185 y185 z185 st185 hQ185
  subst l185 y185 z185
  obtain ⟨rfl, N185q, K6, R6⟩ := hQ185
  have N185 := Fr.app N182 N185q
  have k186 : ∀ t, Steps p.tables e below (T185.setTop (mkF m 150 #[.val (.int p1), .val (.long q2), .second, .val (.long q3), .second, .val (.long q4), .second, .val (.long q5), .second, .val (.long q6), .second, .val (.int xc), .val (.int xn), .val (.int xm), .val (.int xt), .val (.ref b146), .val (.ref b164), .unset, .unset, .unset] [])) t → Steps p.tables e below (s₁.setTop (entryFrame m #[(.int p1), (.long q2), (.long q3), (.long q4), (.long q5), (.long q6)] maxLocals)) t := fun t k => k184 t (st185 t k)
  obtain ⟨s6, es6⟩ : ∃ z, z = own_s1 cap n tot 5 s5 := ⟨_, rfl⟩
  obtain ⟨t6, et6⟩ : ∃ z, z = min 6 tot := ⟨_, rfl⟩
  rw [← es6, show (if 5 < tot then t5 + 1 else t5) = t6 from by split <;> omega] at R6
  have hs6 : s6 ≤ cap := by rw [es6]; exact own_s1le hs5
  have Vv := Vv.keep K6 nv
  have Zb : n0 ≤ T185.heap.size := Nat.le_trans Zb K6.1
  have fin : s6 = min ((min n cap - 1) + m1) cap := by
    have q := own_all ⟨cap, by omega⟩ ⟨n, by omega⟩ ⟨m1, by omega⟩ hc1 hm5
    simp only at q
    rw [← etot] at q
    rw [es6, es5, es4, es3, es2, es1, es0]
    exact q
  have ht6 : t6 = tot := by omega
  have k187 : ∀ t, Steps p.tables e below (T185.setTop (mkF m 154 #[.val (.int p1), .val (.long q2), .second, .val (.long q3), .second, .val (.long q4), .second, .val (.long q5), .second, .val (.long q6), .second, .val (.int xc), .val (.int xn), .val (.int xm), .val (.int xt), .val (.ref b146), .val (.ref b164), .unset, .unset, .unset] [(.int xc), (.int xn)])) t → Steps p.tables e below (s₁.setTop (entryFrame m #[(.int p1), (.long q2), (.long q3), (.long q4), (.long q5), (.long q6)] maxLocals)) t := fun t k => k186 t (by
      show Steps p.tables e below (T185.setTop (mkF m 150 #[.val (.int p1), .val (.long q2), .second, .val (.long q3), .second, .val (.long q4), .second, .val (.long q5), .second, .val (.long q6), .second, .val (.int xc), .val (.int xn), .val (.int xm), .val (.int xt), .val (.ref b146), .val (.ref b164), .unset, .unset, .unset] [])) _
      refine XS.iload X185.here hx rfl (hb hby at_150) rfl ?_
      show Steps p.tables e below (T185.setTop (mkF m 152 #[.val (.int p1), .val (.long q2), .second, .val (.long q3), .second, .val (.long q4), .second, .val (.long q5), .second, .val (.long q6), .second, .val (.int xc), .val (.int xn), .val (.int xm), .val (.int xt), .val (.ref b146), .val (.ref b164), .unset, .unset, .unset] [(.int xn)])) _
      refine XS.iload X185.here hx rfl (hb hby at_152) rfl ?_
      exact k)
  obtain ⟨_, _, ⟨T188, L188, c188, n188⟩, -, X188, ⟨Lc188, hQ188, l188, y188, z188⟩, st188⟩ := Jvm.LawKit.callS X185 hx (y := (⟨"java/lang/Math", "min", "(II)I"⟩ : MethodName)) hown (mvT hZ (hw _ (List.mem_of_getElem? (i := 29) rfl))) (mvT hZ (hw _ (List.mem_of_getElem? (i := 13) rfl))) (mvT hZ (hw _ (List.mem_of_getElem? (i := 14) rfl))) (mvT hZ (hw _ (List.mem_of_getElem? (i := 15) rfl))) (by decide) (backOf (W := 0) (rm3 l Z a0 hw [] xn xc T185.heap n0 Zb) hZ (hw _ (List.mem_of_getElem? (i := 15) rfl)) (hw _ (List.mem_of_getElem? (i := 14) rfl)) (by decide) (by decide)) (g := (mkF m 154 #[.val (.int p1), .val (.long q2), .second, .val (.long q3), .second, .val (.long q4), .second, .val (.long q5), .second, .val (.long q6), .second, .val (.int xc), .val (.int xn), .val (.int xm), .val (.int xt), .val (.ref b146), .val (.ref b164), .unset, .unset, .unset] [(.int xc), (.int xn)])) rfl (by rw [hml]; rfl) (argsL := [(.int xn), (.int xc)]) (rest := []) (lenOf own_pd2 rfl) rfl (by show 2 * 0 + _ ≤ _; exact Nat.le_of_eq rfl) (hb hby at_154) (fun _ _ => ⟨rfl, rfl, (by decide : 3 + 0 ≤ _), (by decide : 25 + 0 ≤ _)⟩)
  dsimp only [Pt.U, Pt.locs, Pt.cells, Pt.slots] at X188 l188 y188 z188 st188 hQ188
  subst l188 y188 z188
  obtain ⟨rfl, N188q, e188⟩ := hQ188
  have N188 := Fr.app N185 N188q
  have k189 : ∀ t, Steps p.tables e below (T188.setTop (mkF m 157 #[.val (.int p1), .val (.long q2), .second, .val (.long q3), .second, .val (.long q4), .second, .val (.long q5), .second, .val (.long q6), .second, .val (.int xc), .val (.int xn), .val (.int xm), .val (.int xt), .val (.ref b146), .val (.ref b164), .unset, .unset, .unset] [(.int (own_min xn xc))])) t → Steps p.tables e below (s₁.setTop (entryFrame m #[(.int p1), (.long q2), (.long q3), (.long q4), (.long q5), (.long q6)] maxLocals)) t := fun t k => k187 t (st188 t k)
  have hk := own_minN hxn hxc
  have k190 : ∀ t, Steps p.tables e below (T188.setTop (mkF m 164 #[.val (.int p1), .val (.long q2), .second, .val (.long q3), .second, .val (.long q4), .second, .val (.long q5), .second, .val (.long q6), .second, .val (.int xc), .val (.int xn), .val (.int xm), .val (.int xt), .val (.ref b146), .val (.ref b164), .val (.int (own_min xn xc)), .unset, .unset] [(.int (0 : Int32)), (.int ((own_min xn xc) - (1 : Int32)))])) t → Steps p.tables e below (s₁.setTop (entryFrame m #[(.int p1), (.long q2), (.long q3), (.long q4), (.long q5), (.long q6)] maxLocals)) t := fun t k => k189 t (by
      show Steps p.tables e below (T188.setTop (mkF m 157 #[.val (.int p1), .val (.long q2), .second, .val (.long q3), .second, .val (.long q4), .second, .val (.long q5), .second, .val (.long q6), .second, .val (.int xc), .val (.int xn), .val (.int xm), .val (.int xt), .val (.ref b146), .val (.ref b164), .unset, .unset, .unset] [(.int (own_min xn xc))])) _
      refine XS.istore X188.here hx rfl (hb hby at_157) rfl (l' := #[.val (.int p1), .val (.long q2), .second, .val (.long q3), .second, .val (.long q4), .second, .val (.long q5), .second, .val (.long q6), .second, .val (.int xc), .val (.int xn), .val (.int xm), .val (.int xt), .val (.ref b146), .val (.ref b164), .val (.int (own_min xn xc)), .unset, .unset]) rfl ?_
      show Steps p.tables e below (T188.setTop (mkF m 159 #[.val (.int p1), .val (.long q2), .second, .val (.long q3), .second, .val (.long q4), .second, .val (.long q5), .second, .val (.long q6), .second, .val (.int xc), .val (.int xn), .val (.int xm), .val (.int xt), .val (.ref b146), .val (.ref b164), .val (.int (own_min xn xc)), .unset, .unset] [])) _
      refine XS.iload X188.here hx rfl (hb hby at_159) rfl ?_
      show Steps p.tables e below (T188.setTop (mkF m 161 #[.val (.int p1), .val (.long q2), .second, .val (.long q3), .second, .val (.long q4), .second, .val (.long q5), .second, .val (.long q6), .second, .val (.int xc), .val (.int xn), .val (.int xm), .val (.int xt), .val (.ref b146), .val (.ref b164), .val (.int (own_min xn xc)), .unset, .unset] [(.int (own_min xn xc))])) _
      refine XS.iconst X188.here hx rfl (hb hby at_161) ?_
      show Steps p.tables e below (T188.setTop (mkF m 162 #[.val (.int p1), .val (.long q2), .second, .val (.long q3), .second, .val (.long q4), .second, .val (.long q5), .second, .val (.long q6), .second, .val (.int xc), .val (.int xn), .val (.int xm), .val (.int xt), .val (.ref b146), .val (.ref b164), .val (.int (own_min xn xc)), .unset, .unset] [(.int (1 : Int32)), (.int (own_min xn xc))])) _
      refine XS.isub X188.here hx rfl (hb hby at_162) rfl ?_
      show Steps p.tables e below (T188.setTop (mkF m 163 #[.val (.int p1), .val (.long q2), .second, .val (.long q3), .second, .val (.long q4), .second, .val (.long q5), .second, .val (.long q6), .second, .val (.int xc), .val (.int xn), .val (.int xm), .val (.int xt), .val (.ref b146), .val (.ref b164), .val (.int (own_min xn xc)), .unset, .unset] [(.int ((own_min xn xc) - (1 : Int32)))])) _
      refine XS.iconst X188.here hx rfl (hb hby at_163) ?_
      exact k)
  obtain ⟨_, _, ⟨T191, L191, c191, n191⟩, -, X191, ⟨Lc191, hQ191, l191, y191, z191⟩, st191⟩ := Jvm.LawKit.callS X188 hx (y := (⟨"java/lang/Math", "max", "(II)I"⟩ : MethodName)) hown (mvT hZ (hw _ (List.mem_of_getElem? (i := 30) rfl))) (mvT hZ (hw _ (List.mem_of_getElem? (i := 31) rfl))) (mvT hZ (hw _ (List.mem_of_getElem? (i := 14) rfl))) (mvT hZ (hw _ (List.mem_of_getElem? (i := 32) rfl))) (by decide) (backOf (W := 0) (rm6 l Z a0 hw [] ((own_min xn xc) - (1 : Int32)) (0 : Int32) T185.heap n0 Zb) hZ (hw _ (List.mem_of_getElem? (i := 32) rfl)) (hw _ (List.mem_of_getElem? (i := 14) rfl)) (by decide) (by decide)) (g := (mkF m 164 #[.val (.int p1), .val (.long q2), .second, .val (.long q3), .second, .val (.long q4), .second, .val (.long q5), .second, .val (.long q6), .second, .val (.int xc), .val (.int xn), .val (.int xm), .val (.int xt), .val (.ref b146), .val (.ref b164), .val (.int (own_min xn xc)), .unset, .unset] [(.int (0 : Int32)), (.int ((own_min xn xc) - (1 : Int32)))])) rfl (by rw [hml]; rfl) (argsL := [(.int ((own_min xn xc) - (1 : Int32))), (.int (0 : Int32))]) (rest := []) (lenOf own_pd2 rfl) rfl (by show 2 * 0 + _ ≤ _; exact Nat.le_of_eq rfl) (hb hby at_164) (fun _ _ => ⟨rfl, e188, (by decide : 3 + 0 ≤ _), (by decide : 25 + 0 ≤ _)⟩)
  dsimp only [Pt.U, Pt.locs, Pt.cells, Pt.slots] at X191 l191 y191 z191 st191 hQ191
  subst l191 y191 z191
  obtain ⟨rfl, N191q, e191⟩ := hQ191
  have N191 := Fr.app N188 N191q
  have k192 : ∀ t, Steps p.tables e below (T191.setTop (mkF m 167 #[.val (.int p1), .val (.long q2), .second, .val (.long q3), .second, .val (.long q4), .second, .val (.long q5), .second, .val (.long q6), .second, .val (.int xc), .val (.int xn), .val (.int xm), .val (.int xt), .val (.ref b146), .val (.ref b164), .val (.int (own_min xn xc)), .unset, .unset] [(.int (own_max ((own_min xn xc) - (1 : Int32)) (0 : Int32)))])) t → Steps p.tables e below (s₁.setTop (entryFrame m #[(.int p1), (.long q2), (.long q3), (.long q4), (.long q5), (.long q6)] maxLocals)) t := fun t k => k190 t (st191 t k)
  have hk2 : (own_max ((own_min xn xc) - (1 : Int32)) (0 : Int32)).toInt = ((min n cap - 1 : Nat) : Int) := by
    have e := c_isub (own_min xn xc) (1 : Int32)
    have r := rng32 ((own_min xn xc) - (1 : Int32))
    rw [show (1 : Int32).toInt = 1 from by decide] at e
    rw [own_max]
    split
    · rename_i q; rw [Int32.lt_iff_toInt_lt, show (0 : Int32).toInt = 0 from by decide] at q; rw [show (0 : Int32).toInt = 0 from by decide]; omega
    · rename_i q; rw [Int32.lt_iff_toInt_lt, show (0 : Int32).toInt = 0 from by decide] at q; omega
  have k193 : ∀ t, Steps p.tables e below (T191.setTop (mkF m 176 #[.val (.int p1), .val (.long q2), .second, .val (.long q3), .second, .val (.long q4), .second, .val (.long q5), .second, .val (.long q6), .second, .val (.int xc), .val (.int xn), .val (.int xm), .val (.int xt), .val (.ref b146), .val (.ref b164), .val (.int (own_min xn xc)), .val (.int (own_max ((own_min xn xc) - (1 : Int32)) (0 : Int32))), .unset] [(.int xc), (.int ((own_max ((own_min xn xc) - (1 : Int32)) (0 : Int32)) + xm))])) t → Steps p.tables e below (s₁.setTop (entryFrame m #[(.int p1), (.long q2), (.long q3), (.long q4), (.long q5), (.long q6)] maxLocals)) t := fun t k => k192 t (by
      show Steps p.tables e below (T191.setTop (mkF m 167 #[.val (.int p1), .val (.long q2), .second, .val (.long q3), .second, .val (.long q4), .second, .val (.long q5), .second, .val (.long q6), .second, .val (.int xc), .val (.int xn), .val (.int xm), .val (.int xt), .val (.ref b146), .val (.ref b164), .val (.int (own_min xn xc)), .unset, .unset] [(.int (own_max ((own_min xn xc) - (1 : Int32)) (0 : Int32)))])) _
      refine XS.istore X191.here hx rfl (hb hby at_167) rfl (l' := #[.val (.int p1), .val (.long q2), .second, .val (.long q3), .second, .val (.long q4), .second, .val (.long q5), .second, .val (.long q6), .second, .val (.int xc), .val (.int xn), .val (.int xm), .val (.int xt), .val (.ref b146), .val (.ref b164), .val (.int (own_min xn xc)), .val (.int (own_max ((own_min xn xc) - (1 : Int32)) (0 : Int32))), .unset]) rfl ?_
      show Steps p.tables e below (T191.setTop (mkF m 169 #[.val (.int p1), .val (.long q2), .second, .val (.long q3), .second, .val (.long q4), .second, .val (.long q5), .second, .val (.long q6), .second, .val (.int xc), .val (.int xn), .val (.int xm), .val (.int xt), .val (.ref b146), .val (.ref b164), .val (.int (own_min xn xc)), .val (.int (own_max ((own_min xn xc) - (1 : Int32)) (0 : Int32))), .unset] [])) _
      refine XS.iload X191.here hx rfl (hb hby at_169) rfl ?_
      show Steps p.tables e below (T191.setTop (mkF m 171 #[.val (.int p1), .val (.long q2), .second, .val (.long q3), .second, .val (.long q4), .second, .val (.long q5), .second, .val (.long q6), .second, .val (.int xc), .val (.int xn), .val (.int xm), .val (.int xt), .val (.ref b146), .val (.ref b164), .val (.int (own_min xn xc)), .val (.int (own_max ((own_min xn xc) - (1 : Int32)) (0 : Int32))), .unset] [(.int (own_max ((own_min xn xc) - (1 : Int32)) (0 : Int32)))])) _
      refine XS.iload X191.here hx rfl (hb hby at_171) rfl ?_
      show Steps p.tables e below (T191.setTop (mkF m 173 #[.val (.int p1), .val (.long q2), .second, .val (.long q3), .second, .val (.long q4), .second, .val (.long q5), .second, .val (.long q6), .second, .val (.int xc), .val (.int xn), .val (.int xm), .val (.int xt), .val (.ref b146), .val (.ref b164), .val (.int (own_min xn xc)), .val (.int (own_max ((own_min xn xc) - (1 : Int32)) (0 : Int32))), .unset] [(.int xm), (.int (own_max ((own_min xn xc) - (1 : Int32)) (0 : Int32)))])) _
      refine XS.iadd X191.here hx rfl (hb hby at_173) rfl ?_
      show Steps p.tables e below (T191.setTop (mkF m 174 #[.val (.int p1), .val (.long q2), .second, .val (.long q3), .second, .val (.long q4), .second, .val (.long q5), .second, .val (.long q6), .second, .val (.int xc), .val (.int xn), .val (.int xm), .val (.int xt), .val (.ref b146), .val (.ref b164), .val (.int (own_min xn xc)), .val (.int (own_max ((own_min xn xc) - (1 : Int32)) (0 : Int32))), .unset] [(.int ((own_max ((own_min xn xc) - (1 : Int32)) (0 : Int32)) + xm))])) _
      refine XS.iload X191.here hx rfl (hb hby at_174) rfl ?_
      exact k)
  obtain ⟨_, _, ⟨T194, L194, c194, n194⟩, -, X194, ⟨Lc194, hQ194, l194, y194, z194⟩, st194⟩ := Jvm.LawKit.callS X191 hx (y := (⟨"java/lang/Math", "min", "(II)I"⟩ : MethodName)) hown (mvT hZ (hw _ (List.mem_of_getElem? (i := 29) rfl))) (mvT hZ (hw _ (List.mem_of_getElem? (i := 13) rfl))) (mvT hZ (hw _ (List.mem_of_getElem? (i := 14) rfl))) (mvT hZ (hw _ (List.mem_of_getElem? (i := 15) rfl))) (by decide) (backOf (W := 0) (rm3 l Z a0 hw [] ((own_max ((own_min xn xc) - (1 : Int32)) (0 : Int32)) + xm) xc T185.heap n0 Zb) hZ (hw _ (List.mem_of_getElem? (i := 15) rfl)) (hw _ (List.mem_of_getElem? (i := 14) rfl)) (by decide) (by decide)) (g := (mkF m 176 #[.val (.int p1), .val (.long q2), .second, .val (.long q3), .second, .val (.long q4), .second, .val (.long q5), .second, .val (.long q6), .second, .val (.int xc), .val (.int xn), .val (.int xm), .val (.int xt), .val (.ref b146), .val (.ref b164), .val (.int (own_min xn xc)), .val (.int (own_max ((own_min xn xc) - (1 : Int32)) (0 : Int32))), .unset] [(.int xc), (.int ((own_max ((own_min xn xc) - (1 : Int32)) (0 : Int32)) + xm))])) rfl (by rw [hml]; rfl) (argsL := [(.int ((own_max ((own_min xn xc) - (1 : Int32)) (0 : Int32)) + xm)), (.int xc)]) (rest := []) (lenOf own_pd2 rfl) rfl (by show 2 * 0 + _ ≤ _; exact Nat.le_of_eq rfl) (hb hby at_176) (fun _ _ => ⟨rfl, e191, (by decide : 3 + 0 ≤ _), (by decide : 25 + 0 ≤ _)⟩)
  dsimp only [Pt.U, Pt.locs, Pt.cells, Pt.slots] at X194 l194 y194 z194 st194 hQ194
  subst l194 y194 z194
  obtain ⟨rfl, N194q, e194⟩ := hQ194
  have N194 := Fr.app N191 N194q
  have k195 : ∀ t, Steps p.tables e below (T194.setTop (mkF m 179 #[.val (.int p1), .val (.long q2), .second, .val (.long q3), .second, .val (.long q4), .second, .val (.long q5), .second, .val (.long q6), .second, .val (.int xc), .val (.int xn), .val (.int xm), .val (.int xt), .val (.ref b146), .val (.ref b164), .val (.int (own_min xn xc)), .val (.int (own_max ((own_min xn xc) - (1 : Int32)) (0 : Int32))), .unset] [(.int (own_min ((own_max ((own_min xn xc) - (1 : Int32)) (0 : Int32)) + xm) xc))])) t → Steps p.tables e below (s₁.setTop (entryFrame m #[(.int p1), (.long q2), (.long q3), (.long q4), (.long q5), (.long q6)] maxLocals)) t := fun t k => k193 t (st194 t k)
  have hf := own_minN (own_addN hk2 hxm (by omega)) hxc
  rw [← fin] at hf
  have k196 : ∀ t, Steps p.tables e below (T194.setTop (mkF m 181 #[.val (.int p1), .val (.long q2), .second, .val (.long q3), .second, .val (.long q4), .second, .val (.long q5), .second, .val (.long q6), .second, .val (.int xc), .val (.int xn), .val (.int xm), .val (.int xt), .val (.ref b146), .val (.ref b164), .val (.int (own_min xn xc)), .val (.int (own_max ((own_min xn xc) - (1 : Int32)) (0 : Int32))), .val (.int (own_min ((own_max ((own_min xn xc) - (1 : Int32)) (0 : Int32)) + xm) xc))] [])) t → Steps p.tables e below (s₁.setTop (entryFrame m #[(.int p1), (.long q2), (.long q3), (.long q4), (.long q5), (.long q6)] maxLocals)) t := fun t k => k195 t (by
      show Steps p.tables e below (T194.setTop (mkF m 179 #[.val (.int p1), .val (.long q2), .second, .val (.long q3), .second, .val (.long q4), .second, .val (.long q5), .second, .val (.long q6), .second, .val (.int xc), .val (.int xn), .val (.int xm), .val (.int xt), .val (.ref b146), .val (.ref b164), .val (.int (own_min xn xc)), .val (.int (own_max ((own_min xn xc) - (1 : Int32)) (0 : Int32))), .unset] [(.int (own_min ((own_max ((own_min xn xc) - (1 : Int32)) (0 : Int32)) + xm) xc))])) _
      refine XS.istore X194.here hx rfl (hb hby at_179) rfl (l' := #[.val (.int p1), .val (.long q2), .second, .val (.long q3), .second, .val (.long q4), .second, .val (.long q5), .second, .val (.long q6), .second, .val (.int xc), .val (.int xn), .val (.int xm), .val (.int xt), .val (.ref b146), .val (.ref b164), .val (.int (own_min xn xc)), .val (.int (own_max ((own_min xn xc) - (1 : Int32)) (0 : Int32))), .val (.int (own_min ((own_max ((own_min xn xc) - (1 : Int32)) (0 : Int32)) + xm) xc))]) rfl ?_
      exact k)
  obtain ⟨xf, exf⟩ : ∃ z, z = (own_min ((own_max ((own_min xn xc) - (1 : Int32)) (0 : Int32)) + xm) xc) := ⟨_, rfl⟩
  rw [← exf] at k196
  rw [← exf] at hf
  have k197 : ∀ t, Steps p.tables e below (T194.setTop (mkF m 183 #[.val (.int p1), .val (.long q2), .second, .val (.long q3), .second, .val (.long q4), .second, .val (.long q5), .second, .val (.long q6), .second, .val (.int xc), .val (.int xn), .val (.int xm), .val (.int xt), .val (.ref b146), .val (.ref b164), .val (.int (own_min xn xc)), .val (.int (own_max ((own_min xn xc) - (1 : Int32)) (0 : Int32))), .val (.int xf)] [(.ref b164)])) t → Steps p.tables e below (s₁.setTop (entryFrame m #[(.int p1), (.long q2), (.long q3), (.long q4), (.long q5), (.long q6)] maxLocals)) t := fun t k => k196 t (by
      show Steps p.tables e below (T194.setTop (mkF m 181 #[.val (.int p1), .val (.long q2), .second, .val (.long q3), .second, .val (.long q4), .second, .val (.long q5), .second, .val (.long q6), .second, .val (.int xc), .val (.int xn), .val (.int xm), .val (.int xt), .val (.ref b146), .val (.ref b164), .val (.int (own_min xn xc)), .val (.int (own_max ((own_min xn xc) - (1 : Int32)) (0 : Int32))), .val (.int xf)] [])) _
      refine XS.aload X194.here hx rfl (hb hby at_181) rfl rfl ?_
      exact k)
  obtain ⟨cq198, kq198, q198a, q198b, q198c⟩ := isOf hZ e194 R6.1
  obtain ⟨_, _, ⟨T198, L198, c198, n198⟩, -, X198, ⟨Lc198, hQ198, l198, y198, z198⟩, st198⟩ := X194.virtualBack hx (y := (⟨"com/example/upya/upya/policy/LongRing", "size", "()I"⟩ : MethodName)) (z := (⟨"com/example/upya/upya/policy/LongRing", "size", "()I"⟩ : MethodName)) hown (mvT hZ (hw _ (List.mem_of_getElem? (i := 33) rfl))) (mvT hZ (hw _ (List.mem_of_getElem? (i := 34) rfl))) (notFace_of_selects (args := #[]) (mvT hZ (hw _ (List.mem_of_getElem? (i := 36) rfl)))) (mvT hZ (hw _ (List.mem_of_getElem? (i := 36) rfl))) (mvT hZ (hw _ (List.mem_of_getElem? (i := 35) rfl))) (by decide) (backOf (W := 0) (rm7 l Z a0 hw [] b164 bb xc cap s6 t6 seq T185.heap n0 Zb R6) hZ (hw _ (List.mem_of_getElem? (i := 37) rfl)) (hw _ (List.mem_of_getElem? (i := 3) rfl)) (by decide) (by decide)) q198a q198c (g := (mkF m 183 #[.val (.int p1), .val (.long q2), .second, .val (.long q3), .second, .val (.long q4), .second, .val (.long q5), .second, .val (.long q6), .second, .val (.int xc), .val (.int xn), .val (.int xm), .val (.int xt), .val (.ref b146), .val (.ref b164), .val (.int (own_min xn xc)), .val (.int (own_max ((own_min xn xc) - (1 : Int32)) (0 : Int32))), .val (.int xf)] [(.ref b164)])) rfl (by rw [hml]; rfl) (Steps.refl _) (argsL := []) (rest := []) (lenOf own_pd4 rfl) rfl (by show 2 * 0 + _ ≤ _; exact Nat.le_of_eq rfl) (hb hby at_183) (fun _ _ => ⟨rfl, e194, (by decide : 3 + 0 ≤ _), (by decide : 25 + 0 ≤ _)⟩)
  dsimp only [Pt.U, Pt.locs, Pt.cells, Pt.slots] at X198 l198 y198 z198 st198 hQ198
  subst l198 y198 z198
  obtain ⟨rfl, N198q, e198⟩ := hQ198
  have N198 := Fr.app N194 N198q
  have k199 : ∀ t, Steps p.tables e below (T198.setTop (mkF m 186 #[.val (.int p1), .val (.long q2), .second, .val (.long q3), .second, .val (.long q4), .second, .val (.long q5), .second, .val (.long q6), .second, .val (.int xc), .val (.int xn), .val (.int xm), .val (.int xt), .val (.ref b146), .val (.ref b164), .val (.int (own_min xn xc)), .val (.int (own_max ((own_min xn xc) - (1 : Int32)) (0 : Int32))), .val (.int xf)] [(.int (Int32.ofInt s6))])) t → Steps p.tables e below (s₁.setTop (entryFrame m #[(.int p1), (.long q2), (.long q3), (.long q4), (.long q5), (.long q6)] maxLocals)) t := fun t k => k197 t (st198.trans k)
  rw [← own_of hf] at k199
  rw [← ht6] at hxt
  have k200 : ∀ t, Steps p.tables e below (T198.setTop (mkF m 202 #[.val (.int p1), .val (.long q2), .second, .val (.long q3), .second, .val (.long q4), .second, .val (.long q5), .second, .val (.long q6), .second, .val (.int xc), .val (.int xn), .val (.int xm), .val (.int xt), .val (.ref b146), .val (.ref b164), .val (.int (own_min xn xc)), .val (.int (own_max ((own_min xn xc) - (1 : Int32)) (0 : Int32))), .val (.int xf)] [(.ref b146), (.int xt), (.int xf), (.int (0 : Int32)), (.ref b164)])) t → Steps p.tables e below (s₁.setTop (entryFrame m #[(.int p1), (.long q2), (.long q3), (.long q4), (.long q5), (.long q6)] maxLocals)) t := fun t k => k199 t (by
      show Steps p.tables e below (T198.setTop (mkF m 186 #[.val (.int p1), .val (.long q2), .second, .val (.long q3), .second, .val (.long q4), .second, .val (.long q5), .second, .val (.long q6), .second, .val (.int xc), .val (.int xn), .val (.int xm), .val (.int xt), .val (.ref b146), .val (.ref b164), .val (.int (own_min xn xc)), .val (.int (own_max ((own_min xn xc) - (1 : Int32)) (0 : Int32))), .val (.int xf)] [(.int xf)])) _
      refine XS.iload X198.here hx rfl (hb hby at_186) rfl ?_
      show Steps p.tables e below (T198.setTop (mkF m 188 #[.val (.int p1), .val (.long q2), .second, .val (.long q3), .second, .val (.long q4), .second, .val (.long q5), .second, .val (.long q6), .second, .val (.int xc), .val (.int xn), .val (.int xm), .val (.int xt), .val (.ref b146), .val (.ref b164), .val (.int (own_min xn xc)), .val (.int (own_max ((own_min xn xc) - (1 : Int32)) (0 : Int32))), .val (.int xf)] [(.int xf), (.int xf)])) _
      refine XS.icmpYes X198.here hx rfl (pc0 := 188) (pc' := 193) rfl (hb hby at_188) rfl (teq rfl).1 (by decide) (by decide) ?_
      show Steps p.tables e below (T198.setTop (mkF m 193 #[.val (.int p1), .val (.long q2), .second, .val (.long q3), .second, .val (.long q4), .second, .val (.long q5), .second, .val (.long q6), .second, .val (.int xc), .val (.int xn), .val (.int xm), .val (.int xt), .val (.ref b146), .val (.ref b164), .val (.int (own_min xn xc)), .val (.int (own_max ((own_min xn xc) - (1 : Int32)) (0 : Int32))), .val (.int xf)] [])) _
      refine XS.aload X198.here hx rfl (hb hby at_193) rfl rfl ?_
      show Steps p.tables e below (T198.setTop (mkF m 195 #[.val (.int p1), .val (.long q2), .second, .val (.long q3), .second, .val (.long q4), .second, .val (.long q5), .second, .val (.long q6), .second, .val (.int xc), .val (.int xn), .val (.int xm), .val (.int xt), .val (.ref b146), .val (.ref b164), .val (.int (own_min xn xc)), .val (.int (own_max ((own_min xn xc) - (1 : Int32)) (0 : Int32))), .val (.int xf)] [(.ref b164)])) _
      refine XS.iconst X198.here hx rfl (hb hby at_195) ?_
      show Steps p.tables e below (T198.setTop (mkF m 196 #[.val (.int p1), .val (.long q2), .second, .val (.long q3), .second, .val (.long q4), .second, .val (.long q5), .second, .val (.long q6), .second, .val (.int xc), .val (.int xn), .val (.int xm), .val (.int xt), .val (.ref b146), .val (.ref b164), .val (.int (own_min xn xc)), .val (.int (own_max ((own_min xn xc) - (1 : Int32)) (0 : Int32))), .val (.int xf)] [(.int (0 : Int32)), (.ref b164)])) _
      refine XS.iload X198.here hx rfl (hb hby at_196) rfl ?_
      show Steps p.tables e below (T198.setTop (mkF m 198 #[.val (.int p1), .val (.long q2), .second, .val (.long q3), .second, .val (.long q4), .second, .val (.long q5), .second, .val (.long q6), .second, .val (.int xc), .val (.int xn), .val (.int xm), .val (.int xt), .val (.ref b146), .val (.ref b164), .val (.int (own_min xn xc)), .val (.int (own_max ((own_min xn xc) - (1 : Int32)) (0 : Int32))), .val (.int xf)] [(.int xf), (.int (0 : Int32)), (.ref b164)])) _
      refine XS.iload X198.here hx rfl (hb hby at_198) rfl ?_
      show Steps p.tables e below (T198.setTop (mkF m 200 #[.val (.int p1), .val (.long q2), .second, .val (.long q3), .second, .val (.long q4), .second, .val (.long q5), .second, .val (.long q6), .second, .val (.int xc), .val (.int xn), .val (.int xm), .val (.int xt), .val (.ref b146), .val (.ref b164), .val (.int (own_min xn xc)), .val (.int (own_max ((own_min xn xc) - (1 : Int32)) (0 : Int32))), .val (.int xf)] [(.int xt), (.int xf), (.int (0 : Int32)), (.ref b164)])) _
      refine XS.aload X198.here hx rfl (hb hby at_200) rfl rfl ?_
      exact k)
  obtain ⟨_, _, ⟨T201, L201, c201, n201⟩, -, X201, ⟨Lc201, hQ201, l201, y201, z201⟩, st201⟩ := Jvm.LawKit.callS X198 hx (y := (⟨"com/example/upya/upya/policy/LongRingRemoveOldestPinLaw", "check", "(Lcom/example/upya/upya/policy/LongRing;III[J)Z"⟩ : MethodName)) hown (mvT hZ (hw _ (List.mem_of_getElem? (i := 38) rfl))) (mvT hZ (hw _ (List.mem_of_getElem? (i := 39) rfl))) (mvT hZ (hw _ (List.mem_of_getElem? (i := 20) rfl))) (mvT hZ (hw _ (List.mem_of_getElem? (i := 40) rfl))) (by decide) (backOf (W := 0) (rm8 l Z a0 hw [] b164 (0 : Int32) xf xt b146 bb xc cap s6 t6 seq 0 T185.heap n0 Zb hxc hc1 hc4 hs6 nb ge gb R6 (by decide) hf hxt (by omega) Vv) hZ (hw _ (List.mem_of_getElem? (i := 40) rfl)) (hw _ (List.mem_of_getElem? (i := 20) rfl)) (by decide) (by decide)) (g := (mkF m 202 #[.val (.int p1), .val (.long q2), .second, .val (.long q3), .second, .val (.long q4), .second, .val (.long q5), .second, .val (.long q6), .second, .val (.int xc), .val (.int xn), .val (.int xm), .val (.int xt), .val (.ref b146), .val (.ref b164), .val (.int (own_min xn xc)), .val (.int (own_max ((own_min xn xc) - (1 : Int32)) (0 : Int32))), .val (.int xf)] [(.ref b146), (.int xt), (.int xf), (.int (0 : Int32)), (.ref b164)])) rfl (by rw [hml]; rfl) (argsL := [(.ref b164), (.int (0 : Int32)), (.int xf), (.int xt), (.ref b146)]) (rest := []) (lenOf own_pd5 rfl) rfl (by show 2 * 0 + _ ≤ _; exact Nat.le_of_eq rfl) (hb hby at_202) (fun _ _ => ⟨rfl, e198, (by decide : 3 + 0 ≤ _), (by decide : 25 + 0 ≤ _)⟩)
  dsimp only [Pt.U, Pt.locs, Pt.cells, Pt.slots] at X201 l201 y201 z201 st201 hQ201
  subst l201 y201 z201
  obtain ⟨rfl, N201q, e201⟩ := hQ201
  have N201 := Fr.app N198 N201q
  have k202 : ∀ t, Steps p.tables e below (T201.setTop (mkF m 205 #[.val (.int p1), .val (.long q2), .second, .val (.long q3), .second, .val (.long q4), .second, .val (.long q5), .second, .val (.long q6), .second, .val (.int xc), .val (.int xn), .val (.int xm), .val (.int xt), .val (.ref b146), .val (.ref b164), .val (.int (own_min xn xc)), .val (.int (own_max ((own_min xn xc) - (1 : Int32)) (0 : Int32))), .val (.int xf)] [(.int (1 : Int32))])) t → Steps p.tables e below (s₁.setTop (entryFrame m #[(.int p1), (.long q2), (.long q3), (.long q4), (.long q5), (.long q6)] maxLocals)) t := fun t k => k200 t (st201 t k)
  have k203 : ∀ t, Steps p.tables e below (T201.setTop (mkF m 217 #[.val (.int p1), .val (.long q2), .second, .val (.long q3), .second, .val (.long q4), .second, .val (.long q5), .second, .val (.long q6), .second, .val (.int xc), .val (.int xn), .val (.int xm), .val (.int xt), .val (.ref b146), .val (.ref b164), .val (.int (own_min xn xc)), .val (.int (own_max ((own_min xn xc) - (1 : Int32)) (0 : Int32))), .val (.int xf)] [(.ref b146), (.int xt), (.int xf), (.int (1 : Int32)), (.ref b164)])) t → Steps p.tables e below (s₁.setTop (entryFrame m #[(.int p1), (.long q2), (.long q3), (.long q4), (.long q5), (.long q6)] maxLocals)) t := fun t k => k202 t (by
      show Steps p.tables e below (T201.setTop (mkF m 205 #[.val (.int p1), .val (.long q2), .second, .val (.long q3), .second, .val (.long q4), .second, .val (.long q5), .second, .val (.long q6), .second, .val (.int xc), .val (.int xn), .val (.int xm), .val (.int xt), .val (.ref b146), .val (.ref b164), .val (.int (own_min xn xc)), .val (.int (own_max ((own_min xn xc) - (1 : Int32)) (0 : Int32))), .val (.int xf)] [(.int (1 : Int32))])) _
      refine XS.ifNo X201.here hx rfl (hb hby at_205) rfl ((if0 _ _).trans (feq (by decide)).1) ?_
      show Steps p.tables e below (T201.setTop (mkF m 208 #[.val (.int p1), .val (.long q2), .second, .val (.long q3), .second, .val (.long q4), .second, .val (.long q5), .second, .val (.long q6), .second, .val (.int xc), .val (.int xn), .val (.int xm), .val (.int xt), .val (.ref b146), .val (.ref b164), .val (.int (own_min xn xc)), .val (.int (own_max ((own_min xn xc) - (1 : Int32)) (0 : Int32))), .val (.int xf)] [])) _
      refine XS.aload X201.here hx rfl (hb hby at_208) rfl rfl ?_
      show Steps p.tables e below (T201.setTop (mkF m 210 #[.val (.int p1), .val (.long q2), .second, .val (.long q3), .second, .val (.long q4), .second, .val (.long q5), .second, .val (.long q6), .second, .val (.int xc), .val (.int xn), .val (.int xm), .val (.int xt), .val (.ref b146), .val (.ref b164), .val (.int (own_min xn xc)), .val (.int (own_max ((own_min xn xc) - (1 : Int32)) (0 : Int32))), .val (.int xf)] [(.ref b164)])) _
      refine XS.iconst X201.here hx rfl (hb hby at_210) ?_
      show Steps p.tables e below (T201.setTop (mkF m 211 #[.val (.int p1), .val (.long q2), .second, .val (.long q3), .second, .val (.long q4), .second, .val (.long q5), .second, .val (.long q6), .second, .val (.int xc), .val (.int xn), .val (.int xm), .val (.int xt), .val (.ref b146), .val (.ref b164), .val (.int (own_min xn xc)), .val (.int (own_max ((own_min xn xc) - (1 : Int32)) (0 : Int32))), .val (.int xf)] [(.int (1 : Int32)), (.ref b164)])) _
      refine XS.iload X201.here hx rfl (hb hby at_211) rfl ?_
      show Steps p.tables e below (T201.setTop (mkF m 213 #[.val (.int p1), .val (.long q2), .second, .val (.long q3), .second, .val (.long q4), .second, .val (.long q5), .second, .val (.long q6), .second, .val (.int xc), .val (.int xn), .val (.int xm), .val (.int xt), .val (.ref b146), .val (.ref b164), .val (.int (own_min xn xc)), .val (.int (own_max ((own_min xn xc) - (1 : Int32)) (0 : Int32))), .val (.int xf)] [(.int xf), (.int (1 : Int32)), (.ref b164)])) _
      refine XS.iload X201.here hx rfl (hb hby at_213) rfl ?_
      show Steps p.tables e below (T201.setTop (mkF m 215 #[.val (.int p1), .val (.long q2), .second, .val (.long q3), .second, .val (.long q4), .second, .val (.long q5), .second, .val (.long q6), .second, .val (.int xc), .val (.int xn), .val (.int xm), .val (.int xt), .val (.ref b146), .val (.ref b164), .val (.int (own_min xn xc)), .val (.int (own_max ((own_min xn xc) - (1 : Int32)) (0 : Int32))), .val (.int xf)] [(.int xt), (.int xf), (.int (1 : Int32)), (.ref b164)])) _
      refine XS.aload X201.here hx rfl (hb hby at_215) rfl rfl ?_
      exact k)
  obtain ⟨_, _, ⟨T204, L204, c204, n204⟩, -, X204, ⟨Lc204, hQ204, l204, y204, z204⟩, st204⟩ := Jvm.LawKit.callS X201 hx (y := (⟨"com/example/upya/upya/policy/LongRingRemoveOldestPinLaw", "check", "(Lcom/example/upya/upya/policy/LongRing;III[J)Z"⟩ : MethodName)) hown (mvT hZ (hw _ (List.mem_of_getElem? (i := 38) rfl))) (mvT hZ (hw _ (List.mem_of_getElem? (i := 39) rfl))) (mvT hZ (hw _ (List.mem_of_getElem? (i := 20) rfl))) (mvT hZ (hw _ (List.mem_of_getElem? (i := 40) rfl))) (by decide) (backOf (W := 0) (rm8 l Z a0 hw [] b164 (1 : Int32) xf xt b146 bb xc cap s6 t6 seq 1 T185.heap n0 Zb hxc hc1 hc4 hs6 nb ge gb R6 (by decide) hf hxt (by omega) Vv) hZ (hw _ (List.mem_of_getElem? (i := 40) rfl)) (hw _ (List.mem_of_getElem? (i := 20) rfl)) (by decide) (by decide)) (g := (mkF m 217 #[.val (.int p1), .val (.long q2), .second, .val (.long q3), .second, .val (.long q4), .second, .val (.long q5), .second, .val (.long q6), .second, .val (.int xc), .val (.int xn), .val (.int xm), .val (.int xt), .val (.ref b146), .val (.ref b164), .val (.int (own_min xn xc)), .val (.int (own_max ((own_min xn xc) - (1 : Int32)) (0 : Int32))), .val (.int xf)] [(.ref b146), (.int xt), (.int xf), (.int (1 : Int32)), (.ref b164)])) rfl (by rw [hml]; rfl) (argsL := [(.ref b164), (.int (1 : Int32)), (.int xf), (.int xt), (.ref b146)]) (rest := []) (lenOf own_pd5 rfl) rfl (by show 2 * 0 + _ ≤ _; exact Nat.le_of_eq rfl) (hb hby at_217) (fun _ _ => ⟨rfl, e201, (by decide : 3 + 0 ≤ _), (by decide : 25 + 0 ≤ _)⟩)
  dsimp only [Pt.U, Pt.locs, Pt.cells, Pt.slots] at X204 l204 y204 z204 st204 hQ204
  subst l204 y204 z204
  obtain ⟨rfl, N204q, e204⟩ := hQ204
  have N204 := Fr.app N201 N204q
  have k205 : ∀ t, Steps p.tables e below (T204.setTop (mkF m 220 #[.val (.int p1), .val (.long q2), .second, .val (.long q3), .second, .val (.long q4), .second, .val (.long q5), .second, .val (.long q6), .second, .val (.int xc), .val (.int xn), .val (.int xm), .val (.int xt), .val (.ref b146), .val (.ref b164), .val (.int (own_min xn xc)), .val (.int (own_max ((own_min xn xc) - (1 : Int32)) (0 : Int32))), .val (.int xf)] [(.int (1 : Int32))])) t → Steps p.tables e below (s₁.setTop (entryFrame m #[(.int p1), (.long q2), (.long q3), (.long q4), (.long q5), (.long q6)] maxLocals)) t := fun t k => k203 t (st204 t k)
  have k206 : ∀ t, Steps p.tables e below (T204.setTop (mkF m 232 #[.val (.int p1), .val (.long q2), .second, .val (.long q3), .second, .val (.long q4), .second, .val (.long q5), .second, .val (.long q6), .second, .val (.int xc), .val (.int xn), .val (.int xm), .val (.int xt), .val (.ref b146), .val (.ref b164), .val (.int (own_min xn xc)), .val (.int (own_max ((own_min xn xc) - (1 : Int32)) (0 : Int32))), .val (.int xf)] [(.ref b146), (.int xt), (.int xf), (.int (2 : Int32)), (.ref b164)])) t → Steps p.tables e below (s₁.setTop (entryFrame m #[(.int p1), (.long q2), (.long q3), (.long q4), (.long q5), (.long q6)] maxLocals)) t := fun t k => k205 t (by
      show Steps p.tables e below (T204.setTop (mkF m 220 #[.val (.int p1), .val (.long q2), .second, .val (.long q3), .second, .val (.long q4), .second, .val (.long q5), .second, .val (.long q6), .second, .val (.int xc), .val (.int xn), .val (.int xm), .val (.int xt), .val (.ref b146), .val (.ref b164), .val (.int (own_min xn xc)), .val (.int (own_max ((own_min xn xc) - (1 : Int32)) (0 : Int32))), .val (.int xf)] [(.int (1 : Int32))])) _
      refine XS.ifNo X204.here hx rfl (hb hby at_220) rfl ((if0 _ _).trans (feq (by decide)).1) ?_
      show Steps p.tables e below (T204.setTop (mkF m 223 #[.val (.int p1), .val (.long q2), .second, .val (.long q3), .second, .val (.long q4), .second, .val (.long q5), .second, .val (.long q6), .second, .val (.int xc), .val (.int xn), .val (.int xm), .val (.int xt), .val (.ref b146), .val (.ref b164), .val (.int (own_min xn xc)), .val (.int (own_max ((own_min xn xc) - (1 : Int32)) (0 : Int32))), .val (.int xf)] [])) _
      refine XS.aload X204.here hx rfl (hb hby at_223) rfl rfl ?_
      show Steps p.tables e below (T204.setTop (mkF m 225 #[.val (.int p1), .val (.long q2), .second, .val (.long q3), .second, .val (.long q4), .second, .val (.long q5), .second, .val (.long q6), .second, .val (.int xc), .val (.int xn), .val (.int xm), .val (.int xt), .val (.ref b146), .val (.ref b164), .val (.int (own_min xn xc)), .val (.int (own_max ((own_min xn xc) - (1 : Int32)) (0 : Int32))), .val (.int xf)] [(.ref b164)])) _
      refine XS.iconst X204.here hx rfl (hb hby at_225) ?_
      show Steps p.tables e below (T204.setTop (mkF m 226 #[.val (.int p1), .val (.long q2), .second, .val (.long q3), .second, .val (.long q4), .second, .val (.long q5), .second, .val (.long q6), .second, .val (.int xc), .val (.int xn), .val (.int xm), .val (.int xt), .val (.ref b146), .val (.ref b164), .val (.int (own_min xn xc)), .val (.int (own_max ((own_min xn xc) - (1 : Int32)) (0 : Int32))), .val (.int xf)] [(.int (2 : Int32)), (.ref b164)])) _
      refine XS.iload X204.here hx rfl (hb hby at_226) rfl ?_
      show Steps p.tables e below (T204.setTop (mkF m 228 #[.val (.int p1), .val (.long q2), .second, .val (.long q3), .second, .val (.long q4), .second, .val (.long q5), .second, .val (.long q6), .second, .val (.int xc), .val (.int xn), .val (.int xm), .val (.int xt), .val (.ref b146), .val (.ref b164), .val (.int (own_min xn xc)), .val (.int (own_max ((own_min xn xc) - (1 : Int32)) (0 : Int32))), .val (.int xf)] [(.int xf), (.int (2 : Int32)), (.ref b164)])) _
      refine XS.iload X204.here hx rfl (hb hby at_228) rfl ?_
      show Steps p.tables e below (T204.setTop (mkF m 230 #[.val (.int p1), .val (.long q2), .second, .val (.long q3), .second, .val (.long q4), .second, .val (.long q5), .second, .val (.long q6), .second, .val (.int xc), .val (.int xn), .val (.int xm), .val (.int xt), .val (.ref b146), .val (.ref b164), .val (.int (own_min xn xc)), .val (.int (own_max ((own_min xn xc) - (1 : Int32)) (0 : Int32))), .val (.int xf)] [(.int xt), (.int xf), (.int (2 : Int32)), (.ref b164)])) _
      refine XS.aload X204.here hx rfl (hb hby at_230) rfl rfl ?_
      exact k)
  obtain ⟨_, _, ⟨T207, L207, c207, n207⟩, -, X207, ⟨Lc207, hQ207, l207, y207, z207⟩, st207⟩ := Jvm.LawKit.callS X204 hx (y := (⟨"com/example/upya/upya/policy/LongRingRemoveOldestPinLaw", "check", "(Lcom/example/upya/upya/policy/LongRing;III[J)Z"⟩ : MethodName)) hown (mvT hZ (hw _ (List.mem_of_getElem? (i := 38) rfl))) (mvT hZ (hw _ (List.mem_of_getElem? (i := 39) rfl))) (mvT hZ (hw _ (List.mem_of_getElem? (i := 20) rfl))) (mvT hZ (hw _ (List.mem_of_getElem? (i := 40) rfl))) (by decide) (backOf (W := 0) (rm8 l Z a0 hw [] b164 (2 : Int32) xf xt b146 bb xc cap s6 t6 seq 2 T185.heap n0 Zb hxc hc1 hc4 hs6 nb ge gb R6 (by decide) hf hxt (by omega) Vv) hZ (hw _ (List.mem_of_getElem? (i := 40) rfl)) (hw _ (List.mem_of_getElem? (i := 20) rfl)) (by decide) (by decide)) (g := (mkF m 232 #[.val (.int p1), .val (.long q2), .second, .val (.long q3), .second, .val (.long q4), .second, .val (.long q5), .second, .val (.long q6), .second, .val (.int xc), .val (.int xn), .val (.int xm), .val (.int xt), .val (.ref b146), .val (.ref b164), .val (.int (own_min xn xc)), .val (.int (own_max ((own_min xn xc) - (1 : Int32)) (0 : Int32))), .val (.int xf)] [(.ref b146), (.int xt), (.int xf), (.int (2 : Int32)), (.ref b164)])) rfl (by rw [hml]; rfl) (argsL := [(.ref b164), (.int (2 : Int32)), (.int xf), (.int xt), (.ref b146)]) (rest := []) (lenOf own_pd5 rfl) rfl (by show 2 * 0 + _ ≤ _; exact Nat.le_of_eq rfl) (hb hby at_232) (fun _ _ => ⟨rfl, e204, (by decide : 3 + 0 ≤ _), (by decide : 25 + 0 ≤ _)⟩)
  dsimp only [Pt.U, Pt.locs, Pt.cells, Pt.slots] at X207 l207 y207 z207 st207 hQ207
  subst l207 y207 z207
  obtain ⟨rfl, N207q, e207⟩ := hQ207
  have N207 := Fr.app N204 N207q
  have k208 : ∀ t, Steps p.tables e below (T207.setTop (mkF m 235 #[.val (.int p1), .val (.long q2), .second, .val (.long q3), .second, .val (.long q4), .second, .val (.long q5), .second, .val (.long q6), .second, .val (.int xc), .val (.int xn), .val (.int xm), .val (.int xt), .val (.ref b146), .val (.ref b164), .val (.int (own_min xn xc)), .val (.int (own_max ((own_min xn xc) - (1 : Int32)) (0 : Int32))), .val (.int xf)] [(.int (1 : Int32))])) t → Steps p.tables e below (s₁.setTop (entryFrame m #[(.int p1), (.long q2), (.long q3), (.long q4), (.long q5), (.long q6)] maxLocals)) t := fun t k => k206 t (st207 t k)
  have k209 : ∀ t, Steps p.tables e below (T207.setTop (mkF m 247 #[.val (.int p1), .val (.long q2), .second, .val (.long q3), .second, .val (.long q4), .second, .val (.long q5), .second, .val (.long q6), .second, .val (.int xc), .val (.int xn), .val (.int xm), .val (.int xt), .val (.ref b146), .val (.ref b164), .val (.int (own_min xn xc)), .val (.int (own_max ((own_min xn xc) - (1 : Int32)) (0 : Int32))), .val (.int xf)] [(.ref b146), (.int xt), (.int xf), (.int (3 : Int32)), (.ref b164)])) t → Steps p.tables e below (s₁.setTop (entryFrame m #[(.int p1), (.long q2), (.long q3), (.long q4), (.long q5), (.long q6)] maxLocals)) t := fun t k => k208 t (by
      show Steps p.tables e below (T207.setTop (mkF m 235 #[.val (.int p1), .val (.long q2), .second, .val (.long q3), .second, .val (.long q4), .second, .val (.long q5), .second, .val (.long q6), .second, .val (.int xc), .val (.int xn), .val (.int xm), .val (.int xt), .val (.ref b146), .val (.ref b164), .val (.int (own_min xn xc)), .val (.int (own_max ((own_min xn xc) - (1 : Int32)) (0 : Int32))), .val (.int xf)] [(.int (1 : Int32))])) _
      refine XS.ifNo X207.here hx rfl (hb hby at_235) rfl ((if0 _ _).trans (feq (by decide)).1) ?_
      show Steps p.tables e below (T207.setTop (mkF m 238 #[.val (.int p1), .val (.long q2), .second, .val (.long q3), .second, .val (.long q4), .second, .val (.long q5), .second, .val (.long q6), .second, .val (.int xc), .val (.int xn), .val (.int xm), .val (.int xt), .val (.ref b146), .val (.ref b164), .val (.int (own_min xn xc)), .val (.int (own_max ((own_min xn xc) - (1 : Int32)) (0 : Int32))), .val (.int xf)] [])) _
      refine XS.aload X207.here hx rfl (hb hby at_238) rfl rfl ?_
      show Steps p.tables e below (T207.setTop (mkF m 240 #[.val (.int p1), .val (.long q2), .second, .val (.long q3), .second, .val (.long q4), .second, .val (.long q5), .second, .val (.long q6), .second, .val (.int xc), .val (.int xn), .val (.int xm), .val (.int xt), .val (.ref b146), .val (.ref b164), .val (.int (own_min xn xc)), .val (.int (own_max ((own_min xn xc) - (1 : Int32)) (0 : Int32))), .val (.int xf)] [(.ref b164)])) _
      refine XS.iconst X207.here hx rfl (hb hby at_240) ?_
      show Steps p.tables e below (T207.setTop (mkF m 241 #[.val (.int p1), .val (.long q2), .second, .val (.long q3), .second, .val (.long q4), .second, .val (.long q5), .second, .val (.long q6), .second, .val (.int xc), .val (.int xn), .val (.int xm), .val (.int xt), .val (.ref b146), .val (.ref b164), .val (.int (own_min xn xc)), .val (.int (own_max ((own_min xn xc) - (1 : Int32)) (0 : Int32))), .val (.int xf)] [(.int (3 : Int32)), (.ref b164)])) _
      refine XS.iload X207.here hx rfl (hb hby at_241) rfl ?_
      show Steps p.tables e below (T207.setTop (mkF m 243 #[.val (.int p1), .val (.long q2), .second, .val (.long q3), .second, .val (.long q4), .second, .val (.long q5), .second, .val (.long q6), .second, .val (.int xc), .val (.int xn), .val (.int xm), .val (.int xt), .val (.ref b146), .val (.ref b164), .val (.int (own_min xn xc)), .val (.int (own_max ((own_min xn xc) - (1 : Int32)) (0 : Int32))), .val (.int xf)] [(.int xf), (.int (3 : Int32)), (.ref b164)])) _
      refine XS.iload X207.here hx rfl (hb hby at_243) rfl ?_
      show Steps p.tables e below (T207.setTop (mkF m 245 #[.val (.int p1), .val (.long q2), .second, .val (.long q3), .second, .val (.long q4), .second, .val (.long q5), .second, .val (.long q6), .second, .val (.int xc), .val (.int xn), .val (.int xm), .val (.int xt), .val (.ref b146), .val (.ref b164), .val (.int (own_min xn xc)), .val (.int (own_max ((own_min xn xc) - (1 : Int32)) (0 : Int32))), .val (.int xf)] [(.int xt), (.int xf), (.int (3 : Int32)), (.ref b164)])) _
      refine XS.aload X207.here hx rfl (hb hby at_245) rfl rfl ?_
      exact k)
  obtain ⟨_, _, ⟨T210, L210, c210, n210⟩, -, X210, ⟨Lc210, hQ210, l210, y210, z210⟩, st210⟩ := Jvm.LawKit.callS X207 hx (y := (⟨"com/example/upya/upya/policy/LongRingRemoveOldestPinLaw", "check", "(Lcom/example/upya/upya/policy/LongRing;III[J)Z"⟩ : MethodName)) hown (mvT hZ (hw _ (List.mem_of_getElem? (i := 38) rfl))) (mvT hZ (hw _ (List.mem_of_getElem? (i := 39) rfl))) (mvT hZ (hw _ (List.mem_of_getElem? (i := 20) rfl))) (mvT hZ (hw _ (List.mem_of_getElem? (i := 40) rfl))) (by decide) (backOf (W := 0) (rm8 l Z a0 hw [] b164 (3 : Int32) xf xt b146 bb xc cap s6 t6 seq 3 T185.heap n0 Zb hxc hc1 hc4 hs6 nb ge gb R6 (by decide) hf hxt (by omega) Vv) hZ (hw _ (List.mem_of_getElem? (i := 40) rfl)) (hw _ (List.mem_of_getElem? (i := 20) rfl)) (by decide) (by decide)) (g := (mkF m 247 #[.val (.int p1), .val (.long q2), .second, .val (.long q3), .second, .val (.long q4), .second, .val (.long q5), .second, .val (.long q6), .second, .val (.int xc), .val (.int xn), .val (.int xm), .val (.int xt), .val (.ref b146), .val (.ref b164), .val (.int (own_min xn xc)), .val (.int (own_max ((own_min xn xc) - (1 : Int32)) (0 : Int32))), .val (.int xf)] [(.ref b146), (.int xt), (.int xf), (.int (3 : Int32)), (.ref b164)])) rfl (by rw [hml]; rfl) (argsL := [(.ref b164), (.int (3 : Int32)), (.int xf), (.int xt), (.ref b146)]) (rest := []) (lenOf own_pd5 rfl) rfl (by show 2 * 0 + _ ≤ _; exact Nat.le_of_eq rfl) (hb hby at_247) (fun _ _ => ⟨rfl, e207, (by decide : 3 + 0 ≤ _), (by decide : 25 + 0 ≤ _)⟩)
  dsimp only [Pt.U, Pt.locs, Pt.cells, Pt.slots] at X210 l210 y210 z210 st210 hQ210
  subst l210 y210 z210
  obtain ⟨rfl, N210q, e210⟩ := hQ210
  have N210 := Fr.app N207 N210q
  have k211 : ∀ t, Steps p.tables e below (T210.setTop (mkF m 250 #[.val (.int p1), .val (.long q2), .second, .val (.long q3), .second, .val (.long q4), .second, .val (.long q5), .second, .val (.long q6), .second, .val (.int xc), .val (.int xn), .val (.int xm), .val (.int xt), .val (.ref b146), .val (.ref b164), .val (.int (own_min xn xc)), .val (.int (own_max ((own_min xn xc) - (1 : Int32)) (0 : Int32))), .val (.int xf)] [(.int (1 : Int32))])) t → Steps p.tables e below (s₁.setTop (entryFrame m #[(.int p1), (.long q2), (.long q3), (.long q4), (.long q5), (.long q6)] maxLocals)) t := fun t k => k209 t (st210 t k)
  have k212 : ∀ t, Steps p.tables e below (T210.setTop (mkF m 258 #[.val (.int p1), .val (.long q2), .second, .val (.long q3), .second, .val (.long q4), .second, .val (.long q5), .second, .val (.long q6), .second, .val (.int xc), .val (.int xn), .val (.int xm), .val (.int xt), .val (.ref b146), .val (.ref b164), .val (.int (own_min xn xc)), .val (.int (own_max ((own_min xn xc) - (1 : Int32)) (0 : Int32))), .val (.int xf)] [(.int (1 : Int32))])) t → Steps p.tables e below (s₁.setTop (entryFrame m #[(.int p1), (.long q2), (.long q3), (.long q4), (.long q5), (.long q6)] maxLocals)) t := fun t k => k211 t (by
      show Steps p.tables e below (T210.setTop (mkF m 250 #[.val (.int p1), .val (.long q2), .second, .val (.long q3), .second, .val (.long q4), .second, .val (.long q5), .second, .val (.long q6), .second, .val (.int xc), .val (.int xn), .val (.int xm), .val (.int xt), .val (.ref b146), .val (.ref b164), .val (.int (own_min xn xc)), .val (.int (own_max ((own_min xn xc) - (1 : Int32)) (0 : Int32))), .val (.int xf)] [(.int (1 : Int32))])) _
      refine XS.ifNo X210.here hx rfl (hb hby at_250) rfl ((if0 _ _).trans (feq (by decide)).1) ?_
      show Steps p.tables e below (T210.setTop (mkF m 253 #[.val (.int p1), .val (.long q2), .second, .val (.long q3), .second, .val (.long q4), .second, .val (.long q5), .second, .val (.long q6), .second, .val (.int xc), .val (.int xn), .val (.int xm), .val (.int xt), .val (.ref b146), .val (.ref b164), .val (.int (own_min xn xc)), .val (.int (own_max ((own_min xn xc) - (1 : Int32)) (0 : Int32))), .val (.int xf)] [])) _
      refine XS.iconst X210.here hx rfl (hb hby at_253) ?_
      show Steps p.tables e below (T210.setTop (mkF m 254 #[.val (.int p1), .val (.long q2), .second, .val (.long q3), .second, .val (.long q4), .second, .val (.long q5), .second, .val (.long q6), .second, .val (.int xc), .val (.int xn), .val (.int xm), .val (.int xt), .val (.ref b146), .val (.ref b164), .val (.int (own_min xn xc)), .val (.int (own_max ((own_min xn xc) - (1 : Int32)) (0 : Int32))), .val (.int xf)] [(.int (1 : Int32))])) _
      refine XS.goto X210.here hx rfl (pc0 := 254) (pc' := 258) rfl (hb hby at_254) (by decide) (by decide) ?_
      exact k)
  obtain ⟨fs, hr, hrun, hended, hW, hsame⟩ := X210.leave (v := some (.int (1 : Int32))) (fun h => by rw [Bd.returns] at h; cases h)
  refine ⟨_, _, k212 _ ?_, hrun, hended, _, _, rfl, ?_, ⟨_, rfl⟩, hW, hsame.mono (by decide) (by decide)⟩
  · show Steps p.tables e below (T210.setTop (mkF m 258 #[.val (.int p1), .val (.long q2), .second, .val (.long q3), .second, .val (.long q4), .second, .val (.long q5), .second, .val (.long q6), .second, .val (.int xc), .val (.int xn), .val (.int xm), .val (.int xt), .val (.ref b146), .val (.ref b164), .val (.int (own_min xn xc)), .val (.int (own_max ((own_min xn xc) - (1 : Int32)) (0 : Int32))), .val (.int xf)] [(.int (1 : Int32))])) _
    exact retN X210 hx (t := .boolean) Bd.returns (by simp) (hb hby at_258) hr
  · show Q0 Z p1 q2 q3 q4 q5 q6 h0 n0 _ T210.heap _
    rw [e210]
    exact ⟨rfl, N210⟩
set_option maxRecDepth 65536 in
set_option maxHeartbeats 40000000 in
theorem comes_1 {Post : Tables → Env → Array Value → State → Outcome → State → Prop} (hpost : ∀ tb e args s v u, (limb_1_1.after args s (.returned v) u = true ∧ limb_1_2.after args s (.returned v) u = true ∧ True) → FrameEnd s (.returned v) u (Jvm.fieldLocs frame_1_writes args s ++ Jvm.arrayLocs frame_1_arrays args s ++ Jvm.staticLocs frame_1_statics s) 16 128 → Post tb e args s (.returned v) u) :
    ArmFor flags0 classFile x code maxLocals ret World_1 tables_1 room_1 Calls_1 rest_1 Pre_1 Post := by
  intro l hfl _ _ p e ha hc hk s m args below hf hA hF happ hP
  obtain ⟨hcalls, hrest, hpre⟩ := hP
  obtain ⟨-, -, -, hnamed, -, -, -, hat⟩ := (Spec.applies_iff hf).mp happ
  obtain ⟨hg, hn⟩ := and_e (Cond.before_iff.mp (show (Jvm.Cond.and given_1 narrow_1).before args s = true from hpre))
  obtain ⟨g1a, g1b⟩ := and_e hg
  obtain ⟨g2a, g2b⟩ := and_e g1b
  obtain ⟨g3a, g3b⟩ := and_e g2b
  obtain ⟨g4a, g4b⟩ := and_e g3b
  obtain ⟨g5a, g5b⟩ := and_e g4b
  obtain ⟨g6a, g6b⟩ := and_e g5b
  obtain ⟨w0, w1, w2, w3, w4, w5, rfl⟩ : ∃ w0 w1 w2 w3 w4 w5 : Value, args = #[w0, w1, w2, w3, w4, w5] := by
    have hs : args.size = 6 := by simpa [Cond.value, given_1] using g1a
    obtain ⟨L⟩ := args
    match L, hs with
    | [w0, w1, w2, w3, w4, w5], _ => exact ⟨w0, w1, w2, w3, w4, w5, rfl⟩
  have hw := fun d (hd : d ∈ tables_1) => atoms_spec (ws := Jvm.Cond.code x code maxLocals ret :: tables_1) hat d (List.mem_cons_of_mem _ hd)
  obtain ⟨i0, ei0⟩ := is_v g2a
  obtain rfl : w0 = (.int i0) := Option.some.inj ei0
  obtain ⟨i1, ei1⟩ := isL_v g3a
  obtain rfl : w1 = (.long i1) := Option.some.inj ei1
  obtain ⟨i2, ei2⟩ := isL_v g4a
  obtain rfl : w2 = (.long i2) := Option.some.inj ei2
  obtain ⟨i3, ei3⟩ := isL_v g5a
  obtain rfl : w3 = (.long i3) := Option.some.inj ei3
  obtain ⟨i4, ei4⟩ := isL_v g6a
  obtain rfl : w4 = (.long i4) := Option.some.inj ei4
  obtain ⟨i5, ei5⟩ := isL_v g6b
  obtain rfl : w5 = (.long i5) := Option.some.inj ei5
  obtain ⟨n, o, h1, h2, h3, _, L, rfl, ⟨rfl, N⟩, hq⟩ := rm0 l s _ hw tables_1 i0 i1 i2 i3 i4 i5  s.heap s.heap.size (Nat.le_refl _)  p e ha hc hk s m _ below hf ((Spec.applies_iff_loose hf).mp happ).1 ⟨rfl, State.Warmed39.refl s, rfl⟩ trivial
  refine ⟨n, _, h1, h2, h3, hpost _ _ _ _ _ _ ⟨Cond.after_iff.mpr rfl, Cond.after_iff.mpr (eq_i res_at (Term.int_eval (1)) rfl), trivial⟩ ⟨hq.1, hq.2.1, (hq.2.2.sift fun y hy => Or.inr (N y hy)).mono (by decide) (by decide)⟩⟩
theorem main_1_1 : Claimed_1_1 := comes_1 fun _ _ _ _ _ _ h hF => ⟨h.1, hF⟩
theorem main_1_2 : Claimed_1_2 := comes_1 fun _ _ _ _ _ _ h hF => ⟨h.2.1, hF⟩
end Jvm.Pilot.@@N@@
namespace Jvm.Pilot.@@N@@
open Jvm Jvm.ClassFile Sem Op Lib Jvm.Free Jvm.Stand Jvm.Pilot.@@N@@.Jvm.D
/-! MADE BY PROGRAM (witnessworld.py) out of the Statement's table words and the real class files: 12 classes; the members and pool entries that the words name. The judged class is class 1, her method 1. -/
namespace start1
open Jvm.ClassFile
def u (s : String) : CpInfo := .utf8 (stringToUtf16 s)
/-- a pool by its gaps: so many unusable entries, then the entry; so many at the end -/
def gap : Nat → List CpInfo → List CpInfo
  | 0, r => r
  | n + 1, r => .unusable :: gap n r
def poolList (es : List (Nat × CpInfo)) (last : Nat) : List CpInfo := es.foldr (fun e r => gap e.1 (e.2 :: r)) (gap last [])
def pool (es : List (Nat × CpInfo)) (last : Nat) : Array CpInfo := ⟨poolList es last⟩
def fileOf (pool : Array CpInfo) (this : Nat) (attrs : Array Attribute := #[]) (ms : Array MethodInfo := #[]) (fl : Nat := 33) (sup : Nat := 0) (ifs : Array Nat := #[]) (fds : Array FieldInfo := #[]) : ClassFile where
  minorVersion := 0
  majorVersion := 65
  constantPool := pool
  accessFlags := fl
  thisClass := this
  superClass := sup
  interfaces := ifs
  fields := fds
  methods := ms
  attributes := attrs
def plain (name : String) (sup : Option ClassId) : Class where
  name := name
  kind := .ordinary
  loader := none
  accessFlags := 33
  super := sup
  interfaces := #[]
  cf := none
  fields := #[]
  methods := #[]
  instanceTypes := #[]
  staticTypes := #[]
  resolved := #[]
  callSites := []
  init := .initialized
  statics := none
  mirror := none

def pool0 : Array CpInfo := pool [(5, u "<init>"), (0, u "()V"), (1, .class_ 10), (1, u "java/lang/Object")] 113

def k0c0 : Code := { maxStack := 0, maxLocals := 1, code := object_method_1_code, exceptionTable := #[], attributes := #[] }
def k0m0 : Method := { name := "<init>", desc := "()V", sig := { parameters := [], returnType := none }, accessFlags := 1, code := some k0c0 }
/-- java/lang/Object -/
def k0 : Class := { plain "java/lang/Object" none with
  accessFlags := 33
  interfaces := #[]
  cf := some (fileOf pool0 8 #[] #[{ accessFlags := 1, nameIndex := 5, descriptorIndex := 6, attributes := #[] }] 33 0 #[] #[])
  fields := #[]
  methods := #[k0m0]
  instanceTypes := #[]
  staticTypes := #[]
  resolved := Array.replicate 124 none
  statics := none }

def pool1 : Array CpInfo := pool [(2, .class_ 4), (1, u "java/lang/Object"), (0, u "<init>"), (0, u "()V"), (0, .class_ 8), (0, u "com/example/upya/upya/policy/LongRing"), (0, .methodref 7 10), (0, .nameAndType 5 11), (0, u "(I)V"), (0, .methodref 13 14), (0, .class_ 15), (0, .nameAndType 16 17), (0, u "com/example/upya/upya/policy/LongRingRemoveOldestPinLaw"), (0, u "step"), (0, u "(Lcom/example/upya/upya/policy/LongRing;III[J)V"), (0, .methodref 19 20), (0, .class_ 21), (0, .nameAndType 22 23), (0, u "java/lang/Math"), (0, u "min"), (0, u "(II)I"), (0, .methodref 19 25), (0, .nameAndType 26 23), (0, u "max"), (0, .methodref 7 28), (0, .nameAndType 29 30), (0, u "size"), (0, u "()I"), (0, .methodref 13 32), (0, .nameAndType 33 34), (0, u "check"), (0, u "(Lcom/example/upya/upya/policy/LongRing;III[J)Z"), (0, .methodref 7 36), (0, .nameAndType 37 6), (0, u "removeOldest"), (0, .methodref 7 39), (0, .nameAndType 40 41), (0, u "add"), (0, u "(J)V"), (0, .methodref 7 43), (0, .nameAndType 44 45), (0, u "get"), (0, u "(I)J"), (2, u "law"), (0, u "(IJJJJJ)Z")] 5

def k1m0 : Method := { name := "<init>", desc := "()V", sig := { parameters := [], returnType := none }, accessFlags := 1, code := none }
def k1c1 : Code := { maxStack := 5, maxLocals := 20, code := code, exceptionTable := #[], attributes := #[] }
def k1m1 : Method := { name := "law", desc := "(IJJJJJ)Z", sig := { parameters := [.int, .long, .long, .long, .long, .long], returnType := some .boolean }, accessFlags := 9, code := some k1c1 }
def k1c2 : Code := { maxStack := 3, maxLocals := 5, code := method_3_code, exceptionTable := #[], attributes := #[] }
def k1m2 : Method := { name := "step", desc := "(Lcom/example/upya/upya/policy/LongRing;III[J)V", sig := { parameters := [(.object "com/example/upya/upya/policy/LongRing"), .int, .int, .int, (.array .long)], returnType := none }, accessFlags := 10, code := some k1c2 }
def k1c3 : Code := { maxStack := 5, maxLocals := 5, code := method_4_code, exceptionTable := #[], attributes := #[] }
def k1m3 : Method := { name := "check", desc := "(Lcom/example/upya/upya/policy/LongRing;III[J)Z", sig := { parameters := [(.object "com/example/upya/upya/policy/LongRing"), .int, .int, .int, (.array .long)], returnType := some .boolean }, accessFlags := 10, code := some k1c3 }
/-- com/example/upya/upya/policy/LongRingRemoveOldestPinLaw -/
def k1 : Class := { plain "com/example/upya/upya/policy/LongRingRemoveOldestPinLaw" (some 0) with
  accessFlags := 49
  interfaces := #[]
  cf := some (fileOf pool1 13 #[] #[{ accessFlags := 1, nameIndex := 5, descriptorIndex := 6, attributes := #[] }, { accessFlags := 9, nameIndex := 48, descriptorIndex := 49, attributes := #[] }, { accessFlags := 10, nameIndex := 16, descriptorIndex := 17, attributes := #[] }, { accessFlags := 10, nameIndex := 33, descriptorIndex := 34, attributes := #[] }] 49 2 #[] #[])
  fields := #[]
  methods := #[k1m0, k1m1, k1m2, k1m3]
  instanceTypes := #[]
  staticTypes := #[]
  resolved := Array.replicate 55 none
  statics := none }

def pool2 : Array CpInfo := pool [(1, .methodref 2 3), (0, .class_ 4), (0, .nameAndType 5 6), (0, u "java/lang/Object"), (0, u "<init>"), (0, u "()V"), (9, .fieldref 17 18), (0, .class_ 19), (0, .nameAndType 20 21), (0, u "com/example/upya/upya/policy/LongRing"), (0, u "capacity"), (0, u "I"), (0, .methodref 23 24), (0, .class_ 25), (0, .nameAndType 26 27), (0, u "java/lang/Math"), (0, u "min"), (0, u "(II)I"), (0, .fieldref 17 29), (0, .nameAndType 30 31), (0, u "values"), (0, u "[J"), (0, .fieldref 17 33), (0, .nameAndType 34 21), (0, u "size"), (0, .fieldref 17 36), (0, .nameAndType 37 21), (0, u "head"), (11, u "get"), (0, u "(I)J"), (15, u "INITIAL_STORAGE"), (2, u "(I)V"), (3, u "add"), (0, u "(J)V"), (0, u "removeOldest"), (0, u "()I")] 22

def k2c0 : Code := { maxStack := 3, maxLocals := 2, code := prog_51_method_1_code, exceptionTable := #[], attributes := #[] }
def k2m0 : Method := { name := "<init>", desc := "(I)V", sig := { parameters := [.int], returnType := none }, accessFlags := 0, code := some k2c0 }
def k2c1 : Code := { maxStack := 4, maxLocals := 3, code := prog_51_method_2_code, exceptionTable := #[], attributes := #[] }
def k2m1 : Method := { name := "add", desc := "(J)V", sig := { parameters := [.long], returnType := none }, accessFlags := 0, code := some k2c1 }
def k2c2 : Code := { maxStack := 3, maxLocals := 1, code := prog_51_method_3_code, exceptionTable := #[], attributes := #[] }
def k2m2 : Method := { name := "removeOldest", desc := "()V", sig := { parameters := [], returnType := none }, accessFlags := 0, code := some k2c2 }
def k2c3 : Code := { maxStack := 4, maxLocals := 2, code := prog_51_method_4_code, exceptionTable := #[], attributes := #[] }
def k2m3 : Method := { name := "get", desc := "(I)J", sig := { parameters := [.int], returnType := some .long }, accessFlags := 0, code := some k2c3 }
def k2c4 : Code := { maxStack := 1, maxLocals := 1, code := prog_51_method_5_code, exceptionTable := #[], attributes := #[] }
def k2m4 : Method := { name := "size", desc := "()I", sig := { parameters := [], returnType := some .int }, accessFlags := 0, code := some k2c4 }
/-- com/example/upya/upya/policy/LongRing -/
def k2 : Class := { plain "com/example/upya/upya/policy/LongRing" (some 0) with
  accessFlags := 32
  interfaces := #[]
  cf := some (fileOf pool2 17 #[] #[{ accessFlags := 0, nameIndex := 5, descriptorIndex := 69, attributes := #[] }, { accessFlags := 0, nameIndex := 73, descriptorIndex := 74, attributes := #[] }, { accessFlags := 0, nameIndex := 75, descriptorIndex := 6, attributes := #[] }, { accessFlags := 0, nameIndex := 49, descriptorIndex := 50, attributes := #[] }, { accessFlags := 0, nameIndex := 34, descriptorIndex := 76, attributes := #[] }] 32 2 #[] #[{ accessFlags := 26, nameIndex := 66, descriptorIndex := 21, attributes := #[] }, { accessFlags := 18, nameIndex := 20, descriptorIndex := 21, attributes := #[] }, { accessFlags := 2, nameIndex := 30, descriptorIndex := 31, attributes := #[] }, { accessFlags := 2, nameIndex := 37, descriptorIndex := 21, attributes := #[] }, { accessFlags := 2, nameIndex := 34, descriptorIndex := 21, attributes := #[] }])
  fields := #[{ name := "INITIAL_STORAGE", type := .int, accessFlags := 26, slot := 0, constantValue := 0 }, { name := "capacity", type := .int, accessFlags := 18, slot := 0, constantValue := 0 }, { name := "values", type := (.array .long), accessFlags := 2, slot := 1, constantValue := 0 }, { name := "head", type := .int, accessFlags := 2, slot := 2, constantValue := 0 }, { name := "size", type := .int, accessFlags := 2, slot := 3, constantValue := 0 }]
  methods := #[k2m0, k2m1, k2m2, k2m3, k2m4]
  instanceTypes := #[.int, (.array .long), .int, .int]
  staticTypes := #[.int]
  resolved := Array.replicate 99 none
  statics := none }

def pool3 : Array CpInfo := pool [(1, .class_ 2), (0, u "java/lang/Math"), (1, .class_ 6), (1, u "java/lang/Object"), (0, u "<init>"), (0, u "()V"), (89, .class_ 100), (1, u "java/lang/Math$RandomNumberGeneratorHolder"), (71, u "negativeZeroFloatBits"), (0, u "J"), (2, u "negativeZeroDoubleBits"), (21, u "max"), (2, u "min"), (43, u "$assertionsDisabled"), (0, u "Z"), (88, u "(II)I"), (2, u "twoToTheDoubleScaleDown"), (0, u "D"), (4, u "twoToTheDoubleScaleUp"), (9, u "E"), (3, u "PI"), (2, u "TAU"), (2, u "DEGREES_TO_RADIANS"), (0, u "RADIANS_TO_DEGREES")] 94

def k3m0 : Method := { name := "<init>", desc := "()V", sig := { parameters := [], returnType := none }, accessFlags := 2, code := none }
def k3c1 : Code := { maxStack := 2, maxLocals := 2, code := jdk_29_method_65_code, exceptionTable := #[], attributes := #[] }
def k3m1 : Method := { name := "max", desc := "(II)I", sig := { parameters := [.int, .int], returnType := some .int }, accessFlags := 9, code := some k3c1 }
def k3c2 : Code := { maxStack := 2, maxLocals := 2, code := jdk_29_method_69_code, exceptionTable := #[], attributes := #[] }
def k3m2 : Method := { name := "min", desc := "(II)I", sig := { parameters := [.int, .int], returnType := some .int }, accessFlags := 9, code := some k3c2 }
/-- java/lang/Math -/
def k3 : Class := { plain "java/lang/Math" (some 0) with
  accessFlags := 49
  interfaces := #[]
  cf := some (fileOf pool3 1 #[.nestMembers #[98]] #[{ accessFlags := 2, nameIndex := 7, descriptorIndex := 8, attributes := #[] }, { accessFlags := 9, nameIndex := 198, descriptorIndex := 335, attributes := #[] }, { accessFlags := 9, nameIndex := 201, descriptorIndex := 335, attributes := #[] }] 49 4 #[] #[{ accessFlags := 25, nameIndex := 354, descriptorIndex := 339, attributes := #[] }, { accessFlags := 25, nameIndex := 358, descriptorIndex := 339, attributes := #[] }, { accessFlags := 25, nameIndex := 361, descriptorIndex := 339, attributes := #[] }, { accessFlags := 26, nameIndex := 364, descriptorIndex := 339, attributes := #[] }, { accessFlags := 26, nameIndex := 365, descriptorIndex := 339, attributes := #[] }, { accessFlags := 26, nameIndex := 172, descriptorIndex := 173, attributes := #[] }, { accessFlags := 26, nameIndex := 176, descriptorIndex := 173, attributes := #[] }, { accessFlags := 8, nameIndex := 344, descriptorIndex := 339, attributes := #[] }, { accessFlags := 8, nameIndex := 338, descriptorIndex := 339, attributes := #[] }, { accessFlags := 4120, nameIndex := 245, descriptorIndex := 246, attributes := #[] }])
  fields := #[{ name := "E", type := .double, accessFlags := 25, slot := 0, constantValue := 0 }, { name := "PI", type := .double, accessFlags := 25, slot := 1, constantValue := 0 }, { name := "TAU", type := .double, accessFlags := 25, slot := 2, constantValue := 0 }, { name := "DEGREES_TO_RADIANS", type := .double, accessFlags := 26, slot := 3, constantValue := 0 }, { name := "RADIANS_TO_DEGREES", type := .double, accessFlags := 26, slot := 4, constantValue := 0 }, { name := "negativeZeroFloatBits", type := .long, accessFlags := 26, slot := 5, constantValue := 0 }, { name := "negativeZeroDoubleBits", type := .long, accessFlags := 26, slot := 6, constantValue := 0 }, { name := "twoToTheDoubleScaleUp", type := .double, accessFlags := 8, slot := 7, constantValue := 0 }, { name := "twoToTheDoubleScaleDown", type := .double, accessFlags := 8, slot := 8, constantValue := 0 }, { name := "$assertionsDisabled", type := .boolean, accessFlags := 4120, slot := 9, constantValue := 0 }]
  methods := #[k3m0, k3m1, k3m2]
  instanceTypes := #[]
  staticTypes := #[.double, .double, .double, .double, .double, .long, .long, .double, .double, .boolean]
  resolved := Array.replicate 460 none
  statics := none }

def pool4 : Array CpInfo := pool [(1, u "java/lang/Cloneable"), (0, .class_ 1), (0, u "java/lang/Object"), (0, .class_ 3)] 3

/-- java/lang/Cloneable -/
def k4 : Class := { plain "java/lang/Cloneable" (some 0) with
  accessFlags := 1537
  interfaces := #[]
  cf := some (fileOf pool4 2 #[] #[] 1537 4 #[] #[])
  fields := #[]
  methods := #[]
  instanceTypes := #[]
  staticTypes := #[]
  resolved := Array.replicate 8 none
  statics := none }

def pool5 : Array CpInfo := pool [(1, u "java/io/Serializable"), (0, .class_ 1), (0, u "java/lang/Object"), (0, .class_ 3)] 3

/-- java/io/Serializable -/
def k5 : Class := { plain "java/io/Serializable" (some 0) with
  accessFlags := 1537
  interfaces := #[]
  cf := some (fileOf pool5 2 #[] #[] 1537 4 #[] #[])
  fields := #[]
  methods := #[]
  instanceTypes := #[]
  staticTypes := #[]
  resolved := Array.replicate 8 none
  statics := none }

/-- the primitive byte -/
def k6 : Class := { plain "byte" none with kind := .primitive 'B', accessFlags := 0x411 }
/-- [B -/
def k7 : Class := { plain "[B" (some 0) with kind := .array 6 .byte, interfaces := #[4, 5], accessFlags := 1041 }

/-- the primitive int -/
def k8 : Class := { plain "int" none with kind := .primitive 'I', accessFlags := 0x411 }
/-- [I -/
def k9 : Class := { plain "[I" (some 0) with kind := .array 8 .int, interfaces := #[4, 5], accessFlags := 1041 }

/-- the primitive long -/
def k10 : Class := { plain "long" none with kind := .primitive 'J', accessFlags := 0x411 }
/-- [J -/
def k11 : Class := { plain "[J" (some 0) with kind := .array 10 .long, interfaces := #[4, 5], accessFlags := 1041 }

def heap : Heap := #[]
def classes : Array Class := #[k0, k1, k2, k3, k4, k5, k6, k7, k8, k9, k10, k11]
def interned : List (Array UInt16 × Addr) := []
def slotsUsed : Nat := 0
def theMethod : MethodId := ⟨1, 1⟩
def args0 : Array Value := #[.int 77, .long 5, .long 6, .long 7, .long 8, .long 9]
def aboutOver (below : List Frame) : State where
  vm := { classes := classes, interned := interned.toArray }
  heap := heap
  slotsUsed := slotsUsed
  threads := #[{ frames := .invoking theMethod args0 :: below }]
def below0 : List Frame := [.native { method := ⟨0, 0⟩, args := #[] }]
def about1 : State := aboutOver below0
def p0 : Program := .bare "" "" ""
def e0 : Env := launch0.env 0 0 0
theorem w_frames : about1.frames = Frame.invoking theMethod args0 :: below0 := rfl
set_option maxRecDepth 65536 in
theorem w_args : argsFit about1.vm theMethod args0 = true := by decide +kernel
set_option maxRecDepth 65536 in
theorem w_heap : heapFits about1 = true := by decide +kernel
set_option maxRecDepth 65536 in
theorem w_runnable : about1.curStatus? = some .runnable := by decide +kernel
set_option maxRecDepth 65536 in
theorem w_alone : about1.alone = true := by decide +kernel
set_option maxRecDepth 65536 in
theorem w_named : about1.methodNamed? x = some theMethod := by decide +kernel
set_option maxRecDepth 65536 in
theorem w_hears : about1.hears theMethod below0 = true := by decide +kernel
set_option maxRecDepth 65536 in
theorem w_ripe : about1.ripe theMethod args0 below0 = true := by decide +kernel
theorem w_running : about1.status = .running := rfl
set_option maxRecDepth 65536 in
theorem w_room : about1.hasRoom e0.platform room_1 = true :=
  launch0.hasRoom_least _ room_1 (by decide +kernel) (by decide +kernel) (by decide +kernel) (by decide +kernel) (by decide +kernel) (by decide +kernel)
theorem allAtoms_all (ts : List Jvm.Cond) (a : Array Jvm.Value) (st : Jvm.State) : (allAtoms ts).before a st = ts.all (fun c => c.before a st) := by
  induction ts with
  | nil => rfl
  | cons c t ih =>
    show (Jvm.Cond.and c (allAtoms t)).before a st = _
    rw [Jvm.Cond.before_and, ih, List.all_cons]
def words1 : List Jvm.Cond := Jvm.Cond.code x code maxLocals ret :: tables_1
/-- a 'code' word, met by the world's own term for the bytes: nothing is compared byte by byte -/
theorem code_word {y : MethodName} {bytes : ByteArray} {mx : Nat} {rt : Option FieldType} {a : Array Value} {s : State} {m : MethodId} {meth : Method} {c : Code} (h1 : s.methodNamed? y = some m) (h2 : s.vm.method? m = some meth) (h3 : meth.code = some c) (h4 : c.code = bytes)
    (h5 : (c.maxLocals == mx && c.exceptionTable.isEmpty && decide (c.maxStack ≤ mostOperands) && decide (meth.sig.returnType = rt) && !meth.locks && decide (parseMethodDescriptor y.desc = some meth.sig)) = true) : (Jvm.Cond.code y bytes mx rt).before a s = true := by
  simp only [Bool.and_eq_true, beq_iff_eq, Bool.not_eq_true', decide_eq_true_eq] at h5
  obtain ⟨⟨⟨⟨⟨g1, g2⟩, g3⟩, g4⟩, g5⟩, g6⟩ := h5
  simp [Cond.before, Cond.holds, Cond.value, h1, h2, h3, h4, g1, g2, g3, g4, g5, g6]
def isCode : Jvm.Cond → Bool
  | .code _ _ _ _ => true
  | _ => false
theorem all_split {L : List Jvm.Cond} {P : Jvm.Cond → Bool} (h1 : L.all (fun c => isCode c || P c) = true) (h2 : ∀ c ∈ L.filter isCode, P c = true) : L.all P = true := by
  refine List.all_eq_true.mpr fun c hc => ?_
  have h := List.all_eq_true.mp h1 c hc
  rcases Bool.eq_false_or_eq_true (isCode c) with hi | hi
  · exact h2 c (List.mem_filter.mpr ⟨hc, hi⟩)
  · simpa [hi] using h
set_option maxRecDepth 65536 in
theorem w_c0 : (Jvm.Cond.code x code maxLocals ret).before args0 about1 = true := code_word (m := ⟨1, 1⟩) (meth := k1m1) (c := k1c1) (by decide +kernel) rfl rfl rfl (by decide +kernel)
set_option maxRecDepth 65536 in
theorem w_c1 : (Jvm.Cond.code ({ cls := "com/example/upya/upya/policy/LongRing", name := "<init>", desc := "(I)V" } : Jvm.MethodName) prog_51_method_1_code (2 : Nat) (Option.none : Option Jvm.ClassFile.FieldType)).before args0 about1 = true := code_word (m := ⟨2, 0⟩) (meth := k2m0) (c := k2c0) (by decide +kernel) rfl rfl rfl (by decide +kernel)
set_option maxRecDepth 65536 in
theorem w_c2 : (Jvm.Cond.code ({ cls := "java/lang/Object", name := "<init>", desc := "()V" } : Jvm.MethodName) object_method_1_code (1 : Nat) (Option.none : Option Jvm.ClassFile.FieldType)).before args0 about1 = true := code_word (m := ⟨0, 0⟩) (meth := k0m0) (c := k0c0) (by decide +kernel) rfl rfl rfl (by decide +kernel)
set_option maxRecDepth 65536 in
theorem w_c3 : (Jvm.Cond.code ({ cls := "java/lang/Math", name := "min", desc := "(II)I" } : Jvm.MethodName) jdk_29_method_69_code (2 : Nat) (Option.some Jvm.ClassFile.FieldType.int)).before args0 about1 = true := code_word (m := ⟨3, 2⟩) (meth := k3m2) (c := k3c2) (by decide +kernel) rfl rfl rfl (by decide +kernel)
set_option maxRecDepth 65536 in
theorem w_c4 : (Jvm.Cond.code ({ cls := "com/example/upya/upya/policy/LongRingRemoveOldestPinLaw", name := "step", desc := "(Lcom/example/upya/upya/policy/LongRing;III[J)V" } : Jvm.MethodName) method_3_code (5 : Nat) (Option.none : Option Jvm.ClassFile.FieldType)).before args0 about1 = true := code_word (m := ⟨1, 2⟩) (meth := k1m2) (c := k1c2) (by decide +kernel) rfl rfl rfl (by decide +kernel)
set_option maxRecDepth 65536 in
theorem w_c5 : (Jvm.Cond.code ({ cls := "com/example/upya/upya/policy/LongRing", name := "removeOldest", desc := "()V" } : Jvm.MethodName) prog_51_method_3_code (1 : Nat) (Option.none : Option Jvm.ClassFile.FieldType)).before args0 about1 = true := code_word (m := ⟨2, 2⟩) (meth := k2m2) (c := k2c2) (by decide +kernel) rfl rfl rfl (by decide +kernel)
set_option maxRecDepth 65536 in
theorem w_c6 : (Jvm.Cond.code ({ cls := "java/lang/Math", name := "max", desc := "(II)I" } : Jvm.MethodName) jdk_29_method_65_code (2 : Nat) (Option.some Jvm.ClassFile.FieldType.int)).before args0 about1 = true := code_word (m := ⟨3, 1⟩) (meth := k3m1) (c := k3c1) (by decide +kernel) rfl rfl rfl (by decide +kernel)
set_option maxRecDepth 65536 in
theorem w_c7 : (Jvm.Cond.code ({ cls := "com/example/upya/upya/policy/LongRing", name := "size", desc := "()I" } : Jvm.MethodName) prog_51_method_5_code (1 : Nat) (Option.some Jvm.ClassFile.FieldType.int)).before args0 about1 = true := code_word (m := ⟨2, 4⟩) (meth := k2m4) (c := k2c4) (by decide +kernel) rfl rfl rfl (by decide +kernel)
set_option maxRecDepth 65536 in
theorem w_c8 : (Jvm.Cond.code ({ cls := "com/example/upya/upya/policy/LongRingRemoveOldestPinLaw", name := "check", desc := "(Lcom/example/upya/upya/policy/LongRing;III[J)Z" } : Jvm.MethodName) method_4_code (5 : Nat) (Option.some Jvm.ClassFile.FieldType.boolean)).before args0 about1 = true := code_word (m := ⟨1, 3⟩) (meth := k1m3) (c := k1c3) (by decide +kernel) rfl rfl rfl (by decide +kernel)
set_option maxRecDepth 65536 in
theorem w_c9 : (Jvm.Cond.code ({ cls := "com/example/upya/upya/policy/LongRing", name := "add", desc := "(J)V" } : Jvm.MethodName) prog_51_method_2_code (3 : Nat) (Option.none : Option Jvm.ClassFile.FieldType)).before args0 about1 = true := code_word (m := ⟨2, 1⟩) (meth := k2m1) (c := k2c1) (by decide +kernel) rfl rfl rfl (by decide +kernel)
set_option maxRecDepth 65536 in
theorem w_c10 : (Jvm.Cond.code ({ cls := "com/example/upya/upya/policy/LongRing", name := "get", desc := "(I)J" } : Jvm.MethodName) prog_51_method_4_code (2 : Nat) (Option.some Jvm.ClassFile.FieldType.long)).before args0 about1 = true := code_word (m := ⟨2, 3⟩) (meth := k2m3) (c := k2c3) (by decide +kernel) rfl rfl rfl (by decide +kernel)
def codes1 : List Jvm.Cond := [Jvm.Cond.code x code maxLocals ret, Jvm.Cond.code ({ cls := "com/example/upya/upya/policy/LongRing", name := "<init>", desc := "(I)V" } : Jvm.MethodName) prog_51_method_1_code (2 : Nat) (Option.none : Option Jvm.ClassFile.FieldType), Jvm.Cond.code ({ cls := "java/lang/Object", name := "<init>", desc := "()V" } : Jvm.MethodName) object_method_1_code (1 : Nat) (Option.none : Option Jvm.ClassFile.FieldType), Jvm.Cond.code ({ cls := "java/lang/Math", name := "min", desc := "(II)I" } : Jvm.MethodName) jdk_29_method_69_code (2 : Nat) (Option.some Jvm.ClassFile.FieldType.int), Jvm.Cond.code ({ cls := "com/example/upya/upya/policy/LongRingRemoveOldestPinLaw", name := "step", desc := "(Lcom/example/upya/upya/policy/LongRing;III[J)V" } : Jvm.MethodName) method_3_code (5 : Nat) (Option.none : Option Jvm.ClassFile.FieldType), Jvm.Cond.code ({ cls := "com/example/upya/upya/policy/LongRing", name := "removeOldest", desc := "()V" } : Jvm.MethodName) prog_51_method_3_code (1 : Nat) (Option.none : Option Jvm.ClassFile.FieldType), Jvm.Cond.code ({ cls := "java/lang/Math", name := "max", desc := "(II)I" } : Jvm.MethodName) jdk_29_method_65_code (2 : Nat) (Option.some Jvm.ClassFile.FieldType.int), Jvm.Cond.code ({ cls := "com/example/upya/upya/policy/LongRing", name := "size", desc := "()I" } : Jvm.MethodName) prog_51_method_5_code (1 : Nat) (Option.some Jvm.ClassFile.FieldType.int), Jvm.Cond.code ({ cls := "com/example/upya/upya/policy/LongRingRemoveOldestPinLaw", name := "check", desc := "(Lcom/example/upya/upya/policy/LongRing;III[J)Z" } : Jvm.MethodName) method_4_code (5 : Nat) (Option.some Jvm.ClassFile.FieldType.boolean), Jvm.Cond.code ({ cls := "com/example/upya/upya/policy/LongRing", name := "add", desc := "(J)V" } : Jvm.MethodName) prog_51_method_2_code (3 : Nat) (Option.none : Option Jvm.ClassFile.FieldType), Jvm.Cond.code ({ cls := "com/example/upya/upya/policy/LongRing", name := "get", desc := "(I)J" } : Jvm.MethodName) prog_51_method_4_code (2 : Nat) (Option.some Jvm.ClassFile.FieldType.long)]
set_option maxRecDepth 65536 in
theorem codes_eq : words1.filter isCode = codes1 := rfl
theorem w_codes : ∀ c ∈ words1.filter isCode, c.before args0 about1 = true := by
  rw [codes_eq]
  intro c hc
  simp only [codes1, List.mem_cons, List.not_mem_nil, or_false] at hc
  rcases hc with rfl | rfl | rfl | rfl | rfl | rfl | rfl | rfl | rfl | rfl | rfl
  · exact w_c0
  · exact w_c1
  · exact w_c2
  · exact w_c3
  · exact w_c4
  · exact w_c5
  · exact w_c6
  · exact w_c7
  · exact w_c8
  · exact w_c9
  · exact w_c10
set_option maxRecDepth 65536 in
theorem w_t1 : (words1.take 24).all (fun c => isCode c || c.before args0 about1) = true := by decide +kernel
set_option maxRecDepth 65536 in
theorem w_t2 : ((words1.drop 24).take 24).all (fun c => isCode c || c.before args0 about1) = true := by decide +kernel
set_option maxRecDepth 65536 in
theorem w_t3 : ((words1.drop 24).drop 24).all (fun c => isCode c || c.before args0 about1) = true := by decide +kernel
theorem w_tables : (allAtoms (Jvm.Cond.code x code maxLocals ret :: tables_1)).before args0 about1 = true := by
  rw [allAtoms_all]
  show words1.all (fun c => c.before args0 about1) = true
  refine all_split ?_ w_codes
  rw [← List.take_append_drop 24 words1, List.all_append, w_t1, ← List.take_append_drop 24 (words1.drop 24), List.all_append, w_t2, w_t3]
  rfl
set_option maxRecDepth 65536 in
theorem w_case : (Jvm.Cond.and given_1 narrow_1).before args0 about1 = true := by decide +kernel
theorem w_applies : (headSpec (Jvm.Cond.code x code maxLocals ret :: tables_1) room_1).applies x e0.platform about1 = true :=
  (Spec.applies_iff w_frames).mpr ⟨w_running, w_runnable, w_alone, w_named, w_hears, w_ripe, w_room, w_tables⟩
theorem atStart : AtStart classFile x code maxLocals ret World_1 tables_1 room_1 Calls_1 rest_1 Pre_1 launch0 p0 e0 about1 theMethod args0 below0 :=
  ⟨lists_1, trivial, launch0.admits_env _ _ _, launch0.least_env, fairChoices_fair.cas, fairChoices_fair.clock, w_frames, w_args, w_heap, w_applies, trivial, trivial, w_case⟩
end start1
theorem witness_1 : WitnessClaimed_1 := ⟨start1.p0, start1.e0, start1.about1, start1.theMethod, start1.args0, start1.below0, start1.atStart⟩
end Jvm.Pilot.@@N@@
