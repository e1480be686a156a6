import JvmDerived
import JvmDerived.Pilot.@@N@@Statement
import JvmDerived.Pilot.@@N@@Code
set_option linter.unusedVariables false
set_option linter.unusedSimpArgs false
namespace Jvm.RoadKit
open Sem ClassFile Op Lib Jvm.Stand Jvm.Free Jvm.LawKit
section New
variable {p : Program} {l : Launch} {e : Env} {R : Room} {s : State} {m : MethodId} {args : Array Value} {below : List Frame} {meth : Method} {c : Code} {T : State} {locs : List Loc} {cells slots : Nat}
theorem retI (X : Stand p l e R s m args below meth c T locs cells slots) (hx : p.tables.exec = Jvm.exec) {pc : Nat} {Ls : Array Slot} {z : Int32} {rest : List Value} (hret : meth.sig.returnType = some .int) (hd : decode c.code pc = .ok (.ireturn, 1)) {fs : List Frame}
    (hl : ∀ (f : JFrame) (acts : List Action), f.method = m → f.locked = none → f.entered = [] → (doReturn e (T.setTop f) acts (some (.int z))).1 = T.setFrames fs) : Steps p.tables e below (T.setTop (mkF m pc Ls (.int z :: rest))) (T.setFrames fs) := by
  have hm' : T.vm.method? m = some meth := X.method'
  have hn : narrow .int (.int z) = .int z := rfl
  show Steps p.tables e below (T.setTop { method := m, pc := pc, locals := Ls, stack := _ :: rest, locked := none }) _
  jvm_step X.here [X.here.top, hx, hd, hm', hret, hn]
  first | (intro acts; rw [hl _ acts rfl rfl rfl]) | rw [hl _ _ rfl rfl rfl]
  exact Steps.refl _
end New
end Jvm.RoadKit
namespace Jvm.Pilot.@@N@@
open Jvm Jvm.ClassFile Sem Op Lib Jvm.Free Jvm.Stand Jvm.LawKit Jvm.RoadKit Bundle Jvm.Pilot.@@N@@.Jvm.D
theorem own_pd0 : parseMethodDescriptor "(I)C" = some ⟨[.int], some .char⟩ := by decide +kernel
theorem own_pd1 : parseMethodDescriptor "()Z" = some ⟨[], some .boolean⟩ := by decide +kernel
theorem own_pd2 : parseMethodDescriptor "(CLcom/example/vaxwire/vaxwire/hl7/Delimiters;)Lcom/example/vaxwire/vaxwire/hl7/Repetition$Content;" = some ⟨[.char, (.object "com/example/vaxwire/vaxwire/hl7/Delimiters")], some (.object "com/example/vaxwire/vaxwire/hl7/Repetition$Content")⟩ := by decide +kernel
theorem own_pd3 : parseMethodDescriptor "()C" = some ⟨[], some .char⟩ := by decide +kernel
theorem own_pd4 : parseMethodDescriptor "([BI)C" = some ⟨[(.array .byte), .int], some .char⟩ := by decide +kernel
theorem own_pd5 : parseMethodDescriptor "(II)V" = some ⟨[.int, .int], none⟩ := by decide +kernel
theorem own_pd6 : parseMethodDescriptor "(IILjava/util/function/BiFunction;)I" = some ⟨[.int, .int, (.object "java/util/function/BiFunction")], some .int⟩ := by decide +kernel
theorem own_pd7 : parseMethodDescriptor "(C)Z" = some ⟨[.char], some .boolean⟩ := by decide +kernel
theorem own_frE {n : Nat} {L L' : List Loc} (h : L' = L) (f : Fr n L) : Fr n L' := h ▸ f
theorem own_ni {a b : Addr} {n : Nat} (h : a < n) (g : b = n) : a ∉ [b] := fun q => absurd (List.mem_singleton.mp q) (Nat.ne_of_lt (g ▸ h))
theorem own_in0 (a : Addr) (l : List Addr) : a ∈ a :: l := List.mem_cons_self ..
/-- an array: its kind, its length, what each place holds -/
def Av (Z : State) (h : Heap) (a : Addr) (ty : FieldType) (N : Nat) (g : Nat → Value) : Prop := ∃ c : Cell, Arr Z h a c ty ∧ c.slots.size = N ∧ ∀ j, j < N → c.slots[j]? = some (g j)
theorem Av.lt {Z : State} {h : Heap} {a : Addr} {ty : FieldType} {N : Nat} {g : Nat → Value} (V : Av Z h a ty N g) : a < h.size := by obtain ⟨c, A, -⟩ := V; exact A.lt
theorem Av.ext {Z : State} {h h' : Heap} {a : Addr} {ty : FieldType} {N : Nat} {g : Nat → Value} (V : Av Z h a ty N g) (E : Ext h h') : Av Z h' a ty N g := by obtain ⟨c, A, r⟩ := V; exact ⟨c, A.ext E, r⟩
theorem Av.other {Z : State} {h h' : Heap} {a b : Addr} {ty : FieldType} {N sl : Nat} {v : Value} {g : Nat → Value} (V : Av Z h b ty N g) (W : Wr h h' a sl v) (q : b ≠ a) : Av Z h' b ty N g := by obtain ⟨c, A, r⟩ := V; exact ⟨c, A.other W q, r⟩
theorem Av.keep {Z : State} {h h' : Heap} {a : Addr} {ty : FieldType} {N : Nat} {g : Nat → Value} {ws : List Addr} (V : Av Z h a ty N g) (K : Keep h h' ws) (q : a ∉ ws) : Av Z h' a ty N g := by obtain ⟨c, A, r⟩ := V; exact ⟨c, ⟨K.2.1 a c A.1 q, A.2⟩, r⟩
theorem Av.congr {Z : State} {h : Heap} {a : Addr} {ty : FieldType} {N : Nat} {g g' : Nat → Value} (V : Av Z h a ty N g) (q : ∀ j, j < N → g j = g' j) : Av Z h a ty N g' := by obtain ⟨c, A, S, G⟩ := V; exact ⟨c, A, S, fun j hj => (G j hj).trans (congrArg some (q j hj))⟩
theorem Av.new {Z : State} {h : Heap} {a : Addr} {cA : ClassId} {ty : FieldType} {n : Int32} (A : Arr Z h a (newA cA ty n) ty) {N : Nat} (hN : n.toInt = N) : Av Z h a ty N (fun _ => defaultValue ty) := by
  have e : n.toNatClampNeg = N := by rw [Int32.toNatClampNeg, hN]; rfl
  refine ⟨_, A, (sz_new _ _ _).trans e, fun j hj => ?_⟩
  simp [newA, e, hj]
theorem own_tn {j : Int32} {i : Nat} (hj : j.toInt = i) : j.toNatClampNeg = i := by rw [Int32.toNatClampNeg, hj]; rfl
theorem own_hin {cl : Cell} {N i : Nat} {j : Int32} (S : cl.slots.size = N) (hj : j.toInt = i) (hi : i < N) : ¬ (j < 0 ∨ cl.slots.size ≤ j.toNatClampNeg) := by
  rw [S, own_tn hj, Int32.lt_iff_toInt_lt, hj, show (0 : Int32).toInt = 0 from rfl]
  omega
theorem own_hat {cl : Cell} {N i : Nat} {j : Int32} {g : Nat → Value} (G : ∀ j, j < N → cl.slots[j]? = some (g j)) (hj : j.toInt = i) (hi : i < N) : cl.slots[j.toNatClampNeg]? = some (g i) := by
  rw [own_tn hj]; exact G i hi
theorem Av.set {Z : State} {h h' : Heap} {a : Addr} {ty : FieldType} {N i : Nat} {g : Nat → Value} {v : Value} {c : Cell} {j : Int32} (A : Arr Z h a c ty) (S : c.slots.size = N) (G : ∀ j, j < N → c.slots[j]? = some (g j)) (hj : j.toInt = i) (W : Wr h h' a j.toNatClampNeg v) : Av Z h' a ty N (fun k => if k = i then v else g k) := by
  refine ⟨_, A.same W, (sz_set _ _ _).trans S, fun k hk => ?_⟩
  show (c.slots.setIfInBounds j.toNatClampNeg v)[k]? = some (if k = i then v else g k)
  rw [own_tn hj, Array.getElem?_setIfInBounds]
  by_cases q : i = k
  · subst q; simp [S, hk]
  · rw [if_neg q, if_neg (fun z => q z.symm)]; exact G k hk
theorem own_nneg {j : Int32} {i : Nat} (hj : j.toInt = i) : ¬ j < 0 := by
  rw [Int32.lt_iff_toInt_lt, hj, show (0 : Int32).toInt = 0 from rfl]; omega
theorem own_sz {cl : Cell} {N : Nat} {j : Int32} (S : cl.slots.size = N) (hj : j.toInt = N) : cl.slots.size = j.toNatClampNeg := by rw [S, own_tn hj]
theorem own_ni1 {a b : Addr} (h : a ≠ b) : a ∉ [b] := fun q => h (List.mem_singleton.mp q)
theorem own_inc {x : Int32} {i : Nat} (hx : x.toInt = i) (hi : i < 2147483647) : (x + (1 : Int32)).toInt = ((i + 1 : Nat) : Int) := by
  have h := c_iadd x (1 : Int32)
  have := rng32 (x + (1 : Int32))
  rw [show (1 : Int32).toInt = 1 from by decide] at h
  omega
theorem own_addN {x y : Int32} {a b : Nat} (hx : x.toInt = a) (hy : y.toInt = b) (hi : a + b < 2147483648) : (x + y).toInt = ((a + b : Nat) : Int) := by
  have h := c_iadd x y
  have := rng32 (x + y)
  omega
theorem own_subN {x y : Int32} {a b : Nat} (hx : x.toInt = a) (hy : y.toInt = b) (hi : b ≤ a) : (x - y).toInt = ((a - b : Nat) : Int) := by
  have h := c_isub x y
  have := rng32 (x - y); have := rng32 x
  omega
theorem own_lt {x y : Int32} {i j : Nat} (hx : x.toInt = i) (hy : y.toInt = j) : x < y ↔ i < j := by
  rw [Int32.lt_iff_toInt_lt, hx, hy]; omega
theorem own_eqi {x y : Int32} {i j : Nat} (hx : x.toInt = i) (hy : y.toInt = j) : x = y ↔ i = j := by
  rw [← Int32.toInt_inj, hx, hy]; omega
theorem own_rem {x y : Int32} {a b : Nat} (hx : x.toInt = a) (hy : y.toInt = b) : (x % y).toInt = ((a % b : Nat) : Int) := by
  rw [(c_irem x y b hy).1 (by omega), hx, Int.natCast_emod]
theorem own_ne0 {x : Int32} {a : Nat} (hx : x.toInt = a) (ha : 0 < a) : x ≠ 0 := fun q => by
  rw [q, show (0 : Int32).toInt = 0 from by decide] at hx; omega
theorem own_of {x : Int32} {n : Nat} (h : x.toInt = n) : x = Int32.ofInt n := by
  rw [← h]; exact (Int32.ofInt_toInt x).symm
/-- the five states' objects -/
def own_ad (c0 c1 c2 c3 c4 : Addr) : Nat → Addr
  | 0 => c0
  | 1 => c1
  | 2 => c2
  | 3 => c3
  | _ => c4
/-- the state behind one more char -/
def own_aft (st : Nat) (c : Int32) : Nat := if c = 94 ∨ c = 38 then (if st = 0 ∨ st = 1 then 1 else 4) else if c = 34 ∧ st = 0 then 2 else if c = 34 ∧ st = 2 then 3 else 4
theorem own_aft5 (st : Nat) (c : Int32) : own_aft st c < 5 := by
  unfold own_aft
  repeat' split
  all_goals decide
def own_val (st : Nat) : Int32 := if st = 2 ∨ st = 4 then 1 else 0
def own_sep (c : Int32) : Int32 := if c = (94 : Int32) then 1 else if c = (38 : Int32) then 1 else 0
def own_pick (p : Int32) : Int32 := if (p &&& (3 : Int32)) = (0 : Int32) then (94 : Int32) else if (p &&& (3 : Int32)) = (1 : Int32) then (38 : Int32) else if (p &&& (3 : Int32)) = (2 : Int32) then (34 : Int32) else nar .char ((((p.toUInt32 >>> ((2 : Int32) &&& 31).toUInt32).toInt32) &&& (255 : Int32)).toUInt32.toUInt16.toUInt32.toInt32)
/-- what the case's start says of the statics -/
def Wd (Z : State) (d c0 c1 c2 c3 c4 : Addr) : Prop :=
  (Sta Z Z.heap "com/example/vaxwire/vaxwire/hl7/Delimiters" "STANDARD" "Lcom/example/vaxwire/vaxwire/hl7/Delimiters;" (.ref d) ∧ Exa Z Z.heap d "com/example/vaxwire/vaxwire/hl7/Delimiters" ∧ Fld Z Z.heap d "com/example/vaxwire/vaxwire/hl7/Delimiters" "component" "C" (.int (94 : Int32)) ∧ Fld Z Z.heap d "com/example/vaxwire/vaxwire/hl7/Delimiters" "subcomponent" "C" (.int (38 : Int32))) ∧
  (Sta Z Z.heap "com/example/vaxwire/vaxwire/hl7/Repetition$Content" "NOTHING" "Lcom/example/vaxwire/vaxwire/hl7/Repetition$Content;" (.ref c0) ∧ Sta Z Z.heap "com/example/vaxwire/vaxwire/hl7/Repetition$Content" "SEPARATORS" "Lcom/example/vaxwire/vaxwire/hl7/Repetition$Content;" (.ref c1) ∧ Sta Z Z.heap "com/example/vaxwire/vaxwire/hl7/Repetition$Content" "QUOTE" "Lcom/example/vaxwire/vaxwire/hl7/Repetition$Content;" (.ref c2) ∧ Sta Z Z.heap "com/example/vaxwire/vaxwire/hl7/Repetition$Content" "NULL_VALUE" "Lcom/example/vaxwire/vaxwire/hl7/Repetition$Content;" (.ref c3) ∧ Sta Z Z.heap "com/example/vaxwire/vaxwire/hl7/Repetition$Content" "VALUE" "Lcom/example/vaxwire/vaxwire/hl7/Repetition$Content;" (.ref c4)) ∧ (Exa Z Z.heap c0 "com/example/vaxwire/vaxwire/hl7/Repetition$Content" ∧ Exa Z Z.heap c1 "com/example/vaxwire/vaxwire/hl7/Repetition$Content" ∧ Exa Z Z.heap c2 "com/example/vaxwire/vaxwire/hl7/Repetition$Content" ∧ Exa Z Z.heap c3 "com/example/vaxwire/vaxwire/hl7/Repetition$Content" ∧ Exa Z Z.heap c4 "com/example/vaxwire/vaxwire/hl7/Repetition$Content") ∧ (c0 ≠ c1 ∧ c0 ≠ c2 ∧ c0 ≠ c3 ∧ c0 ≠ c4 ∧ c1 ≠ c2 ∧ c1 ≠ c3 ∧ c1 ≠ c4 ∧ c2 ≠ c3 ∧ c2 ≠ c4 ∧ c3 ≠ c4)
/-- the constant: not loaded by us yet, or loaded: the String of two quotes -/
def Lds (Z : State) (vm : Vm) (h : Heap) : Prop := IB Z vm [] ∨ ∃ (a b : Addr) (k : ClassId), Lit (Z.setVm vm) "com/example/vaxwire/vaxwire/hl7/Repetition$Content" 49 a ∧ Exa Z h a "java/lang/String" ∧ Fld Z h a "java/lang/String" "coder" "B" (.int 0) ∧ Fld Z h a "java/lang/String" "value" "[B" (.ref b) ∧ Arv Z h b k .byte (2 : Int32) [.int 34, .int 34] (.int 0)
theorem Lds.warm {Z s : State} {vm0 vm1 : Vm} {h : Heap} (D : Lds Z vm0 h) (hW : (s.setVm vm0).WarmedH vm1) : Lds Z vm1 h := by
  rcases D with I | ⟨a, b, k, L, r⟩
  · obtain ⟨more, e, hm⟩ := I
    exact Or.inl ⟨more, hW.interned_eq.trans e, hm⟩
  · exact Or.inr ⟨a, b, k, Lit.stays (s := s) (vm0 := vm0) L hW.wide, r⟩
theorem Lds.ext {Z : State} {vm : Vm} {h h' : Heap} (D : Lds Z vm h) (E : Ext h h') : Lds Z vm h' := by
  rcases D with I | ⟨a, b, k, L, r1, r2, r3, r4⟩
  · exact Or.inl I
  · exact Or.inr ⟨a, b, k, L, r1.ext E, r2.ext E, r3.ext E, r4.ext E⟩
theorem own_rmono {s t : State} {o : Outcome} {L : List Loc} {k n k' n' : Nat} (h : ReturnedEndW s o t L k n) (hk : k ≤ k') (hn : n ≤ n') : ReturnedEndW s o t L k' n' := ⟨h.1, h.2.1, h.2.2.1, h.2.2.2.mono hk hn⟩
theorem own_av {Z : State} {h : Heap} {b : Addr} {k : ClassId} (V : Arv Z h b k .byte (2 : Int32) [.int 34, .int 34] (.int 0)) : Av Z h b .byte 2 (fun _ => .int (34 : Int32)) := by
  obtain ⟨c, A, -, S, -, H, -⟩ := V
  have S2 : c.slots.size = 2 := S
  refine ⟨c, A, S2, fun j hj => ?_⟩
  rw [H j (by omega)]
  have : j = 0 ∨ j = 1 := by omega
  rcases this with rfl | rfl <;> rfl
theorem own_extR {h : Heap} : Ext h h := ⟨Nat.le_refl _, fun _ _ q => q⟩
theorem own_extT {h h' h'' : Heap} (E : Ext h h') (F : Ext h' h'') : Ext h h'' := ⟨Nat.le_trans E.1 F.1, fun a c q => F.2 a c (E.2 a c q)⟩
/-- the load of the constant, whoever loads it first -/
theorem own_ld {p : Program} {l : Launch} {e : Env} {R : Room} {s : State} {m : MethodId} {args : Array Value} {below : List Frame} {meth : Method} {c : Code} {T : State} {locs : List Loc} {cells slots : Nat} {Z : State} {a0 : Array Value} {h : Heap}
    (X : Stand p l e R s m args below meth c T locs cells slots) (hx : p.tables.exec = Jvm.exec) (hZ : Z.Warmed39 s.vm) (hw : ∀ d ∈ tables_1, d.before a0 Z = true) (hown : s.vm.findClass "com/example/vaxwire/vaxwire/hl7/Repetition$Content" = some m.cls) (eT : T.heap = h) (hs : s.heap = h) (N : Fr h.size locs) (XE : Ext Z.heap h) (D : Lds Z s.vm h) (hh : Jvm.Lit.constHeld Z "com/example/vaxwire/vaxwire/hl7/Repetition$Content" 49) (hcw : Jvm.Lit.compactW.before a0 Z = true)
    {g : JFrame} (hg : g.method = m) (hd : decode c.code g.pc = .ok (.ldc 49, 2)) (hc : cells + 2 ≤ R.cells) (hl : slots + 12 ≤ R.slots) :
    ∃ (a b : Addr) (T' : State) (h' : Heap) (k : ClassId), Stand p l e R (s.setVm T'.vm) m args below meth c T' locs (cells + 2) (slots + 12) ∧ T'.heap = h' ∧ Ext h h' ∧ s.Since T'.vm h'.size ∧ Z.Warmed39 T'.vm ∧ T'.vm.findClass "com/example/vaxwire/vaxwire/hl7/Repetition$Content" = some m.cls ∧
      Lit (s.setVm T'.vm) "com/example/vaxwire/vaxwire/hl7/Repetition$Content" 49 a ∧ Exa Z h' a "java/lang/String" ∧ Fld Z h' a "java/lang/String" "coder" "B" (.int 0) ∧ Fld Z h' a "java/lang/String" "value" "[B" (.ref b) ∧ Arv Z h' b k .byte (2 : Int32) [.int 34, .int 34] (.int 0) ∧
      ∀ target, Steps p.tables e below (T'.setTop { g with pc := g.pc + 2, stack := .ref a :: g.stack }) target → Steps p.tables e below (T.setTop g) target := by
  have Xr := X.retabled X.warmed.wide
  have hZ' : Z.Warmed39 T.vm := wtrans hZ X.warmed
  have hown' : T.vm.findClass "com/example/vaxwire/vaxwire/hl7/Repetition$Content" = some m.cls := by rw [X.warmed.alike.findClass]; exact hown
  have D' : Lds Z T.vm h := D.warm (s := s) X.warmed
  have wl := hw _ (List.mem_of_getElem? (i := 39) rfl)
  rcases D' with I | ⟨a, b, k, L, r1, r2, r3, r4⟩
  · obtain ⟨a, T', h', k1, b, k, X1, q1, q2, q3, q4, q5, q6, q7, q8, q9, q10, q11, q12, q13, q14, st⟩ := ldcSVL (s := s) (vm0 := T.vm) (Ts := []) Xr hx hZ' hown' wl
      (fun d hd => hw d ((by decide +kernel : ∀ d ∈ Bundle.stringAtoms, d ∈ tables_1) d hd)) eT (X.warmed.since T.heap.size) (by rw [eT]; exact Nat.le_refl _) (by rw [hs]; exact N) (by rw [hs]; exact XE.2) I (fun q => nomatch q) hh hcw
      (vs := [.int 34, .int 34]) (z := (2 : Int32)) (by decide +kernel) (by decide) (by decide) hg hd (n := 8) (by decide +kernel) (by decide) hc hl
    exact ⟨a, b, T', h', k, X1, q1, q2, ⟨q3.1, q3.2.mono q4⟩, q5, q6, q14, q7, q8, q9, q10, st⟩
  · exact ⟨a, b, T, h, k, Xr.more (by omega) (by omega), eT, own_extR, X.warmed.since _, hZ', hown', L, r1, r2, r3, r4, ldcAgain Xr hx hZ' hown' wl L hg hd⟩
theorem own_backS {p : Program} {l : Launch} {e : Env} {R : Room} {s : State} {args : Array Value} {below : List Frame} {Z : State} {a0 : Array Value} {h : Heap} {y : MethodName} {bytes : ByteArray} {maxL : Nat} {ret : Option FieldType} {rm : Room} {len W : Nat} {as' : Array Value} {Q : Option Value → State → List Loc → Prop}
    (hM : MetFree l y (head1 [Cond.code y bytes maxL ret] rm) (fun a U => a = as' ∧ Z.Warmed39 U.vm ∧ U.heap = h ∧ Lds Z U.vm h) (fun _ _ _ _ _ => True) (fun _ U o U' => ∃ v L, o = .returned v ∧ Q v U' L ∧ ReturnedEndW U o U' L rm.cells rm.slots))
    (hQ : ∀ v (t t' : State) L, t.heap = t'.heap → t.vm = t'.vm → Q v t L → Q v t' L)
    (hZ : Z.Warmed39 s.vm) (wc : (Cond.code y bytes maxL ret).before a0 Z = true) (wz : (Cond.initialized y.cls).before a0 Z = true) (hf : rm.frames + 1 ≤ R.frames) (hl : W + (maxL + 11) + rm.locals ≤ R.locals) :
    BackS l R p e below s args y len W (fun A a => a = as' ∧ A.U.heap = h ∧ Lds Z A.U.vm h ∧ A.cells + rm.cells ≤ R.cells ∧ A.slots + rm.slots ≤ R.slots)
      (fun A _ v B => ∃ L, Q v B.U L ∧ B.locs = A.locs ++ L ∧ B.cells = A.cells + rm.cells ∧ B.slots = A.slots + rm.slots) :=
  BackS.of_freeW (bytes := bytes) (maxL := maxL) (ret := ret) (E := fun _ _ o t L k n => k = rm.cells ∧ n = rm.slots ∧ ∃ v, o = .returned v ∧ Q v t L) hM hf hl
    (fun m meth c A a Y hp => have hU : Z.Warmed39 A.U.vm := wtrans hZ Y.warmed
      ⟨by show (Cond.and _ .tt).before a A.U = true; rw [Cond.before_and, mv hU wc]; rfl, mv hU wc, mv hU wz, hp.2.2.2.1, hp.2.2.2.2⟩)
    (fun m meth c A a g mk Y hp => ⟨hp.1, wtrans hZ Y.warmed, hp.2.1, hp.2.2.1⟩) (fun _ _ _ _ _ _ _ _ _ => trivial)
    (fun _ _ _ _ ⟨v, L, h1, h2, h3⟩ => ⟨L, _, _, h3, rfl, rfl, v, h1, h2⟩)
    (fun m meth c A a g mk v t L k n Y hp _ _ ⟨e1, e2, v', e3, e4⟩ => by cases e3; subst e1 e2; exact ⟨L, hQ _ t _ L rfl rfl e4, rfl, rfl, rfl⟩)
theorem d1_0 : decode method_2_code 0 = .ok (.iload_n 0, 1) := by decide +kernel
theorem d1_1 : decode method_2_code 1 = .ok (.iconst 3, 1) := by decide +kernel
theorem d1_2 : decode method_2_code 2 = .ok (.iand, 1) := by decide +kernel
theorem d1_3 : decode method_2_code 3 = .ok (.istore_n 1, 1) := by decide +kernel
theorem d1_4 : decode method_2_code 4 = .ok (.iload_n 1, 1) := by decide +kernel
theorem d1_5 : decode method_2_code 5 = .ok (.ifCond .ne 6, 3) := by decide +kernel
theorem d1_8 : decode method_2_code 8 = .ok (.bipush 94, 2) := by decide +kernel
theorem d1_10 : decode method_2_code 10 = .ok (.ireturn, 1) := by decide +kernel
theorem d1_11 : decode method_2_code 11 = .ok (.iload_n 1, 1) := by decide +kernel
theorem d1_12 : decode method_2_code 12 = .ok (.iconst 1, 1) := by decide +kernel
theorem d1_13 : decode method_2_code 13 = .ok (.if_icmp .ne 6, 3) := by decide +kernel
theorem d1_16 : decode method_2_code 16 = .ok (.bipush 38, 2) := by decide +kernel
theorem d1_18 : decode method_2_code 18 = .ok (.ireturn, 1) := by decide +kernel
theorem d1_19 : decode method_2_code 19 = .ok (.iload_n 1, 1) := by decide +kernel
theorem d1_20 : decode method_2_code 20 = .ok (.iconst 2, 1) := by decide +kernel
theorem d1_21 : decode method_2_code 21 = .ok (.if_icmp .ne 6, 3) := by decide +kernel
theorem d1_24 : decode method_2_code 24 = .ok (.bipush 34, 2) := by decide +kernel
theorem d1_26 : decode method_2_code 26 = .ok (.ireturn, 1) := by decide +kernel
theorem d1_27 : decode method_2_code 27 = .ok (.iload_n 0, 1) := by decide +kernel
theorem d1_28 : decode method_2_code 28 = .ok (.iconst 2, 1) := by decide +kernel
theorem d1_29 : decode method_2_code 29 = .ok (.iushr, 1) := by decide +kernel
theorem d1_30 : decode method_2_code 30 = .ok (.sipush 255, 3) := by decide +kernel
theorem d1_33 : decode method_2_code 33 = .ok (.iand, 1) := by decide +kernel
theorem d1_34 : decode method_2_code 34 = .ok (.i2c, 1) := by decide +kernel
theorem d1_35 : decode method_2_code 35 = .ok (.ireturn, 1) := by decide +kernel
theorem pn_1 : plainName "com/example/vaxwire/vaxwire/hl7/ContentIsValuePinLaw" = true := by first | (simp [plainName, overriddenIn]; done) | decide +kernel
theorem ef_1 (m : MethodId) (x0 : Int32) : entryFrame m #[(.int x0)] 2 = mkF m 0 #[.val (.int x0), .unset] [] := by first | (simp [entryFrame, mkF, argsToLocals, Value.category]; done) | rfl
def Q1 (Z : State) (p1 : Int32) (h0 : Heap) (n0 : Nat) (v : Option Value) (h : Heap) (L : List Loc) : Prop := v = some (.int (own_pick p1)) ∧ Fr n0 L ∧ h = h0
set_option maxRecDepth 65536 in
set_option maxHeartbeats 40000000 in
theorem rm1 (l : Launch) (Z : State) (a0 : Array Value) (hw : ∀ d ∈ tables_1, d.before a0 Z = true) (ws : List Jvm.Cond) (p1 : Int32)  (h0 : Heap) (n0 : Nat) (Z0 : n0 ≤ h0.size)  :
    MetFree l (⟨"com/example/vaxwire/vaxwire/hl7/ContentIsValuePinLaw", "pick", "(I)C"⟩ : MethodName) (head1 (Jvm.Cond.code (⟨"com/example/vaxwire/vaxwire/hl7/ContentIsValuePinLaw", "pick", "(I)C"⟩ : MethodName) method_2_code 2 (some .char) :: ws) ({ frames := 0, cells := 0, slots := 0, locals := 0 } : Room)) (fun a U => a = #[(.int p1)] ∧ Z.Warmed39 U.vm ∧ U.heap = h0) (fun _ _ _ _ _ => True) (fun _ U o U' => ∃ v L, o = .returned v ∧ Q1 Z p1 h0 n0 v U'.heap L ∧ FrameEnd U o U' L ({ frames := 0, cells := 0, slots := 0, locals := 0 } : Room).cells ({ frames := 0, cells := 0, slots := 0, locals := 0 } : Room).slots) := by
  refine MetFree.of_bodySF (plainFor_of_name pn_1) hisR ?_
  intro p e s m args below meth c s₁ Bd hml0 hP hK
  obtain ⟨rfl, hZ, hh⟩ := hP
  have hx := Bd.exec
  have hby := Bd.bytes
  have hml : c.maxLocals = 2 := hml0
  have hown : s.vm.findClass "com/example/vaxwire/vaxwire/hl7/ContentIsValuePinLaw" = some m.cls := findClass_of_methodNamed Bd.named
  have hnm := (name_of_methodNamed Bd.named Bd.method).1
  have X0 : Stand p l e ({ frames := 0, cells := 0, slots := 0, locals := 0 } : Room) s m #[(.int p1)] below meth c s₁ [] 0 0 := Stand.of_body Bd
  have e0 : s₁.heap = h0 := by rw [← hh, Bd.state]; rfl
  have N0 := Fr.nil n0
  have pre0 : ∀ tg, Steps p.tables e below (s₁.setTop (mkF m 0 #[.val (.int p1), .unset] [])) tg → Steps p.tables e below (s₁.setTop (entryFrame m #[(.int p1)] 2)) tg := fun tg kg => castTop (ef_1 m p1) kg
  have k1 : ∀ tg, Steps p.tables e below (s₁.setTop (mkF m 5 #[.val (.int p1), .val (.int (p1 &&& (3 : Int32)))] [(.int (p1 &&& (3 : Int32)))])) tg → Steps p.tables e below (s₁.setTop (entryFrame m #[(.int p1)] 2)) tg := fun tg kg => pre0 tg (by
      show Steps p.tables e below (s₁.setTop (mkF m 0 #[.val (.int p1), .unset] [])) _
      refine XS.iloadN X0.here hx rfl (hb hby d1_0) rfl ?_
      show Steps p.tables e below (s₁.setTop (mkF m 1 #[.val (.int p1), .unset] [(.int p1)])) _
      refine XS.iconst X0.here hx rfl (hb hby d1_1) ?_
      show Steps p.tables e below (s₁.setTop (mkF m 2 #[.val (.int p1), .unset] [(.int (3 : Int32)), (.int p1)])) _
      refine XS.iand X0.here hx rfl (hb hby d1_2) rfl ?_
      show Steps p.tables e below (s₁.setTop (mkF m 3 #[.val (.int p1), .unset] [(.int (p1 &&& (3 : Int32)))])) _
      refine XS.istoreN X0.here hx rfl (hb hby d1_3) rfl (l' := #[.val (.int p1), .val (.int (p1 &&& (3 : Int32)))]) rfl ?_
      show Steps p.tables e below (s₁.setTop (mkF m 4 #[.val (.int p1), .val (.int (p1 &&& (3 : Int32)))] [])) _
      refine XS.iloadN X0.here hx rfl (hb hby d1_4) rfl ?_
      exact kg)
  by_cases hc2 : (p1 &&& (3 : Int32)) = (0 : Int32)
  · have k3 : ∀ tg, Steps p.tables e below (s₁.setTop (mkF m 8 #[.val (.int p1), .val (.int (p1 &&& (3 : Int32)))] [])) tg → Steps p.tables e below (s₁.setTop (entryFrame m #[(.int p1)] 2)) tg := fun tg kg => k1 tg (by
        show Steps p.tables e below (s₁.setTop (mkF m 5 #[.val (.int p1), .val (.int (p1 &&& (3 : Int32)))] [(.int (p1 &&& (3 : Int32)))])) _
        refine XS.ifNo X0.here hx rfl (hb hby d1_5) rfl ((if0 _ _).trans (teq hc2).2) ?_
        exact kg)
    have k4 : ∀ tg, Steps p.tables e below (s₁.setTop (mkF m 10 #[.val (.int p1), .val (.int (p1 &&& (3 : Int32)))] [(.int (94 : Int32))])) tg → Steps p.tables e below (s₁.setTop (entryFrame m #[(.int p1)] 2)) tg := fun tg kg => k3 tg (by
        show Steps p.tables e below (s₁.setTop (mkF m 8 #[.val (.int p1), .val (.int (p1 &&& (3 : Int32)))] [])) _
        refine XS.bipush X0.here hx rfl (hb hby d1_8) ?_
        exact kg)
    obtain ⟨fs, hr, hrun, hended, hW, hsame⟩ := X0.leave (v := some (.int (94 : Int32))) (fun h => by rw [Bd.returns] at h; cases h)
    refine ⟨_, _, k4 _ ?_, hrun, hended, _, _, rfl, ?_, ⟨_, rfl⟩, hW, hsame.mono (by decide) (by decide)⟩
    · show Steps p.tables e below (s₁.setTop (mkF m 10 #[.val (.int p1), .val (.int (p1 &&& (3 : Int32)))] [(.int (94 : Int32))])) _
      exact retN X0 hx (t := .char) Bd.returns (by simp) (hb hby d1_10) hr
    · show Q1 _ _ _ _ _ s₁.heap _
      rw [e0]
      exact ⟨by rw [own_pick, if_pos hc2], N0, rfl⟩
  · have k5 : ∀ tg, Steps p.tables e below (s₁.setTop (mkF m 11 #[.val (.int p1), .val (.int (p1 &&& (3 : Int32)))] [])) tg → Steps p.tables e below (s₁.setTop (entryFrame m #[(.int p1)] 2)) tg := fun tg kg => k1 tg (by
        show Steps p.tables e below (s₁.setTop (mkF m 5 #[.val (.int p1), .val (.int (p1 &&& (3 : Int32)))] [(.int (p1 &&& (3 : Int32)))])) _
        refine XS.ifYes X0.here hx rfl (pc0 := 5) (pc' := 11) rfl (hb hby d1_5) rfl ((if0 _ _).trans (feq hc2).2) (by decide) (by decide) ?_
        exact kg)
    have k6 : ∀ tg, Steps p.tables e below (s₁.setTop (mkF m 13 #[.val (.int p1), .val (.int (p1 &&& (3 : Int32)))] [(.int (1 : Int32)), (.int (p1 &&& (3 : Int32)))])) tg → Steps p.tables e below (s₁.setTop (entryFrame m #[(.int p1)] 2)) tg := fun tg kg => k5 tg (by
        show Steps p.tables e below (s₁.setTop (mkF m 11 #[.val (.int p1), .val (.int (p1 &&& (3 : Int32)))] [])) _
        refine XS.iloadN X0.here hx rfl (hb hby d1_11) rfl ?_
        show Steps p.tables e below (s₁.setTop (mkF m 12 #[.val (.int p1), .val (.int (p1 &&& (3 : Int32)))] [(.int (p1 &&& (3 : Int32)))])) _
        refine XS.iconst X0.here hx rfl (hb hby d1_12) ?_
        exact kg)
    by_cases hc7 : (p1 &&& (3 : Int32)) = (1 : Int32)
    · have k8 : ∀ tg, Steps p.tables e below (s₁.setTop (mkF m 16 #[.val (.int p1), .val (.int (p1 &&& (3 : Int32)))] [])) tg → Steps p.tables e below (s₁.setTop (entryFrame m #[(.int p1)] 2)) tg := fun tg kg => k6 tg (by
          show Steps p.tables e below (s₁.setTop (mkF m 13 #[.val (.int p1), .val (.int (p1 &&& (3 : Int32)))] [(.int (1 : Int32)), (.int (p1 &&& (3 : Int32)))])) _
          refine XS.icmpNo X0.here hx rfl (hb hby d1_13) rfl (teq hc7).2 ?_
          exact kg)
      have k9 : ∀ tg, Steps p.tables e below (s₁.setTop (mkF m 18 #[.val (.int p1), .val (.int (p1 &&& (3 : Int32)))] [(.int (38 : Int32))])) tg → Steps p.tables e below (s₁.setTop (entryFrame m #[(.int p1)] 2)) tg := fun tg kg => k8 tg (by
          show Steps p.tables e below (s₁.setTop (mkF m 16 #[.val (.int p1), .val (.int (p1 &&& (3 : Int32)))] [])) _
          refine XS.bipush X0.here hx rfl (hb hby d1_16) ?_
          exact kg)
      obtain ⟨fs, hr, hrun, hended, hW, hsame⟩ := X0.leave (v := some (.int (38 : Int32))) (fun h => by rw [Bd.returns] at h; cases h)
      refine ⟨_, _, k9 _ ?_, hrun, hended, _, _, rfl, ?_, ⟨_, rfl⟩, hW, hsame.mono (by decide) (by decide)⟩
      · show Steps p.tables e below (s₁.setTop (mkF m 18 #[.val (.int p1), .val (.int (p1 &&& (3 : Int32)))] [(.int (38 : Int32))])) _
        exact retN X0 hx (t := .char) Bd.returns (by simp) (hb hby d1_18) hr
      · show Q1 _ _ _ _ _ s₁.heap _
        rw [e0]
        exact ⟨by rw [own_pick, if_neg hc2, if_pos hc7], N0, rfl⟩
    · have k10 : ∀ tg, Steps p.tables e below (s₁.setTop (mkF m 19 #[.val (.int p1), .val (.int (p1 &&& (3 : Int32)))] [])) tg → Steps p.tables e below (s₁.setTop (entryFrame m #[(.int p1)] 2)) tg := fun tg kg => k6 tg (by
          show Steps p.tables e below (s₁.setTop (mkF m 13 #[.val (.int p1), .val (.int (p1 &&& (3 : Int32)))] [(.int (1 : Int32)), (.int (p1 &&& (3 : Int32)))])) _
          refine XS.icmpYes X0.here hx rfl (pc0 := 13) (pc' := 19) rfl (hb hby d1_13) rfl (feq hc7).2 (by decide) (by decide) ?_
          exact kg)
      have k11 : ∀ tg, Steps p.tables e below (s₁.setTop (mkF m 21 #[.val (.int p1), .val (.int (p1 &&& (3 : Int32)))] [(.int (2 : Int32)), (.int (p1 &&& (3 : Int32)))])) tg → Steps p.tables e below (s₁.setTop (entryFrame m #[(.int p1)] 2)) tg := fun tg kg => k10 tg (by
          show Steps p.tables e below (s₁.setTop (mkF m 19 #[.val (.int p1), .val (.int (p1 &&& (3 : Int32)))] [])) _
          refine XS.iloadN X0.here hx rfl (hb hby d1_19) rfl ?_
          show Steps p.tables e below (s₁.setTop (mkF m 20 #[.val (.int p1), .val (.int (p1 &&& (3 : Int32)))] [(.int (p1 &&& (3 : Int32)))])) _
          refine XS.iconst X0.here hx rfl (hb hby d1_20) ?_
          exact kg)
      by_cases hc12 : (p1 &&& (3 : Int32)) = (2 : Int32)
      · have k13 : ∀ tg, Steps p.tables e below (s₁.setTop (mkF m 24 #[.val (.int p1), .val (.int (p1 &&& (3 : Int32)))] [])) tg → Steps p.tables e below (s₁.setTop (entryFrame m #[(.int p1)] 2)) tg := fun tg kg => k11 tg (by
            show Steps p.tables e below (s₁.setTop (mkF m 21 #[.val (.int p1), .val (.int (p1 &&& (3 : Int32)))] [(.int (2 : Int32)), (.int (p1 &&& (3 : Int32)))])) _
            refine XS.icmpNo X0.here hx rfl (hb hby d1_21) rfl (teq hc12).2 ?_
            exact kg)
        have k14 : ∀ tg, Steps p.tables e below (s₁.setTop (mkF m 26 #[.val (.int p1), .val (.int (p1 &&& (3 : Int32)))] [(.int (34 : Int32))])) tg → Steps p.tables e below (s₁.setTop (entryFrame m #[(.int p1)] 2)) tg := fun tg kg => k13 tg (by
            show Steps p.tables e below (s₁.setTop (mkF m 24 #[.val (.int p1), .val (.int (p1 &&& (3 : Int32)))] [])) _
            refine XS.bipush X0.here hx rfl (hb hby d1_24) ?_
            exact kg)
        obtain ⟨fs, hr, hrun, hended, hW, hsame⟩ := X0.leave (v := some (.int (34 : Int32))) (fun h => by rw [Bd.returns] at h; cases h)
        refine ⟨_, _, k14 _ ?_, hrun, hended, _, _, rfl, ?_, ⟨_, rfl⟩, hW, hsame.mono (by decide) (by decide)⟩
        · show Steps p.tables e below (s₁.setTop (mkF m 26 #[.val (.int p1), .val (.int (p1 &&& (3 : Int32)))] [(.int (34 : Int32))])) _
          exact retN X0 hx (t := .char) Bd.returns (by simp) (hb hby d1_26) hr
        · show Q1 _ _ _ _ _ s₁.heap _
          rw [e0]
          exact ⟨by rw [own_pick, if_neg hc2, if_neg hc7, if_pos hc12], N0, rfl⟩
      · have k15 : ∀ tg, Steps p.tables e below (s₁.setTop (mkF m 27 #[.val (.int p1), .val (.int (p1 &&& (3 : Int32)))] [])) tg → Steps p.tables e below (s₁.setTop (entryFrame m #[(.int p1)] 2)) tg := fun tg kg => k11 tg (by
            show Steps p.tables e below (s₁.setTop (mkF m 21 #[.val (.int p1), .val (.int (p1 &&& (3 : Int32)))] [(.int (2 : Int32)), (.int (p1 &&& (3 : Int32)))])) _
            refine XS.icmpYes X0.here hx rfl (pc0 := 21) (pc' := 27) rfl (hb hby d1_21) rfl (feq hc12).2 (by decide) (by decide) ?_
            exact kg)
        have k16 : ∀ tg, Steps p.tables e below (s₁.setTop (mkF m 35 #[.val (.int p1), .val (.int (p1 &&& (3 : Int32)))] [(.int (((p1.toUInt32 >>> ((2 : Int32) &&& 31).toUInt32).toInt32) &&& (255 : Int32)).toUInt32.toUInt16.toUInt32.toInt32)])) tg → Steps p.tables e below (s₁.setTop (entryFrame m #[(.int p1)] 2)) tg := fun tg kg => k15 tg (by
            show Steps p.tables e below (s₁.setTop (mkF m 27 #[.val (.int p1), .val (.int (p1 &&& (3 : Int32)))] [])) _
            refine XS.iloadN X0.here hx rfl (hb hby d1_27) rfl ?_
            show Steps p.tables e below (s₁.setTop (mkF m 28 #[.val (.int p1), .val (.int (p1 &&& (3 : Int32)))] [(.int p1)])) _
            refine XS.iconst X0.here hx rfl (hb hby d1_28) ?_
            show Steps p.tables e below (s₁.setTop (mkF m 29 #[.val (.int p1), .val (.int (p1 &&& (3 : Int32)))] [(.int (2 : Int32)), (.int p1)])) _
            refine XS.iushr X0.here hx rfl (hb hby d1_29) rfl ?_
            show Steps p.tables e below (s₁.setTop (mkF m 30 #[.val (.int p1), .val (.int (p1 &&& (3 : Int32)))] [(.int ((p1.toUInt32 >>> ((2 : Int32) &&& 31).toUInt32).toInt32))])) _
            refine XS.sipush X0.here hx rfl (hb hby d1_30) ?_
            show Steps p.tables e below (s₁.setTop (mkF m 33 #[.val (.int p1), .val (.int (p1 &&& (3 : Int32)))] [(.int (255 : Int32)), (.int ((p1.toUInt32 >>> ((2 : Int32) &&& 31).toUInt32).toInt32))])) _
            refine XS.iand X0.here hx rfl (hb hby d1_33) rfl ?_
            show Steps p.tables e below (s₁.setTop (mkF m 34 #[.val (.int p1), .val (.int (p1 &&& (3 : Int32)))] [(.int (((p1.toUInt32 >>> ((2 : Int32) &&& 31).toUInt32).toInt32) &&& (255 : Int32)))])) _
            refine XS.i2c X0.here hx rfl (hb hby d1_34) rfl ?_
            exact kg)
        obtain ⟨fs, hr, hrun, hended, hW, hsame⟩ := X0.leave (v := some (.int (nar .char (((p1.toUInt32 >>> ((2 : Int32) &&& 31).toUInt32).toInt32) &&& (255 : Int32)).toUInt32.toUInt16.toUInt32.toInt32))) (fun h => by rw [Bd.returns] at h; cases h)
        refine ⟨_, _, k16 _ ?_, hrun, hended, _, _, rfl, ?_, ⟨_, rfl⟩, hW, hsame.mono (by decide) (by decide)⟩
        · show Steps p.tables e below (s₁.setTop (mkF m 35 #[.val (.int p1), .val (.int (p1 &&& (3 : Int32)))] [(.int (((p1.toUInt32 >>> ((2 : Int32) &&& 31).toUInt32).toInt32) &&& (255 : Int32)).toUInt32.toUInt16.toUInt32.toInt32)])) _
          exact retN X0 hx (t := .char) Bd.returns (by simp) (hb hby d1_35) hr
        · show Q1 _ _ _ _ _ s₁.heap _
          rw [e0]
          exact ⟨by rw [own_pick, if_neg hc2, if_neg hc7, if_neg hc12], N0, rfl⟩
theorem d11_0 : decode method_3_code 0 = .ok (.iload_n 0, 1) := by decide +kernel
theorem d11_1 : decode method_3_code 1 = .ok (.bipush 94, 2) := by decide +kernel
theorem d11_3 : decode method_3_code 3 = .ok (.if_icmp .eq 9, 3) := by decide +kernel
theorem d11_6 : decode method_3_code 6 = .ok (.iload_n 0, 1) := by decide +kernel
theorem d11_7 : decode method_3_code 7 = .ok (.bipush 38, 2) := by decide +kernel
theorem d11_9 : decode method_3_code 9 = .ok (.if_icmp .ne 7, 3) := by decide +kernel
theorem d11_12 : decode method_3_code 12 = .ok (.iconst 1, 1) := by decide +kernel
theorem d11_13 : decode method_3_code 13 = .ok (.goto 4, 3) := by decide +kernel
theorem d11_16 : decode method_3_code 16 = .ok (.iconst 0, 1) := by decide +kernel
theorem d11_17 : decode method_3_code 17 = .ok (.ireturn, 1) := by decide +kernel
theorem pn_11 : plainName "com/example/vaxwire/vaxwire/hl7/ContentIsValuePinLaw" = true := by first | (simp [plainName, overriddenIn]; done) | decide +kernel
theorem ef_11 (m : MethodId) (x0 : Int32) : entryFrame m #[(.int x0)] 1 = mkF m 0 #[.val (.int x0)] [] := by first | (simp [entryFrame, mkF, argsToLocals, Value.category]; done) | rfl
def Q11 (Z : State) (p1 : Int32) (h0 : Heap) (n0 : Nat) (v : Option Value) (h : Heap) (L : List Loc) : Prop := v = some (.int (own_sep p1)) ∧ Fr n0 L ∧ h = h0
set_option maxRecDepth 65536 in
set_option maxHeartbeats 40000000 in
theorem rm11 (l : Launch) (Z : State) (a0 : Array Value) (hw : ∀ d ∈ tables_1, d.before a0 Z = true) (ws : List Jvm.Cond) (p1 : Int32)  (h0 : Heap) (n0 : Nat) (Z0 : n0 ≤ h0.size)  :
    MetFree l (⟨"com/example/vaxwire/vaxwire/hl7/ContentIsValuePinLaw", "isSep", "(C)Z"⟩ : MethodName) (head1 (Jvm.Cond.code (⟨"com/example/vaxwire/vaxwire/hl7/ContentIsValuePinLaw", "isSep", "(C)Z"⟩ : MethodName) method_3_code 1 (some .boolean) :: ws) ({ frames := 0, cells := 0, slots := 0, locals := 0 } : Room)) (fun a U => a = #[(.int p1)] ∧ Z.Warmed39 U.vm ∧ U.heap = h0) (fun _ _ _ _ _ => True) (fun _ U o U' => ∃ v L, o = .returned v ∧ Q11 Z p1 h0 n0 v U'.heap L ∧ FrameEnd U o U' L ({ frames := 0, cells := 0, slots := 0, locals := 0 } : Room).cells ({ frames := 0, cells := 0, slots := 0, locals := 0 } : Room).slots) := by
  refine MetFree.of_bodySF (plainFor_of_name pn_11) hisR ?_
  intro p e s m args below meth c s₁ Bd hml0 hP hK
  obtain ⟨rfl, hZ, hh⟩ := hP
  have hx := Bd.exec
  have hby := Bd.bytes
  have hml : c.maxLocals = 1 := hml0
  have hown : s.vm.findClass "com/example/vaxwire/vaxwire/hl7/ContentIsValuePinLaw" = some m.cls := findClass_of_methodNamed Bd.named
  have hnm := (name_of_methodNamed Bd.named Bd.method).1
  have X0 : Stand p l e ({ frames := 0, cells := 0, slots := 0, locals := 0 } : Room) s m #[(.int p1)] below meth c s₁ [] 0 0 := Stand.of_body Bd
  have e0 : s₁.heap = h0 := by rw [← hh, Bd.state]; rfl
  have N0 := Fr.nil n0
  have pre0 : ∀ tg, Steps p.tables e below (s₁.setTop (mkF m 0 #[.val (.int p1)] [])) tg → Steps p.tables e below (s₁.setTop (entryFrame m #[(.int p1)] 1)) tg := fun tg kg => castTop (ef_11 m p1) kg
  have k17 : ∀ tg, Steps p.tables e below (s₁.setTop (mkF m 3 #[.val (.int p1)] [(.int (94 : Int32)), (.int p1)])) tg → Steps p.tables e below (s₁.setTop (entryFrame m #[(.int p1)] 1)) tg := fun tg kg => pre0 tg (by
      show Steps p.tables e below (s₁.setTop (mkF m 0 #[.val (.int p1)] [])) _
      refine XS.iloadN X0.here hx rfl (hb hby d11_0) rfl ?_
      show Steps p.tables e below (s₁.setTop (mkF m 1 #[.val (.int p1)] [(.int p1)])) _
      refine XS.bipush X0.here hx rfl (hb hby d11_1) ?_
      exact kg)
  by_cases hc18 : p1 = (94 : Int32)
  · have k19 : ∀ tg, Steps p.tables e below (s₁.setTop (mkF m 12 #[.val (.int p1)] [])) tg → Steps p.tables e below (s₁.setTop (entryFrame m #[(.int p1)] 1)) tg := fun tg kg => k17 tg (by
        show Steps p.tables e below (s₁.setTop (mkF m 3 #[.val (.int p1)] [(.int (94 : Int32)), (.int p1)])) _
        refine XS.icmpYes X0.here hx rfl (pc0 := 3) (pc' := 12) rfl (hb hby d11_3) rfl (teq hc18).1 (by decide) (by decide) ?_
        exact kg)
    have k20 : ∀ tg, Steps p.tables e below (s₁.setTop (mkF m 17 #[.val (.int p1)] [(.int (1 : Int32))])) tg → Steps p.tables e below (s₁.setTop (entryFrame m #[(.int p1)] 1)) tg := fun tg kg => k19 tg (by
        show Steps p.tables e below (s₁.setTop (mkF m 12 #[.val (.int p1)] [])) _
        refine XS.iconst X0.here hx rfl (hb hby d11_12) ?_
        show Steps p.tables e below (s₁.setTop (mkF m 13 #[.val (.int p1)] [(.int (1 : Int32))])) _
        refine XS.goto X0.here hx rfl (pc0 := 13) (pc' := 17) rfl (hb hby d11_13) (by decide) (by decide) ?_
        exact kg)
    obtain ⟨fs, hr, hrun, hended, hW, hsame⟩ := X0.leave (v := some (.int (1 : Int32))) (fun h => by rw [Bd.returns] at h; cases h)
    refine ⟨_, _, k20 _ ?_, hrun, hended, _, _, rfl, ?_, ⟨_, rfl⟩, hW, hsame.mono (by decide) (by decide)⟩
    · show Steps p.tables e below (s₁.setTop (mkF m 17 #[.val (.int p1)] [(.int (1 : Int32))])) _
      exact retN X0 hx (t := .boolean) Bd.returns (by simp) (hb hby d11_17) hr
    · show Q11 _ _ _ _ _ s₁.heap _
      rw [e0]
      exact ⟨by rw [own_sep, if_pos hc18], N0, rfl⟩
  · have k21 : ∀ tg, Steps p.tables e below (s₁.setTop (mkF m 6 #[.val (.int p1)] [])) tg → Steps p.tables e below (s₁.setTop (entryFrame m #[(.int p1)] 1)) tg := fun tg kg => k17 tg (by
        show Steps p.tables e below (s₁.setTop (mkF m 3 #[.val (.int p1)] [(.int (94 : Int32)), (.int p1)])) _
        refine XS.icmpNo X0.here hx rfl (hb hby d11_3) rfl (feq hc18).1 ?_
        exact kg)
    have k22 : ∀ tg, Steps p.tables e below (s₁.setTop (mkF m 9 #[.val (.int p1)] [(.int (38 : Int32)), (.int p1)])) tg → Steps p.tables e below (s₁.setTop (entryFrame m #[(.int p1)] 1)) tg := fun tg kg => k21 tg (by
        show Steps p.tables e below (s₁.setTop (mkF m 6 #[.val (.int p1)] [])) _
        refine XS.iloadN X0.here hx rfl (hb hby d11_6) rfl ?_
        show Steps p.tables e below (s₁.setTop (mkF m 7 #[.val (.int p1)] [(.int p1)])) _
        refine XS.bipush X0.here hx rfl (hb hby d11_7) ?_
        exact kg)
    by_cases hc23 : p1 = (38 : Int32)
    · have k24 : ∀ tg, Steps p.tables e below (s₁.setTop (mkF m 12 #[.val (.int p1)] [])) tg → Steps p.tables e below (s₁.setTop (entryFrame m #[(.int p1)] 1)) tg := fun tg kg => k22 tg (by
          show Steps p.tables e below (s₁.setTop (mkF m 9 #[.val (.int p1)] [(.int (38 : Int32)), (.int p1)])) _
          refine XS.icmpNo X0.here hx rfl (hb hby d11_9) rfl (teq hc23).2 ?_
          exact kg)
      have k25 : ∀ tg, Steps p.tables e below (s₁.setTop (mkF m 17 #[.val (.int p1)] [(.int (1 : Int32))])) tg → Steps p.tables e below (s₁.setTop (entryFrame m #[(.int p1)] 1)) tg := fun tg kg => k24 tg (by
          show Steps p.tables e below (s₁.setTop (mkF m 12 #[.val (.int p1)] [])) _
          refine XS.iconst X0.here hx rfl (hb hby d11_12) ?_
          show Steps p.tables e below (s₁.setTop (mkF m 13 #[.val (.int p1)] [(.int (1 : Int32))])) _
          refine XS.goto X0.here hx rfl (pc0 := 13) (pc' := 17) rfl (hb hby d11_13) (by decide) (by decide) ?_
          exact kg)
      obtain ⟨fs, hr, hrun, hended, hW, hsame⟩ := X0.leave (v := some (.int (1 : Int32))) (fun h => by rw [Bd.returns] at h; cases h)
      refine ⟨_, _, k25 _ ?_, hrun, hended, _, _, rfl, ?_, ⟨_, rfl⟩, hW, hsame.mono (by decide) (by decide)⟩
      · show Steps p.tables e below (s₁.setTop (mkF m 17 #[.val (.int p1)] [(.int (1 : Int32))])) _
        exact retN X0 hx (t := .boolean) Bd.returns (by simp) (hb hby d11_17) hr
      · show Q11 _ _ _ _ _ s₁.heap _
        rw [e0]
        exact ⟨by rw [own_sep, if_neg hc18, if_pos hc23], N0, rfl⟩
    · have k26 : ∀ tg, Steps p.tables e below (s₁.setTop (mkF m 16 #[.val (.int p1)] [])) tg → Steps p.tables e below (s₁.setTop (entryFrame m #[(.int p1)] 1)) tg := fun tg kg => k22 tg (by
          show Steps p.tables e below (s₁.setTop (mkF m 9 #[.val (.int p1)] [(.int (38 : Int32)), (.int p1)])) _
          refine XS.icmpYes X0.here hx rfl (pc0 := 9) (pc' := 16) rfl (hb hby d11_9) rfl (feq hc23).2 (by decide) (by decide) ?_
          exact kg)
      have k27 : ∀ tg, Steps p.tables e below (s₁.setTop (mkF m 17 #[.val (.int p1)] [(.int (0 : Int32))])) tg → Steps p.tables e below (s₁.setTop (entryFrame m #[(.int p1)] 1)) tg := fun tg kg => k26 tg (by
          show Steps p.tables e below (s₁.setTop (mkF m 16 #[.val (.int p1)] [])) _
          refine XS.iconst X0.here hx rfl (hb hby d11_16) ?_
          exact kg)
      obtain ⟨fs, hr, hrun, hended, hW, hsame⟩ := X0.leave (v := some (.int (0 : Int32))) (fun h => by rw [Bd.returns] at h; cases h)
      refine ⟨_, _, k27 _ ?_, hrun, hended, _, _, rfl, ?_, ⟨_, rfl⟩, hW, hsame.mono (by decide) (by decide)⟩
      · show Steps p.tables e below (s₁.setTop (mkF m 17 #[.val (.int p1)] [(.int (0 : Int32))])) _
        exact retN X0 hx (t := .boolean) Bd.returns (by simp) (hb hby d11_17) hr
      · show Q11 _ _ _ _ _ s₁.heap _
        rw [e0]
        exact ⟨by rw [own_sep, if_neg hc18, if_neg hc23], N0, rfl⟩
theorem d4_0 : decode prog_48_method_20_code 0 = .ok (.aload_n 0, 1) := by decide +kernel
theorem d4_1 : decode prog_48_method_20_code 1 = .ok (.getfield 52, 3) := by decide +kernel
theorem d4_4 : decode prog_48_method_20_code 4 = .ok (.ireturn, 1) := by decide +kernel
theorem pn_4 : plainName "com/example/vaxwire/vaxwire/hl7/Delimiters" = true := by first | (simp [plainName, overriddenIn]; done) | decide +kernel
theorem ef_4 (m : MethodId) (x0 : Addr) : entryFrame m #[(.ref x0)] 1 = mkF m 0 #[.val (.ref x0)] [] := by first | (simp [entryFrame, mkF, argsToLocals, Value.category]; done) | rfl
def Q4 (Z : State)  (h0 : Heap) (n0 : Nat) (v : Option Value) (h : Heap) (L : List Loc) : Prop := v = some (.int (94 : Int32)) ∧ Fr n0 L ∧ h = h0
set_option maxRecDepth 65536 in
set_option maxHeartbeats 40000000 in
theorem rm4 (l : Launch) (Z : State) (a0 : Array Value) (hw : ∀ d ∈ tables_1, d.before a0 Z = true) (ws : List Jvm.Cond) (a1 : Addr)  (h0 : Heap) (n0 : Nat) (Z0 : n0 ≤ h0.size) (F : Fld Z h0 a1 "com/example/vaxwire/vaxwire/hl7/Delimiters" "component" "C" (.int (94 : Int32))) :
    MetFree l (⟨"com/example/vaxwire/vaxwire/hl7/Delimiters", "component", "()C"⟩ : MethodName) (head1 (Jvm.Cond.code (⟨"com/example/vaxwire/vaxwire/hl7/Delimiters", "component", "()C"⟩ : MethodName) prog_48_method_20_code 1 (some .char) :: ws) ({ frames := 0, cells := 0, slots := 0, locals := 0 } : Room)) (fun a U => a = #[(.ref a1)] ∧ Z.Warmed39 U.vm ∧ U.heap = h0) (fun _ _ _ _ _ => True) (fun _ U o U' => ∃ v L, o = .returned v ∧ Q4 Z  h0 n0 v U'.heap L ∧ FrameEnd U o U' L ({ frames := 0, cells := 0, slots := 0, locals := 0 } : Room).cells ({ frames := 0, cells := 0, slots := 0, locals := 0 } : Room).slots) := by
  refine MetFree.of_bodySF (plainFor_of_name pn_4) hisR ?_
  intro p e s m args below meth c s₁ Bd hml0 hP hK
  obtain ⟨rfl, hZ, hh⟩ := hP
  have hx := Bd.exec
  have hby := Bd.bytes
  have hml : c.maxLocals = 1 := hml0
  have hown : s.vm.findClass "com/example/vaxwire/vaxwire/hl7/Delimiters" = some m.cls := findClass_of_methodNamed Bd.named
  have hnm := (name_of_methodNamed Bd.named Bd.method).1
  have X0 : Stand p l e ({ frames := 0, cells := 0, slots := 0, locals := 0 } : Room) s m #[(.ref a1)] below meth c s₁ [] 0 0 := Stand.of_body Bd
  have e0 : s₁.heap = h0 := by rw [← hh, Bd.state]; rfl
  have N0 := Fr.nil n0
  have pre0 : ∀ tg, Steps p.tables e below (s₁.setTop (mkF m 0 #[.val (.ref a1)] [])) tg → Steps p.tables e below (s₁.setTop (entryFrame m #[(.ref a1)] 1)) tg := fun tg kg => castTop (ef_4 m a1) kg
  have k28 : ∀ tg, Steps p.tables e below (s₁.setTop (mkF m 1 #[.val (.ref a1)] [(.ref a1)])) tg → Steps p.tables e below (s₁.setTop (entryFrame m #[(.ref a1)] 1)) tg := fun tg kg => pre0 tg (by
      show Steps p.tables e below (s₁.setTop (mkF m 0 #[.val (.ref a1)] [])) _
      refine XS.aloadN X0.here hx rfl (hb hby d4_0) rfl rfl ?_
      exact kg)
  obtain ⟨T29, X29, e29, st29⟩ := getF X0 hx hZ hown (host := "") (Or.inl (hw _ (List.mem_of_getElem? (i := 30) rfl))) Via.refl e0 F (g := (mkF m 1 #[.val (.ref a1)] [(.ref a1)])) rfl rfl (hb hby d4_1)
  have k30 : ∀ tg, Steps p.tables e below (T29.setTop (mkF m 4 #[.val (.ref a1)] [(.int (94 : Int32))])) tg → Steps p.tables e below (s₁.setTop (entryFrame m #[(.ref a1)] 1)) tg := fun tg kg => k28 tg (st29 tg kg)
  obtain ⟨fs, hr, hrun, hended, hW, hsame⟩ := X29.leave (v := some (.int (94 : Int32))) (fun h => by rw [Bd.returns] at h; cases h)
  refine ⟨_, _, k30 _ ?_, hrun, hended, _, _, rfl, ?_, ⟨_, rfl⟩, hW, hsame.mono (by decide) (by decide)⟩
  · show Steps p.tables e below (T29.setTop (mkF m 4 #[.val (.ref a1)] [(.int (94 : Int32))])) _
    exact retN X29 hx (t := .char) Bd.returns (by simp) (hb hby d4_4) hr
  · show Q4 _ _ _ _ T29.heap _
    rw [e29]
    exact ⟨rfl, N0, rfl⟩
theorem d5_0 : decode prog_48_method_23_code 0 = .ok (.aload_n 0, 1) := by decide +kernel
theorem d5_1 : decode prog_48_method_23_code 1 = .ok (.getfield 61, 3) := by decide +kernel
theorem d5_4 : decode prog_48_method_23_code 4 = .ok (.ireturn, 1) := by decide +kernel
theorem pn_5 : plainName "com/example/vaxwire/vaxwire/hl7/Delimiters" = true := by first | (simp [plainName, overriddenIn]; done) | decide +kernel
theorem ef_5 (m : MethodId) (x0 : Addr) : entryFrame m #[(.ref x0)] 1 = mkF m 0 #[.val (.ref x0)] [] := by first | (simp [entryFrame, mkF, argsToLocals, Value.category]; done) | rfl
def Q5 (Z : State)  (h0 : Heap) (n0 : Nat) (v : Option Value) (h : Heap) (L : List Loc) : Prop := v = some (.int (38 : Int32)) ∧ Fr n0 L ∧ h = h0
set_option maxRecDepth 65536 in
set_option maxHeartbeats 40000000 in
theorem rm5 (l : Launch) (Z : State) (a0 : Array Value) (hw : ∀ d ∈ tables_1, d.before a0 Z = true) (ws : List Jvm.Cond) (a1 : Addr)  (h0 : Heap) (n0 : Nat) (Z0 : n0 ≤ h0.size) (F : Fld Z h0 a1 "com/example/vaxwire/vaxwire/hl7/Delimiters" "subcomponent" "C" (.int (38 : Int32))) :
    MetFree l (⟨"com/example/vaxwire/vaxwire/hl7/Delimiters", "subcomponent", "()C"⟩ : MethodName) (head1 (Jvm.Cond.code (⟨"com/example/vaxwire/vaxwire/hl7/Delimiters", "subcomponent", "()C"⟩ : MethodName) prog_48_method_23_code 1 (some .char) :: ws) ({ frames := 0, cells := 0, slots := 0, locals := 0 } : Room)) (fun a U => a = #[(.ref a1)] ∧ Z.Warmed39 U.vm ∧ U.heap = h0) (fun _ _ _ _ _ => True) (fun _ U o U' => ∃ v L, o = .returned v ∧ Q5 Z  h0 n0 v U'.heap L ∧ FrameEnd U o U' L ({ frames := 0, cells := 0, slots := 0, locals := 0 } : Room).cells ({ frames := 0, cells := 0, slots := 0, locals := 0 } : Room).slots) := by
  refine MetFree.of_bodySF (plainFor_of_name pn_5) hisR ?_
  intro p e s m args below meth c s₁ Bd hml0 hP hK
  obtain ⟨rfl, hZ, hh⟩ := hP
  have hx := Bd.exec
  have hby := Bd.bytes
  have hml : c.maxLocals = 1 := hml0
  have hown : s.vm.findClass "com/example/vaxwire/vaxwire/hl7/Delimiters" = some m.cls := findClass_of_methodNamed Bd.named
  have hnm := (name_of_methodNamed Bd.named Bd.method).1
  have X0 : Stand p l e ({ frames := 0, cells := 0, slots := 0, locals := 0 } : Room) s m #[(.ref a1)] below meth c s₁ [] 0 0 := Stand.of_body Bd
  have e0 : s₁.heap = h0 := by rw [← hh, Bd.state]; rfl
  have N0 := Fr.nil n0
  have pre0 : ∀ tg, Steps p.tables e below (s₁.setTop (mkF m 0 #[.val (.ref a1)] [])) tg → Steps p.tables e below (s₁.setTop (entryFrame m #[(.ref a1)] 1)) tg := fun tg kg => castTop (ef_5 m a1) kg
  have k31 : ∀ tg, Steps p.tables e below (s₁.setTop (mkF m 1 #[.val (.ref a1)] [(.ref a1)])) tg → Steps p.tables e below (s₁.setTop (entryFrame m #[(.ref a1)] 1)) tg := fun tg kg => pre0 tg (by
      show Steps p.tables e below (s₁.setTop (mkF m 0 #[.val (.ref a1)] [])) _
      refine XS.aloadN X0.here hx rfl (hb hby d5_0) rfl rfl ?_
      exact kg)
  obtain ⟨T32, X32, e32, st32⟩ := getF X0 hx hZ hown (host := "") (Or.inl (hw _ (List.mem_of_getElem? (i := 37) rfl))) Via.refl e0 F (g := (mkF m 1 #[.val (.ref a1)] [(.ref a1)])) rfl rfl (hb hby d5_1)
  have k33 : ∀ tg, Steps p.tables e below (T32.setTop (mkF m 4 #[.val (.ref a1)] [(.int (38 : Int32))])) tg → Steps p.tables e below (s₁.setTop (entryFrame m #[(.ref a1)] 1)) tg := fun tg kg => k31 tg (st32 tg kg)
  obtain ⟨fs, hr, hrun, hended, hW, hsame⟩ := X32.leave (v := some (.int (38 : Int32))) (fun h => by rw [Bd.returns] at h; cases h)
  refine ⟨_, _, k33 _ ?_, hrun, hended, _, _, rfl, ?_, ⟨_, rfl⟩, hW, hsame.mono (by decide) (by decide)⟩
  · show Steps p.tables e below (T32.setTop (mkF m 4 #[.val (.ref a1)] [(.int (38 : Int32))])) _
    exact retN X32 hx (t := .char) Bd.returns (by simp) (hb hby d5_4) hr
  · show Q5 _ _ _ _ T32.heap _
    rw [e32]
    exact ⟨rfl, N0, rfl⟩
theorem d2_0 : decode prog_56_method_5_code 0 = .ok (.aload_n 0, 1) := by decide +kernel
theorem d2_1 : decode prog_56_method_5_code 1 = .ok (.getstatic 12, 3) := by decide +kernel
theorem d2_4 : decode prog_56_method_5_code 4 = .ok (.if_acmp .eq 10, 3) := by decide +kernel
theorem d2_7 : decode prog_56_method_5_code 7 = .ok (.aload_n 0, 1) := by decide +kernel
theorem d2_8 : decode prog_56_method_5_code 8 = .ok (.getstatic 18, 3) := by decide +kernel
theorem d2_11 : decode prog_56_method_5_code 11 = .ok (.if_acmp .ne 7, 3) := by decide +kernel
theorem d2_14 : decode prog_56_method_5_code 14 = .ok (.iconst 1, 1) := by decide +kernel
theorem d2_15 : decode prog_56_method_5_code 15 = .ok (.goto 4, 3) := by decide +kernel
theorem d2_18 : decode prog_56_method_5_code 18 = .ok (.iconst 0, 1) := by decide +kernel
theorem d2_19 : decode prog_56_method_5_code 19 = .ok (.ireturn, 1) := by decide +kernel
theorem pn_2 : plainName "com/example/vaxwire/vaxwire/hl7/Repetition$Content" = true := by first | (simp [plainName, overriddenIn]; done) | decide +kernel
theorem ef_2 (m : MethodId) (x0 : Addr) : entryFrame m #[(.ref x0)] 1 = mkF m 0 #[.val (.ref x0)] [] := by first | (simp [entryFrame, mkF, argsToLocals, Value.category]; done) | rfl
def Q2 (Z : State) (st : Nat) (h0 : Heap) (n0 : Nat) (v : Option Value) (h : Heap) (L : List Loc) : Prop := v = some (.int (own_val st)) ∧ Fr n0 L ∧ h = h0
set_option maxRecDepth 65536 in
set_option maxHeartbeats 40000000 in
theorem rm2 (l : Launch) (Z : State) (a0 : Array Value) (hw : ∀ d ∈ tables_1, d.before a0 Z = true) (ws : List Jvm.Cond) (a1 : Addr) (st : Nat) (d c0 c1 c2 c3 c4 : Addr) (h0 : Heap) (n0 : Nat) (Z0 : n0 ≤ h0.size) (hst : st < 5) (ha0 : a1 = own_ad c0 c1 c2 c3 c4 st) (Wh : Wd Z d c0 c1 c2 c3 c4) (XE : Ext Z.heap h0) :
    MetFree l (⟨"com/example/vaxwire/vaxwire/hl7/Repetition$Content", "isValue", "()Z"⟩ : MethodName) (head1 (Jvm.Cond.code (⟨"com/example/vaxwire/vaxwire/hl7/Repetition$Content", "isValue", "()Z"⟩ : MethodName) prog_56_method_5_code 1 (some .boolean) :: ws) ({ frames := 0, cells := 0, slots := 0, locals := 0 } : Room)) (fun a U => a = #[(.ref a1)] ∧ Z.Warmed39 U.vm ∧ U.heap = h0) (fun _ _ _ _ _ => True) (fun _ U o U' => ∃ v L, o = .returned v ∧ Q2 Z st h0 n0 v U'.heap L ∧ FrameEnd U o U' L ({ frames := 0, cells := 0, slots := 0, locals := 0 } : Room).cells ({ frames := 0, cells := 0, slots := 0, locals := 0 } : Room).slots) := by
  refine MetFree.of_bodySF (plainFor_of_name pn_2) hisR ?_
  intro p e s m args below meth c s₁ Bd hml0 hP hK
  obtain ⟨rfl, hZ, hh⟩ := hP
  have hx := Bd.exec
  have hby := Bd.bytes
  have hml : c.maxLocals = 1 := hml0
  have hown : s.vm.findClass "com/example/vaxwire/vaxwire/hl7/Repetition$Content" = some m.cls := findClass_of_methodNamed Bd.named
  have hnm := (name_of_methodNamed Bd.named Bd.method).1
  have X0 : Stand p l e ({ frames := 0, cells := 0, slots := 0, locals := 0 } : Room) s m #[(.ref a1)] below meth c s₁ [] 0 0 := Stand.of_body Bd
  have e0 : s₁.heap = h0 := by rw [← hh, Bd.state]; rfl
  have N0 := Fr.nil n0
  have pre0 : ∀ tg, Steps p.tables e below (s₁.setTop (mkF m 0 #[.val (.ref a1)] [])) tg → Steps p.tables e below (s₁.setTop (entryFrame m #[(.ref a1)] 1)) tg := fun tg kg => castTop (ef_2 m a1) kg
  obtain ⟨⟨Sd, Ed, Fc, Fs⟩, ⟨S0, S1, S2, S3, S4⟩, ⟨E0, E1, E2, E3, E4⟩, n01, n02, n03, n04, n12, n13, n14, n23, n24, n34⟩ := Wh
  have h5 : st = 0 ∨ st = 1 ∨ st = 2 ∨ st = 3 ∨ st = 4 := by omega
  rcases h5 with rfl | rfl | rfl | rfl | rfl
  · have ha : a1 = c0 := ha0
    have k34 : ∀ tg, Steps p.tables e below (s₁.setTop (mkF m 1 #[.val (.ref a1)] [(.ref a1)])) tg → Steps p.tables e below (s₁.setTop (entryFrame m #[(.ref a1)] 1)) tg := fun tg kg => pre0 tg (by
        show Steps p.tables e below (s₁.setTop (mkF m 0 #[.val (.ref a1)] [])) _
        refine XS.aloadN X0.here hx rfl (hb hby d2_0) rfl rfl ?_
        exact kg)
    obtain ⟨T35, X35, e35, st35⟩ := getS2 X0 hx hZ hown (host := "") (Or.inl (hw _ (List.mem_of_getElem? (i := 16) rfl))) Via.refl e0 (S2.ext XE) (g := (mkF m 1 #[.val (.ref a1)] [(.ref a1)])) rfl (hb hby d2_1)
    have k36 : ∀ tg, Steps p.tables e below (T35.setTop (mkF m 4 #[.val (.ref a1)] [(.ref c2), (.ref a1)])) tg → Steps p.tables e below (s₁.setTop (entryFrame m #[(.ref a1)] 1)) tg := fun tg kg => k34 tg (st35 tg kg)
    have k37 : ∀ tg, Steps p.tables e below (T35.setTop (mkF m 8 #[.val (.ref a1)] [(.ref a1)])) tg → Steps p.tables e below (s₁.setTop (entryFrame m #[(.ref a1)] 1)) tg := fun tg kg => k36 tg (by
        show Steps p.tables e below (T35.setTop (mkF m 4 #[.val (.ref a1)] [(.ref c2), (.ref a1)])) _
        refine Jvm.RoadKit.acmp (g := (mkF m 4 #[.val (.ref a1)] [(.ref c2), (.ref a1)])) X35 hx rfl rfl rfl (pc0 := 4) (pc' := 7) (same := false) rfl (hb hby d2_4) rfl (decide_eq_false fun q => n02 (ha.symm.trans (Value.ref.inj q))) (by decide) (by decide) ?_
        show Steps p.tables e below (T35.setTop (mkF m 7 #[.val (.ref a1)] [])) _
        refine XS.aloadN X35.here hx rfl (hb hby d2_7) rfl rfl ?_
        exact kg)
    obtain ⟨T38, X38, e38, st38⟩ := getS2 X35 hx hZ hown (host := "") (Or.inl (hw _ (List.mem_of_getElem? (i := 18) rfl))) Via.refl e35 (S4.ext XE) (g := (mkF m 8 #[.val (.ref a1)] [(.ref a1)])) rfl (hb hby d2_8)
    have k39 : ∀ tg, Steps p.tables e below (T38.setTop (mkF m 11 #[.val (.ref a1)] [(.ref c4), (.ref a1)])) tg → Steps p.tables e below (s₁.setTop (entryFrame m #[(.ref a1)] 1)) tg := fun tg kg => k37 tg (st38 tg kg)
    have k40 : ∀ tg, Steps p.tables e below (T38.setTop (mkF m 19 #[.val (.ref a1)] [(.int (0 : Int32))])) tg → Steps p.tables e below (s₁.setTop (entryFrame m #[(.ref a1)] 1)) tg := fun tg kg => k39 tg (by
        show Steps p.tables e below (T38.setTop (mkF m 11 #[.val (.ref a1)] [(.ref c4), (.ref a1)])) _
        refine Jvm.RoadKit.acmp (g := (mkF m 11 #[.val (.ref a1)] [(.ref c4), (.ref a1)])) X38 hx rfl rfl rfl (pc0 := 11) (pc' := 18) (same := false) rfl (hb hby d2_11) rfl (decide_eq_false fun q => n04 (ha.symm.trans (Value.ref.inj q))) (by decide) (by decide) ?_
        show Steps p.tables e below (T38.setTop (mkF m 18 #[.val (.ref a1)] [])) _
        refine XS.iconst X38.here hx rfl (hb hby d2_18) ?_
        exact kg)
    obtain ⟨fs, hr, hrun, hended, hW, hsame⟩ := X38.leave (v := some (.int (0 : Int32))) (fun h => by rw [Bd.returns] at h; cases h)
    refine ⟨_, _, k40 _ ?_, hrun, hended, _, _, rfl, ?_, ⟨_, rfl⟩, hW, hsame.mono (by decide) (by decide)⟩
    · show Steps p.tables e below (T38.setTop (mkF m 19 #[.val (.ref a1)] [(.int (0 : Int32))])) _
      exact retN X38 hx (t := .boolean) Bd.returns (by simp) (hb hby d2_19) hr
    · show Q2 _ _ _ _ _ T38.heap _
      rw [e38]
      exact ⟨rfl, N0, rfl⟩
  · have ha : a1 = c1 := ha0
    have k41 : ∀ tg, Steps p.tables e below (s₁.setTop (mkF m 1 #[.val (.ref a1)] [(.ref a1)])) tg → Steps p.tables e below (s₁.setTop (entryFrame m #[(.ref a1)] 1)) tg := fun tg kg => pre0 tg (by
        show Steps p.tables e below (s₁.setTop (mkF m 0 #[.val (.ref a1)] [])) _
        refine XS.aloadN X0.here hx rfl (hb hby d2_0) rfl rfl ?_
        exact kg)
    obtain ⟨T42, X42, e42, st42⟩ := getS2 X0 hx hZ hown (host := "") (Or.inl (hw _ (List.mem_of_getElem? (i := 16) rfl))) Via.refl e0 (S2.ext XE) (g := (mkF m 1 #[.val (.ref a1)] [(.ref a1)])) rfl (hb hby d2_1)
    have k43 : ∀ tg, Steps p.tables e below (T42.setTop (mkF m 4 #[.val (.ref a1)] [(.ref c2), (.ref a1)])) tg → Steps p.tables e below (s₁.setTop (entryFrame m #[(.ref a1)] 1)) tg := fun tg kg => k41 tg (st42 tg kg)
    have k44 : ∀ tg, Steps p.tables e below (T42.setTop (mkF m 8 #[.val (.ref a1)] [(.ref a1)])) tg → Steps p.tables e below (s₁.setTop (entryFrame m #[(.ref a1)] 1)) tg := fun tg kg => k43 tg (by
        show Steps p.tables e below (T42.setTop (mkF m 4 #[.val (.ref a1)] [(.ref c2), (.ref a1)])) _
        refine Jvm.RoadKit.acmp (g := (mkF m 4 #[.val (.ref a1)] [(.ref c2), (.ref a1)])) X42 hx rfl rfl rfl (pc0 := 4) (pc' := 7) (same := false) rfl (hb hby d2_4) rfl (decide_eq_false fun q => n12 (ha.symm.trans (Value.ref.inj q))) (by decide) (by decide) ?_
        show Steps p.tables e below (T42.setTop (mkF m 7 #[.val (.ref a1)] [])) _
        refine XS.aloadN X42.here hx rfl (hb hby d2_7) rfl rfl ?_
        exact kg)
    obtain ⟨T45, X45, e45, st45⟩ := getS2 X42 hx hZ hown (host := "") (Or.inl (hw _ (List.mem_of_getElem? (i := 18) rfl))) Via.refl e42 (S4.ext XE) (g := (mkF m 8 #[.val (.ref a1)] [(.ref a1)])) rfl (hb hby d2_8)
    have k46 : ∀ tg, Steps p.tables e below (T45.setTop (mkF m 11 #[.val (.ref a1)] [(.ref c4), (.ref a1)])) tg → Steps p.tables e below (s₁.setTop (entryFrame m #[(.ref a1)] 1)) tg := fun tg kg => k44 tg (st45 tg kg)
    have k47 : ∀ tg, Steps p.tables e below (T45.setTop (mkF m 19 #[.val (.ref a1)] [(.int (0 : Int32))])) tg → Steps p.tables e below (s₁.setTop (entryFrame m #[(.ref a1)] 1)) tg := fun tg kg => k46 tg (by
        show Steps p.tables e below (T45.setTop (mkF m 11 #[.val (.ref a1)] [(.ref c4), (.ref a1)])) _
        refine Jvm.RoadKit.acmp (g := (mkF m 11 #[.val (.ref a1)] [(.ref c4), (.ref a1)])) X45 hx rfl rfl rfl (pc0 := 11) (pc' := 18) (same := false) rfl (hb hby d2_11) rfl (decide_eq_false fun q => n14 (ha.symm.trans (Value.ref.inj q))) (by decide) (by decide) ?_
        show Steps p.tables e below (T45.setTop (mkF m 18 #[.val (.ref a1)] [])) _
        refine XS.iconst X45.here hx rfl (hb hby d2_18) ?_
        exact kg)
    obtain ⟨fs, hr, hrun, hended, hW, hsame⟩ := X45.leave (v := some (.int (0 : Int32))) (fun h => by rw [Bd.returns] at h; cases h)
    refine ⟨_, _, k47 _ ?_, hrun, hended, _, _, rfl, ?_, ⟨_, rfl⟩, hW, hsame.mono (by decide) (by decide)⟩
    · show Steps p.tables e below (T45.setTop (mkF m 19 #[.val (.ref a1)] [(.int (0 : Int32))])) _
      exact retN X45 hx (t := .boolean) Bd.returns (by simp) (hb hby d2_19) hr
    · show Q2 _ _ _ _ _ T45.heap _
      rw [e45]
      exact ⟨rfl, N0, rfl⟩
  · have ha : a1 = c2 := ha0
    have k48 : ∀ tg, Steps p.tables e below (s₁.setTop (mkF m 1 #[.val (.ref a1)] [(.ref a1)])) tg → Steps p.tables e below (s₁.setTop (entryFrame m #[(.ref a1)] 1)) tg := fun tg kg => pre0 tg (by
        show Steps p.tables e below (s₁.setTop (mkF m 0 #[.val (.ref a1)] [])) _
        refine XS.aloadN X0.here hx rfl (hb hby d2_0) rfl rfl ?_
        exact kg)
    obtain ⟨T49, X49, e49, st49⟩ := getS2 X0 hx hZ hown (host := "") (Or.inl (hw _ (List.mem_of_getElem? (i := 16) rfl))) Via.refl e0 (S2.ext XE) (g := (mkF m 1 #[.val (.ref a1)] [(.ref a1)])) rfl (hb hby d2_1)
    have k50 : ∀ tg, Steps p.tables e below (T49.setTop (mkF m 4 #[.val (.ref a1)] [(.ref c2), (.ref a1)])) tg → Steps p.tables e below (s₁.setTop (entryFrame m #[(.ref a1)] 1)) tg := fun tg kg => k48 tg (st49 tg kg)
    have k51 : ∀ tg, Steps p.tables e below (T49.setTop (mkF m 19 #[.val (.ref a1)] [(.int (1 : Int32))])) tg → Steps p.tables e below (s₁.setTop (entryFrame m #[(.ref a1)] 1)) tg := fun tg kg => k50 tg (by
        show Steps p.tables e below (T49.setTop (mkF m 4 #[.val (.ref a1)] [(.ref c2), (.ref a1)])) _
        refine Jvm.RoadKit.acmp (g := (mkF m 4 #[.val (.ref a1)] [(.ref c2), (.ref a1)])) X49 hx rfl rfl rfl (pc0 := 4) (pc' := 14) (same := true) rfl (hb hby d2_4) rfl (decide_eq_true (congrArg Value.ref ha)) (by decide) (by decide) ?_
        show Steps p.tables e below (T49.setTop (mkF m 14 #[.val (.ref a1)] [])) _
        refine XS.iconst X49.here hx rfl (hb hby d2_14) ?_
        show Steps p.tables e below (T49.setTop (mkF m 15 #[.val (.ref a1)] [(.int (1 : Int32))])) _
        refine XS.goto X49.here hx rfl (pc0 := 15) (pc' := 19) rfl (hb hby d2_15) (by decide) (by decide) ?_
        exact kg)
    obtain ⟨fs, hr, hrun, hended, hW, hsame⟩ := X49.leave (v := some (.int (1 : Int32))) (fun h => by rw [Bd.returns] at h; cases h)
    refine ⟨_, _, k51 _ ?_, hrun, hended, _, _, rfl, ?_, ⟨_, rfl⟩, hW, hsame.mono (by decide) (by decide)⟩
    · show Steps p.tables e below (T49.setTop (mkF m 19 #[.val (.ref a1)] [(.int (1 : Int32))])) _
      exact retN X49 hx (t := .boolean) Bd.returns (by simp) (hb hby d2_19) hr
    · show Q2 _ _ _ _ _ T49.heap _
      rw [e49]
      exact ⟨rfl, N0, rfl⟩
  · have ha : a1 = c3 := ha0
    have k52 : ∀ tg, Steps p.tables e below (s₁.setTop (mkF m 1 #[.val (.ref a1)] [(.ref a1)])) tg → Steps p.tables e below (s₁.setTop (entryFrame m #[(.ref a1)] 1)) tg := fun tg kg => pre0 tg (by
        show Steps p.tables e below (s₁.setTop (mkF m 0 #[.val (.ref a1)] [])) _
        refine XS.aloadN X0.here hx rfl (hb hby d2_0) rfl rfl ?_
        exact kg)
    obtain ⟨T53, X53, e53, st53⟩ := getS2 X0 hx hZ hown (host := "") (Or.inl (hw _ (List.mem_of_getElem? (i := 16) rfl))) Via.refl e0 (S2.ext XE) (g := (mkF m 1 #[.val (.ref a1)] [(.ref a1)])) rfl (hb hby d2_1)
    have k54 : ∀ tg, Steps p.tables e below (T53.setTop (mkF m 4 #[.val (.ref a1)] [(.ref c2), (.ref a1)])) tg → Steps p.tables e below (s₁.setTop (entryFrame m #[(.ref a1)] 1)) tg := fun tg kg => k52 tg (st53 tg kg)
    have k55 : ∀ tg, Steps p.tables e below (T53.setTop (mkF m 8 #[.val (.ref a1)] [(.ref a1)])) tg → Steps p.tables e below (s₁.setTop (entryFrame m #[(.ref a1)] 1)) tg := fun tg kg => k54 tg (by
        show Steps p.tables e below (T53.setTop (mkF m 4 #[.val (.ref a1)] [(.ref c2), (.ref a1)])) _
        refine Jvm.RoadKit.acmp (g := (mkF m 4 #[.val (.ref a1)] [(.ref c2), (.ref a1)])) X53 hx rfl rfl rfl (pc0 := 4) (pc' := 7) (same := false) rfl (hb hby d2_4) rfl (decide_eq_false fun q => n23.symm (ha.symm.trans (Value.ref.inj q))) (by decide) (by decide) ?_
        show Steps p.tables e below (T53.setTop (mkF m 7 #[.val (.ref a1)] [])) _
        refine XS.aloadN X53.here hx rfl (hb hby d2_7) rfl rfl ?_
        exact kg)
    obtain ⟨T56, X56, e56, st56⟩ := getS2 X53 hx hZ hown (host := "") (Or.inl (hw _ (List.mem_of_getElem? (i := 18) rfl))) Via.refl e53 (S4.ext XE) (g := (mkF m 8 #[.val (.ref a1)] [(.ref a1)])) rfl (hb hby d2_8)
    have k57 : ∀ tg, Steps p.tables e below (T56.setTop (mkF m 11 #[.val (.ref a1)] [(.ref c4), (.ref a1)])) tg → Steps p.tables e below (s₁.setTop (entryFrame m #[(.ref a1)] 1)) tg := fun tg kg => k55 tg (st56 tg kg)
    have k58 : ∀ tg, Steps p.tables e below (T56.setTop (mkF m 19 #[.val (.ref a1)] [(.int (0 : Int32))])) tg → Steps p.tables e below (s₁.setTop (entryFrame m #[(.ref a1)] 1)) tg := fun tg kg => k57 tg (by
        show Steps p.tables e below (T56.setTop (mkF m 11 #[.val (.ref a1)] [(.ref c4), (.ref a1)])) _
        refine Jvm.RoadKit.acmp (g := (mkF m 11 #[.val (.ref a1)] [(.ref c4), (.ref a1)])) X56 hx rfl rfl rfl (pc0 := 11) (pc' := 18) (same := false) rfl (hb hby d2_11) rfl (decide_eq_false fun q => n34 (ha.symm.trans (Value.ref.inj q))) (by decide) (by decide) ?_
        show Steps p.tables e below (T56.setTop (mkF m 18 #[.val (.ref a1)] [])) _
        refine XS.iconst X56.here hx rfl (hb hby d2_18) ?_
        exact kg)
    obtain ⟨fs, hr, hrun, hended, hW, hsame⟩ := X56.leave (v := some (.int (0 : Int32))) (fun h => by rw [Bd.returns] at h; cases h)
    refine ⟨_, _, k58 _ ?_, hrun, hended, _, _, rfl, ?_, ⟨_, rfl⟩, hW, hsame.mono (by decide) (by decide)⟩
    · show Steps p.tables e below (T56.setTop (mkF m 19 #[.val (.ref a1)] [(.int (0 : Int32))])) _
      exact retN X56 hx (t := .boolean) Bd.returns (by simp) (hb hby d2_19) hr
    · show Q2 _ _ _ _ _ T56.heap _
      rw [e56]
      exact ⟨rfl, N0, rfl⟩
  · have ha : a1 = c4 := ha0
    have k59 : ∀ tg, Steps p.tables e below (s₁.setTop (mkF m 1 #[.val (.ref a1)] [(.ref a1)])) tg → Steps p.tables e below (s₁.setTop (entryFrame m #[(.ref a1)] 1)) tg := fun tg kg => pre0 tg (by
        show Steps p.tables e below (s₁.setTop (mkF m 0 #[.val (.ref a1)] [])) _
        refine XS.aloadN X0.here hx rfl (hb hby d2_0) rfl rfl ?_
        exact kg)
    obtain ⟨T60, X60, e60, st60⟩ := getS2 X0 hx hZ hown (host := "") (Or.inl (hw _ (List.mem_of_getElem? (i := 16) rfl))) Via.refl e0 (S2.ext XE) (g := (mkF m 1 #[.val (.ref a1)] [(.ref a1)])) rfl (hb hby d2_1)
    have k61 : ∀ tg, Steps p.tables e below (T60.setTop (mkF m 4 #[.val (.ref a1)] [(.ref c2), (.ref a1)])) tg → Steps p.tables e below (s₁.setTop (entryFrame m #[(.ref a1)] 1)) tg := fun tg kg => k59 tg (st60 tg kg)
    have k62 : ∀ tg, Steps p.tables e below (T60.setTop (mkF m 8 #[.val (.ref a1)] [(.ref a1)])) tg → Steps p.tables e below (s₁.setTop (entryFrame m #[(.ref a1)] 1)) tg := fun tg kg => k61 tg (by
        show Steps p.tables e below (T60.setTop (mkF m 4 #[.val (.ref a1)] [(.ref c2), (.ref a1)])) _
        refine Jvm.RoadKit.acmp (g := (mkF m 4 #[.val (.ref a1)] [(.ref c2), (.ref a1)])) X60 hx rfl rfl rfl (pc0 := 4) (pc' := 7) (same := false) rfl (hb hby d2_4) rfl (decide_eq_false fun q => n24.symm (ha.symm.trans (Value.ref.inj q))) (by decide) (by decide) ?_
        show Steps p.tables e below (T60.setTop (mkF m 7 #[.val (.ref a1)] [])) _
        refine XS.aloadN X60.here hx rfl (hb hby d2_7) rfl rfl ?_
        exact kg)
    obtain ⟨T63, X63, e63, st63⟩ := getS2 X60 hx hZ hown (host := "") (Or.inl (hw _ (List.mem_of_getElem? (i := 18) rfl))) Via.refl e60 (S4.ext XE) (g := (mkF m 8 #[.val (.ref a1)] [(.ref a1)])) rfl (hb hby d2_8)
    have k64 : ∀ tg, Steps p.tables e below (T63.setTop (mkF m 11 #[.val (.ref a1)] [(.ref c4), (.ref a1)])) tg → Steps p.tables e below (s₁.setTop (entryFrame m #[(.ref a1)] 1)) tg := fun tg kg => k62 tg (st63 tg kg)
    have k65 : ∀ tg, Steps p.tables e below (T63.setTop (mkF m 19 #[.val (.ref a1)] [(.int (1 : Int32))])) tg → Steps p.tables e below (s₁.setTop (entryFrame m #[(.ref a1)] 1)) tg := fun tg kg => k64 tg (by
        show Steps p.tables e below (T63.setTop (mkF m 11 #[.val (.ref a1)] [(.ref c4), (.ref a1)])) _
        refine Jvm.RoadKit.acmp (g := (mkF m 11 #[.val (.ref a1)] [(.ref c4), (.ref a1)])) X63 hx rfl rfl rfl (pc0 := 11) (pc' := 14) (same := true) rfl (hb hby d2_11) rfl (decide_eq_true (congrArg Value.ref ha)) (by decide) (by decide) ?_
        show Steps p.tables e below (T63.setTop (mkF m 14 #[.val (.ref a1)] [])) _
        refine XS.iconst X63.here hx rfl (hb hby d2_14) ?_
        show Steps p.tables e below (T63.setTop (mkF m 15 #[.val (.ref a1)] [(.int (1 : Int32))])) _
        refine XS.goto X63.here hx rfl (pc0 := 15) (pc' := 19) rfl (hb hby d2_15) (by decide) (by decide) ?_
        exact kg)
    obtain ⟨fs, hr, hrun, hended, hW, hsame⟩ := X63.leave (v := some (.int (1 : Int32))) (fun h => by rw [Bd.returns] at h; cases h)
    refine ⟨_, _, k65 _ ?_, hrun, hended, _, _, rfl, ?_, ⟨_, rfl⟩, hW, hsame.mono (by decide) (by decide)⟩
    · show Steps p.tables e below (T63.setTop (mkF m 19 #[.val (.ref a1)] [(.int (1 : Int32))])) _
      exact retN X63 hx (t := .boolean) Bd.returns (by simp) (hb hby d2_19) hr
    · show Q2 _ _ _ _ _ T63.heap _
      rw [e63]
      exact ⟨rfl, N0, rfl⟩
theorem d10_0 : decode jdk_41_method_11_code 0 = .ok (.iload_n 0, 1) := by decide +kernel
theorem d10_1 : decode jdk_41_method_11_code 1 = .ok (.ifCond .lt 8, 3) := by decide +kernel
theorem d10_4 : decode jdk_41_method_11_code 4 = .ok (.iload_n 0, 1) := by decide +kernel
theorem d10_5 : decode jdk_41_method_11_code 5 = .ok (.iload_n 1, 1) := by decide +kernel
theorem d10_6 : decode jdk_41_method_11_code 6 = .ok (.if_icmp .lt 10, 3) := by decide +kernel
theorem d10_9 : decode jdk_41_method_11_code 9 = .ok (.aload_n 2, 1) := by decide +kernel
theorem d10_10 : decode jdk_41_method_11_code 10 = .ok (.iload_n 0, 1) := by decide +kernel
theorem d10_11 : decode jdk_41_method_11_code 11 = .ok (.iload_n 1, 1) := by decide +kernel
theorem d10_12 : decode jdk_41_method_11_code 12 = .ok (.invokestatic 95, 3) := by decide +kernel
theorem d10_15 : decode jdk_41_method_11_code 15 = .ok (.athrow, 1) := by decide +kernel
theorem d10_16 : decode jdk_41_method_11_code 16 = .ok (.iload_n 0, 1) := by decide +kernel
theorem d10_17 : decode jdk_41_method_11_code 17 = .ok (.ireturn, 1) := by decide +kernel
theorem pn_10 : plainName "jdk/internal/util/Preconditions" = true := by first | (simp [plainName, overriddenIn]; done) | decide +kernel
theorem ef_10 (m : MethodId) (x0 : Int32) (x1 : Int32) (x2 : Addr) : entryFrame m #[(.int x0), (.int x1), (.ref x2)] 3 = mkF m 0 #[.val (.int x0), .val (.int x1), .val (.ref x2)] [] := by first | (simp [entryFrame, mkF, argsToLocals, Value.category]; done) | rfl
def QP (Z : State) (p1 : Int32) (h0 : Heap) (n0 : Nat) (v : Option Value) (h : Heap) (L : List Loc) : Prop := v = some (.int p1) ∧ Fr n0 L ∧ h = h0
set_option maxRecDepth 65536 in
set_option maxHeartbeats 40000000 in
theorem rmPr (l : Launch) (Z : State) (a0 : Array Value) (hw : ∀ d ∈ tables_1, d.before a0 Z = true) (ws : List Jvm.Cond) (p1 : Int32) (p2 : Int32) (a3 : Addr)  (h0 : Heap) (n0 : Nat) (Z0 : n0 ≤ h0.size) (h1 : ¬ p1 < (0 : Int32)) (h2 : p1 < p2) :
    MetFree l (⟨"jdk/internal/util/Preconditions", "checkIndex", "(IILjava/util/function/BiFunction;)I"⟩ : MethodName) (head1 (Jvm.Cond.code (⟨"jdk/internal/util/Preconditions", "checkIndex", "(IILjava/util/function/BiFunction;)I"⟩ : MethodName) jdk_41_method_11_code 3 (some .int) :: ws) ({ frames := 0, cells := 0, slots := 0, locals := 0 } : Room)) (fun a U => a = #[(.int p1), (.int p2), (.ref a3)] ∧ Z.Warmed39 U.vm ∧ U.heap = h0) (fun _ _ _ _ _ => True) (fun _ U o U' => ∃ v L, o = .returned v ∧ QP Z p1 h0 n0 v U'.heap L ∧ FrameEnd U o U' L ({ frames := 0, cells := 0, slots := 0, locals := 0 } : Room).cells ({ frames := 0, cells := 0, slots := 0, locals := 0 } : Room).slots) := by
  refine MetFree.of_bodySF (plainFor_of_name pn_10) hisR ?_
  intro p e s m args below meth c s₁ Bd hml0 hP hK
  obtain ⟨rfl, hZ, hh⟩ := hP
  have hx := Bd.exec
  have hby := Bd.bytes
  have hml : c.maxLocals = 3 := hml0
  have hown : s.vm.findClass "jdk/internal/util/Preconditions" = some m.cls := findClass_of_methodNamed Bd.named
  have hnm := (name_of_methodNamed Bd.named Bd.method).1
  have X0 : Stand p l e ({ frames := 0, cells := 0, slots := 0, locals := 0 } : Room) s m #[(.int p1), (.int p2), (.ref a3)] below meth c s₁ [] 0 0 := Stand.of_body Bd
  have e0 : s₁.heap = h0 := by rw [← hh, Bd.state]; rfl
  have N0 := Fr.nil n0
  have pre0 : ∀ tg, Steps p.tables e below (s₁.setTop (mkF m 0 #[.val (.int p1), .val (.int p2), .val (.ref a3)] [])) tg → Steps p.tables e below (s₁.setTop (entryFrame m #[(.int p1), (.int p2), (.ref a3)] 3)) tg := fun tg kg => castTop (ef_10 m p1 p2 a3) kg
  have k66 : ∀ tg, Steps p.tables e below (s₁.setTop (mkF m 17 #[.val (.int p1), .val (.int p2), .val (.ref a3)] [(.int p1)])) tg → Steps p.tables e below (s₁.setTop (entryFrame m #[(.int p1), (.int p2), (.ref a3)] 3)) tg := fun tg kg => pre0 tg (by
      show Steps p.tables e below (s₁.setTop (mkF m 0 #[.val (.int p1), .val (.int p2), .val (.ref a3)] [])) _
      refine XS.iloadN X0.here hx rfl (hb hby d10_0) rfl ?_
      show Steps p.tables e below (s₁.setTop (mkF m 1 #[.val (.int p1), .val (.int p2), .val (.ref a3)] [(.int p1)])) _
      refine XS.ifNo X0.here hx rfl (hb hby d10_1) rfl ((if0 _ _).trans (flt h1).1) ?_
      show Steps p.tables e below (s₁.setTop (mkF m 4 #[.val (.int p1), .val (.int p2), .val (.ref a3)] [])) _
      refine XS.iloadN X0.here hx rfl (hb hby d10_4) rfl ?_
      show Steps p.tables e below (s₁.setTop (mkF m 5 #[.val (.int p1), .val (.int p2), .val (.ref a3)] [(.int p1)])) _
      refine XS.iloadN X0.here hx rfl (hb hby d10_5) rfl ?_
      show Steps p.tables e below (s₁.setTop (mkF m 6 #[.val (.int p1), .val (.int p2), .val (.ref a3)] [(.int p2), (.int p1)])) _
      refine XS.icmpYes X0.here hx rfl (pc0 := 6) (pc' := 16) rfl (hb hby d10_6) rfl (tlt h2).1 (by decide) (by decide) ?_
      show Steps p.tables e below (s₁.setTop (mkF m 16 #[.val (.int p1), .val (.int p2), .val (.ref a3)] [])) _
      refine XS.iloadN X0.here hx rfl (hb hby d10_16) rfl ?_
      exact kg)
  obtain ⟨fs, hr, hrun, hended, hW, hsame⟩ := X0.leave (v := some (.int p1)) (fun h => by rw [Bd.returns] at h; cases h)
  refine ⟨_, _, k66 _ ?_, hrun, hended, _, _, rfl, ?_, ⟨_, rfl⟩, hW, hsame.mono (by decide) (by decide)⟩
  · show Steps p.tables e below (s₁.setTop (mkF m 17 #[.val (.int p1), .val (.int p2), .val (.ref a3)] [(.int p1)])) _
    exact retI X0 hx Bd.returns (hb hby d10_17) hr
  · show QP _ _ _ _ _ s₁.heap _
    rw [e0]
    exact ⟨rfl, N0, rfl⟩
theorem ef_10_67 (m : MethodId) (x0 : Int32) (x1 : Int32) : entryFrame m #[(.int x0), (.int x1), .null] 3 = mkF m 0 #[.val (.int x0), .val (.int x1), .val .null] [] := by first | (simp [entryFrame, mkF, argsToLocals, Value.category]; done) | rfl
set_option maxRecDepth 65536 in
set_option maxHeartbeats 40000000 in
theorem rmPn (l : Launch) (Z : State) (a0 : Array Value) (hw : ∀ d ∈ tables_1, d.before a0 Z = true) (ws : List Jvm.Cond) (p1 : Int32) (p2 : Int32)  (h0 : Heap) (n0 : Nat) (Z0 : n0 ≤ h0.size) (h1 : ¬ p1 < (0 : Int32)) (h2 : p1 < p2) :
    MetFree l (⟨"jdk/internal/util/Preconditions", "checkIndex", "(IILjava/util/function/BiFunction;)I"⟩ : MethodName) (head1 (Jvm.Cond.code (⟨"jdk/internal/util/Preconditions", "checkIndex", "(IILjava/util/function/BiFunction;)I"⟩ : MethodName) jdk_41_method_11_code 3 (some .int) :: ws) ({ frames := 0, cells := 0, slots := 0, locals := 0 } : Room)) (fun a U => a = #[(.int p1), (.int p2), .null] ∧ Z.Warmed39 U.vm ∧ U.heap = h0) (fun _ _ _ _ _ => True) (fun _ U o U' => ∃ v L, o = .returned v ∧ QP Z p1 h0 n0 v U'.heap L ∧ FrameEnd U o U' L ({ frames := 0, cells := 0, slots := 0, locals := 0 } : Room).cells ({ frames := 0, cells := 0, slots := 0, locals := 0 } : Room).slots) := by
  refine MetFree.of_bodySF (plainFor_of_name pn_10) hisR ?_
  intro p e s m args below meth c s₁ Bd hml0 hP hK
  obtain ⟨rfl, hZ, hh⟩ := hP
  have hx := Bd.exec
  have hby := Bd.bytes
  have hml : c.maxLocals = 3 := hml0
  have hown : s.vm.findClass "jdk/internal/util/Preconditions" = some m.cls := findClass_of_methodNamed Bd.named
  have hnm := (name_of_methodNamed Bd.named Bd.method).1
  have X0 : Stand p l e ({ frames := 0, cells := 0, slots := 0, locals := 0 } : Room) s m #[(.int p1), (.int p2), .null] below meth c s₁ [] 0 0 := Stand.of_body Bd
  have e0 : s₁.heap = h0 := by rw [← hh, Bd.state]; rfl
  have N0 := Fr.nil n0
  have pre0 : ∀ tg, Steps p.tables e below (s₁.setTop (mkF m 0 #[.val (.int p1), .val (.int p2), .val .null] [])) tg → Steps p.tables e below (s₁.setTop (entryFrame m #[(.int p1), (.int p2), .null] 3)) tg := fun tg kg => castTop (ef_10_67 m p1 p2) kg
  have k68 : ∀ tg, Steps p.tables e below (s₁.setTop (mkF m 17 #[.val (.int p1), .val (.int p2), .val .null] [(.int p1)])) tg → Steps p.tables e below (s₁.setTop (entryFrame m #[(.int p1), (.int p2), .null] 3)) tg := fun tg kg => pre0 tg (by
      show Steps p.tables e below (s₁.setTop (mkF m 0 #[.val (.int p1), .val (.int p2), .val .null] [])) _
      refine XS.iloadN X0.here hx rfl (hb hby d10_0) rfl ?_
      show Steps p.tables e below (s₁.setTop (mkF m 1 #[.val (.int p1), .val (.int p2), .val .null] [(.int p1)])) _
      refine XS.ifNo X0.here hx rfl (hb hby d10_1) rfl ((if0 _ _).trans (flt h1).1) ?_
      show Steps p.tables e below (s₁.setTop (mkF m 4 #[.val (.int p1), .val (.int p2), .val .null] [])) _
      refine XS.iloadN X0.here hx rfl (hb hby d10_4) rfl ?_
      show Steps p.tables e below (s₁.setTop (mkF m 5 #[.val (.int p1), .val (.int p2), .val .null] [(.int p1)])) _
      refine XS.iloadN X0.here hx rfl (hb hby d10_5) rfl ?_
      show Steps p.tables e below (s₁.setTop (mkF m 6 #[.val (.int p1), .val (.int p2), .val .null] [(.int p2), (.int p1)])) _
      refine XS.icmpYes X0.here hx rfl (pc0 := 6) (pc' := 16) rfl (hb hby d10_6) rfl (tlt h2).1 (by decide) (by decide) ?_
      show Steps p.tables e below (s₁.setTop (mkF m 16 #[.val (.int p1), .val (.int p2), .val .null] [])) _
      refine XS.iloadN X0.here hx rfl (hb hby d10_16) rfl ?_
      exact kg)
  obtain ⟨fs, hr, hrun, hended, hW, hsame⟩ := X0.leave (v := some (.int p1)) (fun h => by rw [Bd.returns] at h; cases h)
  refine ⟨_, _, k68 _ ?_, hrun, hended, _, _, rfl, ?_, ⟨_, rfl⟩, hW, hsame.mono (by decide) (by decide)⟩
  · show Steps p.tables e below (s₁.setTop (mkF m 17 #[.val (.int p1), .val (.int p2), .val .null] [(.int p1)])) _
    exact retI X0 hx Bd.returns (hb hby d10_17) hr
  · show QP _ _ _ _ _ s₁.heap _
    rw [e0]
    exact ⟨rfl, N0, rfl⟩
theorem d9_0 : decode jdk_42_method_155_code 0 = .ok (.iload_n 0, 1) := by decide +kernel
theorem d9_1 : decode jdk_42_method_155_code 1 = .ok (.iload_n 1, 1) := by decide +kernel
theorem d9_2 : decode jdk_42_method_155_code 2 = .ok (.getstatic 1053, 3) := by decide +kernel
theorem d9_5 : decode jdk_42_method_155_code 5 = .ok (.invokestatic 1059, 3) := by decide +kernel
theorem d9_8 : decode jdk_42_method_155_code 8 = .ok (.pop, 1) := by decide +kernel
theorem d9_9 : decode jdk_42_method_155_code 9 = .ok (.return_, 1) := by decide +kernel
theorem pn_9 : plainName "java/lang/String" = true := by first | (simp [plainName, overriddenIn]; done) | decide +kernel
theorem ef_9 (m : MethodId) (x0 : Int32) (x1 : Int32) : entryFrame m #[(.int x0), (.int x1)] 2 = mkF m 0 #[.val (.int x0), .val (.int x1)] [] := by first | (simp [entryFrame, mkF, argsToLocals, Value.category]; done) | rfl
def Q9 (Z : State)  (h0 : Heap) (n0 : Nat) (v : Option Value) (h : Heap) (L : List Loc) : Prop := v = none ∧ Fr n0 L ∧ h = h0
set_option maxRecDepth 65536 in
set_option maxHeartbeats 40000000 in
theorem rm9 (l : Launch) (Z : State) (a0 : Array Value) (hw : ∀ d ∈ tables_1, d.before a0 Z = true) (ws : List Jvm.Cond) (p1 : Int32) (p2 : Int32) (G3 : Value) (h0 : Heap) (n0 : Nat) (Z0 : n0 ≤ h0.size) (h1 : ¬ p1 < (0 : Int32)) (h2 : p1 < p2) (O4 : Sta Z h0 "jdk/internal/util/Preconditions" "SIOOBE_FORMATTER" "Ljava/util/function/BiFunction;" G3) (r3 : G3.isRef = true) :
    MetFree l (⟨"java/lang/String", "checkIndex", "(II)V"⟩ : MethodName) (head1 (Jvm.Cond.code (⟨"java/lang/String", "checkIndex", "(II)V"⟩ : MethodName) jdk_42_method_155_code 2 none :: ws) ({ frames := 1, cells := 0, slots := 0, locals := 14 } : Room)) (fun a U => a = #[(.int p1), (.int p2)] ∧ Z.Warmed39 U.vm ∧ U.heap = h0) (fun _ _ _ _ _ => True) (fun _ U o U' => ∃ v L, o = .returned v ∧ Q9 Z  h0 n0 v U'.heap L ∧ FrameEnd U o U' L ({ frames := 1, cells := 0, slots := 0, locals := 14 } : Room).cells ({ frames := 1, cells := 0, slots := 0, locals := 14 } : Room).slots) := by
  refine MetFree.of_bodySF (plainFor_of_name pn_9) hisR ?_
  intro p e s m args below meth c s₁ Bd hml0 hP hK
  obtain ⟨rfl, hZ, hh⟩ := hP
  have hx := Bd.exec
  have hby := Bd.bytes
  have hml : c.maxLocals = 2 := hml0
  have hown : s.vm.findClass "java/lang/String" = some m.cls := findClass_of_methodNamed Bd.named
  have hnm := (name_of_methodNamed Bd.named Bd.method).1
  have X0 : Stand p l e ({ frames := 1, cells := 0, slots := 0, locals := 14 } : Room) s m #[(.int p1), (.int p2)] below meth c s₁ [] 0 0 := Stand.of_body Bd
  have e0 : s₁.heap = h0 := by rw [← hh, Bd.state]; rfl
  have N0 := Fr.nil n0
  have pre0 : ∀ tg, Steps p.tables e below (s₁.setTop (mkF m 0 #[.val (.int p1), .val (.int p2)] [])) tg → Steps p.tables e below (s₁.setTop (entryFrame m #[(.int p1), (.int p2)] 2)) tg := fun tg kg => castTop (ef_9 m p1 p2) kg
  have k69 : ∀ tg, Steps p.tables e below (s₁.setTop (mkF m 2 #[.val (.int p1), .val (.int p2)] [(.int p2), (.int p1)])) tg → Steps p.tables e below (s₁.setTop (entryFrame m #[(.int p1), (.int p2)] 2)) tg := fun tg kg => pre0 tg (by
      show Steps p.tables e below (s₁.setTop (mkF m 0 #[.val (.int p1), .val (.int p2)] [])) _
      refine XS.iloadN X0.here hx rfl (hb hby d9_0) rfl ?_
      show Steps p.tables e below (s₁.setTop (mkF m 1 #[.val (.int p1), .val (.int p2)] [(.int p1)])) _
      refine XS.iloadN X0.here hx rfl (hb hby d9_1) rfl ?_
      exact kg)
  rcases ref_cases r3 with rfl | ⟨gf, rfl⟩
  · obtain ⟨T70, X70, e70, st70⟩ := getS2 X0 hx hZ hown (host := "") (Or.inl (hw _ (List.mem_of_getElem? (i := 67) rfl))) Via.refl e0 O4 (g := (mkF m 2 #[.val (.int p1), .val (.int p2)] [(.int p2), (.int p1)])) rfl (hb hby d9_2)
    have k71 : ∀ tg, Steps p.tables e below (T70.setTop (mkF m 5 #[.val (.int p1), .val (.int p2)] [.null, (.int p2), (.int p1)])) tg → Steps p.tables e below (s₁.setTop (entryFrame m #[(.int p1), (.int p2)] 2)) tg := fun tg kg => k69 tg (st70 tg kg)
    obtain ⟨_, _, ⟨T72, L72, c72, n72⟩, -, X72, ⟨Lc72, hQ72, l72, y72, z72⟩, st72⟩ := Jvm.LawKit.callS X70 hx (y := (⟨"jdk/internal/util/Preconditions", "checkIndex", "(IILjava/util/function/BiFunction;)I"⟩ : MethodName)) hown (mvT hZ (hw _ (List.mem_of_getElem? (i := 69) rfl))) (mvT hZ (hw _ (List.mem_of_getElem? (i := 70) rfl))) (mvT hZ (hw _ (List.mem_of_getElem? (i := 68) rfl))) (mvT hZ (hw _ (List.mem_of_getElem? (i := 71) rfl))) (by decide) (backOf (W := 0) (rmPn l Z a0 hw [] p1 p2 h0 n0 Z0 h1 h2) hZ (hw _ (List.mem_of_getElem? (i := 71) rfl)) (hw _ (List.mem_of_getElem? (i := 68) rfl)) (by decide) (by decide)) (g := (mkF m 5 #[.val (.int p1), .val (.int p2)] [.null, (.int p2), (.int p1)])) rfl (by rw [hml]; rfl) (argsL := [(.int p1), (.int p2), .null]) (rest := []) (lenOf own_pd6 rfl) rfl (by show 2 * 0 + _ ≤ _; exact Nat.le_of_eq rfl) (hb hby d9_5) (fun _ _ => ⟨rfl, e70, (by decide : 0 + 0 ≤ _), (by decide : 0 + 0 ≤ _)⟩)
    dsimp only [Pt.U, Pt.locs, Pt.cells, Pt.slots] at X72 l72 y72 z72 st72 hQ72
    obtain rfl : c72 = 0 := y72
    obtain rfl : n72 = 0 := z72
    obtain ⟨rfl, N72q, e72⟩ := hQ72
    have N72 := own_frE l72 (Fr.app N0 N72q)
    have k73 : ∀ tg, Steps p.tables e below (T72.setTop (mkF m 8 #[.val (.int p1), .val (.int p2)] [(.int p1)])) tg → Steps p.tables e below (s₁.setTop (entryFrame m #[(.int p1), (.int p2)] 2)) tg := fun tg kg => k71 tg (st72 tg kg)
    have k74 : ∀ tg, Steps p.tables e below (T72.setTop (mkF m 9 #[.val (.int p1), .val (.int p2)] [])) tg → Steps p.tables e below (s₁.setTop (entryFrame m #[(.int p1), (.int p2)] 2)) tg := fun tg kg => k73 tg (by
        show Steps p.tables e below (T72.setTop (mkF m 8 #[.val (.int p1), .val (.int p2)] [(.int p1)])) _
        refine XS.pop X72.here hx rfl (hb hby d9_8) rfl rfl ?_
        exact kg)
    obtain ⟨fs, hr, hrun, hended, hW, hsame⟩ := X72.leave (v := none) (fun _ => rfl)
    refine ⟨_, _, k74 _ ?_, hrun, hended, _, _, rfl, ?_, ⟨_, rfl⟩, hW, hsame.mono (by decide) (by decide)⟩
    · show Steps p.tables e below (T72.setTop (mkF m 9 #[.val (.int p1), .val (.int p2)] [])) _
      exact X72.returnOut hx Bd.returns (hb hby d9_9) hr
    · show Q9 _ _ _ _ T72.heap _
      rw [e72]
      exact ⟨rfl, N72, rfl⟩
  · obtain ⟨T75, X75, e75, st75⟩ := getS2 X0 hx hZ hown (host := "") (Or.inl (hw _ (List.mem_of_getElem? (i := 67) rfl))) Via.refl e0 O4 (g := (mkF m 2 #[.val (.int p1), .val (.int p2)] [(.int p2), (.int p1)])) rfl (hb hby d9_2)
    have k76 : ∀ tg, Steps p.tables e below (T75.setTop (mkF m 5 #[.val (.int p1), .val (.int p2)] [(.ref gf), (.int p2), (.int p1)])) tg → Steps p.tables e below (s₁.setTop (entryFrame m #[(.int p1), (.int p2)] 2)) tg := fun tg kg => k69 tg (st75 tg kg)
    obtain ⟨_, _, ⟨T77, L77, c77, n77⟩, -, X77, ⟨Lc77, hQ77, l77, y77, z77⟩, st77⟩ := Jvm.LawKit.callS X75 hx (y := (⟨"jdk/internal/util/Preconditions", "checkIndex", "(IILjava/util/function/BiFunction;)I"⟩ : MethodName)) hown (mvT hZ (hw _ (List.mem_of_getElem? (i := 69) rfl))) (mvT hZ (hw _ (List.mem_of_getElem? (i := 70) rfl))) (mvT hZ (hw _ (List.mem_of_getElem? (i := 68) rfl))) (mvT hZ (hw _ (List.mem_of_getElem? (i := 71) rfl))) (by decide) (backOf (W := 0) (rmPr l Z a0 hw [] p1 p2 gf h0 n0 Z0 h1 h2) hZ (hw _ (List.mem_of_getElem? (i := 71) rfl)) (hw _ (List.mem_of_getElem? (i := 68) rfl)) (by decide) (by decide)) (g := (mkF m 5 #[.val (.int p1), .val (.int p2)] [(.ref gf), (.int p2), (.int p1)])) rfl (by rw [hml]; rfl) (argsL := [(.int p1), (.int p2), (.ref gf)]) (rest := []) (lenOf own_pd6 rfl) rfl (by show 2 * 0 + _ ≤ _; exact Nat.le_of_eq rfl) (hb hby d9_5) (fun _ _ => ⟨rfl, e75, (by decide : 0 + 0 ≤ _), (by decide : 0 + 0 ≤ _)⟩)
    dsimp only [Pt.U, Pt.locs, Pt.cells, Pt.slots] at X77 l77 y77 z77 st77 hQ77
    obtain rfl : c77 = 0 := y77
    obtain rfl : n77 = 0 := z77
    obtain ⟨rfl, N77q, e77⟩ := hQ77
    have N77 := own_frE l77 (Fr.app N0 N77q)
    have k78 : ∀ tg, Steps p.tables e below (T77.setTop (mkF m 8 #[.val (.int p1), .val (.int p2)] [(.int p1)])) tg → Steps p.tables e below (s₁.setTop (entryFrame m #[(.int p1), (.int p2)] 2)) tg := fun tg kg => k76 tg (st77 tg kg)
    have k79 : ∀ tg, Steps p.tables e below (T77.setTop (mkF m 9 #[.val (.int p1), .val (.int p2)] [])) tg → Steps p.tables e below (s₁.setTop (entryFrame m #[(.int p1), (.int p2)] 2)) tg := fun tg kg => k78 tg (by
        show Steps p.tables e below (T77.setTop (mkF m 8 #[.val (.int p1), .val (.int p2)] [(.int p1)])) _
        refine XS.pop X77.here hx rfl (hb hby d9_8) rfl rfl ?_
        exact kg)
    obtain ⟨fs, hr, hrun, hended, hW, hsame⟩ := X77.leave (v := none) (fun _ => rfl)
    refine ⟨_, _, k79 _ ?_, hrun, hended, _, _, rfl, ?_, ⟨_, rfl⟩, hW, hsame.mono (by decide) (by decide)⟩
    · show Steps p.tables e below (T77.setTop (mkF m 9 #[.val (.int p1), .val (.int p2)] [])) _
      exact X77.returnOut hx Bd.returns (hb hby d9_9) hr
    · show Q9 _ _ _ _ T77.heap _
      rw [e77]
      exact ⟨rfl, N77, rfl⟩
theorem d8_0 : decode jdk_43_method_2_code 0 = .ok (.iload_n 1, 1) := by decide +kernel
theorem d8_1 : decode jdk_43_method_2_code 1 = .ok (.aload_n 0, 1) := by decide +kernel
theorem d8_2 : decode jdk_43_method_2_code 2 = .ok (.arraylength, 1) := by decide +kernel
theorem d8_3 : decode jdk_43_method_2_code 3 = .ok (.invokestatic 9, 3) := by decide +kernel
theorem d8_6 : decode jdk_43_method_2_code 6 = .ok (.aload_n 0, 1) := by decide +kernel
theorem d8_7 : decode jdk_43_method_2_code 7 = .ok (.iload_n 1, 1) := by decide +kernel
theorem d8_8 : decode jdk_43_method_2_code 8 = .ok (.baload, 1) := by decide +kernel
theorem d8_9 : decode jdk_43_method_2_code 9 = .ok (.sipush 255, 3) := by decide +kernel
theorem d8_12 : decode jdk_43_method_2_code 12 = .ok (.iand, 1) := by decide +kernel
theorem d8_13 : decode jdk_43_method_2_code 13 = .ok (.i2c, 1) := by decide +kernel
theorem d8_14 : decode jdk_43_method_2_code 14 = .ok (.ireturn, 1) := by decide +kernel
theorem pn_8 : plainName "java/lang/StringLatin1" = true := by first | (simp [plainName, overriddenIn]; done) | decide +kernel
theorem ef_8 (m : MethodId) (x0 : Addr) (x1 : Int32) : entryFrame m #[(.ref x0), (.int x1)] 2 = mkF m 0 #[.val (.ref x0), .val (.int x1)] [] := by first | (simp [entryFrame, mkF, argsToLocals, Value.category]; done) | rfl
def Q8 (Z : State)  (h0 : Heap) (n0 : Nat) (v : Option Value) (h : Heap) (L : List Loc) : Prop := v = some (.int (34 : Int32)) ∧ Fr n0 L ∧ h = h0
set_option maxRecDepth 65536 in
set_option maxHeartbeats 40000000 in
theorem rm8 (l : Launch) (Z : State) (a0 : Array Value) (hw : ∀ d ∈ tables_1, d.before a0 Z = true) (ws : List Jvm.Cond) (b1 : Addr) (p2 : Int32) (i : Nat) (G3 : Value) (h0 : Heap) (n0 : Nat) (Z0 : n0 ≤ h0.size) (hi : p2.toInt = i) (hi2 : i < 2) (V : Av Z h0 b1 .byte 2 (fun _ => .int (34 : Int32))) (O4 : Sta Z h0 "jdk/internal/util/Preconditions" "SIOOBE_FORMATTER" "Ljava/util/function/BiFunction;" G3) (r3 : G3.isRef = true) :
    MetFree l (⟨"java/lang/StringLatin1", "charAt", "([BI)C"⟩ : MethodName) (head1 (Jvm.Cond.code (⟨"java/lang/StringLatin1", "charAt", "([BI)C"⟩ : MethodName) jdk_43_method_2_code 2 (some .char) :: ws) ({ frames := 2, cells := 0, slots := 0, locals := 27 } : Room)) (fun a U => a = #[(.ref b1), (.int p2)] ∧ Z.Warmed39 U.vm ∧ U.heap = h0) (fun _ _ _ _ _ => True) (fun _ U o U' => ∃ v L, o = .returned v ∧ Q8 Z  h0 n0 v U'.heap L ∧ FrameEnd U o U' L ({ frames := 2, cells := 0, slots := 0, locals := 27 } : Room).cells ({ frames := 2, cells := 0, slots := 0, locals := 27 } : Room).slots) := by
  refine MetFree.of_bodySF (plainFor_of_name pn_8) hisR ?_
  intro p e s m args below meth c s₁ Bd hml0 hP hK
  obtain ⟨rfl, hZ, hh⟩ := hP
  have hx := Bd.exec
  have hby := Bd.bytes
  have hml : c.maxLocals = 2 := hml0
  have hown : s.vm.findClass "java/lang/StringLatin1" = some m.cls := findClass_of_methodNamed Bd.named
  have hnm := (name_of_methodNamed Bd.named Bd.method).1
  have X0 : Stand p l e ({ frames := 2, cells := 0, slots := 0, locals := 27 } : Room) s m #[(.ref b1), (.int p2)] below meth c s₁ [] 0 0 := Stand.of_body Bd
  have e0 : s₁.heap = h0 := by rw [← hh, Bd.state]; rfl
  have N0 := Fr.nil n0
  have pre0 : ∀ tg, Steps p.tables e below (s₁.setTop (mkF m 0 #[.val (.ref b1), .val (.int p2)] [])) tg → Steps p.tables e below (s₁.setTop (entryFrame m #[(.ref b1), (.int p2)] 2)) tg := fun tg kg => castTop (ef_8 m b1 p2) kg
  obtain ⟨cl, Ar, S, G⟩ := V
  have k80 : ∀ tg, Steps p.tables e below (s₁.setTop (mkF m 3 #[.val (.ref b1), .val (.int p2)] [(.int (2 : Int32)), (.int p2)])) tg → Steps p.tables e below (s₁.setTop (entryFrame m #[(.ref b1), (.int p2)] 2)) tg := fun tg kg => pre0 tg (by
      show Steps p.tables e below (s₁.setTop (mkF m 0 #[.val (.ref b1), .val (.int p2)] [])) _
      refine XS.iloadN X0.here hx rfl (hb hby d8_0) rfl ?_
      show Steps p.tables e below (s₁.setTop (mkF m 1 #[.val (.ref b1), .val (.int p2)] [(.int p2)])) _
      refine XS.aloadN X0.here hx rfl (hb hby d8_1) rfl rfl ?_
      show Steps p.tables e below (s₁.setTop (mkF m 2 #[.val (.ref b1), .val (.int p2)] [(.ref b1), (.int p2)])) _
      refine X0.arraylength hx (by rw [e0]; exact Ar.1) (State.isArrayOf_alike hZ.alike Ar.2.1) (g := (mkF m 2 #[.val (.ref b1), .val (.int p2)] [(.ref b1), (.int p2)])) rfl rfl (hb hby d8_2) _ ?_
      rw [len_of (own_sz S (j := (2 : Int32)) (by decide)) (by decide)]
      exact kg)
  obtain ⟨_, _, ⟨T81, L81, c81, n81⟩, -, X81, ⟨Lc81, hQ81, l81, y81, z81⟩, st81⟩ := Jvm.LawKit.callS X0 hx (y := (⟨"java/lang/String", "checkIndex", "(II)V"⟩ : MethodName)) hown (mvT hZ (hw _ (List.mem_of_getElem? (i := 64) rfl))) (mvT hZ (hw _ (List.mem_of_getElem? (i := 65) rfl))) (mvT hZ (hw _ (List.mem_of_getElem? (i := 40) rfl))) (mvT hZ (hw _ (List.mem_of_getElem? (i := 66) rfl))) (by decide) (backOf (W := 0) (rm9 l Z a0 hw [] p2 (2 : Int32) G3 h0 n0 Z0 (own_nneg hi) ((own_lt hi (y := (2 : Int32)) (j := 2) (by decide)).mpr hi2) O4 r3) hZ (hw _ (List.mem_of_getElem? (i := 66) rfl)) (hw _ (List.mem_of_getElem? (i := 40) rfl)) (by decide) (by decide)) (g := (mkF m 3 #[.val (.ref b1), .val (.int p2)] [(.int (2 : Int32)), (.int p2)])) rfl (by rw [hml]; rfl) (argsL := [(.int p2), (.int (2 : Int32))]) (rest := []) (lenOf own_pd5 rfl) rfl (by show 2 * 0 + _ ≤ _; exact Nat.le_of_eq rfl) (hb hby d8_3) (fun _ _ => ⟨rfl, e0, (by decide : 0 + 0 ≤ _), (by decide : 0 + 0 ≤ _)⟩)
  dsimp only [Pt.U, Pt.locs, Pt.cells, Pt.slots] at X81 l81 y81 z81 st81 hQ81
  obtain rfl : c81 = 0 := y81
  obtain rfl : n81 = 0 := z81
  obtain ⟨rfl, N81q, e81⟩ := hQ81
  have N81 := own_frE l81 (Fr.app N0 N81q)
  have k82 : ∀ tg, Steps p.tables e below (T81.setTop (mkF m 6 #[.val (.ref b1), .val (.int p2)] [])) tg → Steps p.tables e below (s₁.setTop (entryFrame m #[(.ref b1), (.int p2)] 2)) tg := fun tg kg => k80 tg (st81 tg kg)
  have k83 : ∀ tg, Steps p.tables e below (T81.setTop (mkF m 14 #[.val (.ref b1), .val (.int p2)] [(.int ((34 : Int32) &&& (255 : Int32)).toUInt32.toUInt16.toUInt32.toInt32)])) tg → Steps p.tables e below (s₁.setTop (entryFrame m #[(.ref b1), (.int p2)] 2)) tg := fun tg kg => k82 tg (by
      show Steps p.tables e below (T81.setTop (mkF m 6 #[.val (.ref b1), .val (.int p2)] [])) _
      refine XS.aloadN X81.here hx rfl (hb hby d8_6) rfl rfl ?_
      show Steps p.tables e below (T81.setTop (mkF m 7 #[.val (.ref b1), .val (.int p2)] [(.ref b1)])) _
      refine XS.iloadN X81.here hx rfl (hb hby d8_7) rfl ?_
      show Steps p.tables e below (T81.setTop (mkF m 8 #[.val (.ref b1), .val (.int p2)] [(.int p2), (.ref b1)])) _
      refine X81.baloadBytes hx (j := p2) (v := (.int (34 : Int32))) (by rw [e81]; exact Ar.1) (State.isArrayOf_alike hZ.alike Ar.2.1) Ar.2.2 (own_hin S hi hi2) (own_hat G hi hi2) (g := (mkF m 8 #[.val (.ref b1), .val (.int p2)] [(.int p2), (.ref b1)])) rfl rfl (hb hby d8_8) _ ?_
      show Steps p.tables e below (T81.setTop (mkF m 9 #[.val (.ref b1), .val (.int p2)] [(.int (34 : Int32))])) _
      refine XS.sipush X81.here hx rfl (hb hby d8_9) ?_
      show Steps p.tables e below (T81.setTop (mkF m 12 #[.val (.ref b1), .val (.int p2)] [(.int (255 : Int32)), (.int (34 : Int32))])) _
      refine XS.iand X81.here hx rfl (hb hby d8_12) rfl ?_
      show Steps p.tables e below (T81.setTop (mkF m 13 #[.val (.ref b1), .val (.int p2)] [(.int ((34 : Int32) &&& (255 : Int32)))])) _
      refine XS.i2c X81.here hx rfl (hb hby d8_13) rfl ?_
      exact kg)
  obtain ⟨fs, hr, hrun, hended, hW, hsame⟩ := X81.leave (v := some (.int (nar .char ((34 : Int32) &&& (255 : Int32)).toUInt32.toUInt16.toUInt32.toInt32))) (fun h => by rw [Bd.returns] at h; cases h)
  refine ⟨_, _, k83 _ ?_, hrun, hended, _, _, rfl, ?_, ⟨_, rfl⟩, hW, hsame.mono (by decide) (by decide)⟩
  · show Steps p.tables e below (T81.setTop (mkF m 14 #[.val (.ref b1), .val (.int p2)] [(.int ((34 : Int32) &&& (255 : Int32)).toUInt32.toUInt16.toUInt32.toInt32)])) _
    exact retN X81 hx (t := .char) Bd.returns (by simp) (hb hby d8_14) hr
  · show Q8 _ _ _ _ T81.heap _
    rw [e81]
    exact ⟨rfl, N81, rfl⟩
theorem d7_0 : decode jdk_42_method_154_code 0 = .ok (.getstatic 38, 3) := by decide +kernel
theorem d7_3 : decode jdk_42_method_154_code 3 = .ok (.ifCond .eq 14, 3) := by decide +kernel
theorem d7_6 : decode jdk_42_method_154_code 6 = .ok (.aload_n 0, 1) := by decide +kernel
theorem d7_7 : decode jdk_42_method_154_code 7 = .ok (.getfield 15, 3) := by decide +kernel
theorem d7_10 : decode jdk_42_method_154_code 10 = .ok (.ifCond .ne 7, 3) := by decide +kernel
theorem d7_13 : decode jdk_42_method_154_code 13 = .ok (.iconst 1, 1) := by decide +kernel
theorem d7_14 : decode jdk_42_method_154_code 14 = .ok (.goto 4, 3) := by decide +kernel
theorem d7_17 : decode jdk_42_method_154_code 17 = .ok (.iconst 0, 1) := by decide +kernel
theorem d7_18 : decode jdk_42_method_154_code 18 = .ok (.ireturn, 1) := by decide +kernel
theorem pn_7 : plainName "java/lang/String" = true := by first | (simp [plainName, overriddenIn]; done) | decide +kernel
theorem ef_7 (m : MethodId) (x0 : Addr) : entryFrame m #[(.ref x0)] 1 = mkF m 0 #[.val (.ref x0)] [] := by first | (simp [entryFrame, mkF, argsToLocals, Value.category]; done) | rfl
def Q7 (Z : State)  (h0 : Heap) (n0 : Nat) (v : Option Value) (h : Heap) (L : List Loc) : Prop := v = some (.int (1 : Int32)) ∧ Fr n0 L ∧ h = h0
set_option maxRecDepth 65536 in
set_option maxHeartbeats 40000000 in
theorem rm7 (l : Launch) (Z : State) (a0 : Array Value) (hw : ∀ d ∈ tables_1, d.before a0 Z = true) (ws : List Jvm.Cond) (a1 : Addr) (G1 : Int32) (h0 : Heap) (n0 : Nat) (Z0 : n0 ≤ h0.size) (O2 : Sta Z h0 "java/lang/String" "COMPACT_STRINGS" "Z" (.int G1)) (P1 : ¬ G1 = (0 : Int32)) (Cc : Fld Z h0 a1 "java/lang/String" "coder" "B" (.int 0)) :
    MetFree l (⟨"java/lang/String", "isLatin1", "()Z"⟩ : MethodName) (head1 (Jvm.Cond.code (⟨"java/lang/String", "isLatin1", "()Z"⟩ : MethodName) jdk_42_method_154_code 1 (some .boolean) :: ws) ({ frames := 0, cells := 0, slots := 0, locals := 0 } : Room)) (fun a U => a = #[(.ref a1)] ∧ Z.Warmed39 U.vm ∧ U.heap = h0) (fun _ _ _ _ _ => True) (fun _ U o U' => ∃ v L, o = .returned v ∧ Q7 Z  h0 n0 v U'.heap L ∧ FrameEnd U o U' L ({ frames := 0, cells := 0, slots := 0, locals := 0 } : Room).cells ({ frames := 0, cells := 0, slots := 0, locals := 0 } : Room).slots) := by
  refine MetFree.of_bodySF (plainFor_of_name pn_7) hisR ?_
  intro p e s m args below meth c s₁ Bd hml0 hP hK
  obtain ⟨rfl, hZ, hh⟩ := hP
  have hx := Bd.exec
  have hby := Bd.bytes
  have hml : c.maxLocals = 1 := hml0
  have hown : s.vm.findClass "java/lang/String" = some m.cls := findClass_of_methodNamed Bd.named
  have hnm := (name_of_methodNamed Bd.named Bd.method).1
  have X0 : Stand p l e ({ frames := 0, cells := 0, slots := 0, locals := 0 } : Room) s m #[(.ref a1)] below meth c s₁ [] 0 0 := Stand.of_body Bd
  have e0 : s₁.heap = h0 := by rw [← hh, Bd.state]; rfl
  have N0 := Fr.nil n0
  have pre0 : ∀ tg, Steps p.tables e below (s₁.setTop (mkF m 0 #[.val (.ref a1)] [])) tg → Steps p.tables e below (s₁.setTop (entryFrame m #[(.ref a1)] 1)) tg := fun tg kg => castTop (ef_7 m a1) kg
  obtain ⟨T84, X84, e84, st84⟩ := getS2 X0 hx hZ hown (host := "") (Or.inl (hw _ (List.mem_of_getElem? (i := 57) rfl))) Via.refl e0 O2 (g := (mkF m 0 #[.val (.ref a1)] [])) rfl (hb hby d7_0)
  have k85 : ∀ tg, Steps p.tables e below (T84.setTop (mkF m 3 #[.val (.ref a1)] [(.int G1)])) tg → Steps p.tables e below (s₁.setTop (entryFrame m #[(.ref a1)] 1)) tg := fun tg kg => pre0 tg (st84 tg kg)
  have k86 : ∀ tg, Steps p.tables e below (T84.setTop (mkF m 7 #[.val (.ref a1)] [(.ref a1)])) tg → Steps p.tables e below (s₁.setTop (entryFrame m #[(.ref a1)] 1)) tg := fun tg kg => k85 tg (by
      show Steps p.tables e below (T84.setTop (mkF m 3 #[.val (.ref a1)] [(.int G1)])) _
      refine XS.ifNo X84.here hx rfl (hb hby d7_3) rfl ((if0 _ _).trans (feq P1).1) ?_
      show Steps p.tables e below (T84.setTop (mkF m 6 #[.val (.ref a1)] [])) _
      refine XS.aloadN X84.here hx rfl (hb hby d7_6) rfl rfl ?_
      exact kg)
  obtain ⟨T87, X87, e87, st87⟩ := getF X84 hx hZ hown (host := "") (Or.inl (hw _ (List.mem_of_getElem? (i := 58) rfl))) Via.refl e84 Cc (g := (mkF m 7 #[.val (.ref a1)] [(.ref a1)])) rfl rfl (hb hby d7_7)
  have k88 : ∀ tg, Steps p.tables e below (T87.setTop (mkF m 10 #[.val (.ref a1)] [(.int (0 : Int32))])) tg → Steps p.tables e below (s₁.setTop (entryFrame m #[(.ref a1)] 1)) tg := fun tg kg => k86 tg (st87 tg kg)
  have k89 : ∀ tg, Steps p.tables e below (T87.setTop (mkF m 18 #[.val (.ref a1)] [(.int (1 : Int32))])) tg → Steps p.tables e below (s₁.setTop (entryFrame m #[(.ref a1)] 1)) tg := fun tg kg => k88 tg (by
      show Steps p.tables e below (T87.setTop (mkF m 10 #[.val (.ref a1)] [(.int (0 : Int32))])) _
      refine XS.ifNo X87.here hx rfl (hb hby d7_10) rfl ((if0 _ _).trans (teq rfl).2) ?_
      show Steps p.tables e below (T87.setTop (mkF m 13 #[.val (.ref a1)] [])) _
      refine XS.iconst X87.here hx rfl (hb hby d7_13) ?_
      show Steps p.tables e below (T87.setTop (mkF m 14 #[.val (.ref a1)] [(.int (1 : Int32))])) _
      refine XS.goto X87.here hx rfl (pc0 := 14) (pc' := 18) rfl (hb hby d7_14) (by decide) (by decide) ?_
      exact kg)
  obtain ⟨fs, hr, hrun, hended, hW, hsame⟩ := X87.leave (v := some (.int (1 : Int32))) (fun h => by rw [Bd.returns] at h; cases h)
  refine ⟨_, _, k89 _ ?_, hrun, hended, _, _, rfl, ?_, ⟨_, rfl⟩, hW, hsame.mono (by decide) (by decide)⟩
  · show Steps p.tables e below (T87.setTop (mkF m 18 #[.val (.ref a1)] [(.int (1 : Int32))])) _
    exact retN X87 hx (t := .boolean) Bd.returns (by simp) (hb hby d7_18) hr
  · show Q7 _ _ _ _ T87.heap _
    rw [e87]
    exact ⟨rfl, N0, rfl⟩
theorem d6_0 : decode jdk_42_method_56_code 0 = .ok (.aload_n 0, 1) := by decide +kernel
theorem d6_1 : decode jdk_42_method_56_code 1 = .ok (.invokevirtual 492, 3) := by decide +kernel
theorem d6_4 : decode jdk_42_method_56_code 4 = .ok (.ifCond .eq 12, 3) := by decide +kernel
theorem d6_7 : decode jdk_42_method_56_code 7 = .ok (.aload_n 0, 1) := by decide +kernel
theorem d6_8 : decode jdk_42_method_56_code 8 = .ok (.getfield 9, 3) := by decide +kernel
theorem d6_11 : decode jdk_42_method_56_code 11 = .ok (.iload_n 1, 1) := by decide +kernel
theorem d6_12 : decode jdk_42_method_56_code 12 = .ok (.invokestatic 495, 3) := by decide +kernel
theorem d6_15 : decode jdk_42_method_56_code 15 = .ok (.ireturn, 1) := by decide +kernel
theorem d6_16 : decode jdk_42_method_56_code 16 = .ok (.aload_n 0, 1) := by decide +kernel
theorem d6_17 : decode jdk_42_method_56_code 17 = .ok (.getfield 9, 3) := by decide +kernel
theorem d6_20 : decode jdk_42_method_56_code 20 = .ok (.iload_n 1, 1) := by decide +kernel
theorem d6_21 : decode jdk_42_method_56_code 21 = .ok (.invokestatic 498, 3) := by decide +kernel
theorem d6_24 : decode jdk_42_method_56_code 24 = .ok (.ireturn, 1) := by decide +kernel
theorem pn_6 : plainName "java/lang/String" = true := by first | (simp [plainName, overriddenIn]; done) | decide +kernel
theorem ef_6 (m : MethodId) (x0 : Addr) (x1 : Int32) : entryFrame m #[(.ref x0), (.int x1)] 2 = mkF m 0 #[.val (.ref x0), .val (.int x1)] [] := by first | (simp [entryFrame, mkF, argsToLocals, Value.category]; done) | rfl
def Q6 (Z : State)  (h0 : Heap) (n0 : Nat) (v : Option Value) (h : Heap) (L : List Loc) : Prop := v = some (.int (34 : Int32)) ∧ Fr n0 L ∧ h = h0
set_option maxRecDepth 65536 in
set_option maxHeartbeats 40000000 in
theorem rm6 (l : Launch) (Z : State) (a0 : Array Value) (hw : ∀ d ∈ tables_1, d.before a0 Z = true) (ws : List Jvm.Cond) (a1 : Addr) (p2 : Int32) (b : Addr) (i : Nat) (G1 : Int32) (G3 : Value) (h0 : Heap) (n0 : Nat) (Z0 : n0 ≤ h0.size) (O2 : Sta Z h0 "java/lang/String" "COMPACT_STRINGS" "Z" (.int G1)) (P1 : ¬ G1 = (0 : Int32)) (O4 : Sta Z h0 "jdk/internal/util/Preconditions" "SIOOBE_FORMATTER" "Ljava/util/function/BiFunction;" G3) (r3 : G3.isRef = true) (hi : p2.toInt = i) (hi2 : i < 2) (E : Exa Z h0 a1 "java/lang/String") (Cc : Fld Z h0 a1 "java/lang/String" "coder" "B" (.int 0)) (Cv : Fld Z h0 a1 "java/lang/String" "value" "[B" (.ref b)) (V : Av Z h0 b .byte 2 (fun _ => .int (34 : Int32))) :
    MetFree l (⟨"java/lang/String", "charAt", "(I)C"⟩ : MethodName) (head1 (Jvm.Cond.code (⟨"java/lang/String", "charAt", "(I)C"⟩ : MethodName) jdk_42_method_56_code 2 (some .char) :: ws) ({ frames := 3, cells := 0, slots := 0, locals := 40 } : Room)) (fun a U => a = #[(.ref a1), (.int p2)] ∧ Z.Warmed39 U.vm ∧ U.heap = h0) (fun _ _ _ _ _ => True) (fun _ U o U' => ∃ v L, o = .returned v ∧ Q6 Z  h0 n0 v U'.heap L ∧ FrameEnd U o U' L ({ frames := 3, cells := 0, slots := 0, locals := 40 } : Room).cells ({ frames := 3, cells := 0, slots := 0, locals := 40 } : Room).slots) := by
  refine MetFree.of_bodySF (plainFor_of_name pn_6) hisR ?_
  intro p e s m args below meth c s₁ Bd hml0 hP hK
  obtain ⟨rfl, hZ, hh⟩ := hP
  have hx := Bd.exec
  have hby := Bd.bytes
  have hml : c.maxLocals = 2 := hml0
  have hown : s.vm.findClass "java/lang/String" = some m.cls := findClass_of_methodNamed Bd.named
  have hnm := (name_of_methodNamed Bd.named Bd.method).1
  have X0 : Stand p l e ({ frames := 3, cells := 0, slots := 0, locals := 40 } : Room) s m #[(.ref a1), (.int p2)] below meth c s₁ [] 0 0 := Stand.of_body Bd
  have e0 : s₁.heap = h0 := by rw [← hh, Bd.state]; rfl
  have N0 := Fr.nil n0
  have pre0 : ∀ tg, Steps p.tables e below (s₁.setTop (mkF m 0 #[.val (.ref a1), .val (.int p2)] [])) tg → Steps p.tables e below (s₁.setTop (entryFrame m #[(.ref a1), (.int p2)] 2)) tg := fun tg kg => castTop (ef_6 m a1 p2) kg
  have k90 : ∀ tg, Steps p.tables e below (s₁.setTop (mkF m 1 #[.val (.ref a1), .val (.int p2)] [(.ref a1)])) tg → Steps p.tables e below (s₁.setTop (entryFrame m #[(.ref a1), (.int p2)] 2)) tg := fun tg kg => pre0 tg (by
      show Steps p.tables e below (s₁.setTop (mkF m 0 #[.val (.ref a1), .val (.int p2)] [])) _
      refine XS.aloadN X0.here hx rfl (hb hby d6_0) rfl rfl ?_
      exact kg)
  obtain ⟨cq91, kq91, q91a, q91b, q91c⟩ := isOf hZ e0 E
  obtain ⟨_, _, ⟨T91, L91, c91, n91⟩, -, X91, ⟨Lc91, hQ91, l91, y91, z91⟩, st91⟩ := X0.virtualBack hx (y := (⟨"java/lang/String", "isLatin1", "()Z"⟩ : MethodName)) (z := (⟨"java/lang/String", "isLatin1", "()Z"⟩ : MethodName)) hown (mvT hZ (hw _ (List.mem_of_getElem? (i := 52) rfl))) (mvT hZ (hw _ (List.mem_of_getElem? (i := 53) rfl))) (notFace_of_selects (args := #[]) (mvT hZ (hw _ (List.mem_of_getElem? (i := 55) rfl)))) (mvT hZ (hw _ (List.mem_of_getElem? (i := 55) rfl))) (mvT hZ (hw _ (List.mem_of_getElem? (i := 54) rfl))) (by decide) (backOf (W := 0) (rm7 l Z a0 hw [] a1 G1 h0 n0 Z0 O2 P1 Cc) hZ (hw _ (List.mem_of_getElem? (i := 56) rfl)) (hw _ (List.mem_of_getElem? (i := 40) rfl)) (by decide) (by decide)) q91a q91c (g := (mkF m 1 #[.val (.ref a1), .val (.int p2)] [(.ref a1)])) rfl (by rw [hml]; rfl) (Steps.refl _) (argsL := []) (rest := []) (lenOf own_pd1 rfl) rfl (by show 2 * 0 + _ ≤ _; exact Nat.le_of_eq rfl) (hb hby d6_1) (fun _ _ => ⟨rfl, e0, (by decide : 0 + 0 ≤ _), (by decide : 0 + 0 ≤ _)⟩)
  dsimp only [Pt.U, Pt.locs, Pt.cells, Pt.slots] at X91 l91 y91 z91 st91 hQ91
  obtain rfl : c91 = 0 := y91
  obtain rfl : n91 = 0 := z91
  obtain ⟨rfl, N91q, e91⟩ := hQ91
  have N91 := own_frE l91 (Fr.app N0 N91q)
  have k92 : ∀ tg, Steps p.tables e below (T91.setTop (mkF m 4 #[.val (.ref a1), .val (.int p2)] [(.int (1 : Int32))])) tg → Steps p.tables e below (s₁.setTop (entryFrame m #[(.ref a1), (.int p2)] 2)) tg := fun tg kg => k90 tg (st91.trans kg)
  have k93 : ∀ tg, Steps p.tables e below (T91.setTop (mkF m 8 #[.val (.ref a1), .val (.int p2)] [(.ref a1)])) tg → Steps p.tables e below (s₁.setTop (entryFrame m #[(.ref a1), (.int p2)] 2)) tg := fun tg kg => k92 tg (by
      show Steps p.tables e below (T91.setTop (mkF m 4 #[.val (.ref a1), .val (.int p2)] [(.int (1 : Int32))])) _
      refine XS.ifNo X91.here hx rfl (hb hby d6_4) rfl ((if0 _ _).trans (feq (by decide)).1) ?_
      show Steps p.tables e below (T91.setTop (mkF m 7 #[.val (.ref a1), .val (.int p2)] [])) _
      refine XS.aloadN X91.here hx rfl (hb hby d6_7) rfl rfl ?_
      exact kg)
  obtain ⟨T94, X94, e94, st94⟩ := getF X91 hx hZ hown (host := "") (Or.inl (hw _ (List.mem_of_getElem? (i := 59) rfl))) Via.refl e91 Cv (g := (mkF m 8 #[.val (.ref a1), .val (.int p2)] [(.ref a1)])) rfl rfl (hb hby d6_8)
  have k95 : ∀ tg, Steps p.tables e below (T94.setTop (mkF m 11 #[.val (.ref a1), .val (.int p2)] [(.ref b)])) tg → Steps p.tables e below (s₁.setTop (entryFrame m #[(.ref a1), (.int p2)] 2)) tg := fun tg kg => k93 tg (st94 tg kg)
  have k96 : ∀ tg, Steps p.tables e below (T94.setTop (mkF m 12 #[.val (.ref a1), .val (.int p2)] [(.int p2), (.ref b)])) tg → Steps p.tables e below (s₁.setTop (entryFrame m #[(.ref a1), (.int p2)] 2)) tg := fun tg kg => k95 tg (by
      show Steps p.tables e below (T94.setTop (mkF m 11 #[.val (.ref a1), .val (.int p2)] [(.ref b)])) _
      refine XS.iloadN X94.here hx rfl (hb hby d6_11) rfl ?_
      exact kg)
  obtain ⟨_, _, ⟨T97, L97, c97, n97⟩, -, X97, ⟨Lc97, hQ97, l97, y97, z97⟩, st97⟩ := Jvm.LawKit.callS X94 hx (y := (⟨"java/lang/StringLatin1", "charAt", "([BI)C"⟩ : MethodName)) hown (mvT hZ (hw _ (List.mem_of_getElem? (i := 60) rfl))) (mvT hZ (hw _ (List.mem_of_getElem? (i := 61) rfl))) (mvT hZ (hw _ (List.mem_of_getElem? (i := 62) rfl))) (mvT hZ (hw _ (List.mem_of_getElem? (i := 63) rfl))) (by decide) (backOf (W := 0) (rm8 l Z a0 hw [] b p2 i G3 h0 n0 Z0 hi hi2 V O4 r3) hZ (hw _ (List.mem_of_getElem? (i := 63) rfl)) (hw _ (List.mem_of_getElem? (i := 62) rfl)) (by decide) (by decide)) (g := (mkF m 12 #[.val (.ref a1), .val (.int p2)] [(.int p2), (.ref b)])) rfl (by rw [hml]; rfl) (argsL := [(.ref b), (.int p2)]) (rest := []) (lenOf own_pd4 rfl) rfl (by show 2 * 0 + _ ≤ _; exact Nat.le_of_eq rfl) (hb hby d6_12) (fun _ _ => ⟨rfl, e94, (by decide : 0 + 0 ≤ _), (by decide : 0 + 0 ≤ _)⟩)
  dsimp only [Pt.U, Pt.locs, Pt.cells, Pt.slots] at X97 l97 y97 z97 st97 hQ97
  obtain rfl : c97 = 0 := y97
  obtain rfl : n97 = 0 := z97
  obtain ⟨rfl, N97q, e97⟩ := hQ97
  have N97 := own_frE l97 (Fr.app N91 N97q)
  have k98 : ∀ tg, Steps p.tables e below (T97.setTop (mkF m 15 #[.val (.ref a1), .val (.int p2)] [(.int (34 : Int32))])) tg → Steps p.tables e below (s₁.setTop (entryFrame m #[(.ref a1), (.int p2)] 2)) tg := fun tg kg => k96 tg (st97 tg kg)
  obtain ⟨fs, hr, hrun, hended, hW, hsame⟩ := X97.leave (v := some (.int (34 : Int32))) (fun h => by rw [Bd.returns] at h; cases h)
  refine ⟨_, _, k98 _ ?_, hrun, hended, _, _, rfl, ?_, ⟨_, rfl⟩, hW, hsame.mono (by decide) (by decide)⟩
  · show Steps p.tables e below (T97.setTop (mkF m 15 #[.val (.ref a1), .val (.int p2)] [(.int (34 : Int32))])) _
    exact retN X97 hx (t := .char) Bd.returns (by simp) (hb hby d6_15) hr
  · show Q6 _ _ _ _ T97.heap _
    rw [e97]
    exact ⟨rfl, N97, rfl⟩
theorem d3_0 : decode prog_56_method_4_code 0 = .ok (.iload_n 1, 1) := by decide +kernel
theorem d3_1 : decode prog_56_method_4_code 1 = .ok (.aload_n 2, 1) := by decide +kernel
theorem d3_2 : decode prog_56_method_4_code 2 = .ok (.invokevirtual 40, 3) := by decide +kernel
theorem d3_5 : decode prog_56_method_4_code 5 = .ok (.if_icmp .eq 11, 3) := by decide +kernel
theorem d3_8 : decode prog_56_method_4_code 8 = .ok (.iload_n 1, 1) := by decide +kernel
theorem d3_9 : decode prog_56_method_4_code 9 = .ok (.aload_n 2, 1) := by decide +kernel
theorem d3_10 : decode prog_56_method_4_code 10 = .ok (.invokevirtual 46, 3) := by decide +kernel
theorem d3_13 : decode prog_56_method_4_code 13 = .ok (.if_icmp .ne 27, 3) := by decide +kernel
theorem d3_16 : decode prog_56_method_4_code 16 = .ok (.aload_n 0, 1) := by decide +kernel
theorem d3_17 : decode prog_56_method_4_code 17 = .ok (.getstatic 5, 3) := by decide +kernel
theorem d3_20 : decode prog_56_method_4_code 20 = .ok (.if_acmp .eq 10, 3) := by decide +kernel
theorem d3_23 : decode prog_56_method_4_code 23 = .ok (.aload_n 0, 1) := by decide +kernel
theorem d3_24 : decode prog_56_method_4_code 24 = .ok (.getstatic 9, 3) := by decide +kernel
theorem d3_27 : decode prog_56_method_4_code 27 = .ok (.if_acmp .ne 9, 3) := by decide +kernel
theorem d3_30 : decode prog_56_method_4_code 30 = .ok (.getstatic 9, 3) := by decide +kernel
theorem d3_33 : decode prog_56_method_4_code 33 = .ok (.goto 6, 3) := by decide +kernel
theorem d3_36 : decode prog_56_method_4_code 36 = .ok (.getstatic 18, 3) := by decide +kernel
theorem d3_39 : decode prog_56_method_4_code 39 = .ok (.areturn, 1) := by decide +kernel
theorem d3_40 : decode prog_56_method_4_code 40 = .ok (.iload_n 1, 1) := by decide +kernel
theorem d3_41 : decode prog_56_method_4_code 41 = .ok (.ldc 49, 2) := by decide +kernel
theorem d3_43 : decode prog_56_method_4_code 43 = .ok (.iconst 0, 1) := by decide +kernel
theorem d3_44 : decode prog_56_method_4_code 44 = .ok (.invokevirtual 51, 3) := by decide +kernel
theorem d3_47 : decode prog_56_method_4_code 47 = .ok (.if_icmp .ne 14, 3) := by decide +kernel
theorem d3_50 : decode prog_56_method_4_code 50 = .ok (.aload_n 0, 1) := by decide +kernel
theorem d3_51 : decode prog_56_method_4_code 51 = .ok (.getstatic 5, 3) := by decide +kernel
theorem d3_54 : decode prog_56_method_4_code 54 = .ok (.if_acmp .ne 7, 3) := by decide +kernel
theorem d3_57 : decode prog_56_method_4_code 57 = .ok (.getstatic 12, 3) := by decide +kernel
theorem d3_60 : decode prog_56_method_4_code 60 = .ok (.areturn, 1) := by decide +kernel
theorem d3_61 : decode prog_56_method_4_code 61 = .ok (.iload_n 1, 1) := by decide +kernel
theorem d3_62 : decode prog_56_method_4_code 62 = .ok (.ldc 49, 2) := by decide +kernel
theorem d3_64 : decode prog_56_method_4_code 64 = .ok (.iconst 1, 1) := by decide +kernel
theorem d3_65 : decode prog_56_method_4_code 65 = .ok (.invokevirtual 51, 3) := by decide +kernel
theorem d3_68 : decode prog_56_method_4_code 68 = .ok (.if_icmp .ne 14, 3) := by decide +kernel
theorem d3_71 : decode prog_56_method_4_code 71 = .ok (.aload_n 0, 1) := by decide +kernel
theorem d3_72 : decode prog_56_method_4_code 72 = .ok (.getstatic 12, 3) := by decide +kernel
theorem d3_75 : decode prog_56_method_4_code 75 = .ok (.if_acmp .ne 7, 3) := by decide +kernel
theorem d3_78 : decode prog_56_method_4_code 78 = .ok (.getstatic 15, 3) := by decide +kernel
theorem d3_81 : decode prog_56_method_4_code 81 = .ok (.areturn, 1) := by decide +kernel
theorem d3_82 : decode prog_56_method_4_code 82 = .ok (.getstatic 18, 3) := by decide +kernel
theorem d3_85 : decode prog_56_method_4_code 85 = .ok (.areturn, 1) := by decide +kernel
theorem pn_3 : plainName "com/example/vaxwire/vaxwire/hl7/Repetition$Content" = true := by first | (simp [plainName, overriddenIn]; done) | decide +kernel
theorem ef_3 (m : MethodId) (x0 : Addr) (x1 : Int32) (x2 : Addr) : entryFrame m #[(.ref x0), (.int x1), (.ref x2)] 3 = mkF m 0 #[.val (.ref x0), .val (.int x1), .val (.ref x2)] [] := by first | (simp [entryFrame, mkF, argsToLocals, Value.category]; done) | rfl
def Q3 (Z : State) (p2 : Int32) (st : Nat) (c0 c1 c2 c3 c4 : Addr) (h0 : Heap) (n0 : Nat) (v : Option Value) (t : State) (L : List Loc) : Prop := v = some (.ref (own_ad c0 c1 c2 c3 c4 (own_aft st p2))) ∧ Fr n0 L ∧ Ext h0 t.heap ∧ Lds Z t.vm t.heap
set_option maxRecDepth 65536 in
set_option maxHeartbeats 40000000 in
theorem rm3 (l : Launch) (Z : State) (a0 : Array Value) (hw : ∀ d ∈ tables_1, d.before a0 Z = true) (ws : List Jvm.Cond) (a1 : Addr) (p2 : Int32) (d : Addr) (st : Nat) (c0 c1 c2 c3 c4 : Addr) (G1 : Int32) (G3 : Value) (h0 : Heap) (n0 : Nat) (Z0 : n0 ≤ h0.size) (hst : st < 5) (ha0 : a1 = own_ad c0 c1 c2 c3 c4 st) (O2 : Sta Z Z.heap "java/lang/String" "COMPACT_STRINGS" "Z" (.int G1)) (P1 : ¬ G1 = (0 : Int32)) (O4 : Sta Z Z.heap "jdk/internal/util/Preconditions" "SIOOBE_FORMATTER" "Ljava/util/function/BiFunction;" G3) (r3 : G3.isRef = true) (hH : Jvm.Lit.constHeld Z "com/example/vaxwire/vaxwire/hl7/Repetition$Content" 49) (hcw : Jvm.Lit.compactW.before a0 Z = true) (Wh : Wd Z d c0 c1 c2 c3 c4) (XE : Ext Z.heap h0) :
    MetFree l (⟨"com/example/vaxwire/vaxwire/hl7/Repetition$Content", "after", "(CLcom/example/vaxwire/vaxwire/hl7/Delimiters;)Lcom/example/vaxwire/vaxwire/hl7/Repetition$Content;"⟩ : MethodName) (head1 (Jvm.Cond.code (⟨"com/example/vaxwire/vaxwire/hl7/Repetition$Content", "after", "(CLcom/example/vaxwire/vaxwire/hl7/Delimiters;)Lcom/example/vaxwire/vaxwire/hl7/Repetition$Content;"⟩ : MethodName) prog_56_method_4_code 3 (some (.object "com/example/vaxwire/vaxwire/hl7/Repetition$Content")) :: ws) ({ frames := 4, cells := 2, slots := 12, locals := 54 } : Room)) (fun a U => a = #[(.ref a1), (.int p2), (.ref d)] ∧ Z.Warmed39 U.vm ∧ U.heap = h0 ∧ Lds Z U.vm h0) (fun _ _ _ _ _ => True) (fun _ U o U' => ∃ v L, o = .returned v ∧ Q3 Z p2 st c0 c1 c2 c3 c4 h0 n0 v U' L ∧ ReturnedEndW U o U' L ({ frames := 4, cells := 2, slots := 12, locals := 54 } : Room).cells ({ frames := 4, cells := 2, slots := 12, locals := 54 } : Room).slots) := by
  refine MetFree.of_bodySF (plainFor_of_name pn_3) hisR ?_
  intro p e s m args below meth c s₁ Bd hml0 hP hK
  obtain ⟨rfl, hZ, hh, hLd⟩ := hP
  have hx := Bd.exec
  have hby := Bd.bytes
  have hml : c.maxLocals = 3 := hml0
  have hown : s.vm.findClass "com/example/vaxwire/vaxwire/hl7/Repetition$Content" = some m.cls := findClass_of_methodNamed Bd.named
  have hnm := (name_of_methodNamed Bd.named Bd.method).1
  have X0 : Stand p l e ({ frames := 4, cells := 2, slots := 12, locals := 54 } : Room) s m #[(.ref a1), (.int p2), (.ref d)] below meth c s₁ [] 0 0 := Stand.of_body Bd
  have e0 : s₁.heap = h0 := by rw [← hh, Bd.state]; rfl
  have N0 := Fr.nil n0
  have pre0 : ∀ tg, Steps p.tables e below (s₁.setTop (mkF m 0 #[.val (.ref a1), .val (.int p2), .val (.ref d)] [])) tg → Steps p.tables e below (s₁.setTop (entryFrame m #[(.ref a1), (.int p2), (.ref d)] 3)) tg := fun tg kg => castTop (ef_3 m a1 p2 d) kg
  have N0 := Fr.nil h0.size
  have Z0r := Nat.le_refl h0.size
  obtain ⟨⟨Sd, Ed, Fc, Fs⟩, ⟨S0, S1, S2, S3, S4⟩, ⟨E0, E1, E2, E3, E4⟩, n01, n02, n03, n04, n12, n13, n14, n23, n24, n34⟩ := Wh
  have h5 : st = 0 ∨ st = 1 ∨ st = 2 ∨ st = 3 ∨ st = 4 := by omega
  have k99 : ∀ tg, Steps p.tables e below (s₁.setTop (mkF m 2 #[.val (.ref a1), .val (.int p2), .val (.ref d)] [(.ref d), (.int p2)])) tg → Steps p.tables e below (s₁.setTop (entryFrame m #[(.ref a1), (.int p2), (.ref d)] 3)) tg := fun tg kg => pre0 tg (by
      show Steps p.tables e below (s₁.setTop (mkF m 0 #[.val (.ref a1), .val (.int p2), .val (.ref d)] [])) _
      refine XS.iloadN X0.here hx rfl (hb hby d3_0) rfl ?_
      show Steps p.tables e below (s₁.setTop (mkF m 1 #[.val (.ref a1), .val (.int p2), .val (.ref d)] [(.int p2)])) _
      refine XS.aloadN X0.here hx rfl (hb hby d3_1) rfl rfl ?_
      exact kg)
  obtain ⟨cq100, kq100, q100a, q100b, q100c⟩ := isOf hZ e0 (Ed.ext XE)
  obtain ⟨_, _, ⟨T100, L100, c100, n100⟩, -, X100, ⟨Lc100, hQ100, l100, y100, z100⟩, st100⟩ := X0.virtualBack hx (y := (⟨"com/example/vaxwire/vaxwire/hl7/Delimiters", "component", "()C"⟩ : MethodName)) (z := (⟨"com/example/vaxwire/vaxwire/hl7/Delimiters", "component", "()C"⟩ : MethodName)) hown (mvT hZ (hw _ (List.mem_of_getElem? (i := 25) rfl))) (mvT hZ (hw _ (List.mem_of_getElem? (i := 26) rfl))) (notFace_of_selects (args := #[]) (mvT hZ (hw _ (List.mem_of_getElem? (i := 28) rfl)))) (mvT hZ (hw _ (List.mem_of_getElem? (i := 28) rfl))) (mvT hZ (hw _ (List.mem_of_getElem? (i := 27) rfl))) (by decide) (backOf (W := 1) (rm4 l Z a0 hw [] d h0 h0.size Z0r (Fc.ext XE)) hZ (hw _ (List.mem_of_getElem? (i := 29) rfl)) (hw _ (List.mem_of_getElem? (i := 6) rfl)) (by decide) (by decide)) q100a q100c (g := (mkF m 2 #[.val (.ref a1), .val (.int p2), .val (.ref d)] [(.ref d), (.int p2)])) rfl (by rw [hml]; rfl) (Steps.refl _) (argsL := []) (rest := [(.int p2)]) (lenOf own_pd3 rfl) rfl (by show 2 * 0 + _ ≤ _; exact Nat.le_of_eq rfl) (hb hby d3_2) (fun _ _ => ⟨rfl, e0, (by decide : 0 + 0 ≤ _), (by decide : 0 + 0 ≤ _)⟩)
  dsimp only [Pt.U, Pt.locs, Pt.cells, Pt.slots] at X100 l100 y100 z100 st100 hQ100
  obtain rfl : c100 = 0 := y100
  obtain rfl : n100 = 0 := z100
  obtain ⟨rfl, N100q, e100⟩ := hQ100
  have N100 := own_frE l100 (Fr.app N0 N100q)
  have k101 : ∀ tg, Steps p.tables e below (T100.setTop (mkF m 5 #[.val (.ref a1), .val (.int p2), .val (.ref d)] [(.int (94 : Int32)), (.int p2)])) tg → Steps p.tables e below (s₁.setTop (entryFrame m #[(.ref a1), (.int p2), (.ref d)] 3)) tg := fun tg kg => k99 tg (st100.trans kg)
  by_cases c94 : p2 = (94 : Int32)
  · have k102 : ∀ tg, Steps p.tables e below (T100.setTop (mkF m 16 #[.val (.ref a1), .val (.int p2), .val (.ref d)] [])) tg → Steps p.tables e below (s₁.setTop (entryFrame m #[(.ref a1), (.int p2), (.ref d)] 3)) tg := fun tg kg => k101 tg (by
        show Steps p.tables e below (T100.setTop (mkF m 5 #[.val (.ref a1), .val (.int p2), .val (.ref d)] [(.int (94 : Int32)), (.int p2)])) _
        refine XS.icmpYes X100.here hx rfl (pc0 := 5) (pc' := 16) rfl (hb hby d3_5) rfl (teq c94).1 (by decide) (by decide) ?_
        exact kg)
    have k103 : ∀ tg, Steps p.tables e below (T100.setTop (mkF m 17 #[.val (.ref a1), .val (.int p2), .val (.ref d)] [(.ref a1)])) tg → Steps p.tables e below (s₁.setTop (entryFrame m #[(.ref a1), (.int p2), (.ref d)] 3)) tg := fun tg kg => k102 tg (by
        show Steps p.tables e below (T100.setTop (mkF m 16 #[.val (.ref a1), .val (.int p2), .val (.ref d)] [])) _
        refine XS.aloadN X100.here hx rfl (hb hby d3_16) rfl rfl ?_
        exact kg)
    rcases h5 with rfl | rfl | rfl | rfl | rfl
    · have ha : a1 = c0 := ha0
      obtain ⟨T104, X104, e104, st104⟩ := getS2 X100 hx hZ hown (host := "") (Or.inl (hw _ (List.mem_of_getElem? (i := 72) rfl))) Via.refl e100 (S0.ext XE) (g := (mkF m 17 #[.val (.ref a1), .val (.int p2), .val (.ref d)] [(.ref a1)])) rfl (hb hby d3_17)
      have k105 : ∀ tg, Steps p.tables e below (T104.setTop (mkF m 20 #[.val (.ref a1), .val (.int p2), .val (.ref d)] [(.ref c0), (.ref a1)])) tg → Steps p.tables e below (s₁.setTop (entryFrame m #[(.ref a1), (.int p2), (.ref d)] 3)) tg := fun tg kg => k103 tg (st104 tg kg)
      have k106 : ∀ tg, Steps p.tables e below (T104.setTop (mkF m 30 #[.val (.ref a1), .val (.int p2), .val (.ref d)] [])) tg → Steps p.tables e below (s₁.setTop (entryFrame m #[(.ref a1), (.int p2), (.ref d)] 3)) tg := fun tg kg => k105 tg (by
          show Steps p.tables e below (T104.setTop (mkF m 20 #[.val (.ref a1), .val (.int p2), .val (.ref d)] [(.ref c0), (.ref a1)])) _
          refine Jvm.RoadKit.acmp (g := (mkF m 20 #[.val (.ref a1), .val (.int p2), .val (.ref d)] [(.ref c0), (.ref a1)])) X104 hx rfl rfl rfl (pc0 := 20) (pc' := 30) (same := true) rfl (hb hby d3_20) rfl (decide_eq_true (congrArg Value.ref ha)) (by decide) (by decide) ?_
          exact kg)
      obtain ⟨T107, X107, e107, st107⟩ := getS2 X104 hx hZ hown (host := "") (Or.inl (hw _ (List.mem_of_getElem? (i := 73) rfl))) Via.refl e104 (S1.ext XE) (g := (mkF m 30 #[.val (.ref a1), .val (.int p2), .val (.ref d)] [])) rfl (hb hby d3_30)
      have k108 : ∀ tg, Steps p.tables e below (T107.setTop (mkF m 33 #[.val (.ref a1), .val (.int p2), .val (.ref d)] [(.ref c1)])) tg → Steps p.tables e below (s₁.setTop (entryFrame m #[(.ref a1), (.int p2), (.ref d)] 3)) tg := fun tg kg => k106 tg (st107 tg kg)
      have k109 : ∀ tg, Steps p.tables e below (T107.setTop (mkF m 39 #[.val (.ref a1), .val (.int p2), .val (.ref d)] [(.ref c1)])) tg → Steps p.tables e below (s₁.setTop (entryFrame m #[(.ref a1), (.int p2), (.ref d)] 3)) tg := fun tg kg => k108 tg (by
          show Steps p.tables e below (T107.setTop (mkF m 33 #[.val (.ref a1), .val (.int p2), .val (.ref d)] [(.ref c1)])) _
          refine XS.goto X107.here hx rfl (pc0 := 33) (pc' := 39) rfl (hb hby d3_33) (by decide) (by decide) ?_
          exact kg)
      have hq : own_aft 0 p2 = 1 := by rw [own_aft, if_pos (Or.inl c94)]; rfl
      obtain ⟨fs, hr, hrun, hended, hend⟩ := Stand.leaveW (X107.retabled X107.warmed.wide) (X107.warmed.since 0) (Nat.zero_le _) (v := some (.ref c1)) (fun h => by rw [Bd.returns] at h; cases h)
      refine ⟨_, _, k109 _ ?_, hrun, hended, _, _, rfl, ?_, own_rmono hend (by decide) (by decide)⟩
      · show Steps p.tables e below (T107.setTop (mkF m 39 #[.val (.ref a1), .val (.int p2), .val (.ref d)] [(.ref c1)])) _
        exact retOut X107 hx Bd.returns rfl (Or.inr (Or.inr (Or.inr (Or.inr ⟨rfl, rfl, rfl⟩)))) (hb hby d3_39) hr
      · exact ⟨by rw [hq]; rfl, (fun y hy => Nat.le_trans Z0 (N100 y hy)), (by show Ext h0 T107.heap; rw [e107]; exact own_extR), (by show Lds Z T107.vm T107.heap; rw [e107]; exact hLd.warm (s := s) X107.warmed)⟩
    · have ha : a1 = c1 := ha0
      obtain ⟨T110, X110, e110, st110⟩ := getS2 X100 hx hZ hown (host := "") (Or.inl (hw _ (List.mem_of_getElem? (i := 72) rfl))) Via.refl e100 (S0.ext XE) (g := (mkF m 17 #[.val (.ref a1), .val (.int p2), .val (.ref d)] [(.ref a1)])) rfl (hb hby d3_17)
      have k111 : ∀ tg, Steps p.tables e below (T110.setTop (mkF m 20 #[.val (.ref a1), .val (.int p2), .val (.ref d)] [(.ref c0), (.ref a1)])) tg → Steps p.tables e below (s₁.setTop (entryFrame m #[(.ref a1), (.int p2), (.ref d)] 3)) tg := fun tg kg => k103 tg (st110 tg kg)
      have k112 : ∀ tg, Steps p.tables e below (T110.setTop (mkF m 24 #[.val (.ref a1), .val (.int p2), .val (.ref d)] [(.ref a1)])) tg → Steps p.tables e below (s₁.setTop (entryFrame m #[(.ref a1), (.int p2), (.ref d)] 3)) tg := fun tg kg => k111 tg (by
          show Steps p.tables e below (T110.setTop (mkF m 20 #[.val (.ref a1), .val (.int p2), .val (.ref d)] [(.ref c0), (.ref a1)])) _
          refine Jvm.RoadKit.acmp (g := (mkF m 20 #[.val (.ref a1), .val (.int p2), .val (.ref d)] [(.ref c0), (.ref a1)])) X110 hx rfl rfl rfl (pc0 := 20) (pc' := 23) (same := false) rfl (hb hby d3_20) rfl (decide_eq_false fun q => n01.symm (ha.symm.trans (Value.ref.inj q))) (by decide) (by decide) ?_
          show Steps p.tables e below (T110.setTop (mkF m 23 #[.val (.ref a1), .val (.int p2), .val (.ref d)] [])) _
          refine XS.aloadN X110.here hx rfl (hb hby d3_23) rfl rfl ?_
          exact kg)
      obtain ⟨T113, X113, e113, st113⟩ := getS2 X110 hx hZ hown (host := "") (Or.inl (hw _ (List.mem_of_getElem? (i := 73) rfl))) Via.refl e110 (S1.ext XE) (g := (mkF m 24 #[.val (.ref a1), .val (.int p2), .val (.ref d)] [(.ref a1)])) rfl (hb hby d3_24)
      have k114 : ∀ tg, Steps p.tables e below (T113.setTop (mkF m 27 #[.val (.ref a1), .val (.int p2), .val (.ref d)] [(.ref c1), (.ref a1)])) tg → Steps p.tables e below (s₁.setTop (entryFrame m #[(.ref a1), (.int p2), (.ref d)] 3)) tg := fun tg kg => k112 tg (st113 tg kg)
      have k115 : ∀ tg, Steps p.tables e below (T113.setTop (mkF m 30 #[.val (.ref a1), .val (.int p2), .val (.ref d)] [])) tg → Steps p.tables e below (s₁.setTop (entryFrame m #[(.ref a1), (.int p2), (.ref d)] 3)) tg := fun tg kg => k114 tg (by
          show Steps p.tables e below (T113.setTop (mkF m 27 #[.val (.ref a1), .val (.int p2), .val (.ref d)] [(.ref c1), (.ref a1)])) _
          refine Jvm.RoadKit.acmp (g := (mkF m 27 #[.val (.ref a1), .val (.int p2), .val (.ref d)] [(.ref c1), (.ref a1)])) X113 hx rfl rfl rfl (pc0 := 27) (pc' := 30) (same := true) rfl (hb hby d3_27) rfl (decide_eq_true (congrArg Value.ref ha)) (by decide) (by decide) ?_
          exact kg)
      obtain ⟨T116, X116, e116, st116⟩ := getS2 X113 hx hZ hown (host := "") (Or.inl (hw _ (List.mem_of_getElem? (i := 73) rfl))) Via.refl e113 (S1.ext XE) (g := (mkF m 30 #[.val (.ref a1), .val (.int p2), .val (.ref d)] [])) rfl (hb hby d3_30)
      have k117 : ∀ tg, Steps p.tables e below (T116.setTop (mkF m 33 #[.val (.ref a1), .val (.int p2), .val (.ref d)] [(.ref c1)])) tg → Steps p.tables e below (s₁.setTop (entryFrame m #[(.ref a1), (.int p2), (.ref d)] 3)) tg := fun tg kg => k115 tg (st116 tg kg)
      have k118 : ∀ tg, Steps p.tables e below (T116.setTop (mkF m 39 #[.val (.ref a1), .val (.int p2), .val (.ref d)] [(.ref c1)])) tg → Steps p.tables e below (s₁.setTop (entryFrame m #[(.ref a1), (.int p2), (.ref d)] 3)) tg := fun tg kg => k117 tg (by
          show Steps p.tables e below (T116.setTop (mkF m 33 #[.val (.ref a1), .val (.int p2), .val (.ref d)] [(.ref c1)])) _
          refine XS.goto X116.here hx rfl (pc0 := 33) (pc' := 39) rfl (hb hby d3_33) (by decide) (by decide) ?_
          exact kg)
      have hq : own_aft 1 p2 = 1 := by rw [own_aft, if_pos (Or.inl c94)]; rfl
      obtain ⟨fs, hr, hrun, hended, hend⟩ := Stand.leaveW (X116.retabled X116.warmed.wide) (X116.warmed.since 0) (Nat.zero_le _) (v := some (.ref c1)) (fun h => by rw [Bd.returns] at h; cases h)
      refine ⟨_, _, k118 _ ?_, hrun, hended, _, _, rfl, ?_, own_rmono hend (by decide) (by decide)⟩
      · show Steps p.tables e below (T116.setTop (mkF m 39 #[.val (.ref a1), .val (.int p2), .val (.ref d)] [(.ref c1)])) _
        exact retOut X116 hx Bd.returns rfl (Or.inr (Or.inr (Or.inr (Or.inr ⟨rfl, rfl, rfl⟩)))) (hb hby d3_39) hr
      · exact ⟨by rw [hq]; rfl, (fun y hy => Nat.le_trans Z0 (N100 y hy)), (by show Ext h0 T116.heap; rw [e116]; exact own_extR), (by show Lds Z T116.vm T116.heap; rw [e116]; exact hLd.warm (s := s) X116.warmed)⟩
    · have ha : a1 = c2 := ha0
      obtain ⟨T119, X119, e119, st119⟩ := getS2 X100 hx hZ hown (host := "") (Or.inl (hw _ (List.mem_of_getElem? (i := 72) rfl))) Via.refl e100 (S0.ext XE) (g := (mkF m 17 #[.val (.ref a1), .val (.int p2), .val (.ref d)] [(.ref a1)])) rfl (hb hby d3_17)
      have k120 : ∀ tg, Steps p.tables e below (T119.setTop (mkF m 20 #[.val (.ref a1), .val (.int p2), .val (.ref d)] [(.ref c0), (.ref a1)])) tg → Steps p.tables e below (s₁.setTop (entryFrame m #[(.ref a1), (.int p2), (.ref d)] 3)) tg := fun tg kg => k103 tg (st119 tg kg)
      have k121 : ∀ tg, Steps p.tables e below (T119.setTop (mkF m 24 #[.val (.ref a1), .val (.int p2), .val (.ref d)] [(.ref a1)])) tg → Steps p.tables e below (s₁.setTop (entryFrame m #[(.ref a1), (.int p2), (.ref d)] 3)) tg := fun tg kg => k120 tg (by
          show Steps p.tables e below (T119.setTop (mkF m 20 #[.val (.ref a1), .val (.int p2), .val (.ref d)] [(.ref c0), (.ref a1)])) _
          refine Jvm.RoadKit.acmp (g := (mkF m 20 #[.val (.ref a1), .val (.int p2), .val (.ref d)] [(.ref c0), (.ref a1)])) X119 hx rfl rfl rfl (pc0 := 20) (pc' := 23) (same := false) rfl (hb hby d3_20) rfl (decide_eq_false fun q => n02.symm (ha.symm.trans (Value.ref.inj q))) (by decide) (by decide) ?_
          show Steps p.tables e below (T119.setTop (mkF m 23 #[.val (.ref a1), .val (.int p2), .val (.ref d)] [])) _
          refine XS.aloadN X119.here hx rfl (hb hby d3_23) rfl rfl ?_
          exact kg)
      obtain ⟨T122, X122, e122, st122⟩ := getS2 X119 hx hZ hown (host := "") (Or.inl (hw _ (List.mem_of_getElem? (i := 73) rfl))) Via.refl e119 (S1.ext XE) (g := (mkF m 24 #[.val (.ref a1), .val (.int p2), .val (.ref d)] [(.ref a1)])) rfl (hb hby d3_24)
      have k123 : ∀ tg, Steps p.tables e below (T122.setTop (mkF m 27 #[.val (.ref a1), .val (.int p2), .val (.ref d)] [(.ref c1), (.ref a1)])) tg → Steps p.tables e below (s₁.setTop (entryFrame m #[(.ref a1), (.int p2), (.ref d)] 3)) tg := fun tg kg => k121 tg (st122 tg kg)
      have k124 : ∀ tg, Steps p.tables e below (T122.setTop (mkF m 36 #[.val (.ref a1), .val (.int p2), .val (.ref d)] [])) tg → Steps p.tables e below (s₁.setTop (entryFrame m #[(.ref a1), (.int p2), (.ref d)] 3)) tg := fun tg kg => k123 tg (by
          show Steps p.tables e below (T122.setTop (mkF m 27 #[.val (.ref a1), .val (.int p2), .val (.ref d)] [(.ref c1), (.ref a1)])) _
          refine Jvm.RoadKit.acmp (g := (mkF m 27 #[.val (.ref a1), .val (.int p2), .val (.ref d)] [(.ref c1), (.ref a1)])) X122 hx rfl rfl rfl (pc0 := 27) (pc' := 36) (same := false) rfl (hb hby d3_27) rfl (decide_eq_false fun q => n12.symm (ha.symm.trans (Value.ref.inj q))) (by decide) (by decide) ?_
          exact kg)
      obtain ⟨T125, X125, e125, st125⟩ := getS2 X122 hx hZ hown (host := "") (Or.inl (hw _ (List.mem_of_getElem? (i := 18) rfl))) Via.refl e122 (S4.ext XE) (g := (mkF m 36 #[.val (.ref a1), .val (.int p2), .val (.ref d)] [])) rfl (hb hby d3_36)
      have k126 : ∀ tg, Steps p.tables e below (T125.setTop (mkF m 39 #[.val (.ref a1), .val (.int p2), .val (.ref d)] [(.ref c4)])) tg → Steps p.tables e below (s₁.setTop (entryFrame m #[(.ref a1), (.int p2), (.ref d)] 3)) tg := fun tg kg => k124 tg (st125 tg kg)
      have hq : own_aft 2 p2 = 4 := by rw [own_aft, if_pos (Or.inl c94)]; rfl
      obtain ⟨fs, hr, hrun, hended, hend⟩ := Stand.leaveW (X125.retabled X125.warmed.wide) (X125.warmed.since 0) (Nat.zero_le _) (v := some (.ref c4)) (fun h => by rw [Bd.returns] at h; cases h)
      refine ⟨_, _, k126 _ ?_, hrun, hended, _, _, rfl, ?_, own_rmono hend (by decide) (by decide)⟩
      · show Steps p.tables e below (T125.setTop (mkF m 39 #[.val (.ref a1), .val (.int p2), .val (.ref d)] [(.ref c4)])) _
        exact retOut X125 hx Bd.returns rfl (Or.inr (Or.inr (Or.inr (Or.inr ⟨rfl, rfl, rfl⟩)))) (hb hby d3_39) hr
      · exact ⟨by rw [hq]; rfl, (fun y hy => Nat.le_trans Z0 (N100 y hy)), (by show Ext h0 T125.heap; rw [e125]; exact own_extR), (by show Lds Z T125.vm T125.heap; rw [e125]; exact hLd.warm (s := s) X125.warmed)⟩
    · have ha : a1 = c3 := ha0
      obtain ⟨T127, X127, e127, st127⟩ := getS2 X100 hx hZ hown (host := "") (Or.inl (hw _ (List.mem_of_getElem? (i := 72) rfl))) Via.refl e100 (S0.ext XE) (g := (mkF m 17 #[.val (.ref a1), .val (.int p2), .val (.ref d)] [(.ref a1)])) rfl (hb hby d3_17)
      have k128 : ∀ tg, Steps p.tables e below (T127.setTop (mkF m 20 #[.val (.ref a1), .val (.int p2), .val (.ref d)] [(.ref c0), (.ref a1)])) tg → Steps p.tables e below (s₁.setTop (entryFrame m #[(.ref a1), (.int p2), (.ref d)] 3)) tg := fun tg kg => k103 tg (st127 tg kg)
      have k129 : ∀ tg, Steps p.tables e below (T127.setTop (mkF m 24 #[.val (.ref a1), .val (.int p2), .val (.ref d)] [(.ref a1)])) tg → Steps p.tables e below (s₁.setTop (entryFrame m #[(.ref a1), (.int p2), (.ref d)] 3)) tg := fun tg kg => k128 tg (by
          show Steps p.tables e below (T127.setTop (mkF m 20 #[.val (.ref a1), .val (.int p2), .val (.ref d)] [(.ref c0), (.ref a1)])) _
          refine Jvm.RoadKit.acmp (g := (mkF m 20 #[.val (.ref a1), .val (.int p2), .val (.ref d)] [(.ref c0), (.ref a1)])) X127 hx rfl rfl rfl (pc0 := 20) (pc' := 23) (same := false) rfl (hb hby d3_20) rfl (decide_eq_false fun q => n03.symm (ha.symm.trans (Value.ref.inj q))) (by decide) (by decide) ?_
          show Steps p.tables e below (T127.setTop (mkF m 23 #[.val (.ref a1), .val (.int p2), .val (.ref d)] [])) _
          refine XS.aloadN X127.here hx rfl (hb hby d3_23) rfl rfl ?_
          exact kg)
      obtain ⟨T130, X130, e130, st130⟩ := getS2 X127 hx hZ hown (host := "") (Or.inl (hw _ (List.mem_of_getElem? (i := 73) rfl))) Via.refl e127 (S1.ext XE) (g := (mkF m 24 #[.val (.ref a1), .val (.int p2), .val (.ref d)] [(.ref a1)])) rfl (hb hby d3_24)
      have k131 : ∀ tg, Steps p.tables e below (T130.setTop (mkF m 27 #[.val (.ref a1), .val (.int p2), .val (.ref d)] [(.ref c1), (.ref a1)])) tg → Steps p.tables e below (s₁.setTop (entryFrame m #[(.ref a1), (.int p2), (.ref d)] 3)) tg := fun tg kg => k129 tg (st130 tg kg)
      have k132 : ∀ tg, Steps p.tables e below (T130.setTop (mkF m 36 #[.val (.ref a1), .val (.int p2), .val (.ref d)] [])) tg → Steps p.tables e below (s₁.setTop (entryFrame m #[(.ref a1), (.int p2), (.ref d)] 3)) tg := fun tg kg => k131 tg (by
          show Steps p.tables e below (T130.setTop (mkF m 27 #[.val (.ref a1), .val (.int p2), .val (.ref d)] [(.ref c1), (.ref a1)])) _
          refine Jvm.RoadKit.acmp (g := (mkF m 27 #[.val (.ref a1), .val (.int p2), .val (.ref d)] [(.ref c1), (.ref a1)])) X130 hx rfl rfl rfl (pc0 := 27) (pc' := 36) (same := false) rfl (hb hby d3_27) rfl (decide_eq_false fun q => n13.symm (ha.symm.trans (Value.ref.inj q))) (by decide) (by decide) ?_
          exact kg)
      obtain ⟨T133, X133, e133, st133⟩ := getS2 X130 hx hZ hown (host := "") (Or.inl (hw _ (List.mem_of_getElem? (i := 18) rfl))) Via.refl e130 (S4.ext XE) (g := (mkF m 36 #[.val (.ref a1), .val (.int p2), .val (.ref d)] [])) rfl (hb hby d3_36)
      have k134 : ∀ tg, Steps p.tables e below (T133.setTop (mkF m 39 #[.val (.ref a1), .val (.int p2), .val (.ref d)] [(.ref c4)])) tg → Steps p.tables e below (s₁.setTop (entryFrame m #[(.ref a1), (.int p2), (.ref d)] 3)) tg := fun tg kg => k132 tg (st133 tg kg)
      have hq : own_aft 3 p2 = 4 := by rw [own_aft, if_pos (Or.inl c94)]; rfl
      obtain ⟨fs, hr, hrun, hended, hend⟩ := Stand.leaveW (X133.retabled X133.warmed.wide) (X133.warmed.since 0) (Nat.zero_le _) (v := some (.ref c4)) (fun h => by rw [Bd.returns] at h; cases h)
      refine ⟨_, _, k134 _ ?_, hrun, hended, _, _, rfl, ?_, own_rmono hend (by decide) (by decide)⟩
      · show Steps p.tables e below (T133.setTop (mkF m 39 #[.val (.ref a1), .val (.int p2), .val (.ref d)] [(.ref c4)])) _
        exact retOut X133 hx Bd.returns rfl (Or.inr (Or.inr (Or.inr (Or.inr ⟨rfl, rfl, rfl⟩)))) (hb hby d3_39) hr
      · exact ⟨by rw [hq]; rfl, (fun y hy => Nat.le_trans Z0 (N100 y hy)), (by show Ext h0 T133.heap; rw [e133]; exact own_extR), (by show Lds Z T133.vm T133.heap; rw [e133]; exact hLd.warm (s := s) X133.warmed)⟩
    · have ha : a1 = c4 := ha0
      obtain ⟨T135, X135, e135, st135⟩ := getS2 X100 hx hZ hown (host := "") (Or.inl (hw _ (List.mem_of_getElem? (i := 72) rfl))) Via.refl e100 (S0.ext XE) (g := (mkF m 17 #[.val (.ref a1), .val (.int p2), .val (.ref d)] [(.ref a1)])) rfl (hb hby d3_17)
      have k136 : ∀ tg, Steps p.tables e below (T135.setTop (mkF m 20 #[.val (.ref a1), .val (.int p2), .val (.ref d)] [(.ref c0), (.ref a1)])) tg → Steps p.tables e below (s₁.setTop (entryFrame m #[(.ref a1), (.int p2), (.ref d)] 3)) tg := fun tg kg => k103 tg (st135 tg kg)
      have k137 : ∀ tg, Steps p.tables e below (T135.setTop (mkF m 24 #[.val (.ref a1), .val (.int p2), .val (.ref d)] [(.ref a1)])) tg → Steps p.tables e below (s₁.setTop (entryFrame m #[(.ref a1), (.int p2), (.ref d)] 3)) tg := fun tg kg => k136 tg (by
          show Steps p.tables e below (T135.setTop (mkF m 20 #[.val (.ref a1), .val (.int p2), .val (.ref d)] [(.ref c0), (.ref a1)])) _
          refine Jvm.RoadKit.acmp (g := (mkF m 20 #[.val (.ref a1), .val (.int p2), .val (.ref d)] [(.ref c0), (.ref a1)])) X135 hx rfl rfl rfl (pc0 := 20) (pc' := 23) (same := false) rfl (hb hby d3_20) rfl (decide_eq_false fun q => n04.symm (ha.symm.trans (Value.ref.inj q))) (by decide) (by decide) ?_
          show Steps p.tables e below (T135.setTop (mkF m 23 #[.val (.ref a1), .val (.int p2), .val (.ref d)] [])) _
          refine XS.aloadN X135.here hx rfl (hb hby d3_23) rfl rfl ?_
          exact kg)
      obtain ⟨T138, X138, e138, st138⟩ := getS2 X135 hx hZ hown (host := "") (Or.inl (hw _ (List.mem_of_getElem? (i := 73) rfl))) Via.refl e135 (S1.ext XE) (g := (mkF m 24 #[.val (.ref a1), .val (.int p2), .val (.ref d)] [(.ref a1)])) rfl (hb hby d3_24)
      have k139 : ∀ tg, Steps p.tables e below (T138.setTop (mkF m 27 #[.val (.ref a1), .val (.int p2), .val (.ref d)] [(.ref c1), (.ref a1)])) tg → Steps p.tables e below (s₁.setTop (entryFrame m #[(.ref a1), (.int p2), (.ref d)] 3)) tg := fun tg kg => k137 tg (st138 tg kg)
      have k140 : ∀ tg, Steps p.tables e below (T138.setTop (mkF m 36 #[.val (.ref a1), .val (.int p2), .val (.ref d)] [])) tg → Steps p.tables e below (s₁.setTop (entryFrame m #[(.ref a1), (.int p2), (.ref d)] 3)) tg := fun tg kg => k139 tg (by
          show Steps p.tables e below (T138.setTop (mkF m 27 #[.val (.ref a1), .val (.int p2), .val (.ref d)] [(.ref c1), (.ref a1)])) _
          refine Jvm.RoadKit.acmp (g := (mkF m 27 #[.val (.ref a1), .val (.int p2), .val (.ref d)] [(.ref c1), (.ref a1)])) X138 hx rfl rfl rfl (pc0 := 27) (pc' := 36) (same := false) rfl (hb hby d3_27) rfl (decide_eq_false fun q => n14.symm (ha.symm.trans (Value.ref.inj q))) (by decide) (by decide) ?_
          exact kg)
      obtain ⟨T141, X141, e141, st141⟩ := getS2 X138 hx hZ hown (host := "") (Or.inl (hw _ (List.mem_of_getElem? (i := 18) rfl))) Via.refl e138 (S4.ext XE) (g := (mkF m 36 #[.val (.ref a1), .val (.int p2), .val (.ref d)] [])) rfl (hb hby d3_36)
      have k142 : ∀ tg, Steps p.tables e below (T141.setTop (mkF m 39 #[.val (.ref a1), .val (.int p2), .val (.ref d)] [(.ref c4)])) tg → Steps p.tables e below (s₁.setTop (entryFrame m #[(.ref a1), (.int p2), (.ref d)] 3)) tg := fun tg kg => k140 tg (st141 tg kg)
      have hq : own_aft 4 p2 = 4 := by rw [own_aft, if_pos (Or.inl c94)]; rfl
      obtain ⟨fs, hr, hrun, hended, hend⟩ := Stand.leaveW (X141.retabled X141.warmed.wide) (X141.warmed.since 0) (Nat.zero_le _) (v := some (.ref c4)) (fun h => by rw [Bd.returns] at h; cases h)
      refine ⟨_, _, k142 _ ?_, hrun, hended, _, _, rfl, ?_, own_rmono hend (by decide) (by decide)⟩
      · show Steps p.tables e below (T141.setTop (mkF m 39 #[.val (.ref a1), .val (.int p2), .val (.ref d)] [(.ref c4)])) _
        exact retOut X141 hx Bd.returns rfl (Or.inr (Or.inr (Or.inr (Or.inr ⟨rfl, rfl, rfl⟩)))) (hb hby d3_39) hr
      · exact ⟨by rw [hq]; rfl, (fun y hy => Nat.le_trans Z0 (N100 y hy)), (by show Ext h0 T141.heap; rw [e141]; exact own_extR), (by show Lds Z T141.vm T141.heap; rw [e141]; exact hLd.warm (s := s) X141.warmed)⟩
  · have k143 : ∀ tg, Steps p.tables e below (T100.setTop (mkF m 8 #[.val (.ref a1), .val (.int p2), .val (.ref d)] [])) tg → Steps p.tables e below (s₁.setTop (entryFrame m #[(.ref a1), (.int p2), (.ref d)] 3)) tg := fun tg kg => k101 tg (by
        show Steps p.tables e below (T100.setTop (mkF m 5 #[.val (.ref a1), .val (.int p2), .val (.ref d)] [(.int (94 : Int32)), (.int p2)])) _
        refine XS.icmpNo X100.here hx rfl (hb hby d3_5) rfl (feq c94).1 ?_
        exact kg)
    have k144 : ∀ tg, Steps p.tables e below (T100.setTop (mkF m 10 #[.val (.ref a1), .val (.int p2), .val (.ref d)] [(.ref d), (.int p2)])) tg → Steps p.tables e below (s₁.setTop (entryFrame m #[(.ref a1), (.int p2), (.ref d)] 3)) tg := fun tg kg => k143 tg (by
        show Steps p.tables e below (T100.setTop (mkF m 8 #[.val (.ref a1), .val (.int p2), .val (.ref d)] [])) _
        refine XS.iloadN X100.here hx rfl (hb hby d3_8) rfl ?_
        show Steps p.tables e below (T100.setTop (mkF m 9 #[.val (.ref a1), .val (.int p2), .val (.ref d)] [(.int p2)])) _
        refine XS.aloadN X100.here hx rfl (hb hby d3_9) rfl rfl ?_
        exact kg)
    obtain ⟨cq145, kq145, q145a, q145b, q145c⟩ := isOf hZ e100 (Ed.ext XE)
    obtain ⟨_, _, ⟨T145, L145, c145, n145⟩, -, X145, ⟨Lc145, hQ145, l145, y145, z145⟩, st145⟩ := X100.virtualBack hx (y := (⟨"com/example/vaxwire/vaxwire/hl7/Delimiters", "subcomponent", "()C"⟩ : MethodName)) (z := (⟨"com/example/vaxwire/vaxwire/hl7/Delimiters", "subcomponent", "()C"⟩ : MethodName)) hown (mvT hZ (hw _ (List.mem_of_getElem? (i := 32) rfl))) (mvT hZ (hw _ (List.mem_of_getElem? (i := 33) rfl))) (notFace_of_selects (args := #[]) (mvT hZ (hw _ (List.mem_of_getElem? (i := 35) rfl)))) (mvT hZ (hw _ (List.mem_of_getElem? (i := 35) rfl))) (mvT hZ (hw _ (List.mem_of_getElem? (i := 34) rfl))) (by decide) (backOf (W := 1) (rm5 l Z a0 hw [] d h0 h0.size Z0r (Fs.ext XE)) hZ (hw _ (List.mem_of_getElem? (i := 36) rfl)) (hw _ (List.mem_of_getElem? (i := 6) rfl)) (by decide) (by decide)) q145a q145c (g := (mkF m 10 #[.val (.ref a1), .val (.int p2), .val (.ref d)] [(.ref d), (.int p2)])) rfl (by rw [hml]; rfl) (Steps.refl _) (argsL := []) (rest := [(.int p2)]) (lenOf own_pd3 rfl) rfl (by show 2 * 0 + _ ≤ _; exact Nat.le_of_eq rfl) (hb hby d3_10) (fun _ _ => ⟨rfl, e100, (by decide : 0 + 0 ≤ _), (by decide : 0 + 0 ≤ _)⟩)
    dsimp only [Pt.U, Pt.locs, Pt.cells, Pt.slots] at X145 l145 y145 z145 st145 hQ145
    obtain rfl : c145 = 0 := y145
    obtain rfl : n145 = 0 := z145
    obtain ⟨rfl, N145q, e145⟩ := hQ145
    have N145 := own_frE l145 (Fr.app N100 N145q)
    have k146 : ∀ tg, Steps p.tables e below (T145.setTop (mkF m 13 #[.val (.ref a1), .val (.int p2), .val (.ref d)] [(.int (38 : Int32)), (.int p2)])) tg → Steps p.tables e below (s₁.setTop (entryFrame m #[(.ref a1), (.int p2), (.ref d)] 3)) tg := fun tg kg => k144 tg (st145.trans kg)
    by_cases c38 : p2 = (38 : Int32)
    · have k147 : ∀ tg, Steps p.tables e below (T145.setTop (mkF m 16 #[.val (.ref a1), .val (.int p2), .val (.ref d)] [])) tg → Steps p.tables e below (s₁.setTop (entryFrame m #[(.ref a1), (.int p2), (.ref d)] 3)) tg := fun tg kg => k146 tg (by
          show Steps p.tables e below (T145.setTop (mkF m 13 #[.val (.ref a1), .val (.int p2), .val (.ref d)] [(.int (38 : Int32)), (.int p2)])) _
          refine XS.icmpNo X145.here hx rfl (hb hby d3_13) rfl (teq c38).2 ?_
          exact kg)
      have k148 : ∀ tg, Steps p.tables e below (T145.setTop (mkF m 17 #[.val (.ref a1), .val (.int p2), .val (.ref d)] [(.ref a1)])) tg → Steps p.tables e below (s₁.setTop (entryFrame m #[(.ref a1), (.int p2), (.ref d)] 3)) tg := fun tg kg => k147 tg (by
          show Steps p.tables e below (T145.setTop (mkF m 16 #[.val (.ref a1), .val (.int p2), .val (.ref d)] [])) _
          refine XS.aloadN X145.here hx rfl (hb hby d3_16) rfl rfl ?_
          exact kg)
      rcases h5 with rfl | rfl | rfl | rfl | rfl
      · have ha : a1 = c0 := ha0
        obtain ⟨T149, X149, e149, st149⟩ := getS2 X145 hx hZ hown (host := "") (Or.inl (hw _ (List.mem_of_getElem? (i := 72) rfl))) Via.refl e145 (S0.ext XE) (g := (mkF m 17 #[.val (.ref a1), .val (.int p2), .val (.ref d)] [(.ref a1)])) rfl (hb hby d3_17)
        have k150 : ∀ tg, Steps p.tables e below (T149.setTop (mkF m 20 #[.val (.ref a1), .val (.int p2), .val (.ref d)] [(.ref c0), (.ref a1)])) tg → Steps p.tables e below (s₁.setTop (entryFrame m #[(.ref a1), (.int p2), (.ref d)] 3)) tg := fun tg kg => k148 tg (st149 tg kg)
        have k151 : ∀ tg, Steps p.tables e below (T149.setTop (mkF m 30 #[.val (.ref a1), .val (.int p2), .val (.ref d)] [])) tg → Steps p.tables e below (s₁.setTop (entryFrame m #[(.ref a1), (.int p2), (.ref d)] 3)) tg := fun tg kg => k150 tg (by
            show Steps p.tables e below (T149.setTop (mkF m 20 #[.val (.ref a1), .val (.int p2), .val (.ref d)] [(.ref c0), (.ref a1)])) _
            refine Jvm.RoadKit.acmp (g := (mkF m 20 #[.val (.ref a1), .val (.int p2), .val (.ref d)] [(.ref c0), (.ref a1)])) X149 hx rfl rfl rfl (pc0 := 20) (pc' := 30) (same := true) rfl (hb hby d3_20) rfl (decide_eq_true (congrArg Value.ref ha)) (by decide) (by decide) ?_
            exact kg)
        obtain ⟨T152, X152, e152, st152⟩ := getS2 X149 hx hZ hown (host := "") (Or.inl (hw _ (List.mem_of_getElem? (i := 73) rfl))) Via.refl e149 (S1.ext XE) (g := (mkF m 30 #[.val (.ref a1), .val (.int p2), .val (.ref d)] [])) rfl (hb hby d3_30)
        have k153 : ∀ tg, Steps p.tables e below (T152.setTop (mkF m 33 #[.val (.ref a1), .val (.int p2), .val (.ref d)] [(.ref c1)])) tg → Steps p.tables e below (s₁.setTop (entryFrame m #[(.ref a1), (.int p2), (.ref d)] 3)) tg := fun tg kg => k151 tg (st152 tg kg)
        have k154 : ∀ tg, Steps p.tables e below (T152.setTop (mkF m 39 #[.val (.ref a1), .val (.int p2), .val (.ref d)] [(.ref c1)])) tg → Steps p.tables e below (s₁.setTop (entryFrame m #[(.ref a1), (.int p2), (.ref d)] 3)) tg := fun tg kg => k153 tg (by
            show Steps p.tables e below (T152.setTop (mkF m 33 #[.val (.ref a1), .val (.int p2), .val (.ref d)] [(.ref c1)])) _
            refine XS.goto X152.here hx rfl (pc0 := 33) (pc' := 39) rfl (hb hby d3_33) (by decide) (by decide) ?_
            exact kg)
        have hq : own_aft 0 p2 = 1 := by rw [own_aft, if_pos (Or.inr c38)]; rfl
        obtain ⟨fs, hr, hrun, hended, hend⟩ := Stand.leaveW (X152.retabled X152.warmed.wide) (X152.warmed.since 0) (Nat.zero_le _) (v := some (.ref c1)) (fun h => by rw [Bd.returns] at h; cases h)
        refine ⟨_, _, k154 _ ?_, hrun, hended, _, _, rfl, ?_, own_rmono hend (by decide) (by decide)⟩
        · show Steps p.tables e below (T152.setTop (mkF m 39 #[.val (.ref a1), .val (.int p2), .val (.ref d)] [(.ref c1)])) _
          exact retOut X152 hx Bd.returns rfl (Or.inr (Or.inr (Or.inr (Or.inr ⟨rfl, rfl, rfl⟩)))) (hb hby d3_39) hr
        · exact ⟨by rw [hq]; rfl, (fun y hy => Nat.le_trans Z0 (N145 y hy)), (by show Ext h0 T152.heap; rw [e152]; exact own_extR), (by show Lds Z T152.vm T152.heap; rw [e152]; exact hLd.warm (s := s) X152.warmed)⟩
      · have ha : a1 = c1 := ha0
        obtain ⟨T155, X155, e155, st155⟩ := getS2 X145 hx hZ hown (host := "") (Or.inl (hw _ (List.mem_of_getElem? (i := 72) rfl))) Via.refl e145 (S0.ext XE) (g := (mkF m 17 #[.val (.ref a1), .val (.int p2), .val (.ref d)] [(.ref a1)])) rfl (hb hby d3_17)
        have k156 : ∀ tg, Steps p.tables e below (T155.setTop (mkF m 20 #[.val (.ref a1), .val (.int p2), .val (.ref d)] [(.ref c0), (.ref a1)])) tg → Steps p.tables e below (s₁.setTop (entryFrame m #[(.ref a1), (.int p2), (.ref d)] 3)) tg := fun tg kg => k148 tg (st155 tg kg)
        have k157 : ∀ tg, Steps p.tables e below (T155.setTop (mkF m 24 #[.val (.ref a1), .val (.int p2), .val (.ref d)] [(.ref a1)])) tg → Steps p.tables e below (s₁.setTop (entryFrame m #[(.ref a1), (.int p2), (.ref d)] 3)) tg := fun tg kg => k156 tg (by
            show Steps p.tables e below (T155.setTop (mkF m 20 #[.val (.ref a1), .val (.int p2), .val (.ref d)] [(.ref c0), (.ref a1)])) _
            refine Jvm.RoadKit.acmp (g := (mkF m 20 #[.val (.ref a1), .val (.int p2), .val (.ref d)] [(.ref c0), (.ref a1)])) X155 hx rfl rfl rfl (pc0 := 20) (pc' := 23) (same := false) rfl (hb hby d3_20) rfl (decide_eq_false fun q => n01.symm (ha.symm.trans (Value.ref.inj q))) (by decide) (by decide) ?_
            show Steps p.tables e below (T155.setTop (mkF m 23 #[.val (.ref a1), .val (.int p2), .val (.ref d)] [])) _
            refine XS.aloadN X155.here hx rfl (hb hby d3_23) rfl rfl ?_
            exact kg)
        obtain ⟨T158, X158, e158, st158⟩ := getS2 X155 hx hZ hown (host := "") (Or.inl (hw _ (List.mem_of_getElem? (i := 73) rfl))) Via.refl e155 (S1.ext XE) (g := (mkF m 24 #[.val (.ref a1), .val (.int p2), .val (.ref d)] [(.ref a1)])) rfl (hb hby d3_24)
        have k159 : ∀ tg, Steps p.tables e below (T158.setTop (mkF m 27 #[.val (.ref a1), .val (.int p2), .val (.ref d)] [(.ref c1), (.ref a1)])) tg → Steps p.tables e below (s₁.setTop (entryFrame m #[(.ref a1), (.int p2), (.ref d)] 3)) tg := fun tg kg => k157 tg (st158 tg kg)
        have k160 : ∀ tg, Steps p.tables e below (T158.setTop (mkF m 30 #[.val (.ref a1), .val (.int p2), .val (.ref d)] [])) tg → Steps p.tables e below (s₁.setTop (entryFrame m #[(.ref a1), (.int p2), (.ref d)] 3)) tg := fun tg kg => k159 tg (by
            show Steps p.tables e below (T158.setTop (mkF m 27 #[.val (.ref a1), .val (.int p2), .val (.ref d)] [(.ref c1), (.ref a1)])) _
            refine Jvm.RoadKit.acmp (g := (mkF m 27 #[.val (.ref a1), .val (.int p2), .val (.ref d)] [(.ref c1), (.ref a1)])) X158 hx rfl rfl rfl (pc0 := 27) (pc' := 30) (same := true) rfl (hb hby d3_27) rfl (decide_eq_true (congrArg Value.ref ha)) (by decide) (by decide) ?_
            exact kg)
        obtain ⟨T161, X161, e161, st161⟩ := getS2 X158 hx hZ hown (host := "") (Or.inl (hw _ (List.mem_of_getElem? (i := 73) rfl))) Via.refl e158 (S1.ext XE) (g := (mkF m 30 #[.val (.ref a1), .val (.int p2), .val (.ref d)] [])) rfl (hb hby d3_30)
        have k162 : ∀ tg, Steps p.tables e below (T161.setTop (mkF m 33 #[.val (.ref a1), .val (.int p2), .val (.ref d)] [(.ref c1)])) tg → Steps p.tables e below (s₁.setTop (entryFrame m #[(.ref a1), (.int p2), (.ref d)] 3)) tg := fun tg kg => k160 tg (st161 tg kg)
        have k163 : ∀ tg, Steps p.tables e below (T161.setTop (mkF m 39 #[.val (.ref a1), .val (.int p2), .val (.ref d)] [(.ref c1)])) tg → Steps p.tables e below (s₁.setTop (entryFrame m #[(.ref a1), (.int p2), (.ref d)] 3)) tg := fun tg kg => k162 tg (by
            show Steps p.tables e below (T161.setTop (mkF m 33 #[.val (.ref a1), .val (.int p2), .val (.ref d)] [(.ref c1)])) _
            refine XS.goto X161.here hx rfl (pc0 := 33) (pc' := 39) rfl (hb hby d3_33) (by decide) (by decide) ?_
            exact kg)
        have hq : own_aft 1 p2 = 1 := by rw [own_aft, if_pos (Or.inr c38)]; rfl
        obtain ⟨fs, hr, hrun, hended, hend⟩ := Stand.leaveW (X161.retabled X161.warmed.wide) (X161.warmed.since 0) (Nat.zero_le _) (v := some (.ref c1)) (fun h => by rw [Bd.returns] at h; cases h)
        refine ⟨_, _, k163 _ ?_, hrun, hended, _, _, rfl, ?_, own_rmono hend (by decide) (by decide)⟩
        · show Steps p.tables e below (T161.setTop (mkF m 39 #[.val (.ref a1), .val (.int p2), .val (.ref d)] [(.ref c1)])) _
          exact retOut X161 hx Bd.returns rfl (Or.inr (Or.inr (Or.inr (Or.inr ⟨rfl, rfl, rfl⟩)))) (hb hby d3_39) hr
        · exact ⟨by rw [hq]; rfl, (fun y hy => Nat.le_trans Z0 (N145 y hy)), (by show Ext h0 T161.heap; rw [e161]; exact own_extR), (by show Lds Z T161.vm T161.heap; rw [e161]; exact hLd.warm (s := s) X161.warmed)⟩
      · have ha : a1 = c2 := ha0
        obtain ⟨T164, X164, e164, st164⟩ := getS2 X145 hx hZ hown (host := "") (Or.inl (hw _ (List.mem_of_getElem? (i := 72) rfl))) Via.refl e145 (S0.ext XE) (g := (mkF m 17 #[.val (.ref a1), .val (.int p2), .val (.ref d)] [(.ref a1)])) rfl (hb hby d3_17)
        have k165 : ∀ tg, Steps p.tables e below (T164.setTop (mkF m 20 #[.val (.ref a1), .val (.int p2), .val (.ref d)] [(.ref c0), (.ref a1)])) tg → Steps p.tables e below (s₁.setTop (entryFrame m #[(.ref a1), (.int p2), (.ref d)] 3)) tg := fun tg kg => k148 tg (st164 tg kg)
        have k166 : ∀ tg, Steps p.tables e below (T164.setTop (mkF m 24 #[.val (.ref a1), .val (.int p2), .val (.ref d)] [(.ref a1)])) tg → Steps p.tables e below (s₁.setTop (entryFrame m #[(.ref a1), (.int p2), (.ref d)] 3)) tg := fun tg kg => k165 tg (by
            show Steps p.tables e below (T164.setTop (mkF m 20 #[.val (.ref a1), .val (.int p2), .val (.ref d)] [(.ref c0), (.ref a1)])) _
            refine Jvm.RoadKit.acmp (g := (mkF m 20 #[.val (.ref a1), .val (.int p2), .val (.ref d)] [(.ref c0), (.ref a1)])) X164 hx rfl rfl rfl (pc0 := 20) (pc' := 23) (same := false) rfl (hb hby d3_20) rfl (decide_eq_false fun q => n02.symm (ha.symm.trans (Value.ref.inj q))) (by decide) (by decide) ?_
            show Steps p.tables e below (T164.setTop (mkF m 23 #[.val (.ref a1), .val (.int p2), .val (.ref d)] [])) _
            refine XS.aloadN X164.here hx rfl (hb hby d3_23) rfl rfl ?_
            exact kg)
        obtain ⟨T167, X167, e167, st167⟩ := getS2 X164 hx hZ hown (host := "") (Or.inl (hw _ (List.mem_of_getElem? (i := 73) rfl))) Via.refl e164 (S1.ext XE) (g := (mkF m 24 #[.val (.ref a1), .val (.int p2), .val (.ref d)] [(.ref a1)])) rfl (hb hby d3_24)
        have k168 : ∀ tg, Steps p.tables e below (T167.setTop (mkF m 27 #[.val (.ref a1), .val (.int p2), .val (.ref d)] [(.ref c1), (.ref a1)])) tg → Steps p.tables e below (s₁.setTop (entryFrame m #[(.ref a1), (.int p2), (.ref d)] 3)) tg := fun tg kg => k166 tg (st167 tg kg)
        have k169 : ∀ tg, Steps p.tables e below (T167.setTop (mkF m 36 #[.val (.ref a1), .val (.int p2), .val (.ref d)] [])) tg → Steps p.tables e below (s₁.setTop (entryFrame m #[(.ref a1), (.int p2), (.ref d)] 3)) tg := fun tg kg => k168 tg (by
            show Steps p.tables e below (T167.setTop (mkF m 27 #[.val (.ref a1), .val (.int p2), .val (.ref d)] [(.ref c1), (.ref a1)])) _
            refine Jvm.RoadKit.acmp (g := (mkF m 27 #[.val (.ref a1), .val (.int p2), .val (.ref d)] [(.ref c1), (.ref a1)])) X167 hx rfl rfl rfl (pc0 := 27) (pc' := 36) (same := false) rfl (hb hby d3_27) rfl (decide_eq_false fun q => n12.symm (ha.symm.trans (Value.ref.inj q))) (by decide) (by decide) ?_
            exact kg)
        obtain ⟨T170, X170, e170, st170⟩ := getS2 X167 hx hZ hown (host := "") (Or.inl (hw _ (List.mem_of_getElem? (i := 18) rfl))) Via.refl e167 (S4.ext XE) (g := (mkF m 36 #[.val (.ref a1), .val (.int p2), .val (.ref d)] [])) rfl (hb hby d3_36)
        have k171 : ∀ tg, Steps p.tables e below (T170.setTop (mkF m 39 #[.val (.ref a1), .val (.int p2), .val (.ref d)] [(.ref c4)])) tg → Steps p.tables e below (s₁.setTop (entryFrame m #[(.ref a1), (.int p2), (.ref d)] 3)) tg := fun tg kg => k169 tg (st170 tg kg)
        have hq : own_aft 2 p2 = 4 := by rw [own_aft, if_pos (Or.inr c38)]; rfl
        obtain ⟨fs, hr, hrun, hended, hend⟩ := Stand.leaveW (X170.retabled X170.warmed.wide) (X170.warmed.since 0) (Nat.zero_le _) (v := some (.ref c4)) (fun h => by rw [Bd.returns] at h; cases h)
        refine ⟨_, _, k171 _ ?_, hrun, hended, _, _, rfl, ?_, own_rmono hend (by decide) (by decide)⟩
        · show Steps p.tables e below (T170.setTop (mkF m 39 #[.val (.ref a1), .val (.int p2), .val (.ref d)] [(.ref c4)])) _
          exact retOut X170 hx Bd.returns rfl (Or.inr (Or.inr (Or.inr (Or.inr ⟨rfl, rfl, rfl⟩)))) (hb hby d3_39) hr
        · exact ⟨by rw [hq]; rfl, (fun y hy => Nat.le_trans Z0 (N145 y hy)), (by show Ext h0 T170.heap; rw [e170]; exact own_extR), (by show Lds Z T170.vm T170.heap; rw [e170]; exact hLd.warm (s := s) X170.warmed)⟩
      · have ha : a1 = c3 := ha0
        obtain ⟨T172, X172, e172, st172⟩ := getS2 X145 hx hZ hown (host := "") (Or.inl (hw _ (List.mem_of_getElem? (i := 72) rfl))) Via.refl e145 (S0.ext XE) (g := (mkF m 17 #[.val (.ref a1), .val (.int p2), .val (.ref d)] [(.ref a1)])) rfl (hb hby d3_17)
        have k173 : ∀ tg, Steps p.tables e below (T172.setTop (mkF m 20 #[.val (.ref a1), .val (.int p2), .val (.ref d)] [(.ref c0), (.ref a1)])) tg → Steps p.tables e below (s₁.setTop (entryFrame m #[(.ref a1), (.int p2), (.ref d)] 3)) tg := fun tg kg => k148 tg (st172 tg kg)
        have k174 : ∀ tg, Steps p.tables e below (T172.setTop (mkF m 24 #[.val (.ref a1), .val (.int p2), .val (.ref d)] [(.ref a1)])) tg → Steps p.tables e below (s₁.setTop (entryFrame m #[(.ref a1), (.int p2), (.ref d)] 3)) tg := fun tg kg => k173 tg (by
            show Steps p.tables e below (T172.setTop (mkF m 20 #[.val (.ref a1), .val (.int p2), .val (.ref d)] [(.ref c0), (.ref a1)])) _
            refine Jvm.RoadKit.acmp (g := (mkF m 20 #[.val (.ref a1), .val (.int p2), .val (.ref d)] [(.ref c0), (.ref a1)])) X172 hx rfl rfl rfl (pc0 := 20) (pc' := 23) (same := false) rfl (hb hby d3_20) rfl (decide_eq_false fun q => n03.symm (ha.symm.trans (Value.ref.inj q))) (by decide) (by decide) ?_
            show Steps p.tables e below (T172.setTop (mkF m 23 #[.val (.ref a1), .val (.int p2), .val (.ref d)] [])) _
            refine XS.aloadN X172.here hx rfl (hb hby d3_23) rfl rfl ?_
            exact kg)
        obtain ⟨T175, X175, e175, st175⟩ := getS2 X172 hx hZ hown (host := "") (Or.inl (hw _ (List.mem_of_getElem? (i := 73) rfl))) Via.refl e172 (S1.ext XE) (g := (mkF m 24 #[.val (.ref a1), .val (.int p2), .val (.ref d)] [(.ref a1)])) rfl (hb hby d3_24)
        have k176 : ∀ tg, Steps p.tables e below (T175.setTop (mkF m 27 #[.val (.ref a1), .val (.int p2), .val (.ref d)] [(.ref c1), (.ref a1)])) tg → Steps p.tables e below (s₁.setTop (entryFrame m #[(.ref a1), (.int p2), (.ref d)] 3)) tg := fun tg kg => k174 tg (st175 tg kg)
        have k177 : ∀ tg, Steps p.tables e below (T175.setTop (mkF m 36 #[.val (.ref a1), .val (.int p2), .val (.ref d)] [])) tg → Steps p.tables e below (s₁.setTop (entryFrame m #[(.ref a1), (.int p2), (.ref d)] 3)) tg := fun tg kg => k176 tg (by
            show Steps p.tables e below (T175.setTop (mkF m 27 #[.val (.ref a1), .val (.int p2), .val (.ref d)] [(.ref c1), (.ref a1)])) _
            refine Jvm.RoadKit.acmp (g := (mkF m 27 #[.val (.ref a1), .val (.int p2), .val (.ref d)] [(.ref c1), (.ref a1)])) X175 hx rfl rfl rfl (pc0 := 27) (pc' := 36) (same := false) rfl (hb hby d3_27) rfl (decide_eq_false fun q => n13.symm (ha.symm.trans (Value.ref.inj q))) (by decide) (by decide) ?_
            exact kg)
        obtain ⟨T178, X178, e178, st178⟩ := getS2 X175 hx hZ hown (host := "") (Or.inl (hw _ (List.mem_of_getElem? (i := 18) rfl))) Via.refl e175 (S4.ext XE) (g := (mkF m 36 #[.val (.ref a1), .val (.int p2), .val (.ref d)] [])) rfl (hb hby d3_36)
        have k179 : ∀ tg, Steps p.tables e below (T178.setTop (mkF m 39 #[.val (.ref a1), .val (.int p2), .val (.ref d)] [(.ref c4)])) tg → Steps p.tables e below (s₁.setTop (entryFrame m #[(.ref a1), (.int p2), (.ref d)] 3)) tg := fun tg kg => k177 tg (st178 tg kg)
        have hq : own_aft 3 p2 = 4 := by rw [own_aft, if_pos (Or.inr c38)]; rfl
        obtain ⟨fs, hr, hrun, hended, hend⟩ := Stand.leaveW (X178.retabled X178.warmed.wide) (X178.warmed.since 0) (Nat.zero_le _) (v := some (.ref c4)) (fun h => by rw [Bd.returns] at h; cases h)
        refine ⟨_, _, k179 _ ?_, hrun, hended, _, _, rfl, ?_, own_rmono hend (by decide) (by decide)⟩
        · show Steps p.tables e below (T178.setTop (mkF m 39 #[.val (.ref a1), .val (.int p2), .val (.ref d)] [(.ref c4)])) _
          exact retOut X178 hx Bd.returns rfl (Or.inr (Or.inr (Or.inr (Or.inr ⟨rfl, rfl, rfl⟩)))) (hb hby d3_39) hr
        · exact ⟨by rw [hq]; rfl, (fun y hy => Nat.le_trans Z0 (N145 y hy)), (by show Ext h0 T178.heap; rw [e178]; exact own_extR), (by show Lds Z T178.vm T178.heap; rw [e178]; exact hLd.warm (s := s) X178.warmed)⟩
      · have ha : a1 = c4 := ha0
        obtain ⟨T180, X180, e180, st180⟩ := getS2 X145 hx hZ hown (host := "") (Or.inl (hw _ (List.mem_of_getElem? (i := 72) rfl))) Via.refl e145 (S0.ext XE) (g := (mkF m 17 #[.val (.ref a1), .val (.int p2), .val (.ref d)] [(.ref a1)])) rfl (hb hby d3_17)
        have k181 : ∀ tg, Steps p.tables e below (T180.setTop (mkF m 20 #[.val (.ref a1), .val (.int p2), .val (.ref d)] [(.ref c0), (.ref a1)])) tg → Steps p.tables e below (s₁.setTop (entryFrame m #[(.ref a1), (.int p2), (.ref d)] 3)) tg := fun tg kg => k148 tg (st180 tg kg)
        have k182 : ∀ tg, Steps p.tables e below (T180.setTop (mkF m 24 #[.val (.ref a1), .val (.int p2), .val (.ref d)] [(.ref a1)])) tg → Steps p.tables e below (s₁.setTop (entryFrame m #[(.ref a1), (.int p2), (.ref d)] 3)) tg := fun tg kg => k181 tg (by
            show Steps p.tables e below (T180.setTop (mkF m 20 #[.val (.ref a1), .val (.int p2), .val (.ref d)] [(.ref c0), (.ref a1)])) _
            refine Jvm.RoadKit.acmp (g := (mkF m 20 #[.val (.ref a1), .val (.int p2), .val (.ref d)] [(.ref c0), (.ref a1)])) X180 hx rfl rfl rfl (pc0 := 20) (pc' := 23) (same := false) rfl (hb hby d3_20) rfl (decide_eq_false fun q => n04.symm (ha.symm.trans (Value.ref.inj q))) (by decide) (by decide) ?_
            show Steps p.tables e below (T180.setTop (mkF m 23 #[.val (.ref a1), .val (.int p2), .val (.ref d)] [])) _
            refine XS.aloadN X180.here hx rfl (hb hby d3_23) rfl rfl ?_
            exact kg)
        obtain ⟨T183, X183, e183, st183⟩ := getS2 X180 hx hZ hown (host := "") (Or.inl (hw _ (List.mem_of_getElem? (i := 73) rfl))) Via.refl e180 (S1.ext XE) (g := (mkF m 24 #[.val (.ref a1), .val (.int p2), .val (.ref d)] [(.ref a1)])) rfl (hb hby d3_24)
        have k184 : ∀ tg, Steps p.tables e below (T183.setTop (mkF m 27 #[.val (.ref a1), .val (.int p2), .val (.ref d)] [(.ref c1), (.ref a1)])) tg → Steps p.tables e below (s₁.setTop (entryFrame m #[(.ref a1), (.int p2), (.ref d)] 3)) tg := fun tg kg => k182 tg (st183 tg kg)
        have k185 : ∀ tg, Steps p.tables e below (T183.setTop (mkF m 36 #[.val (.ref a1), .val (.int p2), .val (.ref d)] [])) tg → Steps p.tables e below (s₁.setTop (entryFrame m #[(.ref a1), (.int p2), (.ref d)] 3)) tg := fun tg kg => k184 tg (by
            show Steps p.tables e below (T183.setTop (mkF m 27 #[.val (.ref a1), .val (.int p2), .val (.ref d)] [(.ref c1), (.ref a1)])) _
            refine Jvm.RoadKit.acmp (g := (mkF m 27 #[.val (.ref a1), .val (.int p2), .val (.ref d)] [(.ref c1), (.ref a1)])) X183 hx rfl rfl rfl (pc0 := 27) (pc' := 36) (same := false) rfl (hb hby d3_27) rfl (decide_eq_false fun q => n14.symm (ha.symm.trans (Value.ref.inj q))) (by decide) (by decide) ?_
            exact kg)
        obtain ⟨T186, X186, e186, st186⟩ := getS2 X183 hx hZ hown (host := "") (Or.inl (hw _ (List.mem_of_getElem? (i := 18) rfl))) Via.refl e183 (S4.ext XE) (g := (mkF m 36 #[.val (.ref a1), .val (.int p2), .val (.ref d)] [])) rfl (hb hby d3_36)
        have k187 : ∀ tg, Steps p.tables e below (T186.setTop (mkF m 39 #[.val (.ref a1), .val (.int p2), .val (.ref d)] [(.ref c4)])) tg → Steps p.tables e below (s₁.setTop (entryFrame m #[(.ref a1), (.int p2), (.ref d)] 3)) tg := fun tg kg => k185 tg (st186 tg kg)
        have hq : own_aft 4 p2 = 4 := by rw [own_aft, if_pos (Or.inr c38)]; rfl
        obtain ⟨fs, hr, hrun, hended, hend⟩ := Stand.leaveW (X186.retabled X186.warmed.wide) (X186.warmed.since 0) (Nat.zero_le _) (v := some (.ref c4)) (fun h => by rw [Bd.returns] at h; cases h)
        refine ⟨_, _, k187 _ ?_, hrun, hended, _, _, rfl, ?_, own_rmono hend (by decide) (by decide)⟩
        · show Steps p.tables e below (T186.setTop (mkF m 39 #[.val (.ref a1), .val (.int p2), .val (.ref d)] [(.ref c4)])) _
          exact retOut X186 hx Bd.returns rfl (Or.inr (Or.inr (Or.inr (Or.inr ⟨rfl, rfl, rfl⟩)))) (hb hby d3_39) hr
        · exact ⟨by rw [hq]; rfl, (fun y hy => Nat.le_trans Z0 (N145 y hy)), (by show Ext h0 T186.heap; rw [e186]; exact own_extR), (by show Lds Z T186.vm T186.heap; rw [e186]; exact hLd.warm (s := s) X186.warmed)⟩
    · have hns : ¬ (p2 = 94 ∨ p2 = 38) := fun q => q.elim c94 c38
      have k188 : ∀ tg, Steps p.tables e below (T145.setTop (mkF m 40 #[.val (.ref a1), .val (.int p2), .val (.ref d)] [])) tg → Steps p.tables e below (s₁.setTop (entryFrame m #[(.ref a1), (.int p2), (.ref d)] 3)) tg := fun tg kg => k146 tg (by
          show Steps p.tables e below (T145.setTop (mkF m 13 #[.val (.ref a1), .val (.int p2), .val (.ref d)] [(.int (38 : Int32)), (.int p2)])) _
          refine XS.icmpYes X145.here hx rfl (pc0 := 13) (pc' := 40) rfl (hb hby d3_13) rfl (feq c38).2 (by decide) (by decide) ?_
          exact kg)
      have k189 : ∀ tg, Steps p.tables e below (T145.setTop (mkF m 41 #[.val (.ref a1), .val (.int p2), .val (.ref d)] [(.int p2)])) tg → Steps p.tables e below (s₁.setTop (entryFrame m #[(.ref a1), (.int p2), (.ref d)] 3)) tg := fun tg kg => k188 tg (by
          show Steps p.tables e below (T145.setTop (mkF m 40 #[.val (.ref a1), .val (.int p2), .val (.ref d)] [])) _
          refine XS.iloadN X145.here hx rfl (hb hby d3_40) rfl ?_
          exact kg)
      have hs0 : s.heap = h0 := hh
      obtain ⟨as, bs, T190, h190, ks, X190, e190, E190, hS190, hZ190, ho190, Lt, Es, Cc, Cv, Va, st190⟩ := own_ld X145 hx hZ hw hown e145 hs0 N145 XE hLd hH hcw (g := (mkF m 41 #[.val (.ref a1), .val (.int p2), .val (.ref d)] [(.int p2)])) rfl (hb hby d3_41) (by decide) (by decide)
      have Vb := own_av Va
      have XE2 := own_extT XE E190
      have hZ : Z.Warmed39 (s.setVm T190.vm).vm := hZ190
      have hown : (s.setVm T190.vm).vm.findClass "com/example/vaxwire/vaxwire/hl7/Repetition$Content" = some m.cls := ho190
      have Z2 : h0.size ≤ h190.size := E190.1
      have k191 : ∀ tg, Steps p.tables e below (T190.setTop (mkF m 43 #[.val (.ref a1), .val (.int p2), .val (.ref d)] [(.ref as), (.int p2)])) tg → Steps p.tables e below (s₁.setTop (entryFrame m #[(.ref a1), (.int p2), (.ref d)] 3)) tg := fun tg kg => k189 tg (st190 tg kg)
      have k192 : ∀ tg, Steps p.tables e below (T190.setTop (mkF m 44 #[.val (.ref a1), .val (.int p2), .val (.ref d)] [(.int (0 : Int32)), (.ref as), (.int p2)])) tg → Steps p.tables e below (s₁.setTop (entryFrame m #[(.ref a1), (.int p2), (.ref d)] 3)) tg := fun tg kg => k191 tg (by
          show Steps p.tables e below (T190.setTop (mkF m 43 #[.val (.ref a1), .val (.int p2), .val (.ref d)] [(.ref as), (.int p2)])) _
          refine XS.iconst X190.here hx rfl (hb hby d3_43) ?_
          exact kg)
      obtain ⟨cq193, kq193, q193a, q193b, q193c⟩ := isOf hZ e190 Es
      obtain ⟨_, _, ⟨T193, L193, c193, n193⟩, -, X193, ⟨Lc193, hQ193, l193, y193, z193⟩, st193⟩ := X190.virtualBack hx (y := (⟨"java/lang/String", "charAt", "(I)C"⟩ : MethodName)) (z := (⟨"java/lang/String", "charAt", "(I)C"⟩ : MethodName)) hown (mvT hZ (hw _ (List.mem_of_getElem? (i := 47) rfl))) (mvT hZ (hw _ (List.mem_of_getElem? (i := 48) rfl))) (notFace_of_selects (args := #[]) (mvT hZ (hw _ (List.mem_of_getElem? (i := 50) rfl)))) (mvT hZ (hw _ (List.mem_of_getElem? (i := 50) rfl))) (mvT hZ (hw _ (List.mem_of_getElem? (i := 49) rfl))) (by decide) (backOf (W := 1) (rm6 l Z a0 hw [] as (0 : Int32) bs 0 G1 G3 h190 h0.size Z2 (O2.ext XE2) P1 (O4.ext XE2) r3 (by decide) (by decide) Es Cc Cv Vb) hZ (hw _ (List.mem_of_getElem? (i := 51) rfl)) (hw _ (List.mem_of_getElem? (i := 40) rfl)) (by decide) (by decide)) q193a q193c (g := (mkF m 44 #[.val (.ref a1), .val (.int p2), .val (.ref d)] [(.int (0 : Int32)), (.ref as), (.int p2)])) rfl (by rw [hml]; rfl) (Steps.refl _) (argsL := [(.int (0 : Int32))]) (rest := [(.int p2)]) (lenOf own_pd0 rfl) rfl (by show 2 * 0 + _ ≤ _; exact Nat.le_of_eq rfl) (hb hby d3_44) (fun _ _ => ⟨rfl, e190, (by decide : 2 + 0 ≤ _), (by decide : 12 + 0 ≤ _)⟩)
      dsimp only [Pt.U, Pt.locs, Pt.cells, Pt.slots] at X193 l193 y193 z193 st193 hQ193
      obtain rfl : c193 = 2 := y193
      obtain rfl : n193 = 12 := z193
      obtain ⟨rfl, N193q, e193⟩ := hQ193
      have N193 := own_frE l193 (Fr.app N145 N193q)
      have k194 : ∀ tg, Steps p.tables e below (T193.setTop (mkF m 47 #[.val (.ref a1), .val (.int p2), .val (.ref d)] [(.int (34 : Int32)), (.int p2)])) tg → Steps p.tables e below (s₁.setTop (entryFrame m #[(.ref a1), (.int p2), (.ref d)] 3)) tg := fun tg kg => k192 tg (st193.trans kg)
      by_cases c34 : p2 = (34 : Int32)
      · have k195 : ∀ tg, Steps p.tables e below (T193.setTop (mkF m 50 #[.val (.ref a1), .val (.int p2), .val (.ref d)] [])) tg → Steps p.tables e below (s₁.setTop (entryFrame m #[(.ref a1), (.int p2), (.ref d)] 3)) tg := fun tg kg => k194 tg (by
            show Steps p.tables e below (T193.setTop (mkF m 47 #[.val (.ref a1), .val (.int p2), .val (.ref d)] [(.int (34 : Int32)), (.int p2)])) _
            refine XS.icmpNo X193.here hx rfl (hb hby d3_47) rfl (teq c34).2 ?_
            exact kg)
        have k196 : ∀ tg, Steps p.tables e below (T193.setTop (mkF m 51 #[.val (.ref a1), .val (.int p2), .val (.ref d)] [(.ref a1)])) tg → Steps p.tables e below (s₁.setTop (entryFrame m #[(.ref a1), (.int p2), (.ref d)] 3)) tg := fun tg kg => k195 tg (by
            show Steps p.tables e below (T193.setTop (mkF m 50 #[.val (.ref a1), .val (.int p2), .val (.ref d)] [])) _
            refine XS.aloadN X193.here hx rfl (hb hby d3_50) rfl rfl ?_
            exact kg)
        obtain ⟨T197, X197, e197, st197⟩ := getS2 X193 hx hZ hown (host := "") (Or.inl (hw _ (List.mem_of_getElem? (i := 72) rfl))) Via.refl e193 (S0.ext XE2) (g := (mkF m 51 #[.val (.ref a1), .val (.int p2), .val (.ref d)] [(.ref a1)])) rfl (hb hby d3_51)
        have k198 : ∀ tg, Steps p.tables e below (T197.setTop (mkF m 54 #[.val (.ref a1), .val (.int p2), .val (.ref d)] [(.ref c0), (.ref a1)])) tg → Steps p.tables e below (s₁.setTop (entryFrame m #[(.ref a1), (.int p2), (.ref d)] 3)) tg := fun tg kg => k196 tg (st197 tg kg)
        by_cases h0s : st = 0
        · have ha : a1 = c0 := by rw [ha0, h0s]; rfl
          have k199 : ∀ tg, Steps p.tables e below (T197.setTop (mkF m 57 #[.val (.ref a1), .val (.int p2), .val (.ref d)] [])) tg → Steps p.tables e below (s₁.setTop (entryFrame m #[(.ref a1), (.int p2), (.ref d)] 3)) tg := fun tg kg => k198 tg (by
              show Steps p.tables e below (T197.setTop (mkF m 54 #[.val (.ref a1), .val (.int p2), .val (.ref d)] [(.ref c0), (.ref a1)])) _
              refine Jvm.RoadKit.acmp (g := (mkF m 54 #[.val (.ref a1), .val (.int p2), .val (.ref d)] [(.ref c0), (.ref a1)])) X197 hx rfl rfl rfl (pc0 := 54) (pc' := 57) (same := true) rfl (hb hby d3_54) rfl (decide_eq_true (congrArg Value.ref ha)) (by decide) (by decide) ?_
              exact kg)
          obtain ⟨T200, X200, e200, st200⟩ := getS2 X197 hx hZ hown (host := "") (Or.inl (hw _ (List.mem_of_getElem? (i := 16) rfl))) Via.refl e197 (S2.ext XE2) (g := (mkF m 57 #[.val (.ref a1), .val (.int p2), .val (.ref d)] [])) rfl (hb hby d3_57)
          have k201 : ∀ tg, Steps p.tables e below (T200.setTop (mkF m 60 #[.val (.ref a1), .val (.int p2), .val (.ref d)] [(.ref c2)])) tg → Steps p.tables e below (s₁.setTop (entryFrame m #[(.ref a1), (.int p2), (.ref d)] 3)) tg := fun tg kg => k199 tg (st200 tg kg)
          have hq : own_aft st p2 = 2 := by rw [own_aft, if_neg hns, if_pos ⟨c34, h0s⟩]
          obtain ⟨fs, hr, hrun, hended, hend⟩ := Stand.leaveW X200 hS190 (by rw [e200]; exact Nat.le_refl _) (v := some (.ref c2)) (fun h => by rw [Bd.returns] at h; cases h)
          refine ⟨_, _, k201 _ ?_, hrun, hended, _, _, rfl, ?_, own_rmono hend (by decide) (by decide)⟩
          · show Steps p.tables e below (T200.setTop (mkF m 60 #[.val (.ref a1), .val (.int p2), .val (.ref d)] [(.ref c2)])) _
            exact retOut X200 hx Bd.returns rfl (Or.inr (Or.inr (Or.inr (Or.inr ⟨rfl, rfl, rfl⟩)))) (hb hby d3_60) hr
          · exact ⟨by rw [hq]; rfl, (fun y hy => Nat.le_trans Z0 (N193 y hy)), (by show Ext h0 T200.heap; rw [e200]; exact E190), (by show Lds Z T200.vm T200.heap; rw [e200]; exact Or.inr ⟨as, bs, ks, Lit.stays (s := s) (vm0 := T190.vm) Lt X200.warmed.wide, Es, Cc, Cv, Va⟩)⟩
        · have ha : ¬ a1 = c0 := by
            rcases h5 with q | q | q | q | q <;> rw [ha0, q]
            · exact absurd q h0s
            · exact n01.symm
            · exact n02.symm
            · exact n03.symm
            · exact n04.symm
          have k202 : ∀ tg, Steps p.tables e below (T197.setTop (mkF m 61 #[.val (.ref a1), .val (.int p2), .val (.ref d)] [])) tg → Steps p.tables e below (s₁.setTop (entryFrame m #[(.ref a1), (.int p2), (.ref d)] 3)) tg := fun tg kg => k198 tg (by
              show Steps p.tables e below (T197.setTop (mkF m 54 #[.val (.ref a1), .val (.int p2), .val (.ref d)] [(.ref c0), (.ref a1)])) _
              refine Jvm.RoadKit.acmp (g := (mkF m 54 #[.val (.ref a1), .val (.int p2), .val (.ref d)] [(.ref c0), (.ref a1)])) X197 hx rfl rfl rfl (pc0 := 54) (pc' := 61) (same := false) rfl (hb hby d3_54) rfl (decide_eq_false fun q => ha (Value.ref.inj q)) (by decide) (by decide) ?_
              exact kg)
          have k203 : ∀ tg, Steps p.tables e below (T197.setTop (mkF m 62 #[.val (.ref a1), .val (.int p2), .val (.ref d)] [(.int p2)])) tg → Steps p.tables e below (s₁.setTop (entryFrame m #[(.ref a1), (.int p2), (.ref d)] 3)) tg := fun tg kg => k202 tg (by
              show Steps p.tables e below (T197.setTop (mkF m 61 #[.val (.ref a1), .val (.int p2), .val (.ref d)] [])) _
              refine XS.iloadN X197.here hx rfl (hb hby d3_61) rfl ?_
              exact kg)
          have k204 : ∀ tg, Steps p.tables e below (T197.setTop (mkF m 64 #[.val (.ref a1), .val (.int p2), .val (.ref d)] [(.ref as), (.int p2)])) tg → Steps p.tables e below (s₁.setTop (entryFrame m #[(.ref a1), (.int p2), (.ref d)] 3)) tg := fun tg kg => k203 tg (ldcAgain (s := s) (vm0 := T190.vm) X197 hx hZ hown (hw _ (List.mem_of_getElem? (i := 39) rfl)) Lt (g := (mkF m 62 #[.val (.ref a1), .val (.int p2), .val (.ref d)] [(.int p2)])) rfl (hb hby d3_62) tg kg)
          have k205 : ∀ tg, Steps p.tables e below (T197.setTop (mkF m 65 #[.val (.ref a1), .val (.int p2), .val (.ref d)] [(.int (1 : Int32)), (.ref as), (.int p2)])) tg → Steps p.tables e below (s₁.setTop (entryFrame m #[(.ref a1), (.int p2), (.ref d)] 3)) tg := fun tg kg => k204 tg (by
              show Steps p.tables e below (T197.setTop (mkF m 64 #[.val (.ref a1), .val (.int p2), .val (.ref d)] [(.ref as), (.int p2)])) _
              refine XS.iconst X197.here hx rfl (hb hby d3_64) ?_
              exact kg)
          obtain ⟨cq206, kq206, q206a, q206b, q206c⟩ := isOf hZ e197 Es
          obtain ⟨_, _, ⟨T206, L206, c206, n206⟩, -, X206, ⟨Lc206, hQ206, l206, y206, z206⟩, st206⟩ := X197.virtualBack hx (y := (⟨"java/lang/String", "charAt", "(I)C"⟩ : MethodName)) (z := (⟨"java/lang/String", "charAt", "(I)C"⟩ : MethodName)) hown (mvT hZ (hw _ (List.mem_of_getElem? (i := 47) rfl))) (mvT hZ (hw _ (List.mem_of_getElem? (i := 48) rfl))) (notFace_of_selects (args := #[]) (mvT hZ (hw _ (List.mem_of_getElem? (i := 50) rfl)))) (mvT hZ (hw _ (List.mem_of_getElem? (i := 50) rfl))) (mvT hZ (hw _ (List.mem_of_getElem? (i := 49) rfl))) (by decide) (backOf (W := 1) (rm6 l Z a0 hw [] as (1 : Int32) bs 1 G1 G3 h190 h0.size Z2 (O2.ext XE2) P1 (O4.ext XE2) r3 (by decide) (by decide) Es Cc Cv Vb) hZ (hw _ (List.mem_of_getElem? (i := 51) rfl)) (hw _ (List.mem_of_getElem? (i := 40) rfl)) (by decide) (by decide)) q206a q206c (g := (mkF m 65 #[.val (.ref a1), .val (.int p2), .val (.ref d)] [(.int (1 : Int32)), (.ref as), (.int p2)])) rfl (by rw [hml]; rfl) (Steps.refl _) (argsL := [(.int (1 : Int32))]) (rest := [(.int p2)]) (lenOf own_pd0 rfl) rfl (by show 2 * 0 + _ ≤ _; exact Nat.le_of_eq rfl) (hb hby d3_65) (fun _ _ => ⟨rfl, e197, (by decide : 2 + 0 ≤ _), (by decide : 12 + 0 ≤ _)⟩)
          dsimp only [Pt.U, Pt.locs, Pt.cells, Pt.slots] at X206 l206 y206 z206 st206 hQ206
          obtain rfl : c206 = 2 := y206
          obtain rfl : n206 = 12 := z206
          obtain ⟨rfl, N206q, e206⟩ := hQ206
          have N206 := own_frE l206 (Fr.app N193 N206q)
          have k207 : ∀ tg, Steps p.tables e below (T206.setTop (mkF m 68 #[.val (.ref a1), .val (.int p2), .val (.ref d)] [(.int (34 : Int32)), (.int p2)])) tg → Steps p.tables e below (s₁.setTop (entryFrame m #[(.ref a1), (.int p2), (.ref d)] 3)) tg := fun tg kg => k205 tg (st206.trans kg)
          have k208 : ∀ tg, Steps p.tables e below (T206.setTop (mkF m 72 #[.val (.ref a1), .val (.int p2), .val (.ref d)] [(.ref a1)])) tg → Steps p.tables e below (s₁.setTop (entryFrame m #[(.ref a1), (.int p2), (.ref d)] 3)) tg := fun tg kg => k207 tg (by
              show Steps p.tables e below (T206.setTop (mkF m 68 #[.val (.ref a1), .val (.int p2), .val (.ref d)] [(.int (34 : Int32)), (.int p2)])) _
              refine XS.icmpNo X206.here hx rfl (hb hby d3_68) rfl (teq c34).2 ?_
              show Steps p.tables e below (T206.setTop (mkF m 71 #[.val (.ref a1), .val (.int p2), .val (.ref d)] [])) _
              refine XS.aloadN X206.here hx rfl (hb hby d3_71) rfl rfl ?_
              exact kg)
          obtain ⟨T209, X209, e209, st209⟩ := getS2 X206 hx hZ hown (host := "") (Or.inl (hw _ (List.mem_of_getElem? (i := 16) rfl))) Via.refl e206 (S2.ext XE2) (g := (mkF m 72 #[.val (.ref a1), .val (.int p2), .val (.ref d)] [(.ref a1)])) rfl (hb hby d3_72)
          have k210 : ∀ tg, Steps p.tables e below (T209.setTop (mkF m 75 #[.val (.ref a1), .val (.int p2), .val (.ref d)] [(.ref c2), (.ref a1)])) tg → Steps p.tables e below (s₁.setTop (entryFrame m #[(.ref a1), (.int p2), (.ref d)] 3)) tg := fun tg kg => k208 tg (st209 tg kg)
          by_cases h2 : st = 2
          · have ha : a1 = c2 := by rw [ha0, h2]; rfl
            have k211 : ∀ tg, Steps p.tables e below (T209.setTop (mkF m 78 #[.val (.ref a1), .val (.int p2), .val (.ref d)] [])) tg → Steps p.tables e below (s₁.setTop (entryFrame m #[(.ref a1), (.int p2), (.ref d)] 3)) tg := fun tg kg => k210 tg (by
                show Steps p.tables e below (T209.setTop (mkF m 75 #[.val (.ref a1), .val (.int p2), .val (.ref d)] [(.ref c2), (.ref a1)])) _
                refine Jvm.RoadKit.acmp (g := (mkF m 75 #[.val (.ref a1), .val (.int p2), .val (.ref d)] [(.ref c2), (.ref a1)])) X209 hx rfl rfl rfl (pc0 := 75) (pc' := 78) (same := true) rfl (hb hby d3_75) rfl (decide_eq_true (congrArg Value.ref ha)) (by decide) (by decide) ?_
                exact kg)
            obtain ⟨T212, X212, e212, st212⟩ := getS2 X209 hx hZ hown (host := "") (Or.inl (hw _ (List.mem_of_getElem? (i := 78) rfl))) Via.refl e209 (S3.ext XE2) (g := (mkF m 78 #[.val (.ref a1), .val (.int p2), .val (.ref d)] [])) rfl (hb hby d3_78)
            have k213 : ∀ tg, Steps p.tables e below (T212.setTop (mkF m 81 #[.val (.ref a1), .val (.int p2), .val (.ref d)] [(.ref c3)])) tg → Steps p.tables e below (s₁.setTop (entryFrame m #[(.ref a1), (.int p2), (.ref d)] 3)) tg := fun tg kg => k211 tg (st212 tg kg)
            have hq : own_aft st p2 = 3 := by rw [own_aft, if_neg hns, if_neg (fun q => h0s q.2), if_pos ⟨c34, h2⟩]
            obtain ⟨fs, hr, hrun, hended, hend⟩ := Stand.leaveW X212 hS190 (by rw [e212]; exact Nat.le_refl _) (v := some (.ref c3)) (fun h => by rw [Bd.returns] at h; cases h)
            refine ⟨_, _, k213 _ ?_, hrun, hended, _, _, rfl, ?_, own_rmono hend (by decide) (by decide)⟩
            · show Steps p.tables e below (T212.setTop (mkF m 81 #[.val (.ref a1), .val (.int p2), .val (.ref d)] [(.ref c3)])) _
              exact retOut X212 hx Bd.returns rfl (Or.inr (Or.inr (Or.inr (Or.inr ⟨rfl, rfl, rfl⟩)))) (hb hby d3_81) hr
            · exact ⟨by rw [hq]; rfl, (fun y hy => Nat.le_trans Z0 (N206 y hy)), (by show Ext h0 T212.heap; rw [e212]; exact E190), (by show Lds Z T212.vm T212.heap; rw [e212]; exact Or.inr ⟨as, bs, ks, Lit.stays (s := s) (vm0 := T190.vm) Lt X212.warmed.wide, Es, Cc, Cv, Va⟩)⟩
          · have ha : ¬ a1 = c2 := by
              rcases h5 with q | q | q | q | q <;> rw [ha0, q]
              · exact n02
              · exact n12
              · exact absurd q h2
              · exact n23.symm
              · exact n24.symm
            have k214 : ∀ tg, Steps p.tables e below (T209.setTop (mkF m 82 #[.val (.ref a1), .val (.int p2), .val (.ref d)] [])) tg → Steps p.tables e below (s₁.setTop (entryFrame m #[(.ref a1), (.int p2), (.ref d)] 3)) tg := fun tg kg => k210 tg (by
                show Steps p.tables e below (T209.setTop (mkF m 75 #[.val (.ref a1), .val (.int p2), .val (.ref d)] [(.ref c2), (.ref a1)])) _
                refine Jvm.RoadKit.acmp (g := (mkF m 75 #[.val (.ref a1), .val (.int p2), .val (.ref d)] [(.ref c2), (.ref a1)])) X209 hx rfl rfl rfl (pc0 := 75) (pc' := 82) (same := false) rfl (hb hby d3_75) rfl (decide_eq_false fun q => ha (Value.ref.inj q)) (by decide) (by decide) ?_
                exact kg)
            obtain ⟨T215, X215, e215, st215⟩ := getS2 X209 hx hZ hown (host := "") (Or.inl (hw _ (List.mem_of_getElem? (i := 18) rfl))) Via.refl e209 (S4.ext XE2) (g := (mkF m 82 #[.val (.ref a1), .val (.int p2), .val (.ref d)] [])) rfl (hb hby d3_82)
            have k216 : ∀ tg, Steps p.tables e below (T215.setTop (mkF m 85 #[.val (.ref a1), .val (.int p2), .val (.ref d)] [(.ref c4)])) tg → Steps p.tables e below (s₁.setTop (entryFrame m #[(.ref a1), (.int p2), (.ref d)] 3)) tg := fun tg kg => k214 tg (st215 tg kg)
            have hq : own_aft st p2 = 4 := by rw [own_aft, if_neg hns, if_neg (fun q => h0s q.2), if_neg (fun q => h2 q.2)]
            obtain ⟨fs, hr, hrun, hended, hend⟩ := Stand.leaveW X215 hS190 (by rw [e215]; exact Nat.le_refl _) (v := some (.ref c4)) (fun h => by rw [Bd.returns] at h; cases h)
            refine ⟨_, _, k216 _ ?_, hrun, hended, _, _, rfl, ?_, own_rmono hend (by decide) (by decide)⟩
            · show Steps p.tables e below (T215.setTop (mkF m 85 #[.val (.ref a1), .val (.int p2), .val (.ref d)] [(.ref c4)])) _
              exact retOut X215 hx Bd.returns rfl (Or.inr (Or.inr (Or.inr (Or.inr ⟨rfl, rfl, rfl⟩)))) (hb hby d3_85) hr
            · exact ⟨by rw [hq]; rfl, (fun y hy => Nat.le_trans Z0 (N206 y hy)), (by show Ext h0 T215.heap; rw [e215]; exact E190), (by show Lds Z T215.vm T215.heap; rw [e215]; exact Or.inr ⟨as, bs, ks, Lit.stays (s := s) (vm0 := T190.vm) Lt X215.warmed.wide, Es, Cc, Cv, Va⟩)⟩
      · have k217 : ∀ tg, Steps p.tables e below (T193.setTop (mkF m 61 #[.val (.ref a1), .val (.int p2), .val (.ref d)] [])) tg → Steps p.tables e below (s₁.setTop (entryFrame m #[(.ref a1), (.int p2), (.ref d)] 3)) tg := fun tg kg => k194 tg (by
            show Steps p.tables e below (T193.setTop (mkF m 47 #[.val (.ref a1), .val (.int p2), .val (.ref d)] [(.int (34 : Int32)), (.int p2)])) _
            refine XS.icmpYes X193.here hx rfl (pc0 := 47) (pc' := 61) rfl (hb hby d3_47) rfl (feq c34).2 (by decide) (by decide) ?_
            exact kg)
        have k218 : ∀ tg, Steps p.tables e below (T193.setTop (mkF m 62 #[.val (.ref a1), .val (.int p2), .val (.ref d)] [(.int p2)])) tg → Steps p.tables e below (s₁.setTop (entryFrame m #[(.ref a1), (.int p2), (.ref d)] 3)) tg := fun tg kg => k217 tg (by
            show Steps p.tables e below (T193.setTop (mkF m 61 #[.val (.ref a1), .val (.int p2), .val (.ref d)] [])) _
            refine XS.iloadN X193.here hx rfl (hb hby d3_61) rfl ?_
            exact kg)
        have k219 : ∀ tg, Steps p.tables e below (T193.setTop (mkF m 64 #[.val (.ref a1), .val (.int p2), .val (.ref d)] [(.ref as), (.int p2)])) tg → Steps p.tables e below (s₁.setTop (entryFrame m #[(.ref a1), (.int p2), (.ref d)] 3)) tg := fun tg kg => k218 tg (ldcAgain (s := s) (vm0 := T190.vm) X193 hx hZ hown (hw _ (List.mem_of_getElem? (i := 39) rfl)) Lt (g := (mkF m 62 #[.val (.ref a1), .val (.int p2), .val (.ref d)] [(.int p2)])) rfl (hb hby d3_62) tg kg)
        have k220 : ∀ tg, Steps p.tables e below (T193.setTop (mkF m 65 #[.val (.ref a1), .val (.int p2), .val (.ref d)] [(.int (1 : Int32)), (.ref as), (.int p2)])) tg → Steps p.tables e below (s₁.setTop (entryFrame m #[(.ref a1), (.int p2), (.ref d)] 3)) tg := fun tg kg => k219 tg (by
            show Steps p.tables e below (T193.setTop (mkF m 64 #[.val (.ref a1), .val (.int p2), .val (.ref d)] [(.ref as), (.int p2)])) _
            refine XS.iconst X193.here hx rfl (hb hby d3_64) ?_
            exact kg)
        obtain ⟨cq221, kq221, q221a, q221b, q221c⟩ := isOf hZ e193 Es
        obtain ⟨_, _, ⟨T221, L221, c221, n221⟩, -, X221, ⟨Lc221, hQ221, l221, y221, z221⟩, st221⟩ := X193.virtualBack hx (y := (⟨"java/lang/String", "charAt", "(I)C"⟩ : MethodName)) (z := (⟨"java/lang/String", "charAt", "(I)C"⟩ : MethodName)) hown (mvT hZ (hw _ (List.mem_of_getElem? (i := 47) rfl))) (mvT hZ (hw _ (List.mem_of_getElem? (i := 48) rfl))) (notFace_of_selects (args := #[]) (mvT hZ (hw _ (List.mem_of_getElem? (i := 50) rfl)))) (mvT hZ (hw _ (List.mem_of_getElem? (i := 50) rfl))) (mvT hZ (hw _ (List.mem_of_getElem? (i := 49) rfl))) (by decide) (backOf (W := 1) (rm6 l Z a0 hw [] as (1 : Int32) bs 1 G1 G3 h190 h0.size Z2 (O2.ext XE2) P1 (O4.ext XE2) r3 (by decide) (by decide) Es Cc Cv Vb) hZ (hw _ (List.mem_of_getElem? (i := 51) rfl)) (hw _ (List.mem_of_getElem? (i := 40) rfl)) (by decide) (by decide)) q221a q221c (g := (mkF m 65 #[.val (.ref a1), .val (.int p2), .val (.ref d)] [(.int (1 : Int32)), (.ref as), (.int p2)])) rfl (by rw [hml]; rfl) (Steps.refl _) (argsL := [(.int (1 : Int32))]) (rest := [(.int p2)]) (lenOf own_pd0 rfl) rfl (by show 2 * 0 + _ ≤ _; exact Nat.le_of_eq rfl) (hb hby d3_65) (fun _ _ => ⟨rfl, e193, (by decide : 2 + 0 ≤ _), (by decide : 12 + 0 ≤ _)⟩)
        dsimp only [Pt.U, Pt.locs, Pt.cells, Pt.slots] at X221 l221 y221 z221 st221 hQ221
        obtain rfl : c221 = 2 := y221
        obtain rfl : n221 = 12 := z221
        obtain ⟨rfl, N221q, e221⟩ := hQ221
        have N221 := own_frE l221 (Fr.app N193 N221q)
        have k222 : ∀ tg, Steps p.tables e below (T221.setTop (mkF m 68 #[.val (.ref a1), .val (.int p2), .val (.ref d)] [(.int (34 : Int32)), (.int p2)])) tg → Steps p.tables e below (s₁.setTop (entryFrame m #[(.ref a1), (.int p2), (.ref d)] 3)) tg := fun tg kg => k220 tg (st221.trans kg)
        have k223 : ∀ tg, Steps p.tables e below (T221.setTop (mkF m 82 #[.val (.ref a1), .val (.int p2), .val (.ref d)] [])) tg → Steps p.tables e below (s₁.setTop (entryFrame m #[(.ref a1), (.int p2), (.ref d)] 3)) tg := fun tg kg => k222 tg (by
            show Steps p.tables e below (T221.setTop (mkF m 68 #[.val (.ref a1), .val (.int p2), .val (.ref d)] [(.int (34 : Int32)), (.int p2)])) _
            refine XS.icmpYes X221.here hx rfl (pc0 := 68) (pc' := 82) rfl (hb hby d3_68) rfl (feq c34).2 (by decide) (by decide) ?_
            exact kg)
        obtain ⟨T224, X224, e224, st224⟩ := getS2 X221 hx hZ hown (host := "") (Or.inl (hw _ (List.mem_of_getElem? (i := 18) rfl))) Via.refl e221 (S4.ext XE2) (g := (mkF m 82 #[.val (.ref a1), .val (.int p2), .val (.ref d)] [])) rfl (hb hby d3_82)
        have k225 : ∀ tg, Steps p.tables e below (T224.setTop (mkF m 85 #[.val (.ref a1), .val (.int p2), .val (.ref d)] [(.ref c4)])) tg → Steps p.tables e below (s₁.setTop (entryFrame m #[(.ref a1), (.int p2), (.ref d)] 3)) tg := fun tg kg => k223 tg (st224 tg kg)
        have hq : own_aft st p2 = 4 := by rw [own_aft, if_neg hns, if_neg (fun q => c34 q.1), if_neg (fun q => c34 q.1)]
        obtain ⟨fs, hr, hrun, hended, hend⟩ := Stand.leaveW X224 hS190 (by rw [e224]; exact Nat.le_refl _) (v := some (.ref c4)) (fun h => by rw [Bd.returns] at h; cases h)
        refine ⟨_, _, k225 _ ?_, hrun, hended, _, _, rfl, ?_, own_rmono hend (by decide) (by decide)⟩
        · show Steps p.tables e below (T224.setTop (mkF m 85 #[.val (.ref a1), .val (.int p2), .val (.ref d)] [(.ref c4)])) _
          exact retOut X224 hx Bd.returns rfl (Or.inr (Or.inr (Or.inr (Or.inr ⟨rfl, rfl, rfl⟩)))) (hb hby d3_85) hr
        · exact ⟨by rw [hq]; rfl, (fun y hy => Nat.le_trans Z0 (N221 y hy)), (by show Ext h0 T224.heap; rw [e224]; exact E190), (by show Lds Z T224.vm T224.heap; rw [e224]; exact Or.inr ⟨as, bs, ks, Lit.stays (s := s) (vm0 := T190.vm) Lt X224.warmed.wide, Es, Cc, Cv, Va⟩)⟩
theorem pn_0 : plainName "com/example/vaxwire/vaxwire/hl7/ContentIsValuePinLaw" = true := by first | (simp [plainName, overriddenIn]; done) | decide +kernel
theorem own_s1 {c : Int32} : own_sep c = 0 ↔ ¬ (c = 94 ∨ c = 38) := by
  unfold own_sep
  by_cases h1 : c = 94
  · simp [h1]
  · by_cases h2 : c = 38
    · simp [h1, h2]
    · simp [h1, h2]
theorem own_f1 {x : Int32} : own_val (own_aft 0 x) = if own_sep x = 0 then 1 else 0 := by
  simp only [own_s1]
  unfold own_val own_aft
  by_cases h : x = 94 ∨ x = 38
  · simp [h]
  · by_cases h2 : x = 34 <;> simp [h, h2]
theorem own_f2 {x y : Int32} : own_val (own_aft (own_aft 0 x) y) = if (own_sep x = 0 ∨ own_sep y = 0) ∧ ¬ (x = 34 ∧ y = 34) then 1 else 0 := by
  simp only [own_s1]
  unfold own_val own_aft
  by_cases h : x = 94 ∨ x = 38
  · have h34 : ¬ x = 34 := by rintro rfl; revert h; decide
    by_cases g : y = 94 ∨ y = 38
    · simp [h, g]
    · by_cases g2 : y = 34 <;> simp [h, g, g2, h34]
  · by_cases h2 : x = 34
    · by_cases g : y = 94 ∨ y = 38
      · have g34 : ¬ y = 34 := by rintro rfl; revert g; decide
        simp [h, h2, g, g34]
      · by_cases g2 : y = 34 <;> simp [h, h2, g, g2]
    · by_cases g : y = 94 ∨ y = 38
      · simp [h, h2, g]
      · by_cases g2 : y = 34 <;> simp [h, h2, g, g2]
theorem own_stay {st : Nat} (hst : st = 3 ∨ st = 4) (c : Int32) : own_aft st c = 4 := by
  unfold own_aft
  rcases hst with rfl | rfl <;> by_cases h : c = 94 ∨ c = 38 <;> simp [h]
theorem own_f3 {x y z : Int32} : own_val (own_aft (own_aft (own_aft 0 x) y) z) = if own_sep x = 0 ∨ own_sep y = 0 ∨ own_sep z = 0 then 1 else 0 := by
  simp only [own_s1]
  by_cases h : x = 94 ∨ x = 38
  · by_cases g : y = 94 ∨ y = 38
    · unfold own_val own_aft
      by_cases k : z = 94 ∨ z = 38
      · simp [h, g, k]
      · by_cases k2 : z = 34 <;> simp [h, g, k, k2]
    · have e : own_aft (own_aft 0 x) y = 4 := by unfold own_aft; by_cases g2 : y = 34 <;> simp [h, g, g2]
      rw [e, own_stay (Or.inr rfl)]; simp [own_val, g]
  · have e0 : own_aft 0 x = 2 ∨ own_aft 0 x = 4 := by unfold own_aft; by_cases h2 : x = 34 <;> simp [h, h2]
    have e : own_aft (own_aft 0 x) y = 3 ∨ own_aft (own_aft 0 x) y = 4 := by
      rcases e0 with e0 | e0 <;> rw [e0] <;> unfold own_aft <;> by_cases g : y = 94 ∨ y = 38 <;> by_cases g2 : y = 34 <;> simp [g, g2]
    rw [own_stay e]; simp [own_val, h]
theorem ef_0 (m : MethodId) (x0 : Int32) (x1 : Int32) (x2 : Int32) (x3 : Int32) : entryFrame m #[(.int x0), (.int x1), (.int x2), (.int x3)] maxLocals = mkF m 0 #[.val (.int x0), .val (.int x1), .val (.int x2), .val (.int x3), .unset, .unset, .unset, .unset, .unset, .unset, .unset, .unset, .unset] [] := by first | (simp [entryFrame, mkF, argsToLocals, Value.category, maxLocals]; done) | rfl
def Q0 (Z : State) (p1 p2 p3 p4 : Int32) (h0 : Heap) (n0 : Nat) (v : Option Value) (t : State) (L : List Loc) : Prop := v = some (.int 1) ∧ Fr n0 L
set_option maxRecDepth 65536 in
set_option maxHeartbeats 40000000 in
theorem rm0 (l : Launch) (Z : State) (a0 : Array Value) (hw : ∀ d ∈ tables_1, d.before a0 Z = true) (ws : List Jvm.Cond) (p1 : Int32) (p2 : Int32) (p3 : Int32) (p4 : Int32) (d c0 c1 c2 c3 c4 : Addr) (G1 : Int32) (G3 : Value) (h0 : Heap) (n0 : Nat) (Z0 : n0 ≤ h0.size) (O2 : Sta Z Z.heap "java/lang/String" "COMPACT_STRINGS" "Z" (.int G1)) (P1 : ¬ G1 = (0 : Int32)) (O4 : Sta Z Z.heap "jdk/internal/util/Preconditions" "SIOOBE_FORMATTER" "Ljava/util/function/BiFunction;" G3) (r3 : G3.isRef = true) (hH : Jvm.Lit.constHeld Z "com/example/vaxwire/vaxwire/hl7/Repetition$Content" 49) (hcw : Jvm.Lit.compactW.before a0 Z = true) (Wh : Wd Z d c0 c1 c2 c3 c4) (XE : Ext Z.heap h0) :
    MetFree l x (head1 (Jvm.Cond.code x code maxLocals ret :: ws) room_1) (fun a U => a = #[(.int p1), (.int p2), (.int p3), (.int p4)] ∧ Z.Warmed39 U.vm ∧ U.heap = h0 ∧ Lds Z U.vm h0) (fun _ _ _ _ _ => True) (fun _ U o U' => ∃ v L, o = .returned v ∧ Q0 Z p1 p2 p3 p4 h0 n0 v U' L ∧ ReturnedEndW U o U' L room_1.cells room_1.slots) := by
  refine MetFree.of_bodySF (plainFor_of_name pn_0) hisR ?_
  intro p e s m args below meth c s₁ Bd hml0 hP hK
  obtain ⟨rfl, hZ, hh, hLd⟩ := hP
  have hx := Bd.exec
  have hby := Bd.bytes
  have hml : c.maxLocals = 13 := hml0
  have hown : s.vm.findClass "com/example/vaxwire/vaxwire/hl7/ContentIsValuePinLaw" = some m.cls := findClass_of_methodNamed Bd.named
  have hnm := (name_of_methodNamed Bd.named Bd.method).1
  have X0 : Stand p l e room_1 s m #[(.int p1), (.int p2), (.int p3), (.int p4)] below meth c s₁ [] 0 0 := Stand.of_body Bd
  have e0 : s₁.heap = h0 := by rw [← hh, Bd.state]; rfl
  have N0 := Fr.nil n0
  have pre0 : ∀ tg, Steps p.tables e below (s₁.setTop (mkF m 0 #[.val (.int p1), .val (.int p2), .val (.int p3), .val (.int p4), .unset, .unset, .unset, .unset, .unset, .unset, .unset, .unset, .unset] [])) tg → Steps p.tables e below (s₁.setTop (entryFrame m #[(.int p1), (.int p2), (.int p3), (.int p4)] maxLocals)) tg := fun tg kg => castTop (ef_0 m p1 p2 p3 p4) kg
  have Wh0 := Wh
  obtain ⟨⟨Sd, Ed, Fc, Fs⟩, ⟨S0, S1, S2, S3, S4⟩, ⟨E0, E1, E2, E3, E4⟩, n01, n02, n03, n04, n12, n13, n14, n23, n24, n34⟩ := Wh
  have k226 : ∀ tg, Steps p.tables e below (s₁.setTop (mkF m 8 #[.val (.int p1), .val (.int p2), .val (.int p3), .val (.int p4), .val (.int ((p1 &&& (2147483647 : Int32)) % (4 : Int32))), .unset, .unset, .unset, .unset, .unset, .unset, .unset, .unset] [])) tg → Steps p.tables e below (s₁.setTop (entryFrame m #[(.int p1), (.int p2), (.int p3), (.int p4)] maxLocals)) tg := fun tg kg => pre0 tg (by
      show Steps p.tables e below (s₁.setTop (mkF m 0 #[.val (.int p1), .val (.int p2), .val (.int p3), .val (.int p4), .unset, .unset, .unset, .unset, .unset, .unset, .unset, .unset, .unset] [])) _
      refine XS.iloadN X0.here hx rfl (hb hby at_0) rfl ?_
      show Steps p.tables e below (s₁.setTop (mkF m 1 #[.val (.int p1), .val (.int p2), .val (.int p3), .val (.int p4), .unset, .unset, .unset, .unset, .unset, .unset, .unset, .unset, .unset] [(.int p1)])) _
      refine X0.ldcInt hx hown (mvT hZ (hw _ (List.mem_of_getElem? (i := 0) rfl))) (g := (mkF m 1 #[.val (.int p1), .val (.int p2), .val (.int p3), .val (.int p4), .unset, .unset, .unset, .unset, .unset, .unset, .unset, .unset, .unset] [(.int p1)])) rfl (hb hby at_1) _ ?_
      show Steps p.tables e below (s₁.setTop (mkF m 3 #[.val (.int p1), .val (.int p2), .val (.int p3), .val (.int p4), .unset, .unset, .unset, .unset, .unset, .unset, .unset, .unset, .unset] [(.int (2147483647 : Int32)), (.int p1)])) _
      refine XS.iand X0.here hx rfl (hb hby at_3) rfl ?_
      show Steps p.tables e below (s₁.setTop (mkF m 4 #[.val (.int p1), .val (.int p2), .val (.int p3), .val (.int p4), .unset, .unset, .unset, .unset, .unset, .unset, .unset, .unset, .unset] [(.int (p1 &&& (2147483647 : Int32)))])) _
      refine XS.iconst X0.here hx rfl (hb hby at_4) ?_
      show Steps p.tables e below (s₁.setTop (mkF m 5 #[.val (.int p1), .val (.int p2), .val (.int p3), .val (.int p4), .unset, .unset, .unset, .unset, .unset, .unset, .unset, .unset, .unset] [(.int (4 : Int32)), (.int (p1 &&& (2147483647 : Int32)))])) _
      refine iremM X0 hx rfl (hb hby at_5) rfl (by decide) ?_
      show Steps p.tables e below (s₁.setTop (mkF m 6 #[.val (.int p1), .val (.int p2), .val (.int p3), .val (.int p4), .unset, .unset, .unset, .unset, .unset, .unset, .unset, .unset, .unset] [(.int ((p1 &&& (2147483647 : Int32)) % (4 : Int32)))])) _
      refine XS.istore X0.here hx rfl (hb hby at_6) rfl (l' := #[.val (.int p1), .val (.int p2), .val (.int p3), .val (.int p4), .val (.int ((p1 &&& (2147483647 : Int32)) % (4 : Int32))), .unset, .unset, .unset, .unset, .unset, .unset, .unset, .unset]) rfl ?_
      exact kg)
  obtain ⟨n, hn3, hxn⟩ : ∃ n : Nat, n ≤ 3 ∧ ((p1 &&& (2147483647 : Int32)) % (4 : Int32)).toInt = n := by
    have h := c_and p1 (2147483647 : Int32) (by decide)
    have e := own_rem (x := (p1 &&& (2147483647 : Int32))) (y := (4 : Int32)) (a := (p1 &&& (2147483647 : Int32)).toInt.toNat) (b := 4) (by omega) (by decide)
    exact ⟨_, by omega, e⟩
  obtain ⟨xn, exn⟩ : ∃ z, z = ((p1 &&& (2147483647 : Int32)) % (4 : Int32)) := ⟨_, rfl⟩
  rw [← exn] at k226
  rw [← exn] at hxn
  clear exn
  have k227 : ∀ tg, Steps p.tables e below (s₁.setTop (mkF m 9 #[.val (.int p1), .val (.int p2), .val (.int p3), .val (.int p4), .val (.int xn), .unset, .unset, .unset, .unset, .unset, .unset, .unset, .unset] [(.int p2)])) tg → Steps p.tables e below (s₁.setTop (entryFrame m #[(.int p1), (.int p2), (.int p3), (.int p4)] maxLocals)) tg := fun tg kg => k226 tg (by
      show Steps p.tables e below (s₁.setTop (mkF m 8 #[.val (.int p1), .val (.int p2), .val (.int p3), .val (.int p4), .val (.int xn), .unset, .unset, .unset, .unset, .unset, .unset, .unset, .unset] [])) _
      refine XS.iloadN X0.here hx rfl (hb hby at_8) rfl ?_
      exact kg)
  obtain ⟨_, _, ⟨T228, L228, c228, n228⟩, -, X228, ⟨Lc228, hQ228, l228, y228, z228⟩, st228⟩ := Jvm.LawKit.callS X0 hx (y := (⟨"com/example/vaxwire/vaxwire/hl7/ContentIsValuePinLaw", "pick", "(I)C"⟩ : MethodName)) hown (mvT hZ (hw _ (List.mem_of_getElem? (i := 1) rfl))) (mvT hZ (hw _ (List.mem_of_getElem? (i := 2) rfl))) (mvT hZ (hw _ (List.mem_of_getElem? (i := 3) rfl))) (mvT hZ (hw _ (List.mem_of_getElem? (i := 4) rfl))) (by decide) (backOf (W := 0) (rm1 l Z a0 hw [] p2 h0 n0 Z0) hZ (hw _ (List.mem_of_getElem? (i := 4) rfl)) (hw _ (List.mem_of_getElem? (i := 3) rfl)) (by decide) (by decide)) (g := (mkF m 9 #[.val (.int p1), .val (.int p2), .val (.int p3), .val (.int p4), .val (.int xn), .unset, .unset, .unset, .unset, .unset, .unset, .unset, .unset] [(.int p2)])) rfl (by rw [hml]; rfl) (argsL := [(.int p2)]) (rest := []) (lenOf own_pd0 rfl) rfl (by show 2 * 0 + _ ≤ _; exact Nat.le_of_eq rfl) (hb hby at_9) (fun _ _ => ⟨rfl, e0, (by decide : 0 + 0 ≤ _), (by decide : 0 + 0 ≤ _)⟩)
  dsimp only [Pt.U, Pt.locs, Pt.cells, Pt.slots] at X228 l228 y228 z228 st228 hQ228
  obtain rfl : c228 = 0 := y228
  obtain rfl : n228 = 0 := z228
  obtain ⟨rfl, N228q, e228⟩ := hQ228
  have N228 := own_frE l228 (Fr.app N0 N228q)
  have k229 : ∀ tg, Steps p.tables e below (T228.setTop (mkF m 12 #[.val (.int p1), .val (.int p2), .val (.int p3), .val (.int p4), .val (.int xn), .unset, .unset, .unset, .unset, .unset, .unset, .unset, .unset] [(.int (own_pick p2))])) tg → Steps p.tables e below (s₁.setTop (entryFrame m #[(.int p1), (.int p2), (.int p3), (.int p4)] maxLocals)) tg := fun tg kg => k227 tg (st228 tg kg)
  have k230 : ∀ tg, Steps p.tables e below (T228.setTop (mkF m 15 #[.val (.int p1), .val (.int p2), .val (.int p3), .val (.int p4), .val (.int xn), .val (.int (own_pick p2)), .unset, .unset, .unset, .unset, .unset, .unset, .unset] [(.int p3)])) tg → Steps p.tables e below (s₁.setTop (entryFrame m #[(.int p1), (.int p2), (.int p3), (.int p4)] maxLocals)) tg := fun tg kg => k229 tg (by
      show Steps p.tables e below (T228.setTop (mkF m 12 #[.val (.int p1), .val (.int p2), .val (.int p3), .val (.int p4), .val (.int xn), .unset, .unset, .unset, .unset, .unset, .unset, .unset, .unset] [(.int (own_pick p2))])) _
      refine XS.istore X228.here hx rfl (hb hby at_12) rfl (l' := #[.val (.int p1), .val (.int p2), .val (.int p3), .val (.int p4), .val (.int xn), .val (.int (own_pick p2)), .unset, .unset, .unset, .unset, .unset, .unset, .unset]) rfl ?_
      show Steps p.tables e below (T228.setTop (mkF m 14 #[.val (.int p1), .val (.int p2), .val (.int p3), .val (.int p4), .val (.int xn), .val (.int (own_pick p2)), .unset, .unset, .unset, .unset, .unset, .unset, .unset] [])) _
      refine XS.iloadN X228.here hx rfl (hb hby at_14) rfl ?_
      exact kg)
  obtain ⟨_, _, ⟨T231, L231, c231, n231⟩, -, X231, ⟨Lc231, hQ231, l231, y231, z231⟩, st231⟩ := Jvm.LawKit.callS X228 hx (y := (⟨"com/example/vaxwire/vaxwire/hl7/ContentIsValuePinLaw", "pick", "(I)C"⟩ : MethodName)) hown (mvT hZ (hw _ (List.mem_of_getElem? (i := 1) rfl))) (mvT hZ (hw _ (List.mem_of_getElem? (i := 2) rfl))) (mvT hZ (hw _ (List.mem_of_getElem? (i := 3) rfl))) (mvT hZ (hw _ (List.mem_of_getElem? (i := 4) rfl))) (by decide) (backOf (W := 0) (rm1 l Z a0 hw [] p3 h0 n0 Z0) hZ (hw _ (List.mem_of_getElem? (i := 4) rfl)) (hw _ (List.mem_of_getElem? (i := 3) rfl)) (by decide) (by decide)) (g := (mkF m 15 #[.val (.int p1), .val (.int p2), .val (.int p3), .val (.int p4), .val (.int xn), .val (.int (own_pick p2)), .unset, .unset, .unset, .unset, .unset, .unset, .unset] [(.int p3)])) rfl (by rw [hml]; rfl) (argsL := [(.int p3)]) (rest := []) (lenOf own_pd0 rfl) rfl (by show 2 * 0 + _ ≤ _; exact Nat.le_of_eq rfl) (hb hby at_15) (fun _ _ => ⟨rfl, e228, (by decide : 0 + 0 ≤ _), (by decide : 0 + 0 ≤ _)⟩)
  dsimp only [Pt.U, Pt.locs, Pt.cells, Pt.slots] at X231 l231 y231 z231 st231 hQ231
  obtain rfl : c231 = 0 := y231
  obtain rfl : n231 = 0 := z231
  obtain ⟨rfl, N231q, e231⟩ := hQ231
  have N231 := own_frE l231 (Fr.app N228 N231q)
  have k232 : ∀ tg, Steps p.tables e below (T231.setTop (mkF m 18 #[.val (.int p1), .val (.int p2), .val (.int p3), .val (.int p4), .val (.int xn), .val (.int (own_pick p2)), .unset, .unset, .unset, .unset, .unset, .unset, .unset] [(.int (own_pick p3))])) tg → Steps p.tables e below (s₁.setTop (entryFrame m #[(.int p1), (.int p2), (.int p3), (.int p4)] maxLocals)) tg := fun tg kg => k230 tg (st231 tg kg)
  have k233 : ∀ tg, Steps p.tables e below (T231.setTop (mkF m 21 #[.val (.int p1), .val (.int p2), .val (.int p3), .val (.int p4), .val (.int xn), .val (.int (own_pick p2)), .val (.int (own_pick p3)), .unset, .unset, .unset, .unset, .unset, .unset] [(.int p4)])) tg → Steps p.tables e below (s₁.setTop (entryFrame m #[(.int p1), (.int p2), (.int p3), (.int p4)] maxLocals)) tg := fun tg kg => k232 tg (by
      show Steps p.tables e below (T231.setTop (mkF m 18 #[.val (.int p1), .val (.int p2), .val (.int p3), .val (.int p4), .val (.int xn), .val (.int (own_pick p2)), .unset, .unset, .unset, .unset, .unset, .unset, .unset] [(.int (own_pick p3))])) _
      refine XS.istore X231.here hx rfl (hb hby at_18) rfl (l' := #[.val (.int p1), .val (.int p2), .val (.int p3), .val (.int p4), .val (.int xn), .val (.int (own_pick p2)), .val (.int (own_pick p3)), .unset, .unset, .unset, .unset, .unset, .unset]) rfl ?_
      show Steps p.tables e below (T231.setTop (mkF m 20 #[.val (.int p1), .val (.int p2), .val (.int p3), .val (.int p4), .val (.int xn), .val (.int (own_pick p2)), .val (.int (own_pick p3)), .unset, .unset, .unset, .unset, .unset, .unset] [])) _
      refine XS.iloadN X231.here hx rfl (hb hby at_20) rfl ?_
      exact kg)
  obtain ⟨_, _, ⟨T234, L234, c234, n234⟩, -, X234, ⟨Lc234, hQ234, l234, y234, z234⟩, st234⟩ := Jvm.LawKit.callS X231 hx (y := (⟨"com/example/vaxwire/vaxwire/hl7/ContentIsValuePinLaw", "pick", "(I)C"⟩ : MethodName)) hown (mvT hZ (hw _ (List.mem_of_getElem? (i := 1) rfl))) (mvT hZ (hw _ (List.mem_of_getElem? (i := 2) rfl))) (mvT hZ (hw _ (List.mem_of_getElem? (i := 3) rfl))) (mvT hZ (hw _ (List.mem_of_getElem? (i := 4) rfl))) (by decide) (backOf (W := 0) (rm1 l Z a0 hw [] p4 h0 n0 Z0) hZ (hw _ (List.mem_of_getElem? (i := 4) rfl)) (hw _ (List.mem_of_getElem? (i := 3) rfl)) (by decide) (by decide)) (g := (mkF m 21 #[.val (.int p1), .val (.int p2), .val (.int p3), .val (.int p4), .val (.int xn), .val (.int (own_pick p2)), .val (.int (own_pick p3)), .unset, .unset, .unset, .unset, .unset, .unset] [(.int p4)])) rfl (by rw [hml]; rfl) (argsL := [(.int p4)]) (rest := []) (lenOf own_pd0 rfl) rfl (by show 2 * 0 + _ ≤ _; exact Nat.le_of_eq rfl) (hb hby at_21) (fun _ _ => ⟨rfl, e231, (by decide : 0 + 0 ≤ _), (by decide : 0 + 0 ≤ _)⟩)
  dsimp only [Pt.U, Pt.locs, Pt.cells, Pt.slots] at X234 l234 y234 z234 st234 hQ234
  obtain rfl : c234 = 0 := y234
  obtain rfl : n234 = 0 := z234
  obtain ⟨rfl, N234q, e234⟩ := hQ234
  have N234 := own_frE l234 (Fr.app N231 N234q)
  have k235 : ∀ tg, Steps p.tables e below (T234.setTop (mkF m 24 #[.val (.int p1), .val (.int p2), .val (.int p3), .val (.int p4), .val (.int xn), .val (.int (own_pick p2)), .val (.int (own_pick p3)), .unset, .unset, .unset, .unset, .unset, .unset] [(.int (own_pick p4))])) tg → Steps p.tables e below (s₁.setTop (entryFrame m #[(.int p1), (.int p2), (.int p3), (.int p4)] maxLocals)) tg := fun tg kg => k233 tg (st234 tg kg)
  have k236 : ∀ tg, Steps p.tables e below (T234.setTop (mkF m 26 #[.val (.int p1), .val (.int p2), .val (.int p3), .val (.int p4), .val (.int xn), .val (.int (own_pick p2)), .val (.int (own_pick p3)), .val (.int (own_pick p4)), .unset, .unset, .unset, .unset, .unset] [])) tg → Steps p.tables e below (s₁.setTop (entryFrame m #[(.int p1), (.int p2), (.int p3), (.int p4)] maxLocals)) tg := fun tg kg => k235 tg (by
      show Steps p.tables e below (T234.setTop (mkF m 24 #[.val (.int p1), .val (.int p2), .val (.int p3), .val (.int p4), .val (.int xn), .val (.int (own_pick p2)), .val (.int (own_pick p3)), .unset, .unset, .unset, .unset, .unset, .unset] [(.int (own_pick p4))])) _
      refine XS.istore X234.here hx rfl (hb hby at_24) rfl (l' := #[.val (.int p1), .val (.int p2), .val (.int p3), .val (.int p4), .val (.int xn), .val (.int (own_pick p2)), .val (.int (own_pick p3)), .val (.int (own_pick p4)), .unset, .unset, .unset, .unset, .unset]) rfl ?_
      exact kg)
  obtain ⟨ch1, ech1⟩ : ∃ z, z = (own_pick p2) := ⟨_, rfl⟩
  rw [← ech1] at k236
  obtain ⟨ch2, ech2⟩ : ∃ z, z = (own_pick p3) := ⟨_, rfl⟩
  rw [← ech2] at k236
  obtain ⟨ch3, ech3⟩ : ∃ z, z = (own_pick p4) := ⟨_, rfl⟩
  rw [← ech3] at k236
  obtain ⟨T237, X237, e237, st237⟩ := getS2 X234 hx hZ hown (host := "") (Or.inl (hw _ (List.mem_of_getElem? (i := 5) rfl))) Via.refl e234 (Sd.ext XE) (g := (mkF m 26 #[.val (.int p1), .val (.int p2), .val (.int p3), .val (.int p4), .val (.int xn), .val (.int ch1), .val (.int ch2), .val (.int ch3), .unset, .unset, .unset, .unset, .unset] [])) rfl (hb hby at_26)
  have k238 : ∀ tg, Steps p.tables e below (T237.setTop (mkF m 29 #[.val (.int p1), .val (.int p2), .val (.int p3), .val (.int p4), .val (.int xn), .val (.int ch1), .val (.int ch2), .val (.int ch3), .unset, .unset, .unset, .unset, .unset] [(.ref d)])) tg → Steps p.tables e below (s₁.setTop (entryFrame m #[(.int p1), (.int p2), (.int p3), (.int p4)] maxLocals)) tg := fun tg kg => k236 tg (st237 tg kg)
  have k239 : ∀ tg, Steps p.tables e below (T237.setTop (mkF m 31 #[.val (.int p1), .val (.int p2), .val (.int p3), .val (.int p4), .val (.int xn), .val (.int ch1), .val (.int ch2), .val (.int ch3), .val (.ref d), .unset, .unset, .unset, .unset] [])) tg → Steps p.tables e below (s₁.setTop (entryFrame m #[(.int p1), (.int p2), (.int p3), (.int p4)] maxLocals)) tg := fun tg kg => k238 tg (by
      show Steps p.tables e below (T237.setTop (mkF m 29 #[.val (.int p1), .val (.int p2), .val (.int p3), .val (.int p4), .val (.int xn), .val (.int ch1), .val (.int ch2), .val (.int ch3), .unset, .unset, .unset, .unset, .unset] [(.ref d)])) _
      refine XS.astore X237.here hx rfl (hb hby at_29) rfl rfl (l' := #[.val (.int p1), .val (.int p2), .val (.int p3), .val (.int p4), .val (.int xn), .val (.int ch1), .val (.int ch2), .val (.int ch3), .val (.ref d), .unset, .unset, .unset, .unset]) rfl ?_
      exact kg)
  obtain ⟨T240, X240, e240, st240⟩ := getS2 X237 hx hZ hown (host := "") (Or.inl (hw _ (List.mem_of_getElem? (i := 8) rfl))) Via.refl e237 (S0.ext XE) (g := (mkF m 31 #[.val (.int p1), .val (.int p2), .val (.int p3), .val (.int p4), .val (.int xn), .val (.int ch1), .val (.int ch2), .val (.int ch3), .val (.ref d), .unset, .unset, .unset, .unset] [])) rfl (hb hby at_31)
  have k241 : ∀ tg, Steps p.tables e below (T240.setTop (mkF m 34 #[.val (.int p1), .val (.int p2), .val (.int p3), .val (.int p4), .val (.int xn), .val (.int ch1), .val (.int ch2), .val (.int ch3), .val (.ref d), .unset, .unset, .unset, .unset] [(.ref c0)])) tg → Steps p.tables e below (s₁.setTop (entryFrame m #[(.int p1), (.int p2), (.int p3), (.int p4)] maxLocals)) tg := fun tg kg => k239 tg (st240 tg kg)
  have k242 : ∀ tg, Steps p.tables e below (T240.setTop (mkF m 36 #[.val (.int p1), .val (.int p2), .val (.int p3), .val (.int p4), .val (.int xn), .val (.int ch1), .val (.int ch2), .val (.int ch3), .val (.ref d), .val (.ref c0), .unset, .unset, .unset] [])) tg → Steps p.tables e below (s₁.setTop (entryFrame m #[(.int p1), (.int p2), (.int p3), (.int p4)] maxLocals)) tg := fun tg kg => k241 tg (by
      show Steps p.tables e below (T240.setTop (mkF m 34 #[.val (.int p1), .val (.int p2), .val (.int p3), .val (.int p4), .val (.int xn), .val (.int ch1), .val (.int ch2), .val (.int ch3), .val (.ref d), .unset, .unset, .unset, .unset] [(.ref c0)])) _
      refine XS.astore X240.here hx rfl (hb hby at_34) rfl rfl (l' := #[.val (.int p1), .val (.int p2), .val (.int p3), .val (.int p4), .val (.int xn), .val (.int ch1), .val (.int ch2), .val (.int ch3), .val (.ref d), .val (.ref c0), .unset, .unset, .unset]) rfl ?_
      exact kg)
  have Xb := X240.retabled X240.warmed.wide
  have hS := X240.warmed.since 0
  have hk := Nat.zero_le T240.heap.size
  have hLd : Lds Z T240.vm h0 := hLd.warm (s := s) X240.warmed
  have hZ : Z.Warmed39 (s.setVm T240.vm).vm := wtrans hZ X240.warmed
  have hown : (s.setVm T240.vm).vm.findClass "com/example/vaxwire/vaxwire/hl7/ContentIsValuePinLaw" = some m.cls := by show T240.vm.findClass _ = _; rw [X240.warmed.alike.findClass]; exact hown
  have h4 : xn = (0 : Int32) ∨ xn = (1 : Int32) ∨ xn = (2 : Int32) ∨ xn = (3 : Int32) := by
    simp only [← Int32.toInt_inj, show (0 : Int32).toInt = 0 from by decide, show (1 : Int32).toInt = 1 from by decide, show (2 : Int32).toInt = 2 from by decide, show (3 : Int32).toInt = 3 from by decide]; omega
  clear hxn hn3
  rcases h4 with rfl | rfl | rfl | rfl
  · have k243 : ∀ t, Steps p.tables e below (T240.setTop (mkF m 36 #[.val (.int p1), .val (.int p2), .val (.int p3), .val (.int p4), .val (.int (0 : Int32)), .val (.int ch1), .val (.int ch2), .val (.int ch3), .val (.ref d), .val (.ref (own_ad c0 c1 c2 c3 c4 (0))), .unset, .unset, .unset] [])) t → Steps p.tables e below (s₁.setTop (entryFrame m #[(.int p1), (.int p2), (.int p3), (.int p4)] maxLocals)) t := k242
    have k244 : ∀ tg, Steps p.tables e below (T240.setTop (mkF m 165 #[.val (.int p1), .val (.int p2), .val (.int p3), .val (.int p4), .val (.int (0 : Int32)), .val (.int ch1), .val (.int ch2), .val (.int ch3), .val (.ref d), .val (.ref (own_ad c0 c1 c2 c3 c4 (0))), .val (.int (1 : Int32)), .val (.int (0 : Int32)), .unset] [(.int (1 : Int32))])) tg → Steps p.tables e below (s₁.setTop (entryFrame m #[(.int p1), (.int p2), (.int p3), (.int p4)] maxLocals)) tg := fun tg kg => k243 tg (by
        show Steps p.tables e below (T240.setTop (mkF m 36 #[.val (.int p1), .val (.int p2), .val (.int p3), .val (.int p4), .val (.int (0 : Int32)), .val (.int ch1), .val (.int ch2), .val (.int ch3), .val (.ref d), .val (.ref (own_ad c0 c1 c2 c3 c4 (0))), .unset, .unset, .unset] [])) _
        refine XS.iload Xb.here hx rfl (hb hby at_36) rfl ?_
        show Steps p.tables e below (T240.setTop (mkF m 38 #[.val (.int p1), .val (.int p2), .val (.int p3), .val (.int p4), .val (.int (0 : Int32)), .val (.int ch1), .val (.int ch2), .val (.int ch3), .val (.ref d), .val (.ref (own_ad c0 c1 c2 c3 c4 (0))), .unset, .unset, .unset] [(.int (0 : Int32))])) _
        refine XS.iconst Xb.here hx rfl (hb hby at_38) ?_
        show Steps p.tables e below (T240.setTop (mkF m 39 #[.val (.int p1), .val (.int p2), .val (.int p3), .val (.int p4), .val (.int (0 : Int32)), .val (.int ch1), .val (.int ch2), .val (.int ch3), .val (.ref d), .val (.ref (own_ad c0 c1 c2 c3 c4 (0))), .unset, .unset, .unset] [(.int (1 : Int32)), (.int (0 : Int32))])) _
        refine XS.icmpYes Xb.here hx rfl (pc0 := 39) (pc' := 53) rfl (hb hby at_39) rfl (tlt (by decide)).1 (by decide) (by decide) ?_
        show Steps p.tables e below (T240.setTop (mkF m 53 #[.val (.int p1), .val (.int p2), .val (.int p3), .val (.int p4), .val (.int (0 : Int32)), .val (.int ch1), .val (.int ch2), .val (.int ch3), .val (.ref d), .val (.ref (own_ad c0 c1 c2 c3 c4 (0))), .unset, .unset, .unset] [])) _
        refine XS.iload Xb.here hx rfl (hb hby at_53) rfl ?_
        show Steps p.tables e below (T240.setTop (mkF m 55 #[.val (.int p1), .val (.int p2), .val (.int p3), .val (.int p4), .val (.int (0 : Int32)), .val (.int ch1), .val (.int ch2), .val (.int ch3), .val (.ref d), .val (.ref (own_ad c0 c1 c2 c3 c4 (0))), .unset, .unset, .unset] [(.int (0 : Int32))])) _
        refine XS.iconst Xb.here hx rfl (hb hby at_55) ?_
        show Steps p.tables e below (T240.setTop (mkF m 56 #[.val (.int p1), .val (.int p2), .val (.int p3), .val (.int p4), .val (.int (0 : Int32)), .val (.int ch1), .val (.int ch2), .val (.int ch3), .val (.ref d), .val (.ref (own_ad c0 c1 c2 c3 c4 (0))), .unset, .unset, .unset] [(.int (2 : Int32)), (.int (0 : Int32))])) _
        refine XS.icmpYes Xb.here hx rfl (pc0 := 56) (pc' := 70) rfl (hb hby at_56) rfl (tlt (by decide)).1 (by decide) (by decide) ?_
        show Steps p.tables e below (T240.setTop (mkF m 70 #[.val (.int p1), .val (.int p2), .val (.int p3), .val (.int p4), .val (.int (0 : Int32)), .val (.int ch1), .val (.int ch2), .val (.int ch3), .val (.ref d), .val (.ref (own_ad c0 c1 c2 c3 c4 (0))), .unset, .unset, .unset] [])) _
        refine XS.iload Xb.here hx rfl (hb hby at_70) rfl ?_
        show Steps p.tables e below (T240.setTop (mkF m 72 #[.val (.int p1), .val (.int p2), .val (.int p3), .val (.int p4), .val (.int (0 : Int32)), .val (.int ch1), .val (.int ch2), .val (.int ch3), .val (.ref d), .val (.ref (own_ad c0 c1 c2 c3 c4 (0))), .unset, .unset, .unset] [(.int (0 : Int32))])) _
        refine XS.iconst Xb.here hx rfl (hb hby at_72) ?_
        show Steps p.tables e below (T240.setTop (mkF m 73 #[.val (.int p1), .val (.int p2), .val (.int p3), .val (.int p4), .val (.int (0 : Int32)), .val (.int ch1), .val (.int ch2), .val (.int ch3), .val (.ref d), .val (.ref (own_ad c0 c1 c2 c3 c4 (0))), .unset, .unset, .unset] [(.int (3 : Int32)), (.int (0 : Int32))])) _
        refine XS.icmpYes Xb.here hx rfl (pc0 := 73) (pc' := 87) rfl (hb hby at_73) rfl (tlt (by decide)).1 (by decide) (by decide) ?_
        show Steps p.tables e below (T240.setTop (mkF m 87 #[.val (.int p1), .val (.int p2), .val (.int p3), .val (.int p4), .val (.int (0 : Int32)), .val (.int ch1), .val (.int ch2), .val (.int ch3), .val (.ref d), .val (.ref (own_ad c0 c1 c2 c3 c4 (0))), .unset, .unset, .unset] [])) _
        refine XS.iload Xb.here hx rfl (hb hby at_87) rfl ?_
        show Steps p.tables e below (T240.setTop (mkF m 89 #[.val (.int p1), .val (.int p2), .val (.int p3), .val (.int p4), .val (.int (0 : Int32)), .val (.int ch1), .val (.int ch2), .val (.int ch3), .val (.ref d), .val (.ref (own_ad c0 c1 c2 c3 c4 (0))), .unset, .unset, .unset] [(.int (0 : Int32))])) _
        refine XS.iconst Xb.here hx rfl (hb hby at_89) ?_
        show Steps p.tables e below (T240.setTop (mkF m 90 #[.val (.int p1), .val (.int p2), .val (.int p3), .val (.int p4), .val (.int (0 : Int32)), .val (.int ch1), .val (.int ch2), .val (.int ch3), .val (.ref d), .val (.ref (own_ad c0 c1 c2 c3 c4 (0))), .unset, .unset, .unset] [(.int (1 : Int32)), (.int (0 : Int32))])) _
        refine XS.icmpYes Xb.here hx rfl (pc0 := 90) (pc' := 101) rfl (hb hby at_90) rfl (tlt (by decide)).1 (by decide) (by decide) ?_
        show Steps p.tables e below (T240.setTop (mkF m 101 #[.val (.int p1), .val (.int p2), .val (.int p3), .val (.int p4), .val (.int (0 : Int32)), .val (.int ch1), .val (.int ch2), .val (.int ch3), .val (.ref d), .val (.ref (own_ad c0 c1 c2 c3 c4 (0))), .unset, .unset, .unset] [])) _
        refine XS.iload Xb.here hx rfl (hb hby at_101) rfl ?_
        show Steps p.tables e below (T240.setTop (mkF m 103 #[.val (.int p1), .val (.int p2), .val (.int p3), .val (.int p4), .val (.int (0 : Int32)), .val (.int ch1), .val (.int ch2), .val (.int ch3), .val (.ref d), .val (.ref (own_ad c0 c1 c2 c3 c4 (0))), .unset, .unset, .unset] [(.int (0 : Int32))])) _
        refine XS.iconst Xb.here hx rfl (hb hby at_103) ?_
        show Steps p.tables e below (T240.setTop (mkF m 104 #[.val (.int p1), .val (.int p2), .val (.int p3), .val (.int p4), .val (.int (0 : Int32)), .val (.int ch1), .val (.int ch2), .val (.int ch3), .val (.ref d), .val (.ref (own_ad c0 c1 c2 c3 c4 (0))), .unset, .unset, .unset] [(.int (2 : Int32)), (.int (0 : Int32))])) _
        refine XS.icmpYes Xb.here hx rfl (pc0 := 104) (pc' := 115) rfl (hb hby at_104) rfl (tlt (by decide)).1 (by decide) (by decide) ?_
        show Steps p.tables e below (T240.setTop (mkF m 115 #[.val (.int p1), .val (.int p2), .val (.int p3), .val (.int p4), .val (.int (0 : Int32)), .val (.int ch1), .val (.int ch2), .val (.int ch3), .val (.ref d), .val (.ref (own_ad c0 c1 c2 c3 c4 (0))), .unset, .unset, .unset] [])) _
        refine XS.iload Xb.here hx rfl (hb hby at_115) rfl ?_
        show Steps p.tables e below (T240.setTop (mkF m 117 #[.val (.int p1), .val (.int p2), .val (.int p3), .val (.int p4), .val (.int (0 : Int32)), .val (.int ch1), .val (.int ch2), .val (.int ch3), .val (.ref d), .val (.ref (own_ad c0 c1 c2 c3 c4 (0))), .unset, .unset, .unset] [(.int (0 : Int32))])) _
        refine XS.iconst Xb.here hx rfl (hb hby at_117) ?_
        show Steps p.tables e below (T240.setTop (mkF m 118 #[.val (.int p1), .val (.int p2), .val (.int p3), .val (.int p4), .val (.int (0 : Int32)), .val (.int ch1), .val (.int ch2), .val (.int ch3), .val (.ref d), .val (.ref (own_ad c0 c1 c2 c3 c4 (0))), .unset, .unset, .unset] [(.int (3 : Int32)), (.int (0 : Int32))])) _
        refine XS.icmpYes Xb.here hx rfl (pc0 := 118) (pc' := 129) rfl (hb hby at_118) rfl (tlt (by decide)).1 (by decide) (by decide) ?_
        show Steps p.tables e below (T240.setTop (mkF m 129 #[.val (.int p1), .val (.int p2), .val (.int p3), .val (.int p4), .val (.int (0 : Int32)), .val (.int ch1), .val (.int ch2), .val (.int ch3), .val (.ref d), .val (.ref (own_ad c0 c1 c2 c3 c4 (0))), .unset, .unset, .unset] [])) _
        refine XS.iconst Xb.here hx rfl (hb hby at_129) ?_
        show Steps p.tables e below (T240.setTop (mkF m 130 #[.val (.int p1), .val (.int p2), .val (.int p3), .val (.int p4), .val (.int (0 : Int32)), .val (.int ch1), .val (.int ch2), .val (.int ch3), .val (.ref d), .val (.ref (own_ad c0 c1 c2 c3 c4 (0))), .unset, .unset, .unset] [(.int (1 : Int32))])) _
        refine XS.goto Xb.here hx rfl (pc0 := 130) (pc' := 134) rfl (hb hby at_130) (by decide) (by decide) ?_
        show Steps p.tables e below (T240.setTop (mkF m 134 #[.val (.int p1), .val (.int p2), .val (.int p3), .val (.int p4), .val (.int (0 : Int32)), .val (.int ch1), .val (.int ch2), .val (.int ch3), .val (.ref d), .val (.ref (own_ad c0 c1 c2 c3 c4 (0))), .unset, .unset, .unset] [(.int (1 : Int32))])) _
        refine XS.istore Xb.here hx rfl (hb hby at_134) rfl (l' := #[.val (.int p1), .val (.int p2), .val (.int p3), .val (.int p4), .val (.int (0 : Int32)), .val (.int ch1), .val (.int ch2), .val (.int ch3), .val (.ref d), .val (.ref (own_ad c0 c1 c2 c3 c4 (0))), .val (.int (1 : Int32)), .unset, .unset]) rfl ?_
        show Steps p.tables e below (T240.setTop (mkF m 136 #[.val (.int p1), .val (.int p2), .val (.int p3), .val (.int p4), .val (.int (0 : Int32)), .val (.int ch1), .val (.int ch2), .val (.int ch3), .val (.ref d), .val (.ref (own_ad c0 c1 c2 c3 c4 (0))), .val (.int (1 : Int32)), .unset, .unset] [])) _
        refine XS.iload Xb.here hx rfl (hb hby at_136) rfl ?_
        show Steps p.tables e below (T240.setTop (mkF m 138 #[.val (.int p1), .val (.int p2), .val (.int p3), .val (.int p4), .val (.int (0 : Int32)), .val (.int ch1), .val (.int ch2), .val (.int ch3), .val (.ref d), .val (.ref (own_ad c0 c1 c2 c3 c4 (0))), .val (.int (1 : Int32)), .unset, .unset] [(.int (0 : Int32))])) _
        refine XS.iconst Xb.here hx rfl (hb hby at_138) ?_
        show Steps p.tables e below (T240.setTop (mkF m 139 #[.val (.int p1), .val (.int p2), .val (.int p3), .val (.int p4), .val (.int (0 : Int32)), .val (.int ch1), .val (.int ch2), .val (.int ch3), .val (.ref d), .val (.ref (own_ad c0 c1 c2 c3 c4 (0))), .val (.int (1 : Int32)), .unset, .unset] [(.int (2 : Int32)), (.int (0 : Int32))])) _
        refine XS.icmpYes Xb.here hx rfl (pc0 := 139) (pc' := 160) rfl (hb hby at_139) rfl (feq (by decide)).2 (by decide) (by decide) ?_
        show Steps p.tables e below (T240.setTop (mkF m 160 #[.val (.int p1), .val (.int p2), .val (.int p3), .val (.int p4), .val (.int (0 : Int32)), .val (.int ch1), .val (.int ch2), .val (.int ch3), .val (.ref d), .val (.ref (own_ad c0 c1 c2 c3 c4 (0))), .val (.int (1 : Int32)), .unset, .unset] [])) _
        refine XS.iconst Xb.here hx rfl (hb hby at_160) ?_
        show Steps p.tables e below (T240.setTop (mkF m 161 #[.val (.int p1), .val (.int p2), .val (.int p3), .val (.int p4), .val (.int (0 : Int32)), .val (.int ch1), .val (.int ch2), .val (.int ch3), .val (.ref d), .val (.ref (own_ad c0 c1 c2 c3 c4 (0))), .val (.int (1 : Int32)), .unset, .unset] [(.int (0 : Int32))])) _
        refine XS.istore Xb.here hx rfl (hb hby at_161) rfl (l' := #[.val (.int p1), .val (.int p2), .val (.int p3), .val (.int p4), .val (.int (0 : Int32)), .val (.int ch1), .val (.int ch2), .val (.int ch3), .val (.ref d), .val (.ref (own_ad c0 c1 c2 c3 c4 (0))), .val (.int (1 : Int32)), .val (.int (0 : Int32)), .unset]) rfl ?_
        show Steps p.tables e below (T240.setTop (mkF m 163 #[.val (.int p1), .val (.int p2), .val (.int p3), .val (.int p4), .val (.int (0 : Int32)), .val (.int ch1), .val (.int ch2), .val (.int ch3), .val (.ref d), .val (.ref (own_ad c0 c1 c2 c3 c4 (0))), .val (.int (1 : Int32)), .val (.int (0 : Int32)), .unset] [])) _
        refine XS.iload Xb.here hx rfl (hb hby at_163) rfl ?_
        exact kg)
    have k245 : ∀ tg, Steps p.tables e below (T240.setTop (mkF m 177 #[.val (.int p1), .val (.int p2), .val (.int p3), .val (.int p4), .val (.int (0 : Int32)), .val (.int ch1), .val (.int ch2), .val (.int ch3), .val (.ref d), .val (.ref (own_ad c0 c1 c2 c3 c4 (0))), .val (.int (1 : Int32)), .val (.int (0 : Int32)), .unset] [])) tg → Steps p.tables e below (s₁.setTop (entryFrame m #[(.int p1), (.int p2), (.int p3), (.int p4)] maxLocals)) tg := fun tg kg => k244 tg (by
        show Steps p.tables e below (T240.setTop (mkF m 165 #[.val (.int p1), .val (.int p2), .val (.int p3), .val (.int p4), .val (.int (0 : Int32)), .val (.int ch1), .val (.int ch2), .val (.int ch3), .val (.ref d), .val (.ref (own_ad c0 c1 c2 c3 c4 (0))), .val (.int (1 : Int32)), .val (.int (0 : Int32)), .unset] [(.int (1 : Int32))])) _
        refine XS.ifYes Xb.here hx rfl (pc0 := 165) (pc' := 177) rfl (hb hby at_165) rfl ((if0 _ _).trans (feq (by decide)).2) (by decide) (by decide) ?_
        exact kg)
    have k246 : ∀ tg, Steps p.tables e below (T240.setTop (mkF m 182 #[.val (.int p1), .val (.int p2), .val (.int p3), .val (.int p4), .val (.int (0 : Int32)), .val (.int ch1), .val (.int ch2), .val (.int ch3), .val (.ref d), .val (.ref (own_ad c0 c1 c2 c3 c4 (0))), .val (.int (1 : Int32)), .val (.int (0 : Int32)), .val (.int (0 : Int32))] [(.ref (own_ad c0 c1 c2 c3 c4 (0)))])) tg → Steps p.tables e below (s₁.setTop (entryFrame m #[(.int p1), (.int p2), (.int p3), (.int p4)] maxLocals)) tg := fun tg kg => k245 tg (by
        show Steps p.tables e below (T240.setTop (mkF m 177 #[.val (.int p1), .val (.int p2), .val (.int p3), .val (.int p4), .val (.int (0 : Int32)), .val (.int ch1), .val (.int ch2), .val (.int ch3), .val (.ref d), .val (.ref (own_ad c0 c1 c2 c3 c4 (0))), .val (.int (1 : Int32)), .val (.int (0 : Int32)), .unset] [])) _
        refine XS.iconst Xb.here hx rfl (hb hby at_177) ?_
        show Steps p.tables e below (T240.setTop (mkF m 178 #[.val (.int p1), .val (.int p2), .val (.int p3), .val (.int p4), .val (.int (0 : Int32)), .val (.int ch1), .val (.int ch2), .val (.int ch3), .val (.ref d), .val (.ref (own_ad c0 c1 c2 c3 c4 (0))), .val (.int (1 : Int32)), .val (.int (0 : Int32)), .unset] [(.int (0 : Int32))])) _
        refine XS.istore Xb.here hx rfl (hb hby at_178) rfl (l' := #[.val (.int p1), .val (.int p2), .val (.int p3), .val (.int p4), .val (.int (0 : Int32)), .val (.int ch1), .val (.int ch2), .val (.int ch3), .val (.ref d), .val (.ref (own_ad c0 c1 c2 c3 c4 (0))), .val (.int (1 : Int32)), .val (.int (0 : Int32)), .val (.int (0 : Int32))]) rfl ?_
        show Steps p.tables e below (T240.setTop (mkF m 180 #[.val (.int p1), .val (.int p2), .val (.int p3), .val (.int p4), .val (.int (0 : Int32)), .val (.int ch1), .val (.int ch2), .val (.int ch3), .val (.ref d), .val (.ref (own_ad c0 c1 c2 c3 c4 (0))), .val (.int (1 : Int32)), .val (.int (0 : Int32)), .val (.int (0 : Int32))] [])) _
        refine XS.aload Xb.here hx rfl (hb hby at_180) rfl rfl ?_
        exact kg)
    have hex : Exa Z h0 (own_ad c0 c1 c2 c3 c4 (0)) "com/example/vaxwire/vaxwire/hl7/Repetition$Content" := by
      have q5 : (0) < 5 := by decide
      generalize (0) = sx at q5 ⊢
      have : sx = 0 ∨ sx = 1 ∨ sx = 2 ∨ sx = 3 ∨ sx = 4 := by omega
      rcases this with rfl | rfl | rfl | rfl | rfl
      · exact E0.ext XE
      · exact E1.ext XE
      · exact E2.ext XE
      · exact E3.ext XE
      · exact E4.ext XE
    obtain ⟨cq247, kq247, q247a, q247b, q247c⟩ := isOf hZ e240 hex
    obtain ⟨_, _, ⟨T247, L247, c247, n247⟩, -, X247, ⟨Lc247, hQ247, l247, y247, z247⟩, st247⟩ := Xb.virtualBack hx (y := (⟨"com/example/vaxwire/vaxwire/hl7/Repetition$Content", "isValue", "()Z"⟩ : MethodName)) (z := (⟨"com/example/vaxwire/vaxwire/hl7/Repetition$Content", "isValue", "()Z"⟩ : MethodName)) hown (mvT hZ (hw _ (List.mem_of_getElem? (i := 11) rfl))) (mvT hZ (hw _ (List.mem_of_getElem? (i := 12) rfl))) (notFace_of_selects (args := #[]) (mvT hZ (hw _ (List.mem_of_getElem? (i := 14) rfl)))) (mvT hZ (hw _ (List.mem_of_getElem? (i := 14) rfl))) (mvT hZ (hw _ (List.mem_of_getElem? (i := 13) rfl))) (by decide) (backOf (W := 0) (rm2 l Z a0 hw [] (own_ad c0 c1 c2 c3 c4 (0)) (0) d c0 c1 c2 c3 c4 h0 n0 Z0 (by decide) rfl Wh0 XE) hZ (hw _ (List.mem_of_getElem? (i := 15) rfl)) (hw _ (List.mem_of_getElem? (i := 9) rfl)) (by decide) (by decide)) q247a q247c (g := (mkF m 182 #[.val (.int p1), .val (.int p2), .val (.int p3), .val (.int p4), .val (.int (0 : Int32)), .val (.int ch1), .val (.int ch2), .val (.int ch3), .val (.ref d), .val (.ref (own_ad c0 c1 c2 c3 c4 (0))), .val (.int (1 : Int32)), .val (.int (0 : Int32)), .val (.int (0 : Int32))] [(.ref (own_ad c0 c1 c2 c3 c4 (0)))])) rfl (by rw [hml]; rfl) (Steps.refl _) (argsL := []) (rest := []) (lenOf own_pd1 rfl) rfl (by show 2 * 0 + _ ≤ _; exact Nat.le_of_eq rfl) (hb hby at_182) (fun _ _ => ⟨rfl, e240, (by decide : 0 + 0 ≤ _), (by decide : 0 + 0 ≤ _)⟩)
    dsimp only [Pt.U, Pt.locs, Pt.cells, Pt.slots] at X247 l247 y247 z247 st247 hQ247
    obtain rfl : c247 = 0 := y247
    obtain rfl : n247 = 0 := z247
    obtain ⟨rfl, N247q, e247⟩ := hQ247
    have N247 := own_frE l247 (Fr.app N234 N247q)
    have k248 : ∀ tg, Steps p.tables e below (T247.setTop (mkF m 185 #[.val (.int p1), .val (.int p2), .val (.int p3), .val (.int p4), .val (.int (0 : Int32)), .val (.int ch1), .val (.int ch2), .val (.int ch3), .val (.ref d), .val (.ref (own_ad c0 c1 c2 c3 c4 (0))), .val (.int (1 : Int32)), .val (.int (0 : Int32)), .val (.int (0 : Int32))] [(.int (own_val (0)))])) tg → Steps p.tables e below (s₁.setTop (entryFrame m #[(.int p1), (.int p2), (.int p3), (.int p4)] maxLocals)) tg := fun tg kg => k246 tg (st247.trans kg)
    have hv : own_val (0) = (0 : Int32) := by rfl
    have k249 : ∀ tg, Steps p.tables e below (T247.setTop (mkF m 195 #[.val (.int p1), .val (.int p2), .val (.int p3), .val (.int p4), .val (.int (0 : Int32)), .val (.int ch1), .val (.int ch2), .val (.int ch3), .val (.ref d), .val (.ref (own_ad c0 c1 c2 c3 c4 (0))), .val (.int (1 : Int32)), .val (.int (0 : Int32)), .val (.int (0 : Int32))] [(.int (1 : Int32))])) tg → Steps p.tables e below (s₁.setTop (entryFrame m #[(.int p1), (.int p2), (.int p3), (.int p4)] maxLocals)) tg := fun tg kg => k248 tg (by
        show Steps p.tables e below (T247.setTop (mkF m 185 #[.val (.int p1), .val (.int p2), .val (.int p3), .val (.int p4), .val (.int (0 : Int32)), .val (.int ch1), .val (.int ch2), .val (.int ch3), .val (.ref d), .val (.ref (own_ad c0 c1 c2 c3 c4 (0))), .val (.int (1 : Int32)), .val (.int (0 : Int32)), .val (.int (0 : Int32))] [(.int (own_val (0)))])) _
        refine XS.iload X247.here hx rfl (hb hby at_185) rfl ?_
        show Steps p.tables e below (T247.setTop (mkF m 187 #[.val (.int p1), .val (.int p2), .val (.int p3), .val (.int p4), .val (.int (0 : Int32)), .val (.int ch1), .val (.int ch2), .val (.int ch3), .val (.ref d), .val (.ref (own_ad c0 c1 c2 c3 c4 (0))), .val (.int (1 : Int32)), .val (.int (0 : Int32)), .val (.int (0 : Int32))] [(.int (0 : Int32)), (.int (own_val (0)))])) _
        refine XS.icmpNo X247.here hx rfl (hb hby at_187) rfl (teq hv).2 ?_
        show Steps p.tables e below (T247.setTop (mkF m 190 #[.val (.int p1), .val (.int p2), .val (.int p3), .val (.int p4), .val (.int (0 : Int32)), .val (.int ch1), .val (.int ch2), .val (.int ch3), .val (.ref d), .val (.ref (own_ad c0 c1 c2 c3 c4 (0))), .val (.int (1 : Int32)), .val (.int (0 : Int32)), .val (.int (0 : Int32))] [])) _
        refine XS.iconst X247.here hx rfl (hb hby at_190) ?_
        show Steps p.tables e below (T247.setTop (mkF m 191 #[.val (.int p1), .val (.int p2), .val (.int p3), .val (.int p4), .val (.int (0 : Int32)), .val (.int ch1), .val (.int ch2), .val (.int ch3), .val (.ref d), .val (.ref (own_ad c0 c1 c2 c3 c4 (0))), .val (.int (1 : Int32)), .val (.int (0 : Int32)), .val (.int (0 : Int32))] [(.int (1 : Int32))])) _
        refine XS.goto X247.here hx rfl (pc0 := 191) (pc' := 195) rfl (hb hby at_191) (by decide) (by decide) ?_
        exact kg)
    obtain ⟨fs, hr, hrun, hended, hend⟩ := Stand.leaveW X247 hS (by rw [e247]; first | exact hk | exact Nat.zero_le _) (v := some (.int (1 : Int32))) (fun h => by rw [Bd.returns] at h; cases h)
    refine ⟨_, _, k249 _ ?_, hrun, hended, _, _, rfl, ?_, own_rmono hend (by decide) (by decide)⟩
    · show Steps p.tables e below (T247.setTop (mkF m 195 #[.val (.int p1), .val (.int p2), .val (.int p3), .val (.int p4), .val (.int (0 : Int32)), .val (.int ch1), .val (.int ch2), .val (.int ch3), .val (.ref d), .val (.ref (own_ad c0 c1 c2 c3 c4 (0))), .val (.int (1 : Int32)), .val (.int (0 : Int32)), .val (.int (0 : Int32))] [(.int (1 : Int32))])) _
      exact retN X247 hx (t := .boolean) Bd.returns (by simp) (hb hby at_195) hr
    · exact ⟨rfl, N247⟩
  · have k250 : ∀ t, Steps p.tables e below (T240.setTop (mkF m 36 #[.val (.int p1), .val (.int p2), .val (.int p3), .val (.int p4), .val (.int (1 : Int32)), .val (.int ch1), .val (.int ch2), .val (.int ch3), .val (.ref d), .val (.ref (own_ad c0 c1 c2 c3 c4 (0))), .unset, .unset, .unset] [])) t → Steps p.tables e below (s₁.setTop (entryFrame m #[(.int p1), (.int p2), (.int p3), (.int p4)] maxLocals)) t := k242
    have k251 : ∀ tg, Steps p.tables e below (T240.setTop (mkF m 48 #[.val (.int p1), .val (.int p2), .val (.int p3), .val (.int p4), .val (.int (1 : Int32)), .val (.int ch1), .val (.int ch2), .val (.int ch3), .val (.ref d), .val (.ref (own_ad c0 c1 c2 c3 c4 (0))), .unset, .unset, .unset] [(.ref d), (.int ch1), (.ref (own_ad c0 c1 c2 c3 c4 (0)))])) tg → Steps p.tables e below (s₁.setTop (entryFrame m #[(.int p1), (.int p2), (.int p3), (.int p4)] maxLocals)) tg := fun tg kg => k250 tg (by
        show Steps p.tables e below (T240.setTop (mkF m 36 #[.val (.int p1), .val (.int p2), .val (.int p3), .val (.int p4), .val (.int (1 : Int32)), .val (.int ch1), .val (.int ch2), .val (.int ch3), .val (.ref d), .val (.ref (own_ad c0 c1 c2 c3 c4 (0))), .unset, .unset, .unset] [])) _
        refine XS.iload Xb.here hx rfl (hb hby at_36) rfl ?_
        show Steps p.tables e below (T240.setTop (mkF m 38 #[.val (.int p1), .val (.int p2), .val (.int p3), .val (.int p4), .val (.int (1 : Int32)), .val (.int ch1), .val (.int ch2), .val (.int ch3), .val (.ref d), .val (.ref (own_ad c0 c1 c2 c3 c4 (0))), .unset, .unset, .unset] [(.int (1 : Int32))])) _
        refine XS.iconst Xb.here hx rfl (hb hby at_38) ?_
        show Steps p.tables e below (T240.setTop (mkF m 39 #[.val (.int p1), .val (.int p2), .val (.int p3), .val (.int p4), .val (.int (1 : Int32)), .val (.int ch1), .val (.int ch2), .val (.int ch3), .val (.ref d), .val (.ref (own_ad c0 c1 c2 c3 c4 (0))), .unset, .unset, .unset] [(.int (1 : Int32)), (.int (1 : Int32))])) _
        refine XS.icmpNo Xb.here hx rfl (hb hby at_39) rfl (flt (by decide)).1 ?_
        show Steps p.tables e below (T240.setTop (mkF m 42 #[.val (.int p1), .val (.int p2), .val (.int p3), .val (.int p4), .val (.int (1 : Int32)), .val (.int ch1), .val (.int ch2), .val (.int ch3), .val (.ref d), .val (.ref (own_ad c0 c1 c2 c3 c4 (0))), .unset, .unset, .unset] [])) _
        refine XS.aload Xb.here hx rfl (hb hby at_42) rfl rfl ?_
        show Steps p.tables e below (T240.setTop (mkF m 44 #[.val (.int p1), .val (.int p2), .val (.int p3), .val (.int p4), .val (.int (1 : Int32)), .val (.int ch1), .val (.int ch2), .val (.int ch3), .val (.ref d), .val (.ref (own_ad c0 c1 c2 c3 c4 (0))), .unset, .unset, .unset] [(.ref (own_ad c0 c1 c2 c3 c4 (0)))])) _
        refine XS.iload Xb.here hx rfl (hb hby at_44) rfl ?_
        show Steps p.tables e below (T240.setTop (mkF m 46 #[.val (.int p1), .val (.int p2), .val (.int p3), .val (.int p4), .val (.int (1 : Int32)), .val (.int ch1), .val (.int ch2), .val (.int ch3), .val (.ref d), .val (.ref (own_ad c0 c1 c2 c3 c4 (0))), .unset, .unset, .unset] [(.int ch1), (.ref (own_ad c0 c1 c2 c3 c4 (0)))])) _
        refine XS.aload Xb.here hx rfl (hb hby at_46) rfl rfl ?_
        exact kg)
    have Ex252 : Exa Z h0 (own_ad c0 c1 c2 c3 c4 (0)) "com/example/vaxwire/vaxwire/hl7/Repetition$Content" := by
      have q5 : (0) < 5 := by decide
      generalize (0) = sx at q5 ⊢
      have : sx = 0 ∨ sx = 1 ∨ sx = 2 ∨ sx = 3 ∨ sx = 4 := by omega
      rcases this with rfl | rfl | rfl | rfl | rfl
      · exact E0.ext XE
      · exact E1.ext XE
      · exact E2.ext XE
      · exact E3.ext XE
      · exact E4.ext XE
    obtain ⟨cq252, kq252, q252a, q252b, q252c⟩ := isOf hZ e240 Ex252
    obtain ⟨_, _, ⟨T252, L252, c252, n252⟩, -, X252, hSn252, hgr252, ⟨Lc252, hQ252, l252, y252, z252⟩, st252⟩ := Xb.virtualBackS hx (y := (⟨"com/example/vaxwire/vaxwire/hl7/Repetition$Content", "after", "(CLcom/example/vaxwire/vaxwire/hl7/Delimiters;)Lcom/example/vaxwire/vaxwire/hl7/Repetition$Content;"⟩ : MethodName)) (z := (⟨"com/example/vaxwire/vaxwire/hl7/Repetition$Content", "after", "(CLcom/example/vaxwire/vaxwire/hl7/Delimiters;)Lcom/example/vaxwire/vaxwire/hl7/Repetition$Content;"⟩ : MethodName)) hown (mvT hZ (hw _ (List.mem_of_getElem? (i := 20) rfl))) (mvT hZ (hw _ (List.mem_of_getElem? (i := 21) rfl))) (notFace_of_selects (args := #[]) (mvT hZ (hw _ (List.mem_of_getElem? (i := 23) rfl)))) (mvT hZ (hw _ (List.mem_of_getElem? (i := 23) rfl))) (mvT hZ (hw _ (List.mem_of_getElem? (i := 22) rfl))) (by decide) (own_backS (W := 0) (rm3 l Z a0 hw [] (own_ad c0 c1 c2 c3 c4 (0)) ch1 d (0) c0 c1 c2 c3 c4 G1 G3 h0 n0 Z0 (by decide) rfl O2 P1 O4 r3 hH hcw Wh0 XE) (fun v t t2 L e1 e2 q => by rw [Q3] at q ⊢; rw [← e1, ← e2]; exact q) hZ (hw _ (List.mem_of_getElem? (i := 24) rfl)) (hw _ (List.mem_of_getElem? (i := 9) rfl)) (by decide) (by decide)) q252a q252c (g := (mkF m 48 #[.val (.int p1), .val (.int p2), .val (.int p3), .val (.int p4), .val (.int (1 : Int32)), .val (.int ch1), .val (.int ch2), .val (.int ch3), .val (.ref d), .val (.ref (own_ad c0 c1 c2 c3 c4 (0))), .unset, .unset, .unset] [(.ref d), (.int ch1), (.ref (own_ad c0 c1 c2 c3 c4 (0)))])) rfl (by rw [hml]; rfl) (Steps.refl _) (argsL := [(.int ch1), (.ref d)]) (rest := []) (lenOf own_pd2 rfl) rfl (by show 2 * 0 + _ ≤ _; exact Nat.le_of_eq rfl) (hb hby at_48) (fun vm1 hv => ⟨rfl, e240, hLd.warm (s := s) hv, (by decide : 0 + 2 ≤ _), (by decide : 0 + 12 ≤ _)⟩)
    dsimp only [Pt.U, Pt.locs, Pt.cells, Pt.slots] at X252 hSn252 hgr252 l252 y252 z252 st252 hQ252
    obtain rfl : c252 = 2 := y252
    obtain rfl : n252 = 12 := z252
    have X252 : Stand p l e room_1 (s.setVm T252.vm) m #[(.int p1), (.int p2), (.int p3), (.int p4)] below meth c T252 L252 2 12 := X252
    obtain ⟨rfl, N252q, EE252, hLd252⟩ := hQ252
    have N252 := own_frE l252 (Fr.app N234 N252q)
    have hS := hS.trans hSn252 (Nat.le_trans hk hgr252)
    have hk := Nat.le_refl T252.heap.size
    have hLd := hLd252
    have XE := own_extT XE EE252
    have Zx252 : n0 ≤ T252.heap.size := Nat.le_trans Z0 EE252.1
    have hZ : Z.Warmed39 (s.setVm T252.vm).vm := State.Warmed39.trans hZ hSn252.1
    have hown : (s.setVm T252.vm).vm.findClass "com/example/vaxwire/vaxwire/hl7/ContentIsValuePinLaw" = some m.cls := by show T252.vm.findClass _ = _; rw [hSn252.1.alike.findClass]; exact hown
    have k253 : ∀ tg, Steps p.tables e below (T252.setTop (mkF m 51 #[.val (.int p1), .val (.int p2), .val (.int p3), .val (.int p4), .val (.int (1 : Int32)), .val (.int ch1), .val (.int ch2), .val (.int ch3), .val (.ref d), .val (.ref (own_ad c0 c1 c2 c3 c4 (0))), .unset, .unset, .unset] [(.ref (own_ad c0 c1 c2 c3 c4 (own_aft (0) ch1)))])) tg → Steps p.tables e below (s₁.setTop (entryFrame m #[(.int p1), (.int p2), (.int p3), (.int p4)] maxLocals)) tg := fun tg kg => k251 tg (st252.trans kg)
    have k254 : ∀ tg, Steps p.tables e below (T252.setTop (mkF m 95 #[.val (.int p1), .val (.int p2), .val (.int p3), .val (.int p4), .val (.int (1 : Int32)), .val (.int ch1), .val (.int ch2), .val (.int ch3), .val (.ref d), .val (.ref (own_ad c0 c1 c2 c3 c4 (own_aft (0) ch1))), .unset, .unset, .unset] [(.int ch1)])) tg → Steps p.tables e below (s₁.setTop (entryFrame m #[(.int p1), (.int p2), (.int p3), (.int p4)] maxLocals)) tg := fun tg kg => k253 tg (by
        show Steps p.tables e below (T252.setTop (mkF m 51 #[.val (.int p1), .val (.int p2), .val (.int p3), .val (.int p4), .val (.int (1 : Int32)), .val (.int ch1), .val (.int ch2), .val (.int ch3), .val (.ref d), .val (.ref (own_ad c0 c1 c2 c3 c4 (0))), .unset, .unset, .unset] [(.ref (own_ad c0 c1 c2 c3 c4 (own_aft (0) ch1)))])) _
        refine XS.astore X252.here hx rfl (hb hby at_51) rfl rfl (l' := #[.val (.int p1), .val (.int p2), .val (.int p3), .val (.int p4), .val (.int (1 : Int32)), .val (.int ch1), .val (.int ch2), .val (.int ch3), .val (.ref d), .val (.ref (own_ad c0 c1 c2 c3 c4 (own_aft (0) ch1))), .unset, .unset, .unset]) rfl ?_
        show Steps p.tables e below (T252.setTop (mkF m 53 #[.val (.int p1), .val (.int p2), .val (.int p3), .val (.int p4), .val (.int (1 : Int32)), .val (.int ch1), .val (.int ch2), .val (.int ch3), .val (.ref d), .val (.ref (own_ad c0 c1 c2 c3 c4 (own_aft (0) ch1))), .unset, .unset, .unset] [])) _
        refine XS.iload X252.here hx rfl (hb hby at_53) rfl ?_
        show Steps p.tables e below (T252.setTop (mkF m 55 #[.val (.int p1), .val (.int p2), .val (.int p3), .val (.int p4), .val (.int (1 : Int32)), .val (.int ch1), .val (.int ch2), .val (.int ch3), .val (.ref d), .val (.ref (own_ad c0 c1 c2 c3 c4 (own_aft (0) ch1))), .unset, .unset, .unset] [(.int (1 : Int32))])) _
        refine XS.iconst X252.here hx rfl (hb hby at_55) ?_
        show Steps p.tables e below (T252.setTop (mkF m 56 #[.val (.int p1), .val (.int p2), .val (.int p3), .val (.int p4), .val (.int (1 : Int32)), .val (.int ch1), .val (.int ch2), .val (.int ch3), .val (.ref d), .val (.ref (own_ad c0 c1 c2 c3 c4 (own_aft (0) ch1))), .unset, .unset, .unset] [(.int (2 : Int32)), (.int (1 : Int32))])) _
        refine XS.icmpYes X252.here hx rfl (pc0 := 56) (pc' := 70) rfl (hb hby at_56) rfl (tlt (by decide)).1 (by decide) (by decide) ?_
        show Steps p.tables e below (T252.setTop (mkF m 70 #[.val (.int p1), .val (.int p2), .val (.int p3), .val (.int p4), .val (.int (1 : Int32)), .val (.int ch1), .val (.int ch2), .val (.int ch3), .val (.ref d), .val (.ref (own_ad c0 c1 c2 c3 c4 (own_aft (0) ch1))), .unset, .unset, .unset] [])) _
        refine XS.iload X252.here hx rfl (hb hby at_70) rfl ?_
        show Steps p.tables e below (T252.setTop (mkF m 72 #[.val (.int p1), .val (.int p2), .val (.int p3), .val (.int p4), .val (.int (1 : Int32)), .val (.int ch1), .val (.int ch2), .val (.int ch3), .val (.ref d), .val (.ref (own_ad c0 c1 c2 c3 c4 (own_aft (0) ch1))), .unset, .unset, .unset] [(.int (1 : Int32))])) _
        refine XS.iconst X252.here hx rfl (hb hby at_72) ?_
        show Steps p.tables e below (T252.setTop (mkF m 73 #[.val (.int p1), .val (.int p2), .val (.int p3), .val (.int p4), .val (.int (1 : Int32)), .val (.int ch1), .val (.int ch2), .val (.int ch3), .val (.ref d), .val (.ref (own_ad c0 c1 c2 c3 c4 (own_aft (0) ch1))), .unset, .unset, .unset] [(.int (3 : Int32)), (.int (1 : Int32))])) _
        refine XS.icmpYes X252.here hx rfl (pc0 := 73) (pc' := 87) rfl (hb hby at_73) rfl (tlt (by decide)).1 (by decide) (by decide) ?_
        show Steps p.tables e below (T252.setTop (mkF m 87 #[.val (.int p1), .val (.int p2), .val (.int p3), .val (.int p4), .val (.int (1 : Int32)), .val (.int ch1), .val (.int ch2), .val (.int ch3), .val (.ref d), .val (.ref (own_ad c0 c1 c2 c3 c4 (own_aft (0) ch1))), .unset, .unset, .unset] [])) _
        refine XS.iload X252.here hx rfl (hb hby at_87) rfl ?_
        show Steps p.tables e below (T252.setTop (mkF m 89 #[.val (.int p1), .val (.int p2), .val (.int p3), .val (.int p4), .val (.int (1 : Int32)), .val (.int ch1), .val (.int ch2), .val (.int ch3), .val (.ref d), .val (.ref (own_ad c0 c1 c2 c3 c4 (own_aft (0) ch1))), .unset, .unset, .unset] [(.int (1 : Int32))])) _
        refine XS.iconst X252.here hx rfl (hb hby at_89) ?_
        show Steps p.tables e below (T252.setTop (mkF m 90 #[.val (.int p1), .val (.int p2), .val (.int p3), .val (.int p4), .val (.int (1 : Int32)), .val (.int ch1), .val (.int ch2), .val (.int ch3), .val (.ref d), .val (.ref (own_ad c0 c1 c2 c3 c4 (own_aft (0) ch1))), .unset, .unset, .unset] [(.int (1 : Int32)), (.int (1 : Int32))])) _
        refine XS.icmpNo X252.here hx rfl (hb hby at_90) rfl (flt (by decide)).1 ?_
        show Steps p.tables e below (T252.setTop (mkF m 93 #[.val (.int p1), .val (.int p2), .val (.int p3), .val (.int p4), .val (.int (1 : Int32)), .val (.int ch1), .val (.int ch2), .val (.int ch3), .val (.ref d), .val (.ref (own_ad c0 c1 c2 c3 c4 (own_aft (0) ch1))), .unset, .unset, .unset] [])) _
        refine XS.iload X252.here hx rfl (hb hby at_93) rfl ?_
        exact kg)
    obtain ⟨_, _, ⟨T255, L255, c255, n255⟩, -, X255, ⟨Lc255, hQ255, l255, y255, z255⟩, st255⟩ := Jvm.LawKit.callS X252 hx (y := (⟨"com/example/vaxwire/vaxwire/hl7/ContentIsValuePinLaw", "isSep", "(C)Z"⟩ : MethodName)) hown (mvT hZ (hw _ (List.mem_of_getElem? (i := 75) rfl))) (mvT hZ (hw _ (List.mem_of_getElem? (i := 76) rfl))) (mvT hZ (hw _ (List.mem_of_getElem? (i := 3) rfl))) (mvT hZ (hw _ (List.mem_of_getElem? (i := 77) rfl))) (by decide) (backOf (W := 0) (rm11 l Z a0 hw [] ch1 T252.heap n0 Zx252) hZ (hw _ (List.mem_of_getElem? (i := 77) rfl)) (hw _ (List.mem_of_getElem? (i := 3) rfl)) (by decide) (by decide)) (g := (mkF m 95 #[.val (.int p1), .val (.int p2), .val (.int p3), .val (.int p4), .val (.int (1 : Int32)), .val (.int ch1), .val (.int ch2), .val (.int ch3), .val (.ref d), .val (.ref (own_ad c0 c1 c2 c3 c4 (own_aft (0) ch1))), .unset, .unset, .unset] [(.int ch1)])) rfl (by rw [hml]; rfl) (argsL := [(.int ch1)]) (rest := []) (lenOf own_pd7 rfl) rfl (by show 2 * 0 + _ ≤ _; exact Nat.le_of_eq rfl) (hb hby at_95) (fun _ _ => ⟨rfl, rfl, (by decide : 2 + 0 ≤ _), (by decide : 12 + 0 ≤ _)⟩)
    dsimp only [Pt.U, Pt.locs, Pt.cells, Pt.slots] at X255 l255 y255 z255 st255 hQ255
    obtain rfl : c255 = 2 := y255
    obtain rfl : n255 = 12 := z255
    obtain ⟨rfl, N255q, e255⟩ := hQ255
    have N255 := own_frE l255 (Fr.app N252 N255q)
    have k256 : ∀ tg, Steps p.tables e below (T255.setTop (mkF m 98 #[.val (.int p1), .val (.int p2), .val (.int p3), .val (.int p4), .val (.int (1 : Int32)), .val (.int ch1), .val (.int ch2), .val (.int ch3), .val (.ref d), .val (.ref (own_ad c0 c1 c2 c3 c4 (own_aft (0) ch1))), .unset, .unset, .unset] [(.int (own_sep ch1))])) tg → Steps p.tables e below (s₁.setTop (entryFrame m #[(.int p1), (.int p2), (.int p3), (.int p4)] maxLocals)) tg := fun tg kg => k254 tg (st255 tg kg)
    by_cases s1 : own_sep ch1 = (0 : Int32)
    · have k257 : ∀ tg, Steps p.tables e below (T255.setTop (mkF m 133 #[.val (.int p1), .val (.int p2), .val (.int p3), .val (.int p4), .val (.int (1 : Int32)), .val (.int ch1), .val (.int ch2), .val (.int ch3), .val (.ref d), .val (.ref (own_ad c0 c1 c2 c3 c4 (own_aft (0) ch1))), .unset, .unset, .unset] [])) tg → Steps p.tables e below (s₁.setTop (entryFrame m #[(.int p1), (.int p2), (.int p3), (.int p4)] maxLocals)) tg := fun tg kg => k256 tg (by
          show Steps p.tables e below (T255.setTop (mkF m 98 #[.val (.int p1), .val (.int p2), .val (.int p3), .val (.int p4), .val (.int (1 : Int32)), .val (.int ch1), .val (.int ch2), .val (.int ch3), .val (.ref d), .val (.ref (own_ad c0 c1 c2 c3 c4 (own_aft (0) ch1))), .unset, .unset, .unset] [(.int (own_sep ch1))])) _
          refine XS.ifYes X255.here hx rfl (pc0 := 98) (pc' := 133) rfl (hb hby at_98) rfl ((if0 _ _).trans (teq s1).1) (by decide) (by decide) ?_
          exact kg)
      have k258 : ∀ tg, Steps p.tables e below (T255.setTop (mkF m 165 #[.val (.int p1), .val (.int p2), .val (.int p3), .val (.int p4), .val (.int (1 : Int32)), .val (.int ch1), .val (.int ch2), .val (.int ch3), .val (.ref d), .val (.ref (own_ad c0 c1 c2 c3 c4 (own_aft (0) ch1))), .val (.int (0 : Int32)), .val (.int (0 : Int32)), .unset] [(.int (0 : Int32))])) tg → Steps p.tables e below (s₁.setTop (entryFrame m #[(.int p1), (.int p2), (.int p3), (.int p4)] maxLocals)) tg := fun tg kg => k257 tg (by
          show Steps p.tables e below (T255.setTop (mkF m 133 #[.val (.int p1), .val (.int p2), .val (.int p3), .val (.int p4), .val (.int (1 : Int32)), .val (.int ch1), .val (.int ch2), .val (.int ch3), .val (.ref d), .val (.ref (own_ad c0 c1 c2 c3 c4 (own_aft (0) ch1))), .unset, .unset, .unset] [])) _
          refine XS.iconst X255.here hx rfl (hb hby at_133) ?_
          show Steps p.tables e below (T255.setTop (mkF m 134 #[.val (.int p1), .val (.int p2), .val (.int p3), .val (.int p4), .val (.int (1 : Int32)), .val (.int ch1), .val (.int ch2), .val (.int ch3), .val (.ref d), .val (.ref (own_ad c0 c1 c2 c3 c4 (own_aft (0) ch1))), .unset, .unset, .unset] [(.int (0 : Int32))])) _
          refine XS.istore X255.here hx rfl (hb hby at_134) rfl (l' := #[.val (.int p1), .val (.int p2), .val (.int p3), .val (.int p4), .val (.int (1 : Int32)), .val (.int ch1), .val (.int ch2), .val (.int ch3), .val (.ref d), .val (.ref (own_ad c0 c1 c2 c3 c4 (own_aft (0) ch1))), .val (.int (0 : Int32)), .unset, .unset]) rfl ?_
          show Steps p.tables e below (T255.setTop (mkF m 136 #[.val (.int p1), .val (.int p2), .val (.int p3), .val (.int p4), .val (.int (1 : Int32)), .val (.int ch1), .val (.int ch2), .val (.int ch3), .val (.ref d), .val (.ref (own_ad c0 c1 c2 c3 c4 (own_aft (0) ch1))), .val (.int (0 : Int32)), .unset, .unset] [])) _
          refine XS.iload X255.here hx rfl (hb hby at_136) rfl ?_
          show Steps p.tables e below (T255.setTop (mkF m 138 #[.val (.int p1), .val (.int p2), .val (.int p3), .val (.int p4), .val (.int (1 : Int32)), .val (.int ch1), .val (.int ch2), .val (.int ch3), .val (.ref d), .val (.ref (own_ad c0 c1 c2 c3 c4 (own_aft (0) ch1))), .val (.int (0 : Int32)), .unset, .unset] [(.int (1 : Int32))])) _
          refine XS.iconst X255.here hx rfl (hb hby at_138) ?_
          show Steps p.tables e below (T255.setTop (mkF m 139 #[.val (.int p1), .val (.int p2), .val (.int p3), .val (.int p4), .val (.int (1 : Int32)), .val (.int ch1), .val (.int ch2), .val (.int ch3), .val (.ref d), .val (.ref (own_ad c0 c1 c2 c3 c4 (own_aft (0) ch1))), .val (.int (0 : Int32)), .unset, .unset] [(.int (2 : Int32)), (.int (1 : Int32))])) _
          refine XS.icmpYes X255.here hx rfl (pc0 := 139) (pc' := 160) rfl (hb hby at_139) rfl (feq (by decide)).2 (by decide) (by decide) ?_
          show Steps p.tables e below (T255.setTop (mkF m 160 #[.val (.int p1), .val (.int p2), .val (.int p3), .val (.int p4), .val (.int (1 : Int32)), .val (.int ch1), .val (.int ch2), .val (.int ch3), .val (.ref d), .val (.ref (own_ad c0 c1 c2 c3 c4 (own_aft (0) ch1))), .val (.int (0 : Int32)), .unset, .unset] [])) _
          refine XS.iconst X255.here hx rfl (hb hby at_160) ?_
          show Steps p.tables e below (T255.setTop (mkF m 161 #[.val (.int p1), .val (.int p2), .val (.int p3), .val (.int p4), .val (.int (1 : Int32)), .val (.int ch1), .val (.int ch2), .val (.int ch3), .val (.ref d), .val (.ref (own_ad c0 c1 c2 c3 c4 (own_aft (0) ch1))), .val (.int (0 : Int32)), .unset, .unset] [(.int (0 : Int32))])) _
          refine XS.istore X255.here hx rfl (hb hby at_161) rfl (l' := #[.val (.int p1), .val (.int p2), .val (.int p3), .val (.int p4), .val (.int (1 : Int32)), .val (.int ch1), .val (.int ch2), .val (.int ch3), .val (.ref d), .val (.ref (own_ad c0 c1 c2 c3 c4 (own_aft (0) ch1))), .val (.int (0 : Int32)), .val (.int (0 : Int32)), .unset]) rfl ?_
          show Steps p.tables e below (T255.setTop (mkF m 163 #[.val (.int p1), .val (.int p2), .val (.int p3), .val (.int p4), .val (.int (1 : Int32)), .val (.int ch1), .val (.int ch2), .val (.int ch3), .val (.ref d), .val (.ref (own_ad c0 c1 c2 c3 c4 (own_aft (0) ch1))), .val (.int (0 : Int32)), .val (.int (0 : Int32)), .unset] [])) _
          refine XS.iload X255.here hx rfl (hb hby at_163) rfl ?_
          exact kg)
      have k259 : ∀ tg, Steps p.tables e below (T255.setTop (mkF m 168 #[.val (.int p1), .val (.int p2), .val (.int p3), .val (.int p4), .val (.int (1 : Int32)), .val (.int ch1), .val (.int ch2), .val (.int ch3), .val (.ref d), .val (.ref (own_ad c0 c1 c2 c3 c4 (own_aft (0) ch1))), .val (.int (0 : Int32)), .val (.int (0 : Int32)), .unset] [])) tg → Steps p.tables e below (s₁.setTop (entryFrame m #[(.int p1), (.int p2), (.int p3), (.int p4)] maxLocals)) tg := fun tg kg => k258 tg (by
          show Steps p.tables e below (T255.setTop (mkF m 165 #[.val (.int p1), .val (.int p2), .val (.int p3), .val (.int p4), .val (.int (1 : Int32)), .val (.int ch1), .val (.int ch2), .val (.int ch3), .val (.ref d), .val (.ref (own_ad c0 c1 c2 c3 c4 (own_aft (0) ch1))), .val (.int (0 : Int32)), .val (.int (0 : Int32)), .unset] [(.int (0 : Int32))])) _
          refine XS.ifNo X255.here hx rfl (hb hby at_165) rfl ((if0 _ _).trans (teq (by decide)).2) ?_
          exact kg)
      have k260 : ∀ tg, Steps p.tables e below (T255.setTop (mkF m 170 #[.val (.int p1), .val (.int p2), .val (.int p3), .val (.int p4), .val (.int (1 : Int32)), .val (.int ch1), .val (.int ch2), .val (.int ch3), .val (.ref d), .val (.ref (own_ad c0 c1 c2 c3 c4 (own_aft (0) ch1))), .val (.int (0 : Int32)), .val (.int (0 : Int32)), .unset] [(.int (0 : Int32))])) tg → Steps p.tables e below (s₁.setTop (entryFrame m #[(.int p1), (.int p2), (.int p3), (.int p4)] maxLocals)) tg := fun tg kg => k259 tg (by
          show Steps p.tables e below (T255.setTop (mkF m 168 #[.val (.int p1), .val (.int p2), .val (.int p3), .val (.int p4), .val (.int (1 : Int32)), .val (.int ch1), .val (.int ch2), .val (.int ch3), .val (.ref d), .val (.ref (own_ad c0 c1 c2 c3 c4 (own_aft (0) ch1))), .val (.int (0 : Int32)), .val (.int (0 : Int32)), .unset] [])) _
          refine XS.iload X255.here hx rfl (hb hby at_168) rfl ?_
          exact kg)
      have k261 : ∀ tg, Steps p.tables e below (T255.setTop (mkF m 173 #[.val (.int p1), .val (.int p2), .val (.int p3), .val (.int p4), .val (.int (1 : Int32)), .val (.int ch1), .val (.int ch2), .val (.int ch3), .val (.ref d), .val (.ref (own_ad c0 c1 c2 c3 c4 (own_aft (0) ch1))), .val (.int (0 : Int32)), .val (.int (0 : Int32)), .unset] [])) tg → Steps p.tables e below (s₁.setTop (entryFrame m #[(.int p1), (.int p2), (.int p3), (.int p4)] maxLocals)) tg := fun tg kg => k260 tg (by
          show Steps p.tables e below (T255.setTop (mkF m 170 #[.val (.int p1), .val (.int p2), .val (.int p3), .val (.int p4), .val (.int (1 : Int32)), .val (.int ch1), .val (.int ch2), .val (.int ch3), .val (.ref d), .val (.ref (own_ad c0 c1 c2 c3 c4 (own_aft (0) ch1))), .val (.int (0 : Int32)), .val (.int (0 : Int32)), .unset] [(.int (0 : Int32))])) _
          refine XS.ifNo X255.here hx rfl (hb hby at_170) rfl ((if0 _ _).trans (teq (by decide)).2) ?_
          exact kg)
      have k262 : ∀ tg, Steps p.tables e below (T255.setTop (mkF m 182 #[.val (.int p1), .val (.int p2), .val (.int p3), .val (.int p4), .val (.int (1 : Int32)), .val (.int ch1), .val (.int ch2), .val (.int ch3), .val (.ref d), .val (.ref (own_ad c0 c1 c2 c3 c4 (own_aft (0) ch1))), .val (.int (0 : Int32)), .val (.int (0 : Int32)), .val (.int (1 : Int32))] [(.ref (own_ad c0 c1 c2 c3 c4 (own_aft (0) ch1)))])) tg → Steps p.tables e below (s₁.setTop (entryFrame m #[(.int p1), (.int p2), (.int p3), (.int p4)] maxLocals)) tg := fun tg kg => k261 tg (by
          show Steps p.tables e below (T255.setTop (mkF m 173 #[.val (.int p1), .val (.int p2), .val (.int p3), .val (.int p4), .val (.int (1 : Int32)), .val (.int ch1), .val (.int ch2), .val (.int ch3), .val (.ref d), .val (.ref (own_ad c0 c1 c2 c3 c4 (own_aft (0) ch1))), .val (.int (0 : Int32)), .val (.int (0 : Int32)), .unset] [])) _
          refine XS.iconst X255.here hx rfl (hb hby at_173) ?_
          show Steps p.tables e below (T255.setTop (mkF m 174 #[.val (.int p1), .val (.int p2), .val (.int p3), .val (.int p4), .val (.int (1 : Int32)), .val (.int ch1), .val (.int ch2), .val (.int ch3), .val (.ref d), .val (.ref (own_ad c0 c1 c2 c3 c4 (own_aft (0) ch1))), .val (.int (0 : Int32)), .val (.int (0 : Int32)), .unset] [(.int (1 : Int32))])) _
          refine XS.goto X255.here hx rfl (pc0 := 174) (pc' := 178) rfl (hb hby at_174) (by decide) (by decide) ?_
          show Steps p.tables e below (T255.setTop (mkF m 178 #[.val (.int p1), .val (.int p2), .val (.int p3), .val (.int p4), .val (.int (1 : Int32)), .val (.int ch1), .val (.int ch2), .val (.int ch3), .val (.ref d), .val (.ref (own_ad c0 c1 c2 c3 c4 (own_aft (0) ch1))), .val (.int (0 : Int32)), .val (.int (0 : Int32)), .unset] [(.int (1 : Int32))])) _
          refine XS.istore X255.here hx rfl (hb hby at_178) rfl (l' := #[.val (.int p1), .val (.int p2), .val (.int p3), .val (.int p4), .val (.int (1 : Int32)), .val (.int ch1), .val (.int ch2), .val (.int ch3), .val (.ref d), .val (.ref (own_ad c0 c1 c2 c3 c4 (own_aft (0) ch1))), .val (.int (0 : Int32)), .val (.int (0 : Int32)), .val (.int (1 : Int32))]) rfl ?_
          show Steps p.tables e below (T255.setTop (mkF m 180 #[.val (.int p1), .val (.int p2), .val (.int p3), .val (.int p4), .val (.int (1 : Int32)), .val (.int ch1), .val (.int ch2), .val (.int ch3), .val (.ref d), .val (.ref (own_ad c0 c1 c2 c3 c4 (own_aft (0) ch1))), .val (.int (0 : Int32)), .val (.int (0 : Int32)), .val (.int (1 : Int32))] [])) _
          refine XS.aload X255.here hx rfl (hb hby at_180) rfl rfl ?_
          exact kg)
      have hex : Exa Z T252.heap (own_ad c0 c1 c2 c3 c4 (own_aft (0) ch1)) "com/example/vaxwire/vaxwire/hl7/Repetition$Content" := by
        have q5 : (own_aft (0) ch1) < 5 := own_aft5 _ _
        generalize (own_aft (0) ch1) = sx at q5 ⊢
        have : sx = 0 ∨ sx = 1 ∨ sx = 2 ∨ sx = 3 ∨ sx = 4 := by omega
        rcases this with rfl | rfl | rfl | rfl | rfl
        · exact E0.ext XE
        · exact E1.ext XE
        · exact E2.ext XE
        · exact E3.ext XE
        · exact E4.ext XE
      obtain ⟨cq263, kq263, q263a, q263b, q263c⟩ := isOf hZ e255 hex
      obtain ⟨_, _, ⟨T263, L263, c263, n263⟩, -, X263, ⟨Lc263, hQ263, l263, y263, z263⟩, st263⟩ := X255.virtualBack hx (y := (⟨"com/example/vaxwire/vaxwire/hl7/Repetition$Content", "isValue", "()Z"⟩ : MethodName)) (z := (⟨"com/example/vaxwire/vaxwire/hl7/Repetition$Content", "isValue", "()Z"⟩ : MethodName)) hown (mvT hZ (hw _ (List.mem_of_getElem? (i := 11) rfl))) (mvT hZ (hw _ (List.mem_of_getElem? (i := 12) rfl))) (notFace_of_selects (args := #[]) (mvT hZ (hw _ (List.mem_of_getElem? (i := 14) rfl)))) (mvT hZ (hw _ (List.mem_of_getElem? (i := 14) rfl))) (mvT hZ (hw _ (List.mem_of_getElem? (i := 13) rfl))) (by decide) (backOf (W := 0) (rm2 l Z a0 hw [] (own_ad c0 c1 c2 c3 c4 (own_aft (0) ch1)) (own_aft (0) ch1) d c0 c1 c2 c3 c4 T252.heap n0 Zx252 (own_aft5 _ _) rfl Wh0 XE) hZ (hw _ (List.mem_of_getElem? (i := 15) rfl)) (hw _ (List.mem_of_getElem? (i := 9) rfl)) (by decide) (by decide)) q263a q263c (g := (mkF m 182 #[.val (.int p1), .val (.int p2), .val (.int p3), .val (.int p4), .val (.int (1 : Int32)), .val (.int ch1), .val (.int ch2), .val (.int ch3), .val (.ref d), .val (.ref (own_ad c0 c1 c2 c3 c4 (own_aft (0) ch1))), .val (.int (0 : Int32)), .val (.int (0 : Int32)), .val (.int (1 : Int32))] [(.ref (own_ad c0 c1 c2 c3 c4 (own_aft (0) ch1)))])) rfl (by rw [hml]; rfl) (Steps.refl _) (argsL := []) (rest := []) (lenOf own_pd1 rfl) rfl (by show 2 * 0 + _ ≤ _; exact Nat.le_of_eq rfl) (hb hby at_182) (fun _ _ => ⟨rfl, e255, (by decide : 2 + 0 ≤ _), (by decide : 12 + 0 ≤ _)⟩)
      dsimp only [Pt.U, Pt.locs, Pt.cells, Pt.slots] at X263 l263 y263 z263 st263 hQ263
      obtain rfl : c263 = 2 := y263
      obtain rfl : n263 = 12 := z263
      obtain ⟨rfl, N263q, e263⟩ := hQ263
      have N263 := own_frE l263 (Fr.app N255 N263q)
      have k264 : ∀ tg, Steps p.tables e below (T263.setTop (mkF m 185 #[.val (.int p1), .val (.int p2), .val (.int p3), .val (.int p4), .val (.int (1 : Int32)), .val (.int ch1), .val (.int ch2), .val (.int ch3), .val (.ref d), .val (.ref (own_ad c0 c1 c2 c3 c4 (own_aft (0) ch1))), .val (.int (0 : Int32)), .val (.int (0 : Int32)), .val (.int (1 : Int32))] [(.int (own_val (own_aft (0) ch1)))])) tg → Steps p.tables e below (s₁.setTop (entryFrame m #[(.int p1), (.int p2), (.int p3), (.int p4)] maxLocals)) tg := fun tg kg => k262 tg (st263.trans kg)
      have hv : own_val (own_aft (0) ch1) = (1 : Int32) := by rw [own_f1]; simp [s1]
      have k265 : ∀ tg, Steps p.tables e below (T263.setTop (mkF m 195 #[.val (.int p1), .val (.int p2), .val (.int p3), .val (.int p4), .val (.int (1 : Int32)), .val (.int ch1), .val (.int ch2), .val (.int ch3), .val (.ref d), .val (.ref (own_ad c0 c1 c2 c3 c4 (own_aft (0) ch1))), .val (.int (0 : Int32)), .val (.int (0 : Int32)), .val (.int (1 : Int32))] [(.int (1 : Int32))])) tg → Steps p.tables e below (s₁.setTop (entryFrame m #[(.int p1), (.int p2), (.int p3), (.int p4)] maxLocals)) tg := fun tg kg => k264 tg (by
          show Steps p.tables e below (T263.setTop (mkF m 185 #[.val (.int p1), .val (.int p2), .val (.int p3), .val (.int p4), .val (.int (1 : Int32)), .val (.int ch1), .val (.int ch2), .val (.int ch3), .val (.ref d), .val (.ref (own_ad c0 c1 c2 c3 c4 (own_aft (0) ch1))), .val (.int (0 : Int32)), .val (.int (0 : Int32)), .val (.int (1 : Int32))] [(.int (own_val (own_aft (0) ch1)))])) _
          refine XS.iload X263.here hx rfl (hb hby at_185) rfl ?_
          show Steps p.tables e below (T263.setTop (mkF m 187 #[.val (.int p1), .val (.int p2), .val (.int p3), .val (.int p4), .val (.int (1 : Int32)), .val (.int ch1), .val (.int ch2), .val (.int ch3), .val (.ref d), .val (.ref (own_ad c0 c1 c2 c3 c4 (own_aft (0) ch1))), .val (.int (0 : Int32)), .val (.int (0 : Int32)), .val (.int (1 : Int32))] [(.int (1 : Int32)), (.int (own_val (own_aft (0) ch1)))])) _
          refine XS.icmpNo X263.here hx rfl (hb hby at_187) rfl (teq hv).2 ?_
          show Steps p.tables e below (T263.setTop (mkF m 190 #[.val (.int p1), .val (.int p2), .val (.int p3), .val (.int p4), .val (.int (1 : Int32)), .val (.int ch1), .val (.int ch2), .val (.int ch3), .val (.ref d), .val (.ref (own_ad c0 c1 c2 c3 c4 (own_aft (0) ch1))), .val (.int (0 : Int32)), .val (.int (0 : Int32)), .val (.int (1 : Int32))] [])) _
          refine XS.iconst X263.here hx rfl (hb hby at_190) ?_
          show Steps p.tables e below (T263.setTop (mkF m 191 #[.val (.int p1), .val (.int p2), .val (.int p3), .val (.int p4), .val (.int (1 : Int32)), .val (.int ch1), .val (.int ch2), .val (.int ch3), .val (.ref d), .val (.ref (own_ad c0 c1 c2 c3 c4 (own_aft (0) ch1))), .val (.int (0 : Int32)), .val (.int (0 : Int32)), .val (.int (1 : Int32))] [(.int (1 : Int32))])) _
          refine XS.goto X263.here hx rfl (pc0 := 191) (pc' := 195) rfl (hb hby at_191) (by decide) (by decide) ?_
          exact kg)
      obtain ⟨fs, hr, hrun, hended, hend⟩ := Stand.leaveW X263 hS (by rw [e263]; first | exact hk | exact Nat.zero_le _) (v := some (.int (1 : Int32))) (fun h => by rw [Bd.returns] at h; cases h)
      refine ⟨_, _, k265 _ ?_, hrun, hended, _, _, rfl, ?_, own_rmono hend (by decide) (by decide)⟩
      · show Steps p.tables e below (T263.setTop (mkF m 195 #[.val (.int p1), .val (.int p2), .val (.int p3), .val (.int p4), .val (.int (1 : Int32)), .val (.int ch1), .val (.int ch2), .val (.int ch3), .val (.ref d), .val (.ref (own_ad c0 c1 c2 c3 c4 (own_aft (0) ch1))), .val (.int (0 : Int32)), .val (.int (0 : Int32)), .val (.int (1 : Int32))] [(.int (1 : Int32))])) _
        exact retN X263 hx (t := .boolean) Bd.returns (by simp) (hb hby at_195) hr
      · exact ⟨rfl, N263⟩
    · have k266 : ∀ tg, Steps p.tables e below (T255.setTop (mkF m 101 #[.val (.int p1), .val (.int p2), .val (.int p3), .val (.int p4), .val (.int (1 : Int32)), .val (.int ch1), .val (.int ch2), .val (.int ch3), .val (.ref d), .val (.ref (own_ad c0 c1 c2 c3 c4 (own_aft (0) ch1))), .unset, .unset, .unset] [])) tg → Steps p.tables e below (s₁.setTop (entryFrame m #[(.int p1), (.int p2), (.int p3), (.int p4)] maxLocals)) tg := fun tg kg => k256 tg (by
          show Steps p.tables e below (T255.setTop (mkF m 98 #[.val (.int p1), .val (.int p2), .val (.int p3), .val (.int p4), .val (.int (1 : Int32)), .val (.int ch1), .val (.int ch2), .val (.int ch3), .val (.ref d), .val (.ref (own_ad c0 c1 c2 c3 c4 (own_aft (0) ch1))), .unset, .unset, .unset] [(.int (own_sep ch1))])) _
          refine XS.ifNo X255.here hx rfl (hb hby at_98) rfl ((if0 _ _).trans (feq s1).1) ?_
          exact kg)
      have k267 : ∀ tg, Steps p.tables e below (T255.setTop (mkF m 165 #[.val (.int p1), .val (.int p2), .val (.int p3), .val (.int p4), .val (.int (1 : Int32)), .val (.int ch1), .val (.int ch2), .val (.int ch3), .val (.ref d), .val (.ref (own_ad c0 c1 c2 c3 c4 (own_aft (0) ch1))), .val (.int (1 : Int32)), .val (.int (0 : Int32)), .unset] [(.int (1 : Int32))])) tg → Steps p.tables e below (s₁.setTop (entryFrame m #[(.int p1), (.int p2), (.int p3), (.int p4)] maxLocals)) tg := fun tg kg => k266 tg (by
          show Steps p.tables e below (T255.setTop (mkF m 101 #[.val (.int p1), .val (.int p2), .val (.int p3), .val (.int p4), .val (.int (1 : Int32)), .val (.int ch1), .val (.int ch2), .val (.int ch3), .val (.ref d), .val (.ref (own_ad c0 c1 c2 c3 c4 (own_aft (0) ch1))), .unset, .unset, .unset] [])) _
          refine XS.iload X255.here hx rfl (hb hby at_101) rfl ?_
          show Steps p.tables e below (T255.setTop (mkF m 103 #[.val (.int p1), .val (.int p2), .val (.int p3), .val (.int p4), .val (.int (1 : Int32)), .val (.int ch1), .val (.int ch2), .val (.int ch3), .val (.ref d), .val (.ref (own_ad c0 c1 c2 c3 c4 (own_aft (0) ch1))), .unset, .unset, .unset] [(.int (1 : Int32))])) _
          refine XS.iconst X255.here hx rfl (hb hby at_103) ?_
          show Steps p.tables e below (T255.setTop (mkF m 104 #[.val (.int p1), .val (.int p2), .val (.int p3), .val (.int p4), .val (.int (1 : Int32)), .val (.int ch1), .val (.int ch2), .val (.int ch3), .val (.ref d), .val (.ref (own_ad c0 c1 c2 c3 c4 (own_aft (0) ch1))), .unset, .unset, .unset] [(.int (2 : Int32)), (.int (1 : Int32))])) _
          refine XS.icmpYes X255.here hx rfl (pc0 := 104) (pc' := 115) rfl (hb hby at_104) rfl (tlt (by decide)).1 (by decide) (by decide) ?_
          show Steps p.tables e below (T255.setTop (mkF m 115 #[.val (.int p1), .val (.int p2), .val (.int p3), .val (.int p4), .val (.int (1 : Int32)), .val (.int ch1), .val (.int ch2), .val (.int ch3), .val (.ref d), .val (.ref (own_ad c0 c1 c2 c3 c4 (own_aft (0) ch1))), .unset, .unset, .unset] [])) _
          refine XS.iload X255.here hx rfl (hb hby at_115) rfl ?_
          show Steps p.tables e below (T255.setTop (mkF m 117 #[.val (.int p1), .val (.int p2), .val (.int p3), .val (.int p4), .val (.int (1 : Int32)), .val (.int ch1), .val (.int ch2), .val (.int ch3), .val (.ref d), .val (.ref (own_ad c0 c1 c2 c3 c4 (own_aft (0) ch1))), .unset, .unset, .unset] [(.int (1 : Int32))])) _
          refine XS.iconst X255.here hx rfl (hb hby at_117) ?_
          show Steps p.tables e below (T255.setTop (mkF m 118 #[.val (.int p1), .val (.int p2), .val (.int p3), .val (.int p4), .val (.int (1 : Int32)), .val (.int ch1), .val (.int ch2), .val (.int ch3), .val (.ref d), .val (.ref (own_ad c0 c1 c2 c3 c4 (own_aft (0) ch1))), .unset, .unset, .unset] [(.int (3 : Int32)), (.int (1 : Int32))])) _
          refine XS.icmpYes X255.here hx rfl (pc0 := 118) (pc' := 129) rfl (hb hby at_118) rfl (tlt (by decide)).1 (by decide) (by decide) ?_
          show Steps p.tables e below (T255.setTop (mkF m 129 #[.val (.int p1), .val (.int p2), .val (.int p3), .val (.int p4), .val (.int (1 : Int32)), .val (.int ch1), .val (.int ch2), .val (.int ch3), .val (.ref d), .val (.ref (own_ad c0 c1 c2 c3 c4 (own_aft (0) ch1))), .unset, .unset, .unset] [])) _
          refine XS.iconst X255.here hx rfl (hb hby at_129) ?_
          show Steps p.tables e below (T255.setTop (mkF m 130 #[.val (.int p1), .val (.int p2), .val (.int p3), .val (.int p4), .val (.int (1 : Int32)), .val (.int ch1), .val (.int ch2), .val (.int ch3), .val (.ref d), .val (.ref (own_ad c0 c1 c2 c3 c4 (own_aft (0) ch1))), .unset, .unset, .unset] [(.int (1 : Int32))])) _
          refine XS.goto X255.here hx rfl (pc0 := 130) (pc' := 134) rfl (hb hby at_130) (by decide) (by decide) ?_
          show Steps p.tables e below (T255.setTop (mkF m 134 #[.val (.int p1), .val (.int p2), .val (.int p3), .val (.int p4), .val (.int (1 : Int32)), .val (.int ch1), .val (.int ch2), .val (.int ch3), .val (.ref d), .val (.ref (own_ad c0 c1 c2 c3 c4 (own_aft (0) ch1))), .unset, .unset, .unset] [(.int (1 : Int32))])) _
          refine XS.istore X255.here hx rfl (hb hby at_134) rfl (l' := #[.val (.int p1), .val (.int p2), .val (.int p3), .val (.int p4), .val (.int (1 : Int32)), .val (.int ch1), .val (.int ch2), .val (.int ch3), .val (.ref d), .val (.ref (own_ad c0 c1 c2 c3 c4 (own_aft (0) ch1))), .val (.int (1 : Int32)), .unset, .unset]) rfl ?_
          show Steps p.tables e below (T255.setTop (mkF m 136 #[.val (.int p1), .val (.int p2), .val (.int p3), .val (.int p4), .val (.int (1 : Int32)), .val (.int ch1), .val (.int ch2), .val (.int ch3), .val (.ref d), .val (.ref (own_ad c0 c1 c2 c3 c4 (own_aft (0) ch1))), .val (.int (1 : Int32)), .unset, .unset] [])) _
          refine XS.iload X255.here hx rfl (hb hby at_136) rfl ?_
          show Steps p.tables e below (T255.setTop (mkF m 138 #[.val (.int p1), .val (.int p2), .val (.int p3), .val (.int p4), .val (.int (1 : Int32)), .val (.int ch1), .val (.int ch2), .val (.int ch3), .val (.ref d), .val (.ref (own_ad c0 c1 c2 c3 c4 (own_aft (0) ch1))), .val (.int (1 : Int32)), .unset, .unset] [(.int (1 : Int32))])) _
          refine XS.iconst X255.here hx rfl (hb hby at_138) ?_
          show Steps p.tables e below (T255.setTop (mkF m 139 #[.val (.int p1), .val (.int p2), .val (.int p3), .val (.int p4), .val (.int (1 : Int32)), .val (.int ch1), .val (.int ch2), .val (.int ch3), .val (.ref d), .val (.ref (own_ad c0 c1 c2 c3 c4 (own_aft (0) ch1))), .val (.int (1 : Int32)), .unset, .unset] [(.int (2 : Int32)), (.int (1 : Int32))])) _
          refine XS.icmpYes X255.here hx rfl (pc0 := 139) (pc' := 160) rfl (hb hby at_139) rfl (feq (by decide)).2 (by decide) (by decide) ?_
          show Steps p.tables e below (T255.setTop (mkF m 160 #[.val (.int p1), .val (.int p2), .val (.int p3), .val (.int p4), .val (.int (1 : Int32)), .val (.int ch1), .val (.int ch2), .val (.int ch3), .val (.ref d), .val (.ref (own_ad c0 c1 c2 c3 c4 (own_aft (0) ch1))), .val (.int (1 : Int32)), .unset, .unset] [])) _
          refine XS.iconst X255.here hx rfl (hb hby at_160) ?_
          show Steps p.tables e below (T255.setTop (mkF m 161 #[.val (.int p1), .val (.int p2), .val (.int p3), .val (.int p4), .val (.int (1 : Int32)), .val (.int ch1), .val (.int ch2), .val (.int ch3), .val (.ref d), .val (.ref (own_ad c0 c1 c2 c3 c4 (own_aft (0) ch1))), .val (.int (1 : Int32)), .unset, .unset] [(.int (0 : Int32))])) _
          refine XS.istore X255.here hx rfl (hb hby at_161) rfl (l' := #[.val (.int p1), .val (.int p2), .val (.int p3), .val (.int p4), .val (.int (1 : Int32)), .val (.int ch1), .val (.int ch2), .val (.int ch3), .val (.ref d), .val (.ref (own_ad c0 c1 c2 c3 c4 (own_aft (0) ch1))), .val (.int (1 : Int32)), .val (.int (0 : Int32)), .unset]) rfl ?_
          show Steps p.tables e below (T255.setTop (mkF m 163 #[.val (.int p1), .val (.int p2), .val (.int p3), .val (.int p4), .val (.int (1 : Int32)), .val (.int ch1), .val (.int ch2), .val (.int ch3), .val (.ref d), .val (.ref (own_ad c0 c1 c2 c3 c4 (own_aft (0) ch1))), .val (.int (1 : Int32)), .val (.int (0 : Int32)), .unset] [])) _
          refine XS.iload X255.here hx rfl (hb hby at_163) rfl ?_
          exact kg)
      have k268 : ∀ tg, Steps p.tables e below (T255.setTop (mkF m 177 #[.val (.int p1), .val (.int p2), .val (.int p3), .val (.int p4), .val (.int (1 : Int32)), .val (.int ch1), .val (.int ch2), .val (.int ch3), .val (.ref d), .val (.ref (own_ad c0 c1 c2 c3 c4 (own_aft (0) ch1))), .val (.int (1 : Int32)), .val (.int (0 : Int32)), .unset] [])) tg → Steps p.tables e below (s₁.setTop (entryFrame m #[(.int p1), (.int p2), (.int p3), (.int p4)] maxLocals)) tg := fun tg kg => k267 tg (by
          show Steps p.tables e below (T255.setTop (mkF m 165 #[.val (.int p1), .val (.int p2), .val (.int p3), .val (.int p4), .val (.int (1 : Int32)), .val (.int ch1), .val (.int ch2), .val (.int ch3), .val (.ref d), .val (.ref (own_ad c0 c1 c2 c3 c4 (own_aft (0) ch1))), .val (.int (1 : Int32)), .val (.int (0 : Int32)), .unset] [(.int (1 : Int32))])) _
          refine XS.ifYes X255.here hx rfl (pc0 := 165) (pc' := 177) rfl (hb hby at_165) rfl ((if0 _ _).trans (feq (by decide)).2) (by decide) (by decide) ?_
          exact kg)
      have k269 : ∀ tg, Steps p.tables e below (T255.setTop (mkF m 182 #[.val (.int p1), .val (.int p2), .val (.int p3), .val (.int p4), .val (.int (1 : Int32)), .val (.int ch1), .val (.int ch2), .val (.int ch3), .val (.ref d), .val (.ref (own_ad c0 c1 c2 c3 c4 (own_aft (0) ch1))), .val (.int (1 : Int32)), .val (.int (0 : Int32)), .val (.int (0 : Int32))] [(.ref (own_ad c0 c1 c2 c3 c4 (own_aft (0) ch1)))])) tg → Steps p.tables e below (s₁.setTop (entryFrame m #[(.int p1), (.int p2), (.int p3), (.int p4)] maxLocals)) tg := fun tg kg => k268 tg (by
          show Steps p.tables e below (T255.setTop (mkF m 177 #[.val (.int p1), .val (.int p2), .val (.int p3), .val (.int p4), .val (.int (1 : Int32)), .val (.int ch1), .val (.int ch2), .val (.int ch3), .val (.ref d), .val (.ref (own_ad c0 c1 c2 c3 c4 (own_aft (0) ch1))), .val (.int (1 : Int32)), .val (.int (0 : Int32)), .unset] [])) _
          refine XS.iconst X255.here hx rfl (hb hby at_177) ?_
          show Steps p.tables e below (T255.setTop (mkF m 178 #[.val (.int p1), .val (.int p2), .val (.int p3), .val (.int p4), .val (.int (1 : Int32)), .val (.int ch1), .val (.int ch2), .val (.int ch3), .val (.ref d), .val (.ref (own_ad c0 c1 c2 c3 c4 (own_aft (0) ch1))), .val (.int (1 : Int32)), .val (.int (0 : Int32)), .unset] [(.int (0 : Int32))])) _
          refine XS.istore X255.here hx rfl (hb hby at_178) rfl (l' := #[.val (.int p1), .val (.int p2), .val (.int p3), .val (.int p4), .val (.int (1 : Int32)), .val (.int ch1), .val (.int ch2), .val (.int ch3), .val (.ref d), .val (.ref (own_ad c0 c1 c2 c3 c4 (own_aft (0) ch1))), .val (.int (1 : Int32)), .val (.int (0 : Int32)), .val (.int (0 : Int32))]) rfl ?_
          show Steps p.tables e below (T255.setTop (mkF m 180 #[.val (.int p1), .val (.int p2), .val (.int p3), .val (.int p4), .val (.int (1 : Int32)), .val (.int ch1), .val (.int ch2), .val (.int ch3), .val (.ref d), .val (.ref (own_ad c0 c1 c2 c3 c4 (own_aft (0) ch1))), .val (.int (1 : Int32)), .val (.int (0 : Int32)), .val (.int (0 : Int32))] [])) _
          refine XS.aload X255.here hx rfl (hb hby at_180) rfl rfl ?_
          exact kg)
      have hex : Exa Z T252.heap (own_ad c0 c1 c2 c3 c4 (own_aft (0) ch1)) "com/example/vaxwire/vaxwire/hl7/Repetition$Content" := by
        have q5 : (own_aft (0) ch1) < 5 := own_aft5 _ _
        generalize (own_aft (0) ch1) = sx at q5 ⊢
        have : sx = 0 ∨ sx = 1 ∨ sx = 2 ∨ sx = 3 ∨ sx = 4 := by omega
        rcases this with rfl | rfl | rfl | rfl | rfl
        · exact E0.ext XE
        · exact E1.ext XE
        · exact E2.ext XE
        · exact E3.ext XE
        · exact E4.ext XE
      obtain ⟨cq270, kq270, q270a, q270b, q270c⟩ := isOf hZ e255 hex
      obtain ⟨_, _, ⟨T270, L270, c270, n270⟩, -, X270, ⟨Lc270, hQ270, l270, y270, z270⟩, st270⟩ := X255.virtualBack hx (y := (⟨"com/example/vaxwire/vaxwire/hl7/Repetition$Content", "isValue", "()Z"⟩ : MethodName)) (z := (⟨"com/example/vaxwire/vaxwire/hl7/Repetition$Content", "isValue", "()Z"⟩ : MethodName)) hown (mvT hZ (hw _ (List.mem_of_getElem? (i := 11) rfl))) (mvT hZ (hw _ (List.mem_of_getElem? (i := 12) rfl))) (notFace_of_selects (args := #[]) (mvT hZ (hw _ (List.mem_of_getElem? (i := 14) rfl)))) (mvT hZ (hw _ (List.mem_of_getElem? (i := 14) rfl))) (mvT hZ (hw _ (List.mem_of_getElem? (i := 13) rfl))) (by decide) (backOf (W := 0) (rm2 l Z a0 hw [] (own_ad c0 c1 c2 c3 c4 (own_aft (0) ch1)) (own_aft (0) ch1) d c0 c1 c2 c3 c4 T252.heap n0 Zx252 (own_aft5 _ _) rfl Wh0 XE) hZ (hw _ (List.mem_of_getElem? (i := 15) rfl)) (hw _ (List.mem_of_getElem? (i := 9) rfl)) (by decide) (by decide)) q270a q270c (g := (mkF m 182 #[.val (.int p1), .val (.int p2), .val (.int p3), .val (.int p4), .val (.int (1 : Int32)), .val (.int ch1), .val (.int ch2), .val (.int ch3), .val (.ref d), .val (.ref (own_ad c0 c1 c2 c3 c4 (own_aft (0) ch1))), .val (.int (1 : Int32)), .val (.int (0 : Int32)), .val (.int (0 : Int32))] [(.ref (own_ad c0 c1 c2 c3 c4 (own_aft (0) ch1)))])) rfl (by rw [hml]; rfl) (Steps.refl _) (argsL := []) (rest := []) (lenOf own_pd1 rfl) rfl (by show 2 * 0 + _ ≤ _; exact Nat.le_of_eq rfl) (hb hby at_182) (fun _ _ => ⟨rfl, e255, (by decide : 2 + 0 ≤ _), (by decide : 12 + 0 ≤ _)⟩)
      dsimp only [Pt.U, Pt.locs, Pt.cells, Pt.slots] at X270 l270 y270 z270 st270 hQ270
      obtain rfl : c270 = 2 := y270
      obtain rfl : n270 = 12 := z270
      obtain ⟨rfl, N270q, e270⟩ := hQ270
      have N270 := own_frE l270 (Fr.app N255 N270q)
      have k271 : ∀ tg, Steps p.tables e below (T270.setTop (mkF m 185 #[.val (.int p1), .val (.int p2), .val (.int p3), .val (.int p4), .val (.int (1 : Int32)), .val (.int ch1), .val (.int ch2), .val (.int ch3), .val (.ref d), .val (.ref (own_ad c0 c1 c2 c3 c4 (own_aft (0) ch1))), .val (.int (1 : Int32)), .val (.int (0 : Int32)), .val (.int (0 : Int32))] [(.int (own_val (own_aft (0) ch1)))])) tg → Steps p.tables e below (s₁.setTop (entryFrame m #[(.int p1), (.int p2), (.int p3), (.int p4)] maxLocals)) tg := fun tg kg => k269 tg (st270.trans kg)
      have hv : own_val (own_aft (0) ch1) = (0 : Int32) := by rw [own_f1]; simp [s1]
      have k272 : ∀ tg, Steps p.tables e below (T270.setTop (mkF m 195 #[.val (.int p1), .val (.int p2), .val (.int p3), .val (.int p4), .val (.int (1 : Int32)), .val (.int ch1), .val (.int ch2), .val (.int ch3), .val (.ref d), .val (.ref (own_ad c0 c1 c2 c3 c4 (own_aft (0) ch1))), .val (.int (1 : Int32)), .val (.int (0 : Int32)), .val (.int (0 : Int32))] [(.int (1 : Int32))])) tg → Steps p.tables e below (s₁.setTop (entryFrame m #[(.int p1), (.int p2), (.int p3), (.int p4)] maxLocals)) tg := fun tg kg => k271 tg (by
          show Steps p.tables e below (T270.setTop (mkF m 185 #[.val (.int p1), .val (.int p2), .val (.int p3), .val (.int p4), .val (.int (1 : Int32)), .val (.int ch1), .val (.int ch2), .val (.int ch3), .val (.ref d), .val (.ref (own_ad c0 c1 c2 c3 c4 (own_aft (0) ch1))), .val (.int (1 : Int32)), .val (.int (0 : Int32)), .val (.int (0 : Int32))] [(.int (own_val (own_aft (0) ch1)))])) _
          refine XS.iload X270.here hx rfl (hb hby at_185) rfl ?_
          show Steps p.tables e below (T270.setTop (mkF m 187 #[.val (.int p1), .val (.int p2), .val (.int p3), .val (.int p4), .val (.int (1 : Int32)), .val (.int ch1), .val (.int ch2), .val (.int ch3), .val (.ref d), .val (.ref (own_ad c0 c1 c2 c3 c4 (own_aft (0) ch1))), .val (.int (1 : Int32)), .val (.int (0 : Int32)), .val (.int (0 : Int32))] [(.int (0 : Int32)), (.int (own_val (own_aft (0) ch1)))])) _
          refine XS.icmpNo X270.here hx rfl (hb hby at_187) rfl (teq hv).2 ?_
          show Steps p.tables e below (T270.setTop (mkF m 190 #[.val (.int p1), .val (.int p2), .val (.int p3), .val (.int p4), .val (.int (1 : Int32)), .val (.int ch1), .val (.int ch2), .val (.int ch3), .val (.ref d), .val (.ref (own_ad c0 c1 c2 c3 c4 (own_aft (0) ch1))), .val (.int (1 : Int32)), .val (.int (0 : Int32)), .val (.int (0 : Int32))] [])) _
          refine XS.iconst X270.here hx rfl (hb hby at_190) ?_
          show Steps p.tables e below (T270.setTop (mkF m 191 #[.val (.int p1), .val (.int p2), .val (.int p3), .val (.int p4), .val (.int (1 : Int32)), .val (.int ch1), .val (.int ch2), .val (.int ch3), .val (.ref d), .val (.ref (own_ad c0 c1 c2 c3 c4 (own_aft (0) ch1))), .val (.int (1 : Int32)), .val (.int (0 : Int32)), .val (.int (0 : Int32))] [(.int (1 : Int32))])) _
          refine XS.goto X270.here hx rfl (pc0 := 191) (pc' := 195) rfl (hb hby at_191) (by decide) (by decide) ?_
          exact kg)
      obtain ⟨fs, hr, hrun, hended, hend⟩ := Stand.leaveW X270 hS (by rw [e270]; first | exact hk | exact Nat.zero_le _) (v := some (.int (1 : Int32))) (fun h => by rw [Bd.returns] at h; cases h)
      refine ⟨_, _, k272 _ ?_, hrun, hended, _, _, rfl, ?_, own_rmono hend (by decide) (by decide)⟩
      · show Steps p.tables e below (T270.setTop (mkF m 195 #[.val (.int p1), .val (.int p2), .val (.int p3), .val (.int p4), .val (.int (1 : Int32)), .val (.int ch1), .val (.int ch2), .val (.int ch3), .val (.ref d), .val (.ref (own_ad c0 c1 c2 c3 c4 (own_aft (0) ch1))), .val (.int (1 : Int32)), .val (.int (0 : Int32)), .val (.int (0 : Int32))] [(.int (1 : Int32))])) _
        exact retN X270 hx (t := .boolean) Bd.returns (by simp) (hb hby at_195) hr
      · exact ⟨rfl, N270⟩
  · have k273 : ∀ t, Steps p.tables e below (T240.setTop (mkF m 36 #[.val (.int p1), .val (.int p2), .val (.int p3), .val (.int p4), .val (.int (2 : Int32)), .val (.int ch1), .val (.int ch2), .val (.int ch3), .val (.ref d), .val (.ref (own_ad c0 c1 c2 c3 c4 (0))), .unset, .unset, .unset] [])) t → Steps p.tables e below (s₁.setTop (entryFrame m #[(.int p1), (.int p2), (.int p3), (.int p4)] maxLocals)) t := k242
    have k274 : ∀ tg, Steps p.tables e below (T240.setTop (mkF m 48 #[.val (.int p1), .val (.int p2), .val (.int p3), .val (.int p4), .val (.int (2 : Int32)), .val (.int ch1), .val (.int ch2), .val (.int ch3), .val (.ref d), .val (.ref (own_ad c0 c1 c2 c3 c4 (0))), .unset, .unset, .unset] [(.ref d), (.int ch1), (.ref (own_ad c0 c1 c2 c3 c4 (0)))])) tg → Steps p.tables e below (s₁.setTop (entryFrame m #[(.int p1), (.int p2), (.int p3), (.int p4)] maxLocals)) tg := fun tg kg => k273 tg (by
        show Steps p.tables e below (T240.setTop (mkF m 36 #[.val (.int p1), .val (.int p2), .val (.int p3), .val (.int p4), .val (.int (2 : Int32)), .val (.int ch1), .val (.int ch2), .val (.int ch3), .val (.ref d), .val (.ref (own_ad c0 c1 c2 c3 c4 (0))), .unset, .unset, .unset] [])) _
        refine XS.iload Xb.here hx rfl (hb hby at_36) rfl ?_
        show Steps p.tables e below (T240.setTop (mkF m 38 #[.val (.int p1), .val (.int p2), .val (.int p3), .val (.int p4), .val (.int (2 : Int32)), .val (.int ch1), .val (.int ch2), .val (.int ch3), .val (.ref d), .val (.ref (own_ad c0 c1 c2 c3 c4 (0))), .unset, .unset, .unset] [(.int (2 : Int32))])) _
        refine XS.iconst Xb.here hx rfl (hb hby at_38) ?_
        show Steps p.tables e below (T240.setTop (mkF m 39 #[.val (.int p1), .val (.int p2), .val (.int p3), .val (.int p4), .val (.int (2 : Int32)), .val (.int ch1), .val (.int ch2), .val (.int ch3), .val (.ref d), .val (.ref (own_ad c0 c1 c2 c3 c4 (0))), .unset, .unset, .unset] [(.int (1 : Int32)), (.int (2 : Int32))])) _
        refine XS.icmpNo Xb.here hx rfl (hb hby at_39) rfl (flt (by decide)).1 ?_
        show Steps p.tables e below (T240.setTop (mkF m 42 #[.val (.int p1), .val (.int p2), .val (.int p3), .val (.int p4), .val (.int (2 : Int32)), .val (.int ch1), .val (.int ch2), .val (.int ch3), .val (.ref d), .val (.ref (own_ad c0 c1 c2 c3 c4 (0))), .unset, .unset, .unset] [])) _
        refine XS.aload Xb.here hx rfl (hb hby at_42) rfl rfl ?_
        show Steps p.tables e below (T240.setTop (mkF m 44 #[.val (.int p1), .val (.int p2), .val (.int p3), .val (.int p4), .val (.int (2 : Int32)), .val (.int ch1), .val (.int ch2), .val (.int ch3), .val (.ref d), .val (.ref (own_ad c0 c1 c2 c3 c4 (0))), .unset, .unset, .unset] [(.ref (own_ad c0 c1 c2 c3 c4 (0)))])) _
        refine XS.iload Xb.here hx rfl (hb hby at_44) rfl ?_
        show Steps p.tables e below (T240.setTop (mkF m 46 #[.val (.int p1), .val (.int p2), .val (.int p3), .val (.int p4), .val (.int (2 : Int32)), .val (.int ch1), .val (.int ch2), .val (.int ch3), .val (.ref d), .val (.ref (own_ad c0 c1 c2 c3 c4 (0))), .unset, .unset, .unset] [(.int ch1), (.ref (own_ad c0 c1 c2 c3 c4 (0)))])) _
        refine XS.aload Xb.here hx rfl (hb hby at_46) rfl rfl ?_
        exact kg)
    have Ex275 : Exa Z h0 (own_ad c0 c1 c2 c3 c4 (0)) "com/example/vaxwire/vaxwire/hl7/Repetition$Content" := by
      have q5 : (0) < 5 := by decide
      generalize (0) = sx at q5 ⊢
      have : sx = 0 ∨ sx = 1 ∨ sx = 2 ∨ sx = 3 ∨ sx = 4 := by omega
      rcases this with rfl | rfl | rfl | rfl | rfl
      · exact E0.ext XE
      · exact E1.ext XE
      · exact E2.ext XE
      · exact E3.ext XE
      · exact E4.ext XE
    obtain ⟨cq275, kq275, q275a, q275b, q275c⟩ := isOf hZ e240 Ex275
    obtain ⟨_, _, ⟨T275, L275, c275, n275⟩, -, X275, hSn275, hgr275, ⟨Lc275, hQ275, l275, y275, z275⟩, st275⟩ := Xb.virtualBackS hx (y := (⟨"com/example/vaxwire/vaxwire/hl7/Repetition$Content", "after", "(CLcom/example/vaxwire/vaxwire/hl7/Delimiters;)Lcom/example/vaxwire/vaxwire/hl7/Repetition$Content;"⟩ : MethodName)) (z := (⟨"com/example/vaxwire/vaxwire/hl7/Repetition$Content", "after", "(CLcom/example/vaxwire/vaxwire/hl7/Delimiters;)Lcom/example/vaxwire/vaxwire/hl7/Repetition$Content;"⟩ : MethodName)) hown (mvT hZ (hw _ (List.mem_of_getElem? (i := 20) rfl))) (mvT hZ (hw _ (List.mem_of_getElem? (i := 21) rfl))) (notFace_of_selects (args := #[]) (mvT hZ (hw _ (List.mem_of_getElem? (i := 23) rfl)))) (mvT hZ (hw _ (List.mem_of_getElem? (i := 23) rfl))) (mvT hZ (hw _ (List.mem_of_getElem? (i := 22) rfl))) (by decide) (own_backS (W := 0) (rm3 l Z a0 hw [] (own_ad c0 c1 c2 c3 c4 (0)) ch1 d (0) c0 c1 c2 c3 c4 G1 G3 h0 n0 Z0 (by decide) rfl O2 P1 O4 r3 hH hcw Wh0 XE) (fun v t t2 L e1 e2 q => by rw [Q3] at q ⊢; rw [← e1, ← e2]; exact q) hZ (hw _ (List.mem_of_getElem? (i := 24) rfl)) (hw _ (List.mem_of_getElem? (i := 9) rfl)) (by decide) (by decide)) q275a q275c (g := (mkF m 48 #[.val (.int p1), .val (.int p2), .val (.int p3), .val (.int p4), .val (.int (2 : Int32)), .val (.int ch1), .val (.int ch2), .val (.int ch3), .val (.ref d), .val (.ref (own_ad c0 c1 c2 c3 c4 (0))), .unset, .unset, .unset] [(.ref d), (.int ch1), (.ref (own_ad c0 c1 c2 c3 c4 (0)))])) rfl (by rw [hml]; rfl) (Steps.refl _) (argsL := [(.int ch1), (.ref d)]) (rest := []) (lenOf own_pd2 rfl) rfl (by show 2 * 0 + _ ≤ _; exact Nat.le_of_eq rfl) (hb hby at_48) (fun vm1 hv => ⟨rfl, e240, hLd.warm (s := s) hv, (by decide : 0 + 2 ≤ _), (by decide : 0 + 12 ≤ _)⟩)
    dsimp only [Pt.U, Pt.locs, Pt.cells, Pt.slots] at X275 hSn275 hgr275 l275 y275 z275 st275 hQ275
    obtain rfl : c275 = 2 := y275
    obtain rfl : n275 = 12 := z275
    have X275 : Stand p l e room_1 (s.setVm T275.vm) m #[(.int p1), (.int p2), (.int p3), (.int p4)] below meth c T275 L275 2 12 := X275
    obtain ⟨rfl, N275q, EE275, hLd275⟩ := hQ275
    have N275 := own_frE l275 (Fr.app N234 N275q)
    have hS := hS.trans hSn275 (Nat.le_trans hk hgr275)
    have hk := Nat.le_refl T275.heap.size
    have hLd := hLd275
    have XE := own_extT XE EE275
    have Zx275 : n0 ≤ T275.heap.size := Nat.le_trans Z0 EE275.1
    have hZ : Z.Warmed39 (s.setVm T275.vm).vm := State.Warmed39.trans hZ hSn275.1
    have hown : (s.setVm T275.vm).vm.findClass "com/example/vaxwire/vaxwire/hl7/ContentIsValuePinLaw" = some m.cls := by show T275.vm.findClass _ = _; rw [hSn275.1.alike.findClass]; exact hown
    have k276 : ∀ tg, Steps p.tables e below (T275.setTop (mkF m 51 #[.val (.int p1), .val (.int p2), .val (.int p3), .val (.int p4), .val (.int (2 : Int32)), .val (.int ch1), .val (.int ch2), .val (.int ch3), .val (.ref d), .val (.ref (own_ad c0 c1 c2 c3 c4 (0))), .unset, .unset, .unset] [(.ref (own_ad c0 c1 c2 c3 c4 (own_aft (0) ch1)))])) tg → Steps p.tables e below (s₁.setTop (entryFrame m #[(.int p1), (.int p2), (.int p3), (.int p4)] maxLocals)) tg := fun tg kg => k274 tg (st275.trans kg)
    have k277 : ∀ tg, Steps p.tables e below (T275.setTop (mkF m 65 #[.val (.int p1), .val (.int p2), .val (.int p3), .val (.int p4), .val (.int (2 : Int32)), .val (.int ch1), .val (.int ch2), .val (.int ch3), .val (.ref d), .val (.ref (own_ad c0 c1 c2 c3 c4 (own_aft (0) ch1))), .unset, .unset, .unset] [(.ref d), (.int ch2), (.ref (own_ad c0 c1 c2 c3 c4 (own_aft (0) ch1)))])) tg → Steps p.tables e below (s₁.setTop (entryFrame m #[(.int p1), (.int p2), (.int p3), (.int p4)] maxLocals)) tg := fun tg kg => k276 tg (by
        show Steps p.tables e below (T275.setTop (mkF m 51 #[.val (.int p1), .val (.int p2), .val (.int p3), .val (.int p4), .val (.int (2 : Int32)), .val (.int ch1), .val (.int ch2), .val (.int ch3), .val (.ref d), .val (.ref (own_ad c0 c1 c2 c3 c4 (0))), .unset, .unset, .unset] [(.ref (own_ad c0 c1 c2 c3 c4 (own_aft (0) ch1)))])) _
        refine XS.astore X275.here hx rfl (hb hby at_51) rfl rfl (l' := #[.val (.int p1), .val (.int p2), .val (.int p3), .val (.int p4), .val (.int (2 : Int32)), .val (.int ch1), .val (.int ch2), .val (.int ch3), .val (.ref d), .val (.ref (own_ad c0 c1 c2 c3 c4 (own_aft (0) ch1))), .unset, .unset, .unset]) rfl ?_
        show Steps p.tables e below (T275.setTop (mkF m 53 #[.val (.int p1), .val (.int p2), .val (.int p3), .val (.int p4), .val (.int (2 : Int32)), .val (.int ch1), .val (.int ch2), .val (.int ch3), .val (.ref d), .val (.ref (own_ad c0 c1 c2 c3 c4 (own_aft (0) ch1))), .unset, .unset, .unset] [])) _
        refine XS.iload X275.here hx rfl (hb hby at_53) rfl ?_
        show Steps p.tables e below (T275.setTop (mkF m 55 #[.val (.int p1), .val (.int p2), .val (.int p3), .val (.int p4), .val (.int (2 : Int32)), .val (.int ch1), .val (.int ch2), .val (.int ch3), .val (.ref d), .val (.ref (own_ad c0 c1 c2 c3 c4 (own_aft (0) ch1))), .unset, .unset, .unset] [(.int (2 : Int32))])) _
        refine XS.iconst X275.here hx rfl (hb hby at_55) ?_
        show Steps p.tables e below (T275.setTop (mkF m 56 #[.val (.int p1), .val (.int p2), .val (.int p3), .val (.int p4), .val (.int (2 : Int32)), .val (.int ch1), .val (.int ch2), .val (.int ch3), .val (.ref d), .val (.ref (own_ad c0 c1 c2 c3 c4 (own_aft (0) ch1))), .unset, .unset, .unset] [(.int (2 : Int32)), (.int (2 : Int32))])) _
        refine XS.icmpNo X275.here hx rfl (hb hby at_56) rfl (flt (by decide)).1 ?_
        show Steps p.tables e below (T275.setTop (mkF m 59 #[.val (.int p1), .val (.int p2), .val (.int p3), .val (.int p4), .val (.int (2 : Int32)), .val (.int ch1), .val (.int ch2), .val (.int ch3), .val (.ref d), .val (.ref (own_ad c0 c1 c2 c3 c4 (own_aft (0) ch1))), .unset, .unset, .unset] [])) _
        refine XS.aload X275.here hx rfl (hb hby at_59) rfl rfl ?_
        show Steps p.tables e below (T275.setTop (mkF m 61 #[.val (.int p1), .val (.int p2), .val (.int p3), .val (.int p4), .val (.int (2 : Int32)), .val (.int ch1), .val (.int ch2), .val (.int ch3), .val (.ref d), .val (.ref (own_ad c0 c1 c2 c3 c4 (own_aft (0) ch1))), .unset, .unset, .unset] [(.ref (own_ad c0 c1 c2 c3 c4 (own_aft (0) ch1)))])) _
        refine XS.iload X275.here hx rfl (hb hby at_61) rfl ?_
        show Steps p.tables e below (T275.setTop (mkF m 63 #[.val (.int p1), .val (.int p2), .val (.int p3), .val (.int p4), .val (.int (2 : Int32)), .val (.int ch1), .val (.int ch2), .val (.int ch3), .val (.ref d), .val (.ref (own_ad c0 c1 c2 c3 c4 (own_aft (0) ch1))), .unset, .unset, .unset] [(.int ch2), (.ref (own_ad c0 c1 c2 c3 c4 (own_aft (0) ch1)))])) _
        refine XS.aload X275.here hx rfl (hb hby at_63) rfl rfl ?_
        exact kg)
    have Ex278 : Exa Z T275.heap (own_ad c0 c1 c2 c3 c4 (own_aft (0) ch1)) "com/example/vaxwire/vaxwire/hl7/Repetition$Content" := by
      have q5 : (own_aft (0) ch1) < 5 := own_aft5 _ _
      generalize (own_aft (0) ch1) = sx at q5 ⊢
      have : sx = 0 ∨ sx = 1 ∨ sx = 2 ∨ sx = 3 ∨ sx = 4 := by omega
      rcases this with rfl | rfl | rfl | rfl | rfl
      · exact E0.ext XE
      · exact E1.ext XE
      · exact E2.ext XE
      · exact E3.ext XE
      · exact E4.ext XE
    obtain ⟨cq278, kq278, q278a, q278b, q278c⟩ := isOf hZ rfl Ex278
    obtain ⟨_, _, ⟨T278, L278, c278, n278⟩, -, X278, hSn278, hgr278, ⟨Lc278, hQ278, l278, y278, z278⟩, st278⟩ := X275.virtualBackS hx (y := (⟨"com/example/vaxwire/vaxwire/hl7/Repetition$Content", "after", "(CLcom/example/vaxwire/vaxwire/hl7/Delimiters;)Lcom/example/vaxwire/vaxwire/hl7/Repetition$Content;"⟩ : MethodName)) (z := (⟨"com/example/vaxwire/vaxwire/hl7/Repetition$Content", "after", "(CLcom/example/vaxwire/vaxwire/hl7/Delimiters;)Lcom/example/vaxwire/vaxwire/hl7/Repetition$Content;"⟩ : MethodName)) hown (mvT hZ (hw _ (List.mem_of_getElem? (i := 20) rfl))) (mvT hZ (hw _ (List.mem_of_getElem? (i := 21) rfl))) (notFace_of_selects (args := #[]) (mvT hZ (hw _ (List.mem_of_getElem? (i := 23) rfl)))) (mvT hZ (hw _ (List.mem_of_getElem? (i := 23) rfl))) (mvT hZ (hw _ (List.mem_of_getElem? (i := 22) rfl))) (by decide) (own_backS (W := 0) (rm3 l Z a0 hw [] (own_ad c0 c1 c2 c3 c4 (own_aft (0) ch1)) ch2 d (own_aft (0) ch1) c0 c1 c2 c3 c4 G1 G3 T275.heap n0 Zx275 (own_aft5 _ _) rfl O2 P1 O4 r3 hH hcw Wh0 XE) (fun v t t2 L e1 e2 q => by rw [Q3] at q ⊢; rw [← e1, ← e2]; exact q) hZ (hw _ (List.mem_of_getElem? (i := 24) rfl)) (hw _ (List.mem_of_getElem? (i := 9) rfl)) (by decide) (by decide)) q278a q278c (g := (mkF m 65 #[.val (.int p1), .val (.int p2), .val (.int p3), .val (.int p4), .val (.int (2 : Int32)), .val (.int ch1), .val (.int ch2), .val (.int ch3), .val (.ref d), .val (.ref (own_ad c0 c1 c2 c3 c4 (own_aft (0) ch1))), .unset, .unset, .unset] [(.ref d), (.int ch2), (.ref (own_ad c0 c1 c2 c3 c4 (own_aft (0) ch1)))])) rfl (by rw [hml]; rfl) (Steps.refl _) (argsL := [(.int ch2), (.ref d)]) (rest := []) (lenOf own_pd2 rfl) rfl (by show 2 * 0 + _ ≤ _; exact Nat.le_of_eq rfl) (hb hby at_65) (fun vm1 hv => ⟨rfl, rfl, hLd.warm (s := s) hv, (by decide : 2 + 2 ≤ _), (by decide : 12 + 12 ≤ _)⟩)
    dsimp only [Pt.U, Pt.locs, Pt.cells, Pt.slots] at X278 hSn278 hgr278 l278 y278 z278 st278 hQ278
    obtain rfl : c278 = 4 := y278
    obtain rfl : n278 = 24 := z278
    have X278 : Stand p l e room_1 (s.setVm T278.vm) m #[(.int p1), (.int p2), (.int p3), (.int p4)] below meth c T278 L278 4 24 := X278
    obtain ⟨rfl, N278q, EE278, hLd278⟩ := hQ278
    have N278 := own_frE l278 (Fr.app N275 N278q)
    have hS := hS.trans hSn278 (Nat.le_trans hk hgr278)
    have hk := Nat.le_refl T278.heap.size
    have hLd := hLd278
    have XE := own_extT XE EE278
    have Zx278 : n0 ≤ T278.heap.size := Nat.le_trans Zx275 EE278.1
    have hZ : Z.Warmed39 (s.setVm T278.vm).vm := State.Warmed39.trans hZ hSn278.1
    have hown : (s.setVm T278.vm).vm.findClass "com/example/vaxwire/vaxwire/hl7/ContentIsValuePinLaw" = some m.cls := by show T278.vm.findClass _ = _; rw [hSn278.1.alike.findClass]; exact hown
    have k279 : ∀ tg, Steps p.tables e below (T278.setTop (mkF m 68 #[.val (.int p1), .val (.int p2), .val (.int p3), .val (.int p4), .val (.int (2 : Int32)), .val (.int ch1), .val (.int ch2), .val (.int ch3), .val (.ref d), .val (.ref (own_ad c0 c1 c2 c3 c4 (own_aft (0) ch1))), .unset, .unset, .unset] [(.ref (own_ad c0 c1 c2 c3 c4 (own_aft (own_aft (0) ch1) ch2)))])) tg → Steps p.tables e below (s₁.setTop (entryFrame m #[(.int p1), (.int p2), (.int p3), (.int p4)] maxLocals)) tg := fun tg kg => k277 tg (st278.trans kg)
    have k280 : ∀ tg, Steps p.tables e below (T278.setTop (mkF m 95 #[.val (.int p1), .val (.int p2), .val (.int p3), .val (.int p4), .val (.int (2 : Int32)), .val (.int ch1), .val (.int ch2), .val (.int ch3), .val (.ref d), .val (.ref (own_ad c0 c1 c2 c3 c4 (own_aft (own_aft (0) ch1) ch2))), .unset, .unset, .unset] [(.int ch1)])) tg → Steps p.tables e below (s₁.setTop (entryFrame m #[(.int p1), (.int p2), (.int p3), (.int p4)] maxLocals)) tg := fun tg kg => k279 tg (by
        show Steps p.tables e below (T278.setTop (mkF m 68 #[.val (.int p1), .val (.int p2), .val (.int p3), .val (.int p4), .val (.int (2 : Int32)), .val (.int ch1), .val (.int ch2), .val (.int ch3), .val (.ref d), .val (.ref (own_ad c0 c1 c2 c3 c4 (own_aft (0) ch1))), .unset, .unset, .unset] [(.ref (own_ad c0 c1 c2 c3 c4 (own_aft (own_aft (0) ch1) ch2)))])) _
        refine XS.astore X278.here hx rfl (hb hby at_68) rfl rfl (l' := #[.val (.int p1), .val (.int p2), .val (.int p3), .val (.int p4), .val (.int (2 : Int32)), .val (.int ch1), .val (.int ch2), .val (.int ch3), .val (.ref d), .val (.ref (own_ad c0 c1 c2 c3 c4 (own_aft (own_aft (0) ch1) ch2))), .unset, .unset, .unset]) rfl ?_
        show Steps p.tables e below (T278.setTop (mkF m 70 #[.val (.int p1), .val (.int p2), .val (.int p3), .val (.int p4), .val (.int (2 : Int32)), .val (.int ch1), .val (.int ch2), .val (.int ch3), .val (.ref d), .val (.ref (own_ad c0 c1 c2 c3 c4 (own_aft (own_aft (0) ch1) ch2))), .unset, .unset, .unset] [])) _
        refine XS.iload X278.here hx rfl (hb hby at_70) rfl ?_
        show Steps p.tables e below (T278.setTop (mkF m 72 #[.val (.int p1), .val (.int p2), .val (.int p3), .val (.int p4), .val (.int (2 : Int32)), .val (.int ch1), .val (.int ch2), .val (.int ch3), .val (.ref d), .val (.ref (own_ad c0 c1 c2 c3 c4 (own_aft (own_aft (0) ch1) ch2))), .unset, .unset, .unset] [(.int (2 : Int32))])) _
        refine XS.iconst X278.here hx rfl (hb hby at_72) ?_
        show Steps p.tables e below (T278.setTop (mkF m 73 #[.val (.int p1), .val (.int p2), .val (.int p3), .val (.int p4), .val (.int (2 : Int32)), .val (.int ch1), .val (.int ch2), .val (.int ch3), .val (.ref d), .val (.ref (own_ad c0 c1 c2 c3 c4 (own_aft (own_aft (0) ch1) ch2))), .unset, .unset, .unset] [(.int (3 : Int32)), (.int (2 : Int32))])) _
        refine XS.icmpYes X278.here hx rfl (pc0 := 73) (pc' := 87) rfl (hb hby at_73) rfl (tlt (by decide)).1 (by decide) (by decide) ?_
        show Steps p.tables e below (T278.setTop (mkF m 87 #[.val (.int p1), .val (.int p2), .val (.int p3), .val (.int p4), .val (.int (2 : Int32)), .val (.int ch1), .val (.int ch2), .val (.int ch3), .val (.ref d), .val (.ref (own_ad c0 c1 c2 c3 c4 (own_aft (own_aft (0) ch1) ch2))), .unset, .unset, .unset] [])) _
        refine XS.iload X278.here hx rfl (hb hby at_87) rfl ?_
        show Steps p.tables e below (T278.setTop (mkF m 89 #[.val (.int p1), .val (.int p2), .val (.int p3), .val (.int p4), .val (.int (2 : Int32)), .val (.int ch1), .val (.int ch2), .val (.int ch3), .val (.ref d), .val (.ref (own_ad c0 c1 c2 c3 c4 (own_aft (own_aft (0) ch1) ch2))), .unset, .unset, .unset] [(.int (2 : Int32))])) _
        refine XS.iconst X278.here hx rfl (hb hby at_89) ?_
        show Steps p.tables e below (T278.setTop (mkF m 90 #[.val (.int p1), .val (.int p2), .val (.int p3), .val (.int p4), .val (.int (2 : Int32)), .val (.int ch1), .val (.int ch2), .val (.int ch3), .val (.ref d), .val (.ref (own_ad c0 c1 c2 c3 c4 (own_aft (own_aft (0) ch1) ch2))), .unset, .unset, .unset] [(.int (1 : Int32)), (.int (2 : Int32))])) _
        refine XS.icmpNo X278.here hx rfl (hb hby at_90) rfl (flt (by decide)).1 ?_
        show Steps p.tables e below (T278.setTop (mkF m 93 #[.val (.int p1), .val (.int p2), .val (.int p3), .val (.int p4), .val (.int (2 : Int32)), .val (.int ch1), .val (.int ch2), .val (.int ch3), .val (.ref d), .val (.ref (own_ad c0 c1 c2 c3 c4 (own_aft (own_aft (0) ch1) ch2))), .unset, .unset, .unset] [])) _
        refine XS.iload X278.here hx rfl (hb hby at_93) rfl ?_
        exact kg)
    obtain ⟨_, _, ⟨T281, L281, c281, n281⟩, -, X281, ⟨Lc281, hQ281, l281, y281, z281⟩, st281⟩ := Jvm.LawKit.callS X278 hx (y := (⟨"com/example/vaxwire/vaxwire/hl7/ContentIsValuePinLaw", "isSep", "(C)Z"⟩ : MethodName)) hown (mvT hZ (hw _ (List.mem_of_getElem? (i := 75) rfl))) (mvT hZ (hw _ (List.mem_of_getElem? (i := 76) rfl))) (mvT hZ (hw _ (List.mem_of_getElem? (i := 3) rfl))) (mvT hZ (hw _ (List.mem_of_getElem? (i := 77) rfl))) (by decide) (backOf (W := 0) (rm11 l Z a0 hw [] ch1 T278.heap n0 Zx278) hZ (hw _ (List.mem_of_getElem? (i := 77) rfl)) (hw _ (List.mem_of_getElem? (i := 3) rfl)) (by decide) (by decide)) (g := (mkF m 95 #[.val (.int p1), .val (.int p2), .val (.int p3), .val (.int p4), .val (.int (2 : Int32)), .val (.int ch1), .val (.int ch2), .val (.int ch3), .val (.ref d), .val (.ref (own_ad c0 c1 c2 c3 c4 (own_aft (own_aft (0) ch1) ch2))), .unset, .unset, .unset] [(.int ch1)])) rfl (by rw [hml]; rfl) (argsL := [(.int ch1)]) (rest := []) (lenOf own_pd7 rfl) rfl (by show 2 * 0 + _ ≤ _; exact Nat.le_of_eq rfl) (hb hby at_95) (fun _ _ => ⟨rfl, rfl, (by decide : 4 + 0 ≤ _), (by decide : 24 + 0 ≤ _)⟩)
    dsimp only [Pt.U, Pt.locs, Pt.cells, Pt.slots] at X281 l281 y281 z281 st281 hQ281
    obtain rfl : c281 = 4 := y281
    obtain rfl : n281 = 24 := z281
    obtain ⟨rfl, N281q, e281⟩ := hQ281
    have N281 := own_frE l281 (Fr.app N278 N281q)
    have k282 : ∀ tg, Steps p.tables e below (T281.setTop (mkF m 98 #[.val (.int p1), .val (.int p2), .val (.int p3), .val (.int p4), .val (.int (2 : Int32)), .val (.int ch1), .val (.int ch2), .val (.int ch3), .val (.ref d), .val (.ref (own_ad c0 c1 c2 c3 c4 (own_aft (own_aft (0) ch1) ch2))), .unset, .unset, .unset] [(.int (own_sep ch1))])) tg → Steps p.tables e below (s₁.setTop (entryFrame m #[(.int p1), (.int p2), (.int p3), (.int p4)] maxLocals)) tg := fun tg kg => k280 tg (st281 tg kg)
    by_cases s1 : own_sep ch1 = (0 : Int32)
    · have k283 : ∀ tg, Steps p.tables e below (T281.setTop (mkF m 133 #[.val (.int p1), .val (.int p2), .val (.int p3), .val (.int p4), .val (.int (2 : Int32)), .val (.int ch1), .val (.int ch2), .val (.int ch3), .val (.ref d), .val (.ref (own_ad c0 c1 c2 c3 c4 (own_aft (own_aft (0) ch1) ch2))), .unset, .unset, .unset] [])) tg → Steps p.tables e below (s₁.setTop (entryFrame m #[(.int p1), (.int p2), (.int p3), (.int p4)] maxLocals)) tg := fun tg kg => k282 tg (by
          show Steps p.tables e below (T281.setTop (mkF m 98 #[.val (.int p1), .val (.int p2), .val (.int p3), .val (.int p4), .val (.int (2 : Int32)), .val (.int ch1), .val (.int ch2), .val (.int ch3), .val (.ref d), .val (.ref (own_ad c0 c1 c2 c3 c4 (own_aft (own_aft (0) ch1) ch2))), .unset, .unset, .unset] [(.int (own_sep ch1))])) _
          refine XS.ifYes X281.here hx rfl (pc0 := 98) (pc' := 133) rfl (hb hby at_98) rfl ((if0 _ _).trans (teq s1).1) (by decide) (by decide) ?_
          exact kg)
      have k284 : ∀ tg, Steps p.tables e below (T281.setTop (mkF m 146 #[.val (.int p1), .val (.int p2), .val (.int p3), .val (.int p4), .val (.int (2 : Int32)), .val (.int ch1), .val (.int ch2), .val (.int ch3), .val (.ref d), .val (.ref (own_ad c0 c1 c2 c3 c4 (own_aft (own_aft (0) ch1) ch2))), .val (.int (0 : Int32)), .unset, .unset] [(.int (34 : Int32)), (.int ch1)])) tg → Steps p.tables e below (s₁.setTop (entryFrame m #[(.int p1), (.int p2), (.int p3), (.int p4)] maxLocals)) tg := fun tg kg => k283 tg (by
          show Steps p.tables e below (T281.setTop (mkF m 133 #[.val (.int p1), .val (.int p2), .val (.int p3), .val (.int p4), .val (.int (2 : Int32)), .val (.int ch1), .val (.int ch2), .val (.int ch3), .val (.ref d), .val (.ref (own_ad c0 c1 c2 c3 c4 (own_aft (own_aft (0) ch1) ch2))), .unset, .unset, .unset] [])) _
          refine XS.iconst X281.here hx rfl (hb hby at_133) ?_
          show Steps p.tables e below (T281.setTop (mkF m 134 #[.val (.int p1), .val (.int p2), .val (.int p3), .val (.int p4), .val (.int (2 : Int32)), .val (.int ch1), .val (.int ch2), .val (.int ch3), .val (.ref d), .val (.ref (own_ad c0 c1 c2 c3 c4 (own_aft (own_aft (0) ch1) ch2))), .unset, .unset, .unset] [(.int (0 : Int32))])) _
          refine XS.istore X281.here hx rfl (hb hby at_134) rfl (l' := #[.val (.int p1), .val (.int p2), .val (.int p3), .val (.int p4), .val (.int (2 : Int32)), .val (.int ch1), .val (.int ch2), .val (.int ch3), .val (.ref d), .val (.ref (own_ad c0 c1 c2 c3 c4 (own_aft (own_aft (0) ch1) ch2))), .val (.int (0 : Int32)), .unset, .unset]) rfl ?_
          show Steps p.tables e below (T281.setTop (mkF m 136 #[.val (.int p1), .val (.int p2), .val (.int p3), .val (.int p4), .val (.int (2 : Int32)), .val (.int ch1), .val (.int ch2), .val (.int ch3), .val (.ref d), .val (.ref (own_ad c0 c1 c2 c3 c4 (own_aft (own_aft (0) ch1) ch2))), .val (.int (0 : Int32)), .unset, .unset] [])) _
          refine XS.iload X281.here hx rfl (hb hby at_136) rfl ?_
          show Steps p.tables e below (T281.setTop (mkF m 138 #[.val (.int p1), .val (.int p2), .val (.int p3), .val (.int p4), .val (.int (2 : Int32)), .val (.int ch1), .val (.int ch2), .val (.int ch3), .val (.ref d), .val (.ref (own_ad c0 c1 c2 c3 c4 (own_aft (own_aft (0) ch1) ch2))), .val (.int (0 : Int32)), .unset, .unset] [(.int (2 : Int32))])) _
          refine XS.iconst X281.here hx rfl (hb hby at_138) ?_
          show Steps p.tables e below (T281.setTop (mkF m 139 #[.val (.int p1), .val (.int p2), .val (.int p3), .val (.int p4), .val (.int (2 : Int32)), .val (.int ch1), .val (.int ch2), .val (.int ch3), .val (.ref d), .val (.ref (own_ad c0 c1 c2 c3 c4 (own_aft (own_aft (0) ch1) ch2))), .val (.int (0 : Int32)), .unset, .unset] [(.int (2 : Int32)), (.int (2 : Int32))])) _
          refine XS.icmpNo X281.here hx rfl (hb hby at_139) rfl (teq (by decide)).2 ?_
          show Steps p.tables e below (T281.setTop (mkF m 142 #[.val (.int p1), .val (.int p2), .val (.int p3), .val (.int p4), .val (.int (2 : Int32)), .val (.int ch1), .val (.int ch2), .val (.int ch3), .val (.ref d), .val (.ref (own_ad c0 c1 c2 c3 c4 (own_aft (own_aft (0) ch1) ch2))), .val (.int (0 : Int32)), .unset, .unset] [])) _
          refine XS.iload X281.here hx rfl (hb hby at_142) rfl ?_
          show Steps p.tables e below (T281.setTop (mkF m 144 #[.val (.int p1), .val (.int p2), .val (.int p3), .val (.int p4), .val (.int (2 : Int32)), .val (.int ch1), .val (.int ch2), .val (.int ch3), .val (.ref d), .val (.ref (own_ad c0 c1 c2 c3 c4 (own_aft (own_aft (0) ch1) ch2))), .val (.int (0 : Int32)), .unset, .unset] [(.int ch1)])) _
          refine XS.bipush X281.here hx rfl (hb hby at_144) ?_
          exact kg)
      by_cases t1 : ch1 = (34 : Int32)
      · have k285 : ∀ tg, Steps p.tables e below (T281.setTop (mkF m 149 #[.val (.int p1), .val (.int p2), .val (.int p3), .val (.int p4), .val (.int (2 : Int32)), .val (.int ch1), .val (.int ch2), .val (.int ch3), .val (.ref d), .val (.ref (own_ad c0 c1 c2 c3 c4 (own_aft (own_aft (0) ch1) ch2))), .val (.int (0 : Int32)), .unset, .unset] [])) tg → Steps p.tables e below (s₁.setTop (entryFrame m #[(.int p1), (.int p2), (.int p3), (.int p4)] maxLocals)) tg := fun tg kg => k284 tg (by
            show Steps p.tables e below (T281.setTop (mkF m 146 #[.val (.int p1), .val (.int p2), .val (.int p3), .val (.int p4), .val (.int (2 : Int32)), .val (.int ch1), .val (.int ch2), .val (.int ch3), .val (.ref d), .val (.ref (own_ad c0 c1 c2 c3 c4 (own_aft (own_aft (0) ch1) ch2))), .val (.int (0 : Int32)), .unset, .unset] [(.int (34 : Int32)), (.int ch1)])) _
            refine XS.icmpNo X281.here hx rfl (hb hby at_146) rfl (teq t1).2 ?_
            exact kg)
        have k286 : ∀ tg, Steps p.tables e below (T281.setTop (mkF m 153 #[.val (.int p1), .val (.int p2), .val (.int p3), .val (.int p4), .val (.int (2 : Int32)), .val (.int ch1), .val (.int ch2), .val (.int ch3), .val (.ref d), .val (.ref (own_ad c0 c1 c2 c3 c4 (own_aft (own_aft (0) ch1) ch2))), .val (.int (0 : Int32)), .unset, .unset] [(.int (34 : Int32)), (.int ch2)])) tg → Steps p.tables e below (s₁.setTop (entryFrame m #[(.int p1), (.int p2), (.int p3), (.int p4)] maxLocals)) tg := fun tg kg => k285 tg (by
            show Steps p.tables e below (T281.setTop (mkF m 149 #[.val (.int p1), .val (.int p2), .val (.int p3), .val (.int p4), .val (.int (2 : Int32)), .val (.int ch1), .val (.int ch2), .val (.int ch3), .val (.ref d), .val (.ref (own_ad c0 c1 c2 c3 c4 (own_aft (own_aft (0) ch1) ch2))), .val (.int (0 : Int32)), .unset, .unset] [])) _
            refine XS.iload X281.here hx rfl (hb hby at_149) rfl ?_
            show Steps p.tables e below (T281.setTop (mkF m 151 #[.val (.int p1), .val (.int p2), .val (.int p3), .val (.int p4), .val (.int (2 : Int32)), .val (.int ch1), .val (.int ch2), .val (.int ch3), .val (.ref d), .val (.ref (own_ad c0 c1 c2 c3 c4 (own_aft (own_aft (0) ch1) ch2))), .val (.int (0 : Int32)), .unset, .unset] [(.int ch2)])) _
            refine XS.bipush X281.here hx rfl (hb hby at_151) ?_
            exact kg)
        by_cases t2 : ch2 = (34 : Int32)
        · have k287 : ∀ tg, Steps p.tables e below (T281.setTop (mkF m 156 #[.val (.int p1), .val (.int p2), .val (.int p3), .val (.int p4), .val (.int (2 : Int32)), .val (.int ch1), .val (.int ch2), .val (.int ch3), .val (.ref d), .val (.ref (own_ad c0 c1 c2 c3 c4 (own_aft (own_aft (0) ch1) ch2))), .val (.int (0 : Int32)), .unset, .unset] [])) tg → Steps p.tables e below (s₁.setTop (entryFrame m #[(.int p1), (.int p2), (.int p3), (.int p4)] maxLocals)) tg := fun tg kg => k286 tg (by
              show Steps p.tables e below (T281.setTop (mkF m 153 #[.val (.int p1), .val (.int p2), .val (.int p3), .val (.int p4), .val (.int (2 : Int32)), .val (.int ch1), .val (.int ch2), .val (.int ch3), .val (.ref d), .val (.ref (own_ad c0 c1 c2 c3 c4 (own_aft (own_aft (0) ch1) ch2))), .val (.int (0 : Int32)), .unset, .unset] [(.int (34 : Int32)), (.int ch2)])) _
              refine XS.icmpNo X281.here hx rfl (hb hby at_153) rfl (teq t2).2 ?_
              exact kg)
          have k288 : ∀ tg, Steps p.tables e below (T281.setTop (mkF m 165 #[.val (.int p1), .val (.int p2), .val (.int p3), .val (.int p4), .val (.int (2 : Int32)), .val (.int ch1), .val (.int ch2), .val (.int ch3), .val (.ref d), .val (.ref (own_ad c0 c1 c2 c3 c4 (own_aft (own_aft (0) ch1) ch2))), .val (.int (0 : Int32)), .val (.int (1 : Int32)), .unset] [(.int (0 : Int32))])) tg → Steps p.tables e below (s₁.setTop (entryFrame m #[(.int p1), (.int p2), (.int p3), (.int p4)] maxLocals)) tg := fun tg kg => k287 tg (by
              show Steps p.tables e below (T281.setTop (mkF m 156 #[.val (.int p1), .val (.int p2), .val (.int p3), .val (.int p4), .val (.int (2 : Int32)), .val (.int ch1), .val (.int ch2), .val (.int ch3), .val (.ref d), .val (.ref (own_ad c0 c1 c2 c3 c4 (own_aft (own_aft (0) ch1) ch2))), .val (.int (0 : Int32)), .unset, .unset] [])) _
              refine XS.iconst X281.here hx rfl (hb hby at_156) ?_
              show Steps p.tables e below (T281.setTop (mkF m 157 #[.val (.int p1), .val (.int p2), .val (.int p3), .val (.int p4), .val (.int (2 : Int32)), .val (.int ch1), .val (.int ch2), .val (.int ch3), .val (.ref d), .val (.ref (own_ad c0 c1 c2 c3 c4 (own_aft (own_aft (0) ch1) ch2))), .val (.int (0 : Int32)), .unset, .unset] [(.int (1 : Int32))])) _
              refine XS.goto X281.here hx rfl (pc0 := 157) (pc' := 161) rfl (hb hby at_157) (by decide) (by decide) ?_
              show Steps p.tables e below (T281.setTop (mkF m 161 #[.val (.int p1), .val (.int p2), .val (.int p3), .val (.int p4), .val (.int (2 : Int32)), .val (.int ch1), .val (.int ch2), .val (.int ch3), .val (.ref d), .val (.ref (own_ad c0 c1 c2 c3 c4 (own_aft (own_aft (0) ch1) ch2))), .val (.int (0 : Int32)), .unset, .unset] [(.int (1 : Int32))])) _
              refine XS.istore X281.here hx rfl (hb hby at_161) rfl (l' := #[.val (.int p1), .val (.int p2), .val (.int p3), .val (.int p4), .val (.int (2 : Int32)), .val (.int ch1), .val (.int ch2), .val (.int ch3), .val (.ref d), .val (.ref (own_ad c0 c1 c2 c3 c4 (own_aft (own_aft (0) ch1) ch2))), .val (.int (0 : Int32)), .val (.int (1 : Int32)), .unset]) rfl ?_
              show Steps p.tables e below (T281.setTop (mkF m 163 #[.val (.int p1), .val (.int p2), .val (.int p3), .val (.int p4), .val (.int (2 : Int32)), .val (.int ch1), .val (.int ch2), .val (.int ch3), .val (.ref d), .val (.ref (own_ad c0 c1 c2 c3 c4 (own_aft (own_aft (0) ch1) ch2))), .val (.int (0 : Int32)), .val (.int (1 : Int32)), .unset] [])) _
              refine XS.iload X281.here hx rfl (hb hby at_163) rfl ?_
              exact kg)
          have k289 : ∀ tg, Steps p.tables e below (T281.setTop (mkF m 168 #[.val (.int p1), .val (.int p2), .val (.int p3), .val (.int p4), .val (.int (2 : Int32)), .val (.int ch1), .val (.int ch2), .val (.int ch3), .val (.ref d), .val (.ref (own_ad c0 c1 c2 c3 c4 (own_aft (own_aft (0) ch1) ch2))), .val (.int (0 : Int32)), .val (.int (1 : Int32)), .unset] [])) tg → Steps p.tables e below (s₁.setTop (entryFrame m #[(.int p1), (.int p2), (.int p3), (.int p4)] maxLocals)) tg := fun tg kg => k288 tg (by
              show Steps p.tables e below (T281.setTop (mkF m 165 #[.val (.int p1), .val (.int p2), .val (.int p3), .val (.int p4), .val (.int (2 : Int32)), .val (.int ch1), .val (.int ch2), .val (.int ch3), .val (.ref d), .val (.ref (own_ad c0 c1 c2 c3 c4 (own_aft (own_aft (0) ch1) ch2))), .val (.int (0 : Int32)), .val (.int (1 : Int32)), .unset] [(.int (0 : Int32))])) _
              refine XS.ifNo X281.here hx rfl (hb hby at_165) rfl ((if0 _ _).trans (teq (by decide)).2) ?_
              exact kg)
          have k290 : ∀ tg, Steps p.tables e below (T281.setTop (mkF m 170 #[.val (.int p1), .val (.int p2), .val (.int p3), .val (.int p4), .val (.int (2 : Int32)), .val (.int ch1), .val (.int ch2), .val (.int ch3), .val (.ref d), .val (.ref (own_ad c0 c1 c2 c3 c4 (own_aft (own_aft (0) ch1) ch2))), .val (.int (0 : Int32)), .val (.int (1 : Int32)), .unset] [(.int (1 : Int32))])) tg → Steps p.tables e below (s₁.setTop (entryFrame m #[(.int p1), (.int p2), (.int p3), (.int p4)] maxLocals)) tg := fun tg kg => k289 tg (by
              show Steps p.tables e below (T281.setTop (mkF m 168 #[.val (.int p1), .val (.int p2), .val (.int p3), .val (.int p4), .val (.int (2 : Int32)), .val (.int ch1), .val (.int ch2), .val (.int ch3), .val (.ref d), .val (.ref (own_ad c0 c1 c2 c3 c4 (own_aft (own_aft (0) ch1) ch2))), .val (.int (0 : Int32)), .val (.int (1 : Int32)), .unset] [])) _
              refine XS.iload X281.here hx rfl (hb hby at_168) rfl ?_
              exact kg)
          have k291 : ∀ tg, Steps p.tables e below (T281.setTop (mkF m 177 #[.val (.int p1), .val (.int p2), .val (.int p3), .val (.int p4), .val (.int (2 : Int32)), .val (.int ch1), .val (.int ch2), .val (.int ch3), .val (.ref d), .val (.ref (own_ad c0 c1 c2 c3 c4 (own_aft (own_aft (0) ch1) ch2))), .val (.int (0 : Int32)), .val (.int (1 : Int32)), .unset] [])) tg → Steps p.tables e below (s₁.setTop (entryFrame m #[(.int p1), (.int p2), (.int p3), (.int p4)] maxLocals)) tg := fun tg kg => k290 tg (by
              show Steps p.tables e below (T281.setTop (mkF m 170 #[.val (.int p1), .val (.int p2), .val (.int p3), .val (.int p4), .val (.int (2 : Int32)), .val (.int ch1), .val (.int ch2), .val (.int ch3), .val (.ref d), .val (.ref (own_ad c0 c1 c2 c3 c4 (own_aft (own_aft (0) ch1) ch2))), .val (.int (0 : Int32)), .val (.int (1 : Int32)), .unset] [(.int (1 : Int32))])) _
              refine XS.ifYes X281.here hx rfl (pc0 := 170) (pc' := 177) rfl (hb hby at_170) rfl ((if0 _ _).trans (feq (by decide)).2) (by decide) (by decide) ?_
              exact kg)
          have k292 : ∀ tg, Steps p.tables e below (T281.setTop (mkF m 182 #[.val (.int p1), .val (.int p2), .val (.int p3), .val (.int p4), .val (.int (2 : Int32)), .val (.int ch1), .val (.int ch2), .val (.int ch3), .val (.ref d), .val (.ref (own_ad c0 c1 c2 c3 c4 (own_aft (own_aft (0) ch1) ch2))), .val (.int (0 : Int32)), .val (.int (1 : Int32)), .val (.int (0 : Int32))] [(.ref (own_ad c0 c1 c2 c3 c4 (own_aft (own_aft (0) ch1) ch2)))])) tg → Steps p.tables e below (s₁.setTop (entryFrame m #[(.int p1), (.int p2), (.int p3), (.int p4)] maxLocals)) tg := fun tg kg => k291 tg (by
              show Steps p.tables e below (T281.setTop (mkF m 177 #[.val (.int p1), .val (.int p2), .val (.int p3), .val (.int p4), .val (.int (2 : Int32)), .val (.int ch1), .val (.int ch2), .val (.int ch3), .val (.ref d), .val (.ref (own_ad c0 c1 c2 c3 c4 (own_aft (own_aft (0) ch1) ch2))), .val (.int (0 : Int32)), .val (.int (1 : Int32)), .unset] [])) _
              refine XS.iconst X281.here hx rfl (hb hby at_177) ?_
              show Steps p.tables e below (T281.setTop (mkF m 178 #[.val (.int p1), .val (.int p2), .val (.int p3), .val (.int p4), .val (.int (2 : Int32)), .val (.int ch1), .val (.int ch2), .val (.int ch3), .val (.ref d), .val (.ref (own_ad c0 c1 c2 c3 c4 (own_aft (own_aft (0) ch1) ch2))), .val (.int (0 : Int32)), .val (.int (1 : Int32)), .unset] [(.int (0 : Int32))])) _
              refine XS.istore X281.here hx rfl (hb hby at_178) rfl (l' := #[.val (.int p1), .val (.int p2), .val (.int p3), .val (.int p4), .val (.int (2 : Int32)), .val (.int ch1), .val (.int ch2), .val (.int ch3), .val (.ref d), .val (.ref (own_ad c0 c1 c2 c3 c4 (own_aft (own_aft (0) ch1) ch2))), .val (.int (0 : Int32)), .val (.int (1 : Int32)), .val (.int (0 : Int32))]) rfl ?_
              show Steps p.tables e below (T281.setTop (mkF m 180 #[.val (.int p1), .val (.int p2), .val (.int p3), .val (.int p4), .val (.int (2 : Int32)), .val (.int ch1), .val (.int ch2), .val (.int ch3), .val (.ref d), .val (.ref (own_ad c0 c1 c2 c3 c4 (own_aft (own_aft (0) ch1) ch2))), .val (.int (0 : Int32)), .val (.int (1 : Int32)), .val (.int (0 : Int32))] [])) _
              refine XS.aload X281.here hx rfl (hb hby at_180) rfl rfl ?_
              exact kg)
          have hex : Exa Z T278.heap (own_ad c0 c1 c2 c3 c4 (own_aft (own_aft (0) ch1) ch2)) "com/example/vaxwire/vaxwire/hl7/Repetition$Content" := by
            have q5 : (own_aft (own_aft (0) ch1) ch2) < 5 := own_aft5 _ _
            generalize (own_aft (own_aft (0) ch1) ch2) = sx at q5 ⊢
            have : sx = 0 ∨ sx = 1 ∨ sx = 2 ∨ sx = 3 ∨ sx = 4 := by omega
            rcases this with rfl | rfl | rfl | rfl | rfl
            · exact E0.ext XE
            · exact E1.ext XE
            · exact E2.ext XE
            · exact E3.ext XE
            · exact E4.ext XE
          obtain ⟨cq293, kq293, q293a, q293b, q293c⟩ := isOf hZ e281 hex
          obtain ⟨_, _, ⟨T293, L293, c293, n293⟩, -, X293, ⟨Lc293, hQ293, l293, y293, z293⟩, st293⟩ := X281.virtualBack hx (y := (⟨"com/example/vaxwire/vaxwire/hl7/Repetition$Content", "isValue", "()Z"⟩ : MethodName)) (z := (⟨"com/example/vaxwire/vaxwire/hl7/Repetition$Content", "isValue", "()Z"⟩ : MethodName)) hown (mvT hZ (hw _ (List.mem_of_getElem? (i := 11) rfl))) (mvT hZ (hw _ (List.mem_of_getElem? (i := 12) rfl))) (notFace_of_selects (args := #[]) (mvT hZ (hw _ (List.mem_of_getElem? (i := 14) rfl)))) (mvT hZ (hw _ (List.mem_of_getElem? (i := 14) rfl))) (mvT hZ (hw _ (List.mem_of_getElem? (i := 13) rfl))) (by decide) (backOf (W := 0) (rm2 l Z a0 hw [] (own_ad c0 c1 c2 c3 c4 (own_aft (own_aft (0) ch1) ch2)) (own_aft (own_aft (0) ch1) ch2) d c0 c1 c2 c3 c4 T278.heap n0 Zx278 (own_aft5 _ _) rfl Wh0 XE) hZ (hw _ (List.mem_of_getElem? (i := 15) rfl)) (hw _ (List.mem_of_getElem? (i := 9) rfl)) (by decide) (by decide)) q293a q293c (g := (mkF m 182 #[.val (.int p1), .val (.int p2), .val (.int p3), .val (.int p4), .val (.int (2 : Int32)), .val (.int ch1), .val (.int ch2), .val (.int ch3), .val (.ref d), .val (.ref (own_ad c0 c1 c2 c3 c4 (own_aft (own_aft (0) ch1) ch2))), .val (.int (0 : Int32)), .val (.int (1 : Int32)), .val (.int (0 : Int32))] [(.ref (own_ad c0 c1 c2 c3 c4 (own_aft (own_aft (0) ch1) ch2)))])) rfl (by rw [hml]; rfl) (Steps.refl _) (argsL := []) (rest := []) (lenOf own_pd1 rfl) rfl (by show 2 * 0 + _ ≤ _; exact Nat.le_of_eq rfl) (hb hby at_182) (fun _ _ => ⟨rfl, e281, (by decide : 4 + 0 ≤ _), (by decide : 24 + 0 ≤ _)⟩)
          dsimp only [Pt.U, Pt.locs, Pt.cells, Pt.slots] at X293 l293 y293 z293 st293 hQ293
          obtain rfl : c293 = 4 := y293
          obtain rfl : n293 = 24 := z293
          obtain ⟨rfl, N293q, e293⟩ := hQ293
          have N293 := own_frE l293 (Fr.app N281 N293q)
          have k294 : ∀ tg, Steps p.tables e below (T293.setTop (mkF m 185 #[.val (.int p1), .val (.int p2), .val (.int p3), .val (.int p4), .val (.int (2 : Int32)), .val (.int ch1), .val (.int ch2), .val (.int ch3), .val (.ref d), .val (.ref (own_ad c0 c1 c2 c3 c4 (own_aft (own_aft (0) ch1) ch2))), .val (.int (0 : Int32)), .val (.int (1 : Int32)), .val (.int (0 : Int32))] [(.int (own_val (own_aft (own_aft (0) ch1) ch2)))])) tg → Steps p.tables e below (s₁.setTop (entryFrame m #[(.int p1), (.int p2), (.int p3), (.int p4)] maxLocals)) tg := fun tg kg => k292 tg (st293.trans kg)
          have hv : own_val (own_aft (own_aft (0) ch1) ch2) = (0 : Int32) := by rw [own_f2]; first | exact if_pos ⟨by first | exact Or.inl s1 | exact Or.inr s2, fun q => by first | exact t1 q.1 | exact t2 q.2⟩ | exact if_neg (fun ⟨q, r⟩ => by first | exact r ⟨t1, t2⟩ | exact q.elim s1 s2) | simp [s1, t1, t2]
          have k295 : ∀ tg, Steps p.tables e below (T293.setTop (mkF m 195 #[.val (.int p1), .val (.int p2), .val (.int p3), .val (.int p4), .val (.int (2 : Int32)), .val (.int ch1), .val (.int ch2), .val (.int ch3), .val (.ref d), .val (.ref (own_ad c0 c1 c2 c3 c4 (own_aft (own_aft (0) ch1) ch2))), .val (.int (0 : Int32)), .val (.int (1 : Int32)), .val (.int (0 : Int32))] [(.int (1 : Int32))])) tg → Steps p.tables e below (s₁.setTop (entryFrame m #[(.int p1), (.int p2), (.int p3), (.int p4)] maxLocals)) tg := fun tg kg => k294 tg (by
              show Steps p.tables e below (T293.setTop (mkF m 185 #[.val (.int p1), .val (.int p2), .val (.int p3), .val (.int p4), .val (.int (2 : Int32)), .val (.int ch1), .val (.int ch2), .val (.int ch3), .val (.ref d), .val (.ref (own_ad c0 c1 c2 c3 c4 (own_aft (own_aft (0) ch1) ch2))), .val (.int (0 : Int32)), .val (.int (1 : Int32)), .val (.int (0 : Int32))] [(.int (own_val (own_aft (own_aft (0) ch1) ch2)))])) _
              refine XS.iload X293.here hx rfl (hb hby at_185) rfl ?_
              show Steps p.tables e below (T293.setTop (mkF m 187 #[.val (.int p1), .val (.int p2), .val (.int p3), .val (.int p4), .val (.int (2 : Int32)), .val (.int ch1), .val (.int ch2), .val (.int ch3), .val (.ref d), .val (.ref (own_ad c0 c1 c2 c3 c4 (own_aft (own_aft (0) ch1) ch2))), .val (.int (0 : Int32)), .val (.int (1 : Int32)), .val (.int (0 : Int32))] [(.int (0 : Int32)), (.int (own_val (own_aft (own_aft (0) ch1) ch2)))])) _
              refine XS.icmpNo X293.here hx rfl (hb hby at_187) rfl (teq hv).2 ?_
              show Steps p.tables e below (T293.setTop (mkF m 190 #[.val (.int p1), .val (.int p2), .val (.int p3), .val (.int p4), .val (.int (2 : Int32)), .val (.int ch1), .val (.int ch2), .val (.int ch3), .val (.ref d), .val (.ref (own_ad c0 c1 c2 c3 c4 (own_aft (own_aft (0) ch1) ch2))), .val (.int (0 : Int32)), .val (.int (1 : Int32)), .val (.int (0 : Int32))] [])) _
              refine XS.iconst X293.here hx rfl (hb hby at_190) ?_
              show Steps p.tables e below (T293.setTop (mkF m 191 #[.val (.int p1), .val (.int p2), .val (.int p3), .val (.int p4), .val (.int (2 : Int32)), .val (.int ch1), .val (.int ch2), .val (.int ch3), .val (.ref d), .val (.ref (own_ad c0 c1 c2 c3 c4 (own_aft (own_aft (0) ch1) ch2))), .val (.int (0 : Int32)), .val (.int (1 : Int32)), .val (.int (0 : Int32))] [(.int (1 : Int32))])) _
              refine XS.goto X293.here hx rfl (pc0 := 191) (pc' := 195) rfl (hb hby at_191) (by decide) (by decide) ?_
              exact kg)
          obtain ⟨fs, hr, hrun, hended, hend⟩ := Stand.leaveW X293 hS (by rw [e293]; first | exact hk | exact Nat.zero_le _) (v := some (.int (1 : Int32))) (fun h => by rw [Bd.returns] at h; cases h)
          refine ⟨_, _, k295 _ ?_, hrun, hended, _, _, rfl, ?_, own_rmono hend (by decide) (by decide)⟩
          · show Steps p.tables e below (T293.setTop (mkF m 195 #[.val (.int p1), .val (.int p2), .val (.int p3), .val (.int p4), .val (.int (2 : Int32)), .val (.int ch1), .val (.int ch2), .val (.int ch3), .val (.ref d), .val (.ref (own_ad c0 c1 c2 c3 c4 (own_aft (own_aft (0) ch1) ch2))), .val (.int (0 : Int32)), .val (.int (1 : Int32)), .val (.int (0 : Int32))] [(.int (1 : Int32))])) _
            exact retN X293 hx (t := .boolean) Bd.returns (by simp) (hb hby at_195) hr
          · exact ⟨rfl, N293⟩
        · have k296 : ∀ tg, Steps p.tables e below (T281.setTop (mkF m 160 #[.val (.int p1), .val (.int p2), .val (.int p3), .val (.int p4), .val (.int (2 : Int32)), .val (.int ch1), .val (.int ch2), .val (.int ch3), .val (.ref d), .val (.ref (own_ad c0 c1 c2 c3 c4 (own_aft (own_aft (0) ch1) ch2))), .val (.int (0 : Int32)), .unset, .unset] [])) tg → Steps p.tables e below (s₁.setTop (entryFrame m #[(.int p1), (.int p2), (.int p3), (.int p4)] maxLocals)) tg := fun tg kg => k286 tg (by
              show Steps p.tables e below (T281.setTop (mkF m 153 #[.val (.int p1), .val (.int p2), .val (.int p3), .val (.int p4), .val (.int (2 : Int32)), .val (.int ch1), .val (.int ch2), .val (.int ch3), .val (.ref d), .val (.ref (own_ad c0 c1 c2 c3 c4 (own_aft (own_aft (0) ch1) ch2))), .val (.int (0 : Int32)), .unset, .unset] [(.int (34 : Int32)), (.int ch2)])) _
              refine XS.icmpYes X281.here hx rfl (pc0 := 153) (pc' := 160) rfl (hb hby at_153) rfl (feq t2).2 (by decide) (by decide) ?_
              exact kg)
          have k297 : ∀ tg, Steps p.tables e below (T281.setTop (mkF m 165 #[.val (.int p1), .val (.int p2), .val (.int p3), .val (.int p4), .val (.int (2 : Int32)), .val (.int ch1), .val (.int ch2), .val (.int ch3), .val (.ref d), .val (.ref (own_ad c0 c1 c2 c3 c4 (own_aft (own_aft (0) ch1) ch2))), .val (.int (0 : Int32)), .val (.int (0 : Int32)), .unset] [(.int (0 : Int32))])) tg → Steps p.tables e below (s₁.setTop (entryFrame m #[(.int p1), (.int p2), (.int p3), (.int p4)] maxLocals)) tg := fun tg kg => k296 tg (by
              show Steps p.tables e below (T281.setTop (mkF m 160 #[.val (.int p1), .val (.int p2), .val (.int p3), .val (.int p4), .val (.int (2 : Int32)), .val (.int ch1), .val (.int ch2), .val (.int ch3), .val (.ref d), .val (.ref (own_ad c0 c1 c2 c3 c4 (own_aft (own_aft (0) ch1) ch2))), .val (.int (0 : Int32)), .unset, .unset] [])) _
              refine XS.iconst X281.here hx rfl (hb hby at_160) ?_
              show Steps p.tables e below (T281.setTop (mkF m 161 #[.val (.int p1), .val (.int p2), .val (.int p3), .val (.int p4), .val (.int (2 : Int32)), .val (.int ch1), .val (.int ch2), .val (.int ch3), .val (.ref d), .val (.ref (own_ad c0 c1 c2 c3 c4 (own_aft (own_aft (0) ch1) ch2))), .val (.int (0 : Int32)), .unset, .unset] [(.int (0 : Int32))])) _
              refine XS.istore X281.here hx rfl (hb hby at_161) rfl (l' := #[.val (.int p1), .val (.int p2), .val (.int p3), .val (.int p4), .val (.int (2 : Int32)), .val (.int ch1), .val (.int ch2), .val (.int ch3), .val (.ref d), .val (.ref (own_ad c0 c1 c2 c3 c4 (own_aft (own_aft (0) ch1) ch2))), .val (.int (0 : Int32)), .val (.int (0 : Int32)), .unset]) rfl ?_
              show Steps p.tables e below (T281.setTop (mkF m 163 #[.val (.int p1), .val (.int p2), .val (.int p3), .val (.int p4), .val (.int (2 : Int32)), .val (.int ch1), .val (.int ch2), .val (.int ch3), .val (.ref d), .val (.ref (own_ad c0 c1 c2 c3 c4 (own_aft (own_aft (0) ch1) ch2))), .val (.int (0 : Int32)), .val (.int (0 : Int32)), .unset] [])) _
              refine XS.iload X281.here hx rfl (hb hby at_163) rfl ?_
              exact kg)
          have k298 : ∀ tg, Steps p.tables e below (T281.setTop (mkF m 168 #[.val (.int p1), .val (.int p2), .val (.int p3), .val (.int p4), .val (.int (2 : Int32)), .val (.int ch1), .val (.int ch2), .val (.int ch3), .val (.ref d), .val (.ref (own_ad c0 c1 c2 c3 c4 (own_aft (own_aft (0) ch1) ch2))), .val (.int (0 : Int32)), .val (.int (0 : Int32)), .unset] [])) tg → Steps p.tables e below (s₁.setTop (entryFrame m #[(.int p1), (.int p2), (.int p3), (.int p4)] maxLocals)) tg := fun tg kg => k297 tg (by
              show Steps p.tables e below (T281.setTop (mkF m 165 #[.val (.int p1), .val (.int p2), .val (.int p3), .val (.int p4), .val (.int (2 : Int32)), .val (.int ch1), .val (.int ch2), .val (.int ch3), .val (.ref d), .val (.ref (own_ad c0 c1 c2 c3 c4 (own_aft (own_aft (0) ch1) ch2))), .val (.int (0 : Int32)), .val (.int (0 : Int32)), .unset] [(.int (0 : Int32))])) _
              refine XS.ifNo X281.here hx rfl (hb hby at_165) rfl ((if0 _ _).trans (teq (by decide)).2) ?_
              exact kg)
          have k299 : ∀ tg, Steps p.tables e below (T281.setTop (mkF m 170 #[.val (.int p1), .val (.int p2), .val (.int p3), .val (.int p4), .val (.int (2 : Int32)), .val (.int ch1), .val (.int ch2), .val (.int ch3), .val (.ref d), .val (.ref (own_ad c0 c1 c2 c3 c4 (own_aft (own_aft (0) ch1) ch2))), .val (.int (0 : Int32)), .val (.int (0 : Int32)), .unset] [(.int (0 : Int32))])) tg → Steps p.tables e below (s₁.setTop (entryFrame m #[(.int p1), (.int p2), (.int p3), (.int p4)] maxLocals)) tg := fun tg kg => k298 tg (by
              show Steps p.tables e below (T281.setTop (mkF m 168 #[.val (.int p1), .val (.int p2), .val (.int p3), .val (.int p4), .val (.int (2 : Int32)), .val (.int ch1), .val (.int ch2), .val (.int ch3), .val (.ref d), .val (.ref (own_ad c0 c1 c2 c3 c4 (own_aft (own_aft (0) ch1) ch2))), .val (.int (0 : Int32)), .val (.int (0 : Int32)), .unset] [])) _
              refine XS.iload X281.here hx rfl (hb hby at_168) rfl ?_
              exact kg)
          have k300 : ∀ tg, Steps p.tables e below (T281.setTop (mkF m 173 #[.val (.int p1), .val (.int p2), .val (.int p3), .val (.int p4), .val (.int (2 : Int32)), .val (.int ch1), .val (.int ch2), .val (.int ch3), .val (.ref d), .val (.ref (own_ad c0 c1 c2 c3 c4 (own_aft (own_aft (0) ch1) ch2))), .val (.int (0 : Int32)), .val (.int (0 : Int32)), .unset] [])) tg → Steps p.tables e below (s₁.setTop (entryFrame m #[(.int p1), (.int p2), (.int p3), (.int p4)] maxLocals)) tg := fun tg kg => k299 tg (by
              show Steps p.tables e below (T281.setTop (mkF m 170 #[.val (.int p1), .val (.int p2), .val (.int p3), .val (.int p4), .val (.int (2 : Int32)), .val (.int ch1), .val (.int ch2), .val (.int ch3), .val (.ref d), .val (.ref (own_ad c0 c1 c2 c3 c4 (own_aft (own_aft (0) ch1) ch2))), .val (.int (0 : Int32)), .val (.int (0 : Int32)), .unset] [(.int (0 : Int32))])) _
              refine XS.ifNo X281.here hx rfl (hb hby at_170) rfl ((if0 _ _).trans (teq (by decide)).2) ?_
              exact kg)
          have k301 : ∀ tg, Steps p.tables e below (T281.setTop (mkF m 182 #[.val (.int p1), .val (.int p2), .val (.int p3), .val (.int p4), .val (.int (2 : Int32)), .val (.int ch1), .val (.int ch2), .val (.int ch3), .val (.ref d), .val (.ref (own_ad c0 c1 c2 c3 c4 (own_aft (own_aft (0) ch1) ch2))), .val (.int (0 : Int32)), .val (.int (0 : Int32)), .val (.int (1 : Int32))] [(.ref (own_ad c0 c1 c2 c3 c4 (own_aft (own_aft (0) ch1) ch2)))])) tg → Steps p.tables e below (s₁.setTop (entryFrame m #[(.int p1), (.int p2), (.int p3), (.int p4)] maxLocals)) tg := fun tg kg => k300 tg (by
              show Steps p.tables e below (T281.setTop (mkF m 173 #[.val (.int p1), .val (.int p2), .val (.int p3), .val (.int p4), .val (.int (2 : Int32)), .val (.int ch1), .val (.int ch2), .val (.int ch3), .val (.ref d), .val (.ref (own_ad c0 c1 c2 c3 c4 (own_aft (own_aft (0) ch1) ch2))), .val (.int (0 : Int32)), .val (.int (0 : Int32)), .unset] [])) _
              refine XS.iconst X281.here hx rfl (hb hby at_173) ?_
              show Steps p.tables e below (T281.setTop (mkF m 174 #[.val (.int p1), .val (.int p2), .val (.int p3), .val (.int p4), .val (.int (2 : Int32)), .val (.int ch1), .val (.int ch2), .val (.int ch3), .val (.ref d), .val (.ref (own_ad c0 c1 c2 c3 c4 (own_aft (own_aft (0) ch1) ch2))), .val (.int (0 : Int32)), .val (.int (0 : Int32)), .unset] [(.int (1 : Int32))])) _
              refine XS.goto X281.here hx rfl (pc0 := 174) (pc' := 178) rfl (hb hby at_174) (by decide) (by decide) ?_
              show Steps p.tables e below (T281.setTop (mkF m 178 #[.val (.int p1), .val (.int p2), .val (.int p3), .val (.int p4), .val (.int (2 : Int32)), .val (.int ch1), .val (.int ch2), .val (.int ch3), .val (.ref d), .val (.ref (own_ad c0 c1 c2 c3 c4 (own_aft (own_aft (0) ch1) ch2))), .val (.int (0 : Int32)), .val (.int (0 : Int32)), .unset] [(.int (1 : Int32))])) _
              refine XS.istore X281.here hx rfl (hb hby at_178) rfl (l' := #[.val (.int p1), .val (.int p2), .val (.int p3), .val (.int p4), .val (.int (2 : Int32)), .val (.int ch1), .val (.int ch2), .val (.int ch3), .val (.ref d), .val (.ref (own_ad c0 c1 c2 c3 c4 (own_aft (own_aft (0) ch1) ch2))), .val (.int (0 : Int32)), .val (.int (0 : Int32)), .val (.int (1 : Int32))]) rfl ?_
              show Steps p.tables e below (T281.setTop (mkF m 180 #[.val (.int p1), .val (.int p2), .val (.int p3), .val (.int p4), .val (.int (2 : Int32)), .val (.int ch1), .val (.int ch2), .val (.int ch3), .val (.ref d), .val (.ref (own_ad c0 c1 c2 c3 c4 (own_aft (own_aft (0) ch1) ch2))), .val (.int (0 : Int32)), .val (.int (0 : Int32)), .val (.int (1 : Int32))] [])) _
              refine XS.aload X281.here hx rfl (hb hby at_180) rfl rfl ?_
              exact kg)
          have hex : Exa Z T278.heap (own_ad c0 c1 c2 c3 c4 (own_aft (own_aft (0) ch1) ch2)) "com/example/vaxwire/vaxwire/hl7/Repetition$Content" := by
            have q5 : (own_aft (own_aft (0) ch1) ch2) < 5 := own_aft5 _ _
            generalize (own_aft (own_aft (0) ch1) ch2) = sx at q5 ⊢
            have : sx = 0 ∨ sx = 1 ∨ sx = 2 ∨ sx = 3 ∨ sx = 4 := by omega
            rcases this with rfl | rfl | rfl | rfl | rfl
            · exact E0.ext XE
            · exact E1.ext XE
            · exact E2.ext XE
            · exact E3.ext XE
            · exact E4.ext XE
          obtain ⟨cq302, kq302, q302a, q302b, q302c⟩ := isOf hZ e281 hex
          obtain ⟨_, _, ⟨T302, L302, c302, n302⟩, -, X302, ⟨Lc302, hQ302, l302, y302, z302⟩, st302⟩ := X281.virtualBack hx (y := (⟨"com/example/vaxwire/vaxwire/hl7/Repetition$Content", "isValue", "()Z"⟩ : MethodName)) (z := (⟨"com/example/vaxwire/vaxwire/hl7/Repetition$Content", "isValue", "()Z"⟩ : MethodName)) hown (mvT hZ (hw _ (List.mem_of_getElem? (i := 11) rfl))) (mvT hZ (hw _ (List.mem_of_getElem? (i := 12) rfl))) (notFace_of_selects (args := #[]) (mvT hZ (hw _ (List.mem_of_getElem? (i := 14) rfl)))) (mvT hZ (hw _ (List.mem_of_getElem? (i := 14) rfl))) (mvT hZ (hw _ (List.mem_of_getElem? (i := 13) rfl))) (by decide) (backOf (W := 0) (rm2 l Z a0 hw [] (own_ad c0 c1 c2 c3 c4 (own_aft (own_aft (0) ch1) ch2)) (own_aft (own_aft (0) ch1) ch2) d c0 c1 c2 c3 c4 T278.heap n0 Zx278 (own_aft5 _ _) rfl Wh0 XE) hZ (hw _ (List.mem_of_getElem? (i := 15) rfl)) (hw _ (List.mem_of_getElem? (i := 9) rfl)) (by decide) (by decide)) q302a q302c (g := (mkF m 182 #[.val (.int p1), .val (.int p2), .val (.int p3), .val (.int p4), .val (.int (2 : Int32)), .val (.int ch1), .val (.int ch2), .val (.int ch3), .val (.ref d), .val (.ref (own_ad c0 c1 c2 c3 c4 (own_aft (own_aft (0) ch1) ch2))), .val (.int (0 : Int32)), .val (.int (0 : Int32)), .val (.int (1 : Int32))] [(.ref (own_ad c0 c1 c2 c3 c4 (own_aft (own_aft (0) ch1) ch2)))])) rfl (by rw [hml]; rfl) (Steps.refl _) (argsL := []) (rest := []) (lenOf own_pd1 rfl) rfl (by show 2 * 0 + _ ≤ _; exact Nat.le_of_eq rfl) (hb hby at_182) (fun _ _ => ⟨rfl, e281, (by decide : 4 + 0 ≤ _), (by decide : 24 + 0 ≤ _)⟩)
          dsimp only [Pt.U, Pt.locs, Pt.cells, Pt.slots] at X302 l302 y302 z302 st302 hQ302
          obtain rfl : c302 = 4 := y302
          obtain rfl : n302 = 24 := z302
          obtain ⟨rfl, N302q, e302⟩ := hQ302
          have N302 := own_frE l302 (Fr.app N281 N302q)
          have k303 : ∀ tg, Steps p.tables e below (T302.setTop (mkF m 185 #[.val (.int p1), .val (.int p2), .val (.int p3), .val (.int p4), .val (.int (2 : Int32)), .val (.int ch1), .val (.int ch2), .val (.int ch3), .val (.ref d), .val (.ref (own_ad c0 c1 c2 c3 c4 (own_aft (own_aft (0) ch1) ch2))), .val (.int (0 : Int32)), .val (.int (0 : Int32)), .val (.int (1 : Int32))] [(.int (own_val (own_aft (own_aft (0) ch1) ch2)))])) tg → Steps p.tables e below (s₁.setTop (entryFrame m #[(.int p1), (.int p2), (.int p3), (.int p4)] maxLocals)) tg := fun tg kg => k301 tg (st302.trans kg)
          have hv : own_val (own_aft (own_aft (0) ch1) ch2) = (1 : Int32) := by rw [own_f2]; first | exact if_pos ⟨by first | exact Or.inl s1 | exact Or.inr s2, fun q => by first | exact t1 q.1 | exact t2 q.2⟩ | exact if_neg (fun ⟨q, r⟩ => by first | exact r ⟨t1, t2⟩ | exact q.elim s1 s2) | simp [s1, t1, t2]
          have k304 : ∀ tg, Steps p.tables e below (T302.setTop (mkF m 195 #[.val (.int p1), .val (.int p2), .val (.int p3), .val (.int p4), .val (.int (2 : Int32)), .val (.int ch1), .val (.int ch2), .val (.int ch3), .val (.ref d), .val (.ref (own_ad c0 c1 c2 c3 c4 (own_aft (own_aft (0) ch1) ch2))), .val (.int (0 : Int32)), .val (.int (0 : Int32)), .val (.int (1 : Int32))] [(.int (1 : Int32))])) tg → Steps p.tables e below (s₁.setTop (entryFrame m #[(.int p1), (.int p2), (.int p3), (.int p4)] maxLocals)) tg := fun tg kg => k303 tg (by
              show Steps p.tables e below (T302.setTop (mkF m 185 #[.val (.int p1), .val (.int p2), .val (.int p3), .val (.int p4), .val (.int (2 : Int32)), .val (.int ch1), .val (.int ch2), .val (.int ch3), .val (.ref d), .val (.ref (own_ad c0 c1 c2 c3 c4 (own_aft (own_aft (0) ch1) ch2))), .val (.int (0 : Int32)), .val (.int (0 : Int32)), .val (.int (1 : Int32))] [(.int (own_val (own_aft (own_aft (0) ch1) ch2)))])) _
              refine XS.iload X302.here hx rfl (hb hby at_185) rfl ?_
              show Steps p.tables e below (T302.setTop (mkF m 187 #[.val (.int p1), .val (.int p2), .val (.int p3), .val (.int p4), .val (.int (2 : Int32)), .val (.int ch1), .val (.int ch2), .val (.int ch3), .val (.ref d), .val (.ref (own_ad c0 c1 c2 c3 c4 (own_aft (own_aft (0) ch1) ch2))), .val (.int (0 : Int32)), .val (.int (0 : Int32)), .val (.int (1 : Int32))] [(.int (1 : Int32)), (.int (own_val (own_aft (own_aft (0) ch1) ch2)))])) _
              refine XS.icmpNo X302.here hx rfl (hb hby at_187) rfl (teq hv).2 ?_
              show Steps p.tables e below (T302.setTop (mkF m 190 #[.val (.int p1), .val (.int p2), .val (.int p3), .val (.int p4), .val (.int (2 : Int32)), .val (.int ch1), .val (.int ch2), .val (.int ch3), .val (.ref d), .val (.ref (own_ad c0 c1 c2 c3 c4 (own_aft (own_aft (0) ch1) ch2))), .val (.int (0 : Int32)), .val (.int (0 : Int32)), .val (.int (1 : Int32))] [])) _
              refine XS.iconst X302.here hx rfl (hb hby at_190) ?_
              show Steps p.tables e below (T302.setTop (mkF m 191 #[.val (.int p1), .val (.int p2), .val (.int p3), .val (.int p4), .val (.int (2 : Int32)), .val (.int ch1), .val (.int ch2), .val (.int ch3), .val (.ref d), .val (.ref (own_ad c0 c1 c2 c3 c4 (own_aft (own_aft (0) ch1) ch2))), .val (.int (0 : Int32)), .val (.int (0 : Int32)), .val (.int (1 : Int32))] [(.int (1 : Int32))])) _
              refine XS.goto X302.here hx rfl (pc0 := 191) (pc' := 195) rfl (hb hby at_191) (by decide) (by decide) ?_
              exact kg)
          obtain ⟨fs, hr, hrun, hended, hend⟩ := Stand.leaveW X302 hS (by rw [e302]; first | exact hk | exact Nat.zero_le _) (v := some (.int (1 : Int32))) (fun h => by rw [Bd.returns] at h; cases h)
          refine ⟨_, _, k304 _ ?_, hrun, hended, _, _, rfl, ?_, own_rmono hend (by decide) (by decide)⟩
          · show Steps p.tables e below (T302.setTop (mkF m 195 #[.val (.int p1), .val (.int p2), .val (.int p3), .val (.int p4), .val (.int (2 : Int32)), .val (.int ch1), .val (.int ch2), .val (.int ch3), .val (.ref d), .val (.ref (own_ad c0 c1 c2 c3 c4 (own_aft (own_aft (0) ch1) ch2))), .val (.int (0 : Int32)), .val (.int (0 : Int32)), .val (.int (1 : Int32))] [(.int (1 : Int32))])) _
            exact retN X302 hx (t := .boolean) Bd.returns (by simp) (hb hby at_195) hr
          · exact ⟨rfl, N302⟩
      · have k305 : ∀ tg, Steps p.tables e below (T281.setTop (mkF m 160 #[.val (.int p1), .val (.int p2), .val (.int p3), .val (.int p4), .val (.int (2 : Int32)), .val (.int ch1), .val (.int ch2), .val (.int ch3), .val (.ref d), .val (.ref (own_ad c0 c1 c2 c3 c4 (own_aft (own_aft (0) ch1) ch2))), .val (.int (0 : Int32)), .unset, .unset] [])) tg → Steps p.tables e below (s₁.setTop (entryFrame m #[(.int p1), (.int p2), (.int p3), (.int p4)] maxLocals)) tg := fun tg kg => k284 tg (by
            show Steps p.tables e below (T281.setTop (mkF m 146 #[.val (.int p1), .val (.int p2), .val (.int p3), .val (.int p4), .val (.int (2 : Int32)), .val (.int ch1), .val (.int ch2), .val (.int ch3), .val (.ref d), .val (.ref (own_ad c0 c1 c2 c3 c4 (own_aft (own_aft (0) ch1) ch2))), .val (.int (0 : Int32)), .unset, .unset] [(.int (34 : Int32)), (.int ch1)])) _
            refine XS.icmpYes X281.here hx rfl (pc0 := 146) (pc' := 160) rfl (hb hby at_146) rfl (feq t1).2 (by decide) (by decide) ?_
            exact kg)
        have k306 : ∀ tg, Steps p.tables e below (T281.setTop (mkF m 165 #[.val (.int p1), .val (.int p2), .val (.int p3), .val (.int p4), .val (.int (2 : Int32)), .val (.int ch1), .val (.int ch2), .val (.int ch3), .val (.ref d), .val (.ref (own_ad c0 c1 c2 c3 c4 (own_aft (own_aft (0) ch1) ch2))), .val (.int (0 : Int32)), .val (.int (0 : Int32)), .unset] [(.int (0 : Int32))])) tg → Steps p.tables e below (s₁.setTop (entryFrame m #[(.int p1), (.int p2), (.int p3), (.int p4)] maxLocals)) tg := fun tg kg => k305 tg (by
            show Steps p.tables e below (T281.setTop (mkF m 160 #[.val (.int p1), .val (.int p2), .val (.int p3), .val (.int p4), .val (.int (2 : Int32)), .val (.int ch1), .val (.int ch2), .val (.int ch3), .val (.ref d), .val (.ref (own_ad c0 c1 c2 c3 c4 (own_aft (own_aft (0) ch1) ch2))), .val (.int (0 : Int32)), .unset, .unset] [])) _
            refine XS.iconst X281.here hx rfl (hb hby at_160) ?_
            show Steps p.tables e below (T281.setTop (mkF m 161 #[.val (.int p1), .val (.int p2), .val (.int p3), .val (.int p4), .val (.int (2 : Int32)), .val (.int ch1), .val (.int ch2), .val (.int ch3), .val (.ref d), .val (.ref (own_ad c0 c1 c2 c3 c4 (own_aft (own_aft (0) ch1) ch2))), .val (.int (0 : Int32)), .unset, .unset] [(.int (0 : Int32))])) _
            refine XS.istore X281.here hx rfl (hb hby at_161) rfl (l' := #[.val (.int p1), .val (.int p2), .val (.int p3), .val (.int p4), .val (.int (2 : Int32)), .val (.int ch1), .val (.int ch2), .val (.int ch3), .val (.ref d), .val (.ref (own_ad c0 c1 c2 c3 c4 (own_aft (own_aft (0) ch1) ch2))), .val (.int (0 : Int32)), .val (.int (0 : Int32)), .unset]) rfl ?_
            show Steps p.tables e below (T281.setTop (mkF m 163 #[.val (.int p1), .val (.int p2), .val (.int p3), .val (.int p4), .val (.int (2 : Int32)), .val (.int ch1), .val (.int ch2), .val (.int ch3), .val (.ref d), .val (.ref (own_ad c0 c1 c2 c3 c4 (own_aft (own_aft (0) ch1) ch2))), .val (.int (0 : Int32)), .val (.int (0 : Int32)), .unset] [])) _
            refine XS.iload X281.here hx rfl (hb hby at_163) rfl ?_
            exact kg)
        have k307 : ∀ tg, Steps p.tables e below (T281.setTop (mkF m 168 #[.val (.int p1), .val (.int p2), .val (.int p3), .val (.int p4), .val (.int (2 : Int32)), .val (.int ch1), .val (.int ch2), .val (.int ch3), .val (.ref d), .val (.ref (own_ad c0 c1 c2 c3 c4 (own_aft (own_aft (0) ch1) ch2))), .val (.int (0 : Int32)), .val (.int (0 : Int32)), .unset] [])) tg → Steps p.tables e below (s₁.setTop (entryFrame m #[(.int p1), (.int p2), (.int p3), (.int p4)] maxLocals)) tg := fun tg kg => k306 tg (by
            show Steps p.tables e below (T281.setTop (mkF m 165 #[.val (.int p1), .val (.int p2), .val (.int p3), .val (.int p4), .val (.int (2 : Int32)), .val (.int ch1), .val (.int ch2), .val (.int ch3), .val (.ref d), .val (.ref (own_ad c0 c1 c2 c3 c4 (own_aft (own_aft (0) ch1) ch2))), .val (.int (0 : Int32)), .val (.int (0 : Int32)), .unset] [(.int (0 : Int32))])) _
            refine XS.ifNo X281.here hx rfl (hb hby at_165) rfl ((if0 _ _).trans (teq (by decide)).2) ?_
            exact kg)
        have k308 : ∀ tg, Steps p.tables e below (T281.setTop (mkF m 170 #[.val (.int p1), .val (.int p2), .val (.int p3), .val (.int p4), .val (.int (2 : Int32)), .val (.int ch1), .val (.int ch2), .val (.int ch3), .val (.ref d), .val (.ref (own_ad c0 c1 c2 c3 c4 (own_aft (own_aft (0) ch1) ch2))), .val (.int (0 : Int32)), .val (.int (0 : Int32)), .unset] [(.int (0 : Int32))])) tg → Steps p.tables e below (s₁.setTop (entryFrame m #[(.int p1), (.int p2), (.int p3), (.int p4)] maxLocals)) tg := fun tg kg => k307 tg (by
            show Steps p.tables e below (T281.setTop (mkF m 168 #[.val (.int p1), .val (.int p2), .val (.int p3), .val (.int p4), .val (.int (2 : Int32)), .val (.int ch1), .val (.int ch2), .val (.int ch3), .val (.ref d), .val (.ref (own_ad c0 c1 c2 c3 c4 (own_aft (own_aft (0) ch1) ch2))), .val (.int (0 : Int32)), .val (.int (0 : Int32)), .unset] [])) _
            refine XS.iload X281.here hx rfl (hb hby at_168) rfl ?_
            exact kg)
        have k309 : ∀ tg, Steps p.tables e below (T281.setTop (mkF m 173 #[.val (.int p1), .val (.int p2), .val (.int p3), .val (.int p4), .val (.int (2 : Int32)), .val (.int ch1), .val (.int ch2), .val (.int ch3), .val (.ref d), .val (.ref (own_ad c0 c1 c2 c3 c4 (own_aft (own_aft (0) ch1) ch2))), .val (.int (0 : Int32)), .val (.int (0 : Int32)), .unset] [])) tg → Steps p.tables e below (s₁.setTop (entryFrame m #[(.int p1), (.int p2), (.int p3), (.int p4)] maxLocals)) tg := fun tg kg => k308 tg (by
            show Steps p.tables e below (T281.setTop (mkF m 170 #[.val (.int p1), .val (.int p2), .val (.int p3), .val (.int p4), .val (.int (2 : Int32)), .val (.int ch1), .val (.int ch2), .val (.int ch3), .val (.ref d), .val (.ref (own_ad c0 c1 c2 c3 c4 (own_aft (own_aft (0) ch1) ch2))), .val (.int (0 : Int32)), .val (.int (0 : Int32)), .unset] [(.int (0 : Int32))])) _
            refine XS.ifNo X281.here hx rfl (hb hby at_170) rfl ((if0 _ _).trans (teq (by decide)).2) ?_
            exact kg)
        have k310 : ∀ tg, Steps p.tables e below (T281.setTop (mkF m 182 #[.val (.int p1), .val (.int p2), .val (.int p3), .val (.int p4), .val (.int (2 : Int32)), .val (.int ch1), .val (.int ch2), .val (.int ch3), .val (.ref d), .val (.ref (own_ad c0 c1 c2 c3 c4 (own_aft (own_aft (0) ch1) ch2))), .val (.int (0 : Int32)), .val (.int (0 : Int32)), .val (.int (1 : Int32))] [(.ref (own_ad c0 c1 c2 c3 c4 (own_aft (own_aft (0) ch1) ch2)))])) tg → Steps p.tables e below (s₁.setTop (entryFrame m #[(.int p1), (.int p2), (.int p3), (.int p4)] maxLocals)) tg := fun tg kg => k309 tg (by
            show Steps p.tables e below (T281.setTop (mkF m 173 #[.val (.int p1), .val (.int p2), .val (.int p3), .val (.int p4), .val (.int (2 : Int32)), .val (.int ch1), .val (.int ch2), .val (.int ch3), .val (.ref d), .val (.ref (own_ad c0 c1 c2 c3 c4 (own_aft (own_aft (0) ch1) ch2))), .val (.int (0 : Int32)), .val (.int (0 : Int32)), .unset] [])) _
            refine XS.iconst X281.here hx rfl (hb hby at_173) ?_
            show Steps p.tables e below (T281.setTop (mkF m 174 #[.val (.int p1), .val (.int p2), .val (.int p3), .val (.int p4), .val (.int (2 : Int32)), .val (.int ch1), .val (.int ch2), .val (.int ch3), .val (.ref d), .val (.ref (own_ad c0 c1 c2 c3 c4 (own_aft (own_aft (0) ch1) ch2))), .val (.int (0 : Int32)), .val (.int (0 : Int32)), .unset] [(.int (1 : Int32))])) _
            refine XS.goto X281.here hx rfl (pc0 := 174) (pc' := 178) rfl (hb hby at_174) (by decide) (by decide) ?_
            show Steps p.tables e below (T281.setTop (mkF m 178 #[.val (.int p1), .val (.int p2), .val (.int p3), .val (.int p4), .val (.int (2 : Int32)), .val (.int ch1), .val (.int ch2), .val (.int ch3), .val (.ref d), .val (.ref (own_ad c0 c1 c2 c3 c4 (own_aft (own_aft (0) ch1) ch2))), .val (.int (0 : Int32)), .val (.int (0 : Int32)), .unset] [(.int (1 : Int32))])) _
            refine XS.istore X281.here hx rfl (hb hby at_178) rfl (l' := #[.val (.int p1), .val (.int p2), .val (.int p3), .val (.int p4), .val (.int (2 : Int32)), .val (.int ch1), .val (.int ch2), .val (.int ch3), .val (.ref d), .val (.ref (own_ad c0 c1 c2 c3 c4 (own_aft (own_aft (0) ch1) ch2))), .val (.int (0 : Int32)), .val (.int (0 : Int32)), .val (.int (1 : Int32))]) rfl ?_
            show Steps p.tables e below (T281.setTop (mkF m 180 #[.val (.int p1), .val (.int p2), .val (.int p3), .val (.int p4), .val (.int (2 : Int32)), .val (.int ch1), .val (.int ch2), .val (.int ch3), .val (.ref d), .val (.ref (own_ad c0 c1 c2 c3 c4 (own_aft (own_aft (0) ch1) ch2))), .val (.int (0 : Int32)), .val (.int (0 : Int32)), .val (.int (1 : Int32))] [])) _
            refine XS.aload X281.here hx rfl (hb hby at_180) rfl rfl ?_
            exact kg)
        have hex : Exa Z T278.heap (own_ad c0 c1 c2 c3 c4 (own_aft (own_aft (0) ch1) ch2)) "com/example/vaxwire/vaxwire/hl7/Repetition$Content" := by
          have q5 : (own_aft (own_aft (0) ch1) ch2) < 5 := own_aft5 _ _
          generalize (own_aft (own_aft (0) ch1) ch2) = sx at q5 ⊢
          have : sx = 0 ∨ sx = 1 ∨ sx = 2 ∨ sx = 3 ∨ sx = 4 := by omega
          rcases this with rfl | rfl | rfl | rfl | rfl
          · exact E0.ext XE
          · exact E1.ext XE
          · exact E2.ext XE
          · exact E3.ext XE
          · exact E4.ext XE
        obtain ⟨cq311, kq311, q311a, q311b, q311c⟩ := isOf hZ e281 hex
        obtain ⟨_, _, ⟨T311, L311, c311, n311⟩, -, X311, ⟨Lc311, hQ311, l311, y311, z311⟩, st311⟩ := X281.virtualBack hx (y := (⟨"com/example/vaxwire/vaxwire/hl7/Repetition$Content", "isValue", "()Z"⟩ : MethodName)) (z := (⟨"com/example/vaxwire/vaxwire/hl7/Repetition$Content", "isValue", "()Z"⟩ : MethodName)) hown (mvT hZ (hw _ (List.mem_of_getElem? (i := 11) rfl))) (mvT hZ (hw _ (List.mem_of_getElem? (i := 12) rfl))) (notFace_of_selects (args := #[]) (mvT hZ (hw _ (List.mem_of_getElem? (i := 14) rfl)))) (mvT hZ (hw _ (List.mem_of_getElem? (i := 14) rfl))) (mvT hZ (hw _ (List.mem_of_getElem? (i := 13) rfl))) (by decide) (backOf (W := 0) (rm2 l Z a0 hw [] (own_ad c0 c1 c2 c3 c4 (own_aft (own_aft (0) ch1) ch2)) (own_aft (own_aft (0) ch1) ch2) d c0 c1 c2 c3 c4 T278.heap n0 Zx278 (own_aft5 _ _) rfl Wh0 XE) hZ (hw _ (List.mem_of_getElem? (i := 15) rfl)) (hw _ (List.mem_of_getElem? (i := 9) rfl)) (by decide) (by decide)) q311a q311c (g := (mkF m 182 #[.val (.int p1), .val (.int p2), .val (.int p3), .val (.int p4), .val (.int (2 : Int32)), .val (.int ch1), .val (.int ch2), .val (.int ch3), .val (.ref d), .val (.ref (own_ad c0 c1 c2 c3 c4 (own_aft (own_aft (0) ch1) ch2))), .val (.int (0 : Int32)), .val (.int (0 : Int32)), .val (.int (1 : Int32))] [(.ref (own_ad c0 c1 c2 c3 c4 (own_aft (own_aft (0) ch1) ch2)))])) rfl (by rw [hml]; rfl) (Steps.refl _) (argsL := []) (rest := []) (lenOf own_pd1 rfl) rfl (by show 2 * 0 + _ ≤ _; exact Nat.le_of_eq rfl) (hb hby at_182) (fun _ _ => ⟨rfl, e281, (by decide : 4 + 0 ≤ _), (by decide : 24 + 0 ≤ _)⟩)
        dsimp only [Pt.U, Pt.locs, Pt.cells, Pt.slots] at X311 l311 y311 z311 st311 hQ311
        obtain rfl : c311 = 4 := y311
        obtain rfl : n311 = 24 := z311
        obtain ⟨rfl, N311q, e311⟩ := hQ311
        have N311 := own_frE l311 (Fr.app N281 N311q)
        have k312 : ∀ tg, Steps p.tables e below (T311.setTop (mkF m 185 #[.val (.int p1), .val (.int p2), .val (.int p3), .val (.int p4), .val (.int (2 : Int32)), .val (.int ch1), .val (.int ch2), .val (.int ch3), .val (.ref d), .val (.ref (own_ad c0 c1 c2 c3 c4 (own_aft (own_aft (0) ch1) ch2))), .val (.int (0 : Int32)), .val (.int (0 : Int32)), .val (.int (1 : Int32))] [(.int (own_val (own_aft (own_aft (0) ch1) ch2)))])) tg → Steps p.tables e below (s₁.setTop (entryFrame m #[(.int p1), (.int p2), (.int p3), (.int p4)] maxLocals)) tg := fun tg kg => k310 tg (st311.trans kg)
        have hv : own_val (own_aft (own_aft (0) ch1) ch2) = (1 : Int32) := by rw [own_f2]; first | exact if_pos ⟨by first | exact Or.inl s1 | exact Or.inr s2, fun q => by first | exact t1 q.1 | exact t2 q.2⟩ | exact if_neg (fun ⟨q, r⟩ => by first | exact r ⟨t1, t2⟩ | exact q.elim s1 s2) | simp [s1, t1]
        have k313 : ∀ tg, Steps p.tables e below (T311.setTop (mkF m 195 #[.val (.int p1), .val (.int p2), .val (.int p3), .val (.int p4), .val (.int (2 : Int32)), .val (.int ch1), .val (.int ch2), .val (.int ch3), .val (.ref d), .val (.ref (own_ad c0 c1 c2 c3 c4 (own_aft (own_aft (0) ch1) ch2))), .val (.int (0 : Int32)), .val (.int (0 : Int32)), .val (.int (1 : Int32))] [(.int (1 : Int32))])) tg → Steps p.tables e below (s₁.setTop (entryFrame m #[(.int p1), (.int p2), (.int p3), (.int p4)] maxLocals)) tg := fun tg kg => k312 tg (by
            show Steps p.tables e below (T311.setTop (mkF m 185 #[.val (.int p1), .val (.int p2), .val (.int p3), .val (.int p4), .val (.int (2 : Int32)), .val (.int ch1), .val (.int ch2), .val (.int ch3), .val (.ref d), .val (.ref (own_ad c0 c1 c2 c3 c4 (own_aft (own_aft (0) ch1) ch2))), .val (.int (0 : Int32)), .val (.int (0 : Int32)), .val (.int (1 : Int32))] [(.int (own_val (own_aft (own_aft (0) ch1) ch2)))])) _
            refine XS.iload X311.here hx rfl (hb hby at_185) rfl ?_
            show Steps p.tables e below (T311.setTop (mkF m 187 #[.val (.int p1), .val (.int p2), .val (.int p3), .val (.int p4), .val (.int (2 : Int32)), .val (.int ch1), .val (.int ch2), .val (.int ch3), .val (.ref d), .val (.ref (own_ad c0 c1 c2 c3 c4 (own_aft (own_aft (0) ch1) ch2))), .val (.int (0 : Int32)), .val (.int (0 : Int32)), .val (.int (1 : Int32))] [(.int (1 : Int32)), (.int (own_val (own_aft (own_aft (0) ch1) ch2)))])) _
            refine XS.icmpNo X311.here hx rfl (hb hby at_187) rfl (teq hv).2 ?_
            show Steps p.tables e below (T311.setTop (mkF m 190 #[.val (.int p1), .val (.int p2), .val (.int p3), .val (.int p4), .val (.int (2 : Int32)), .val (.int ch1), .val (.int ch2), .val (.int ch3), .val (.ref d), .val (.ref (own_ad c0 c1 c2 c3 c4 (own_aft (own_aft (0) ch1) ch2))), .val (.int (0 : Int32)), .val (.int (0 : Int32)), .val (.int (1 : Int32))] [])) _
            refine XS.iconst X311.here hx rfl (hb hby at_190) ?_
            show Steps p.tables e below (T311.setTop (mkF m 191 #[.val (.int p1), .val (.int p2), .val (.int p3), .val (.int p4), .val (.int (2 : Int32)), .val (.int ch1), .val (.int ch2), .val (.int ch3), .val (.ref d), .val (.ref (own_ad c0 c1 c2 c3 c4 (own_aft (own_aft (0) ch1) ch2))), .val (.int (0 : Int32)), .val (.int (0 : Int32)), .val (.int (1 : Int32))] [(.int (1 : Int32))])) _
            refine XS.goto X311.here hx rfl (pc0 := 191) (pc' := 195) rfl (hb hby at_191) (by decide) (by decide) ?_
            exact kg)
        obtain ⟨fs, hr, hrun, hended, hend⟩ := Stand.leaveW X311 hS (by rw [e311]; first | exact hk | exact Nat.zero_le _) (v := some (.int (1 : Int32))) (fun h => by rw [Bd.returns] at h; cases h)
        refine ⟨_, _, k313 _ ?_, hrun, hended, _, _, rfl, ?_, own_rmono hend (by decide) (by decide)⟩
        · show Steps p.tables e below (T311.setTop (mkF m 195 #[.val (.int p1), .val (.int p2), .val (.int p3), .val (.int p4), .val (.int (2 : Int32)), .val (.int ch1), .val (.int ch2), .val (.int ch3), .val (.ref d), .val (.ref (own_ad c0 c1 c2 c3 c4 (own_aft (own_aft (0) ch1) ch2))), .val (.int (0 : Int32)), .val (.int (0 : Int32)), .val (.int (1 : Int32))] [(.int (1 : Int32))])) _
          exact retN X311 hx (t := .boolean) Bd.returns (by simp) (hb hby at_195) hr
        · exact ⟨rfl, N311⟩
    · have k314 : ∀ tg, Steps p.tables e below (T281.setTop (mkF m 101 #[.val (.int p1), .val (.int p2), .val (.int p3), .val (.int p4), .val (.int (2 : Int32)), .val (.int ch1), .val (.int ch2), .val (.int ch3), .val (.ref d), .val (.ref (own_ad c0 c1 c2 c3 c4 (own_aft (own_aft (0) ch1) ch2))), .unset, .unset, .unset] [])) tg → Steps p.tables e below (s₁.setTop (entryFrame m #[(.int p1), (.int p2), (.int p3), (.int p4)] maxLocals)) tg := fun tg kg => k282 tg (by
          show Steps p.tables e below (T281.setTop (mkF m 98 #[.val (.int p1), .val (.int p2), .val (.int p3), .val (.int p4), .val (.int (2 : Int32)), .val (.int ch1), .val (.int ch2), .val (.int ch3), .val (.ref d), .val (.ref (own_ad c0 c1 c2 c3 c4 (own_aft (own_aft (0) ch1) ch2))), .unset, .unset, .unset] [(.int (own_sep ch1))])) _
          refine XS.ifNo X281.here hx rfl (hb hby at_98) rfl ((if0 _ _).trans (feq s1).1) ?_
          exact kg)
      have k315 : ∀ tg, Steps p.tables e below (T281.setTop (mkF m 109 #[.val (.int p1), .val (.int p2), .val (.int p3), .val (.int p4), .val (.int (2 : Int32)), .val (.int ch1), .val (.int ch2), .val (.int ch3), .val (.ref d), .val (.ref (own_ad c0 c1 c2 c3 c4 (own_aft (own_aft (0) ch1) ch2))), .unset, .unset, .unset] [(.int ch2)])) tg → Steps p.tables e below (s₁.setTop (entryFrame m #[(.int p1), (.int p2), (.int p3), (.int p4)] maxLocals)) tg := fun tg kg => k314 tg (by
          show Steps p.tables e below (T281.setTop (mkF m 101 #[.val (.int p1), .val (.int p2), .val (.int p3), .val (.int p4), .val (.int (2 : Int32)), .val (.int ch1), .val (.int ch2), .val (.int ch3), .val (.ref d), .val (.ref (own_ad c0 c1 c2 c3 c4 (own_aft (own_aft (0) ch1) ch2))), .unset, .unset, .unset] [])) _
          refine XS.iload X281.here hx rfl (hb hby at_101) rfl ?_
          show Steps p.tables e below (T281.setTop (mkF m 103 #[.val (.int p1), .val (.int p2), .val (.int p3), .val (.int p4), .val (.int (2 : Int32)), .val (.int ch1), .val (.int ch2), .val (.int ch3), .val (.ref d), .val (.ref (own_ad c0 c1 c2 c3 c4 (own_aft (own_aft (0) ch1) ch2))), .unset, .unset, .unset] [(.int (2 : Int32))])) _
          refine XS.iconst X281.here hx rfl (hb hby at_103) ?_
          show Steps p.tables e below (T281.setTop (mkF m 104 #[.val (.int p1), .val (.int p2), .val (.int p3), .val (.int p4), .val (.int (2 : Int32)), .val (.int ch1), .val (.int ch2), .val (.int ch3), .val (.ref d), .val (.ref (own_ad c0 c1 c2 c3 c4 (own_aft (own_aft (0) ch1) ch2))), .unset, .unset, .unset] [(.int (2 : Int32)), (.int (2 : Int32))])) _
          refine XS.icmpNo X281.here hx rfl (hb hby at_104) rfl (flt (by decide)).1 ?_
          show Steps p.tables e below (T281.setTop (mkF m 107 #[.val (.int p1), .val (.int p2), .val (.int p3), .val (.int p4), .val (.int (2 : Int32)), .val (.int ch1), .val (.int ch2), .val (.int ch3), .val (.ref d), .val (.ref (own_ad c0 c1 c2 c3 c4 (own_aft (own_aft (0) ch1) ch2))), .unset, .unset, .unset] [])) _
          refine XS.iload X281.here hx rfl (hb hby at_107) rfl ?_
          exact kg)
      obtain ⟨_, _, ⟨T316, L316, c316, n316⟩, -, X316, ⟨Lc316, hQ316, l316, y316, z316⟩, st316⟩ := Jvm.LawKit.callS X281 hx (y := (⟨"com/example/vaxwire/vaxwire/hl7/ContentIsValuePinLaw", "isSep", "(C)Z"⟩ : MethodName)) hown (mvT hZ (hw _ (List.mem_of_getElem? (i := 75) rfl))) (mvT hZ (hw _ (List.mem_of_getElem? (i := 76) rfl))) (mvT hZ (hw _ (List.mem_of_getElem? (i := 3) rfl))) (mvT hZ (hw _ (List.mem_of_getElem? (i := 77) rfl))) (by decide) (backOf (W := 0) (rm11 l Z a0 hw [] ch2 T278.heap n0 Zx278) hZ (hw _ (List.mem_of_getElem? (i := 77) rfl)) (hw _ (List.mem_of_getElem? (i := 3) rfl)) (by decide) (by decide)) (g := (mkF m 109 #[.val (.int p1), .val (.int p2), .val (.int p3), .val (.int p4), .val (.int (2 : Int32)), .val (.int ch1), .val (.int ch2), .val (.int ch3), .val (.ref d), .val (.ref (own_ad c0 c1 c2 c3 c4 (own_aft (own_aft (0) ch1) ch2))), .unset, .unset, .unset] [(.int ch2)])) rfl (by rw [hml]; rfl) (argsL := [(.int ch2)]) (rest := []) (lenOf own_pd7 rfl) rfl (by show 2 * 0 + _ ≤ _; exact Nat.le_of_eq rfl) (hb hby at_109) (fun _ _ => ⟨rfl, e281, (by decide : 4 + 0 ≤ _), (by decide : 24 + 0 ≤ _)⟩)
      dsimp only [Pt.U, Pt.locs, Pt.cells, Pt.slots] at X316 l316 y316 z316 st316 hQ316
      obtain rfl : c316 = 4 := y316
      obtain rfl : n316 = 24 := z316
      obtain ⟨rfl, N316q, e316⟩ := hQ316
      have N316 := own_frE l316 (Fr.app N281 N316q)
      have k317 : ∀ tg, Steps p.tables e below (T316.setTop (mkF m 112 #[.val (.int p1), .val (.int p2), .val (.int p3), .val (.int p4), .val (.int (2 : Int32)), .val (.int ch1), .val (.int ch2), .val (.int ch3), .val (.ref d), .val (.ref (own_ad c0 c1 c2 c3 c4 (own_aft (own_aft (0) ch1) ch2))), .unset, .unset, .unset] [(.int (own_sep ch2))])) tg → Steps p.tables e below (s₁.setTop (entryFrame m #[(.int p1), (.int p2), (.int p3), (.int p4)] maxLocals)) tg := fun tg kg => k315 tg (st316 tg kg)
      by_cases s2 : own_sep ch2 = (0 : Int32)
      · have k318 : ∀ tg, Steps p.tables e below (T316.setTop (mkF m 133 #[.val (.int p1), .val (.int p2), .val (.int p3), .val (.int p4), .val (.int (2 : Int32)), .val (.int ch1), .val (.int ch2), .val (.int ch3), .val (.ref d), .val (.ref (own_ad c0 c1 c2 c3 c4 (own_aft (own_aft (0) ch1) ch2))), .unset, .unset, .unset] [])) tg → Steps p.tables e below (s₁.setTop (entryFrame m #[(.int p1), (.int p2), (.int p3), (.int p4)] maxLocals)) tg := fun tg kg => k317 tg (by
            show Steps p.tables e below (T316.setTop (mkF m 112 #[.val (.int p1), .val (.int p2), .val (.int p3), .val (.int p4), .val (.int (2 : Int32)), .val (.int ch1), .val (.int ch2), .val (.int ch3), .val (.ref d), .val (.ref (own_ad c0 c1 c2 c3 c4 (own_aft (own_aft (0) ch1) ch2))), .unset, .unset, .unset] [(.int (own_sep ch2))])) _
            refine XS.ifYes X316.here hx rfl (pc0 := 112) (pc' := 133) rfl (hb hby at_112) rfl ((if0 _ _).trans (teq s2).1) (by decide) (by decide) ?_
            exact kg)
        have k319 : ∀ tg, Steps p.tables e below (T316.setTop (mkF m 146 #[.val (.int p1), .val (.int p2), .val (.int p3), .val (.int p4), .val (.int (2 : Int32)), .val (.int ch1), .val (.int ch2), .val (.int ch3), .val (.ref d), .val (.ref (own_ad c0 c1 c2 c3 c4 (own_aft (own_aft (0) ch1) ch2))), .val (.int (0 : Int32)), .unset, .unset] [(.int (34 : Int32)), (.int ch1)])) tg → Steps p.tables e below (s₁.setTop (entryFrame m #[(.int p1), (.int p2), (.int p3), (.int p4)] maxLocals)) tg := fun tg kg => k318 tg (by
            show Steps p.tables e below (T316.setTop (mkF m 133 #[.val (.int p1), .val (.int p2), .val (.int p3), .val (.int p4), .val (.int (2 : Int32)), .val (.int ch1), .val (.int ch2), .val (.int ch3), .val (.ref d), .val (.ref (own_ad c0 c1 c2 c3 c4 (own_aft (own_aft (0) ch1) ch2))), .unset, .unset, .unset] [])) _
            refine XS.iconst X316.here hx rfl (hb hby at_133) ?_
            show Steps p.tables e below (T316.setTop (mkF m 134 #[.val (.int p1), .val (.int p2), .val (.int p3), .val (.int p4), .val (.int (2 : Int32)), .val (.int ch1), .val (.int ch2), .val (.int ch3), .val (.ref d), .val (.ref (own_ad c0 c1 c2 c3 c4 (own_aft (own_aft (0) ch1) ch2))), .unset, .unset, .unset] [(.int (0 : Int32))])) _
            refine XS.istore X316.here hx rfl (hb hby at_134) rfl (l' := #[.val (.int p1), .val (.int p2), .val (.int p3), .val (.int p4), .val (.int (2 : Int32)), .val (.int ch1), .val (.int ch2), .val (.int ch3), .val (.ref d), .val (.ref (own_ad c0 c1 c2 c3 c4 (own_aft (own_aft (0) ch1) ch2))), .val (.int (0 : Int32)), .unset, .unset]) rfl ?_
            show Steps p.tables e below (T316.setTop (mkF m 136 #[.val (.int p1), .val (.int p2), .val (.int p3), .val (.int p4), .val (.int (2 : Int32)), .val (.int ch1), .val (.int ch2), .val (.int ch3), .val (.ref d), .val (.ref (own_ad c0 c1 c2 c3 c4 (own_aft (own_aft (0) ch1) ch2))), .val (.int (0 : Int32)), .unset, .unset] [])) _
            refine XS.iload X316.here hx rfl (hb hby at_136) rfl ?_
            show Steps p.tables e below (T316.setTop (mkF m 138 #[.val (.int p1), .val (.int p2), .val (.int p3), .val (.int p4), .val (.int (2 : Int32)), .val (.int ch1), .val (.int ch2), .val (.int ch3), .val (.ref d), .val (.ref (own_ad c0 c1 c2 c3 c4 (own_aft (own_aft (0) ch1) ch2))), .val (.int (0 : Int32)), .unset, .unset] [(.int (2 : Int32))])) _
            refine XS.iconst X316.here hx rfl (hb hby at_138) ?_
            show Steps p.tables e below (T316.setTop (mkF m 139 #[.val (.int p1), .val (.int p2), .val (.int p3), .val (.int p4), .val (.int (2 : Int32)), .val (.int ch1), .val (.int ch2), .val (.int ch3), .val (.ref d), .val (.ref (own_ad c0 c1 c2 c3 c4 (own_aft (own_aft (0) ch1) ch2))), .val (.int (0 : Int32)), .unset, .unset] [(.int (2 : Int32)), (.int (2 : Int32))])) _
            refine XS.icmpNo X316.here hx rfl (hb hby at_139) rfl (teq (by decide)).2 ?_
            show Steps p.tables e below (T316.setTop (mkF m 142 #[.val (.int p1), .val (.int p2), .val (.int p3), .val (.int p4), .val (.int (2 : Int32)), .val (.int ch1), .val (.int ch2), .val (.int ch3), .val (.ref d), .val (.ref (own_ad c0 c1 c2 c3 c4 (own_aft (own_aft (0) ch1) ch2))), .val (.int (0 : Int32)), .unset, .unset] [])) _
            refine XS.iload X316.here hx rfl (hb hby at_142) rfl ?_
            show Steps p.tables e below (T316.setTop (mkF m 144 #[.val (.int p1), .val (.int p2), .val (.int p3), .val (.int p4), .val (.int (2 : Int32)), .val (.int ch1), .val (.int ch2), .val (.int ch3), .val (.ref d), .val (.ref (own_ad c0 c1 c2 c3 c4 (own_aft (own_aft (0) ch1) ch2))), .val (.int (0 : Int32)), .unset, .unset] [(.int ch1)])) _
            refine XS.bipush X316.here hx rfl (hb hby at_144) ?_
            exact kg)
        by_cases t1 : ch1 = (34 : Int32)
        · have k320 : ∀ tg, Steps p.tables e below (T316.setTop (mkF m 149 #[.val (.int p1), .val (.int p2), .val (.int p3), .val (.int p4), .val (.int (2 : Int32)), .val (.int ch1), .val (.int ch2), .val (.int ch3), .val (.ref d), .val (.ref (own_ad c0 c1 c2 c3 c4 (own_aft (own_aft (0) ch1) ch2))), .val (.int (0 : Int32)), .unset, .unset] [])) tg → Steps p.tables e below (s₁.setTop (entryFrame m #[(.int p1), (.int p2), (.int p3), (.int p4)] maxLocals)) tg := fun tg kg => k319 tg (by
              show Steps p.tables e below (T316.setTop (mkF m 146 #[.val (.int p1), .val (.int p2), .val (.int p3), .val (.int p4), .val (.int (2 : Int32)), .val (.int ch1), .val (.int ch2), .val (.int ch3), .val (.ref d), .val (.ref (own_ad c0 c1 c2 c3 c4 (own_aft (own_aft (0) ch1) ch2))), .val (.int (0 : Int32)), .unset, .unset] [(.int (34 : Int32)), (.int ch1)])) _
              refine XS.icmpNo X316.here hx rfl (hb hby at_146) rfl (teq t1).2 ?_
              exact kg)
          have k321 : ∀ tg, Steps p.tables e below (T316.setTop (mkF m 153 #[.val (.int p1), .val (.int p2), .val (.int p3), .val (.int p4), .val (.int (2 : Int32)), .val (.int ch1), .val (.int ch2), .val (.int ch3), .val (.ref d), .val (.ref (own_ad c0 c1 c2 c3 c4 (own_aft (own_aft (0) ch1) ch2))), .val (.int (0 : Int32)), .unset, .unset] [(.int (34 : Int32)), (.int ch2)])) tg → Steps p.tables e below (s₁.setTop (entryFrame m #[(.int p1), (.int p2), (.int p3), (.int p4)] maxLocals)) tg := fun tg kg => k320 tg (by
              show Steps p.tables e below (T316.setTop (mkF m 149 #[.val (.int p1), .val (.int p2), .val (.int p3), .val (.int p4), .val (.int (2 : Int32)), .val (.int ch1), .val (.int ch2), .val (.int ch3), .val (.ref d), .val (.ref (own_ad c0 c1 c2 c3 c4 (own_aft (own_aft (0) ch1) ch2))), .val (.int (0 : Int32)), .unset, .unset] [])) _
              refine XS.iload X316.here hx rfl (hb hby at_149) rfl ?_
              show Steps p.tables e below (T316.setTop (mkF m 151 #[.val (.int p1), .val (.int p2), .val (.int p3), .val (.int p4), .val (.int (2 : Int32)), .val (.int ch1), .val (.int ch2), .val (.int ch3), .val (.ref d), .val (.ref (own_ad c0 c1 c2 c3 c4 (own_aft (own_aft (0) ch1) ch2))), .val (.int (0 : Int32)), .unset, .unset] [(.int ch2)])) _
              refine XS.bipush X316.here hx rfl (hb hby at_151) ?_
              exact kg)
          by_cases t2 : ch2 = (34 : Int32)
          · have k322 : ∀ tg, Steps p.tables e below (T316.setTop (mkF m 156 #[.val (.int p1), .val (.int p2), .val (.int p3), .val (.int p4), .val (.int (2 : Int32)), .val (.int ch1), .val (.int ch2), .val (.int ch3), .val (.ref d), .val (.ref (own_ad c0 c1 c2 c3 c4 (own_aft (own_aft (0) ch1) ch2))), .val (.int (0 : Int32)), .unset, .unset] [])) tg → Steps p.tables e below (s₁.setTop (entryFrame m #[(.int p1), (.int p2), (.int p3), (.int p4)] maxLocals)) tg := fun tg kg => k321 tg (by
                show Steps p.tables e below (T316.setTop (mkF m 153 #[.val (.int p1), .val (.int p2), .val (.int p3), .val (.int p4), .val (.int (2 : Int32)), .val (.int ch1), .val (.int ch2), .val (.int ch3), .val (.ref d), .val (.ref (own_ad c0 c1 c2 c3 c4 (own_aft (own_aft (0) ch1) ch2))), .val (.int (0 : Int32)), .unset, .unset] [(.int (34 : Int32)), (.int ch2)])) _
                refine XS.icmpNo X316.here hx rfl (hb hby at_153) rfl (teq t2).2 ?_
                exact kg)
            have k323 : ∀ tg, Steps p.tables e below (T316.setTop (mkF m 165 #[.val (.int p1), .val (.int p2), .val (.int p3), .val (.int p4), .val (.int (2 : Int32)), .val (.int ch1), .val (.int ch2), .val (.int ch3), .val (.ref d), .val (.ref (own_ad c0 c1 c2 c3 c4 (own_aft (own_aft (0) ch1) ch2))), .val (.int (0 : Int32)), .val (.int (1 : Int32)), .unset] [(.int (0 : Int32))])) tg → Steps p.tables e below (s₁.setTop (entryFrame m #[(.int p1), (.int p2), (.int p3), (.int p4)] maxLocals)) tg := fun tg kg => k322 tg (by
                show Steps p.tables e below (T316.setTop (mkF m 156 #[.val (.int p1), .val (.int p2), .val (.int p3), .val (.int p4), .val (.int (2 : Int32)), .val (.int ch1), .val (.int ch2), .val (.int ch3), .val (.ref d), .val (.ref (own_ad c0 c1 c2 c3 c4 (own_aft (own_aft (0) ch1) ch2))), .val (.int (0 : Int32)), .unset, .unset] [])) _
                refine XS.iconst X316.here hx rfl (hb hby at_156) ?_
                show Steps p.tables e below (T316.setTop (mkF m 157 #[.val (.int p1), .val (.int p2), .val (.int p3), .val (.int p4), .val (.int (2 : Int32)), .val (.int ch1), .val (.int ch2), .val (.int ch3), .val (.ref d), .val (.ref (own_ad c0 c1 c2 c3 c4 (own_aft (own_aft (0) ch1) ch2))), .val (.int (0 : Int32)), .unset, .unset] [(.int (1 : Int32))])) _
                refine XS.goto X316.here hx rfl (pc0 := 157) (pc' := 161) rfl (hb hby at_157) (by decide) (by decide) ?_
                show Steps p.tables e below (T316.setTop (mkF m 161 #[.val (.int p1), .val (.int p2), .val (.int p3), .val (.int p4), .val (.int (2 : Int32)), .val (.int ch1), .val (.int ch2), .val (.int ch3), .val (.ref d), .val (.ref (own_ad c0 c1 c2 c3 c4 (own_aft (own_aft (0) ch1) ch2))), .val (.int (0 : Int32)), .unset, .unset] [(.int (1 : Int32))])) _
                refine XS.istore X316.here hx rfl (hb hby at_161) rfl (l' := #[.val (.int p1), .val (.int p2), .val (.int p3), .val (.int p4), .val (.int (2 : Int32)), .val (.int ch1), .val (.int ch2), .val (.int ch3), .val (.ref d), .val (.ref (own_ad c0 c1 c2 c3 c4 (own_aft (own_aft (0) ch1) ch2))), .val (.int (0 : Int32)), .val (.int (1 : Int32)), .unset]) rfl ?_
                show Steps p.tables e below (T316.setTop (mkF m 163 #[.val (.int p1), .val (.int p2), .val (.int p3), .val (.int p4), .val (.int (2 : Int32)), .val (.int ch1), .val (.int ch2), .val (.int ch3), .val (.ref d), .val (.ref (own_ad c0 c1 c2 c3 c4 (own_aft (own_aft (0) ch1) ch2))), .val (.int (0 : Int32)), .val (.int (1 : Int32)), .unset] [])) _
                refine XS.iload X316.here hx rfl (hb hby at_163) rfl ?_
                exact kg)
            have k324 : ∀ tg, Steps p.tables e below (T316.setTop (mkF m 168 #[.val (.int p1), .val (.int p2), .val (.int p3), .val (.int p4), .val (.int (2 : Int32)), .val (.int ch1), .val (.int ch2), .val (.int ch3), .val (.ref d), .val (.ref (own_ad c0 c1 c2 c3 c4 (own_aft (own_aft (0) ch1) ch2))), .val (.int (0 : Int32)), .val (.int (1 : Int32)), .unset] [])) tg → Steps p.tables e below (s₁.setTop (entryFrame m #[(.int p1), (.int p2), (.int p3), (.int p4)] maxLocals)) tg := fun tg kg => k323 tg (by
                show Steps p.tables e below (T316.setTop (mkF m 165 #[.val (.int p1), .val (.int p2), .val (.int p3), .val (.int p4), .val (.int (2 : Int32)), .val (.int ch1), .val (.int ch2), .val (.int ch3), .val (.ref d), .val (.ref (own_ad c0 c1 c2 c3 c4 (own_aft (own_aft (0) ch1) ch2))), .val (.int (0 : Int32)), .val (.int (1 : Int32)), .unset] [(.int (0 : Int32))])) _
                refine XS.ifNo X316.here hx rfl (hb hby at_165) rfl ((if0 _ _).trans (teq (by decide)).2) ?_
                exact kg)
            have k325 : ∀ tg, Steps p.tables e below (T316.setTop (mkF m 170 #[.val (.int p1), .val (.int p2), .val (.int p3), .val (.int p4), .val (.int (2 : Int32)), .val (.int ch1), .val (.int ch2), .val (.int ch3), .val (.ref d), .val (.ref (own_ad c0 c1 c2 c3 c4 (own_aft (own_aft (0) ch1) ch2))), .val (.int (0 : Int32)), .val (.int (1 : Int32)), .unset] [(.int (1 : Int32))])) tg → Steps p.tables e below (s₁.setTop (entryFrame m #[(.int p1), (.int p2), (.int p3), (.int p4)] maxLocals)) tg := fun tg kg => k324 tg (by
                show Steps p.tables e below (T316.setTop (mkF m 168 #[.val (.int p1), .val (.int p2), .val (.int p3), .val (.int p4), .val (.int (2 : Int32)), .val (.int ch1), .val (.int ch2), .val (.int ch3), .val (.ref d), .val (.ref (own_ad c0 c1 c2 c3 c4 (own_aft (own_aft (0) ch1) ch2))), .val (.int (0 : Int32)), .val (.int (1 : Int32)), .unset] [])) _
                refine XS.iload X316.here hx rfl (hb hby at_168) rfl ?_
                exact kg)
            have k326 : ∀ tg, Steps p.tables e below (T316.setTop (mkF m 177 #[.val (.int p1), .val (.int p2), .val (.int p3), .val (.int p4), .val (.int (2 : Int32)), .val (.int ch1), .val (.int ch2), .val (.int ch3), .val (.ref d), .val (.ref (own_ad c0 c1 c2 c3 c4 (own_aft (own_aft (0) ch1) ch2))), .val (.int (0 : Int32)), .val (.int (1 : Int32)), .unset] [])) tg → Steps p.tables e below (s₁.setTop (entryFrame m #[(.int p1), (.int p2), (.int p3), (.int p4)] maxLocals)) tg := fun tg kg => k325 tg (by
                show Steps p.tables e below (T316.setTop (mkF m 170 #[.val (.int p1), .val (.int p2), .val (.int p3), .val (.int p4), .val (.int (2 : Int32)), .val (.int ch1), .val (.int ch2), .val (.int ch3), .val (.ref d), .val (.ref (own_ad c0 c1 c2 c3 c4 (own_aft (own_aft (0) ch1) ch2))), .val (.int (0 : Int32)), .val (.int (1 : Int32)), .unset] [(.int (1 : Int32))])) _
                refine XS.ifYes X316.here hx rfl (pc0 := 170) (pc' := 177) rfl (hb hby at_170) rfl ((if0 _ _).trans (feq (by decide)).2) (by decide) (by decide) ?_
                exact kg)
            have k327 : ∀ tg, Steps p.tables e below (T316.setTop (mkF m 182 #[.val (.int p1), .val (.int p2), .val (.int p3), .val (.int p4), .val (.int (2 : Int32)), .val (.int ch1), .val (.int ch2), .val (.int ch3), .val (.ref d), .val (.ref (own_ad c0 c1 c2 c3 c4 (own_aft (own_aft (0) ch1) ch2))), .val (.int (0 : Int32)), .val (.int (1 : Int32)), .val (.int (0 : Int32))] [(.ref (own_ad c0 c1 c2 c3 c4 (own_aft (own_aft (0) ch1) ch2)))])) tg → Steps p.tables e below (s₁.setTop (entryFrame m #[(.int p1), (.int p2), (.int p3), (.int p4)] maxLocals)) tg := fun tg kg => k326 tg (by
                show Steps p.tables e below (T316.setTop (mkF m 177 #[.val (.int p1), .val (.int p2), .val (.int p3), .val (.int p4), .val (.int (2 : Int32)), .val (.int ch1), .val (.int ch2), .val (.int ch3), .val (.ref d), .val (.ref (own_ad c0 c1 c2 c3 c4 (own_aft (own_aft (0) ch1) ch2))), .val (.int (0 : Int32)), .val (.int (1 : Int32)), .unset] [])) _
                refine XS.iconst X316.here hx rfl (hb hby at_177) ?_
                show Steps p.tables e below (T316.setTop (mkF m 178 #[.val (.int p1), .val (.int p2), .val (.int p3), .val (.int p4), .val (.int (2 : Int32)), .val (.int ch1), .val (.int ch2), .val (.int ch3), .val (.ref d), .val (.ref (own_ad c0 c1 c2 c3 c4 (own_aft (own_aft (0) ch1) ch2))), .val (.int (0 : Int32)), .val (.int (1 : Int32)), .unset] [(.int (0 : Int32))])) _
                refine XS.istore X316.here hx rfl (hb hby at_178) rfl (l' := #[.val (.int p1), .val (.int p2), .val (.int p3), .val (.int p4), .val (.int (2 : Int32)), .val (.int ch1), .val (.int ch2), .val (.int ch3), .val (.ref d), .val (.ref (own_ad c0 c1 c2 c3 c4 (own_aft (own_aft (0) ch1) ch2))), .val (.int (0 : Int32)), .val (.int (1 : Int32)), .val (.int (0 : Int32))]) rfl ?_
                show Steps p.tables e below (T316.setTop (mkF m 180 #[.val (.int p1), .val (.int p2), .val (.int p3), .val (.int p4), .val (.int (2 : Int32)), .val (.int ch1), .val (.int ch2), .val (.int ch3), .val (.ref d), .val (.ref (own_ad c0 c1 c2 c3 c4 (own_aft (own_aft (0) ch1) ch2))), .val (.int (0 : Int32)), .val (.int (1 : Int32)), .val (.int (0 : Int32))] [])) _
                refine XS.aload X316.here hx rfl (hb hby at_180) rfl rfl ?_
                exact kg)
            have hex : Exa Z T278.heap (own_ad c0 c1 c2 c3 c4 (own_aft (own_aft (0) ch1) ch2)) "com/example/vaxwire/vaxwire/hl7/Repetition$Content" := by
              have q5 : (own_aft (own_aft (0) ch1) ch2) < 5 := own_aft5 _ _
              generalize (own_aft (own_aft (0) ch1) ch2) = sx at q5 ⊢
              have : sx = 0 ∨ sx = 1 ∨ sx = 2 ∨ sx = 3 ∨ sx = 4 := by omega
              rcases this with rfl | rfl | rfl | rfl | rfl
              · exact E0.ext XE
              · exact E1.ext XE
              · exact E2.ext XE
              · exact E3.ext XE
              · exact E4.ext XE
            obtain ⟨cq328, kq328, q328a, q328b, q328c⟩ := isOf hZ e316 hex
            obtain ⟨_, _, ⟨T328, L328, c328, n328⟩, -, X328, ⟨Lc328, hQ328, l328, y328, z328⟩, st328⟩ := X316.virtualBack hx (y := (⟨"com/example/vaxwire/vaxwire/hl7/Repetition$Content", "isValue", "()Z"⟩ : MethodName)) (z := (⟨"com/example/vaxwire/vaxwire/hl7/Repetition$Content", "isValue", "()Z"⟩ : MethodName)) hown (mvT hZ (hw _ (List.mem_of_getElem? (i := 11) rfl))) (mvT hZ (hw _ (List.mem_of_getElem? (i := 12) rfl))) (notFace_of_selects (args := #[]) (mvT hZ (hw _ (List.mem_of_getElem? (i := 14) rfl)))) (mvT hZ (hw _ (List.mem_of_getElem? (i := 14) rfl))) (mvT hZ (hw _ (List.mem_of_getElem? (i := 13) rfl))) (by decide) (backOf (W := 0) (rm2 l Z a0 hw [] (own_ad c0 c1 c2 c3 c4 (own_aft (own_aft (0) ch1) ch2)) (own_aft (own_aft (0) ch1) ch2) d c0 c1 c2 c3 c4 T278.heap n0 Zx278 (own_aft5 _ _) rfl Wh0 XE) hZ (hw _ (List.mem_of_getElem? (i := 15) rfl)) (hw _ (List.mem_of_getElem? (i := 9) rfl)) (by decide) (by decide)) q328a q328c (g := (mkF m 182 #[.val (.int p1), .val (.int p2), .val (.int p3), .val (.int p4), .val (.int (2 : Int32)), .val (.int ch1), .val (.int ch2), .val (.int ch3), .val (.ref d), .val (.ref (own_ad c0 c1 c2 c3 c4 (own_aft (own_aft (0) ch1) ch2))), .val (.int (0 : Int32)), .val (.int (1 : Int32)), .val (.int (0 : Int32))] [(.ref (own_ad c0 c1 c2 c3 c4 (own_aft (own_aft (0) ch1) ch2)))])) rfl (by rw [hml]; rfl) (Steps.refl _) (argsL := []) (rest := []) (lenOf own_pd1 rfl) rfl (by show 2 * 0 + _ ≤ _; exact Nat.le_of_eq rfl) (hb hby at_182) (fun _ _ => ⟨rfl, e316, (by decide : 4 + 0 ≤ _), (by decide : 24 + 0 ≤ _)⟩)
            dsimp only [Pt.U, Pt.locs, Pt.cells, Pt.slots] at X328 l328 y328 z328 st328 hQ328
            obtain rfl : c328 = 4 := y328
            obtain rfl : n328 = 24 := z328
            obtain ⟨rfl, N328q, e328⟩ := hQ328
            have N328 := own_frE l328 (Fr.app N316 N328q)
            have k329 : ∀ tg, Steps p.tables e below (T328.setTop (mkF m 185 #[.val (.int p1), .val (.int p2), .val (.int p3), .val (.int p4), .val (.int (2 : Int32)), .val (.int ch1), .val (.int ch2), .val (.int ch3), .val (.ref d), .val (.ref (own_ad c0 c1 c2 c3 c4 (own_aft (own_aft (0) ch1) ch2))), .val (.int (0 : Int32)), .val (.int (1 : Int32)), .val (.int (0 : Int32))] [(.int (own_val (own_aft (own_aft (0) ch1) ch2)))])) tg → Steps p.tables e below (s₁.setTop (entryFrame m #[(.int p1), (.int p2), (.int p3), (.int p4)] maxLocals)) tg := fun tg kg => k327 tg (st328.trans kg)
            have hv : own_val (own_aft (own_aft (0) ch1) ch2) = (0 : Int32) := by rw [own_f2]; first | exact if_pos ⟨by first | exact Or.inl s1 | exact Or.inr s2, fun q => by first | exact t1 q.1 | exact t2 q.2⟩ | exact if_neg (fun ⟨q, r⟩ => by first | exact r ⟨t1, t2⟩ | exact q.elim s1 s2) | simp [s1, s2, t1, t2]
            have k330 : ∀ tg, Steps p.tables e below (T328.setTop (mkF m 195 #[.val (.int p1), .val (.int p2), .val (.int p3), .val (.int p4), .val (.int (2 : Int32)), .val (.int ch1), .val (.int ch2), .val (.int ch3), .val (.ref d), .val (.ref (own_ad c0 c1 c2 c3 c4 (own_aft (own_aft (0) ch1) ch2))), .val (.int (0 : Int32)), .val (.int (1 : Int32)), .val (.int (0 : Int32))] [(.int (1 : Int32))])) tg → Steps p.tables e below (s₁.setTop (entryFrame m #[(.int p1), (.int p2), (.int p3), (.int p4)] maxLocals)) tg := fun tg kg => k329 tg (by
                show Steps p.tables e below (T328.setTop (mkF m 185 #[.val (.int p1), .val (.int p2), .val (.int p3), .val (.int p4), .val (.int (2 : Int32)), .val (.int ch1), .val (.int ch2), .val (.int ch3), .val (.ref d), .val (.ref (own_ad c0 c1 c2 c3 c4 (own_aft (own_aft (0) ch1) ch2))), .val (.int (0 : Int32)), .val (.int (1 : Int32)), .val (.int (0 : Int32))] [(.int (own_val (own_aft (own_aft (0) ch1) ch2)))])) _
                refine XS.iload X328.here hx rfl (hb hby at_185) rfl ?_
                show Steps p.tables e below (T328.setTop (mkF m 187 #[.val (.int p1), .val (.int p2), .val (.int p3), .val (.int p4), .val (.int (2 : Int32)), .val (.int ch1), .val (.int ch2), .val (.int ch3), .val (.ref d), .val (.ref (own_ad c0 c1 c2 c3 c4 (own_aft (own_aft (0) ch1) ch2))), .val (.int (0 : Int32)), .val (.int (1 : Int32)), .val (.int (0 : Int32))] [(.int (0 : Int32)), (.int (own_val (own_aft (own_aft (0) ch1) ch2)))])) _
                refine XS.icmpNo X328.here hx rfl (hb hby at_187) rfl (teq hv).2 ?_
                show Steps p.tables e below (T328.setTop (mkF m 190 #[.val (.int p1), .val (.int p2), .val (.int p3), .val (.int p4), .val (.int (2 : Int32)), .val (.int ch1), .val (.int ch2), .val (.int ch3), .val (.ref d), .val (.ref (own_ad c0 c1 c2 c3 c4 (own_aft (own_aft (0) ch1) ch2))), .val (.int (0 : Int32)), .val (.int (1 : Int32)), .val (.int (0 : Int32))] [])) _
                refine XS.iconst X328.here hx rfl (hb hby at_190) ?_
                show Steps p.tables e below (T328.setTop (mkF m 191 #[.val (.int p1), .val (.int p2), .val (.int p3), .val (.int p4), .val (.int (2 : Int32)), .val (.int ch1), .val (.int ch2), .val (.int ch3), .val (.ref d), .val (.ref (own_ad c0 c1 c2 c3 c4 (own_aft (own_aft (0) ch1) ch2))), .val (.int (0 : Int32)), .val (.int (1 : Int32)), .val (.int (0 : Int32))] [(.int (1 : Int32))])) _
                refine XS.goto X328.here hx rfl (pc0 := 191) (pc' := 195) rfl (hb hby at_191) (by decide) (by decide) ?_
                exact kg)
            obtain ⟨fs, hr, hrun, hended, hend⟩ := Stand.leaveW X328 hS (by rw [e328]; first | exact hk | exact Nat.zero_le _) (v := some (.int (1 : Int32))) (fun h => by rw [Bd.returns] at h; cases h)
            refine ⟨_, _, k330 _ ?_, hrun, hended, _, _, rfl, ?_, own_rmono hend (by decide) (by decide)⟩
            · show Steps p.tables e below (T328.setTop (mkF m 195 #[.val (.int p1), .val (.int p2), .val (.int p3), .val (.int p4), .val (.int (2 : Int32)), .val (.int ch1), .val (.int ch2), .val (.int ch3), .val (.ref d), .val (.ref (own_ad c0 c1 c2 c3 c4 (own_aft (own_aft (0) ch1) ch2))), .val (.int (0 : Int32)), .val (.int (1 : Int32)), .val (.int (0 : Int32))] [(.int (1 : Int32))])) _
              exact retN X328 hx (t := .boolean) Bd.returns (by simp) (hb hby at_195) hr
            · exact ⟨rfl, N328⟩
          · have k331 : ∀ tg, Steps p.tables e below (T316.setTop (mkF m 160 #[.val (.int p1), .val (.int p2), .val (.int p3), .val (.int p4), .val (.int (2 : Int32)), .val (.int ch1), .val (.int ch2), .val (.int ch3), .val (.ref d), .val (.ref (own_ad c0 c1 c2 c3 c4 (own_aft (own_aft (0) ch1) ch2))), .val (.int (0 : Int32)), .unset, .unset] [])) tg → Steps p.tables e below (s₁.setTop (entryFrame m #[(.int p1), (.int p2), (.int p3), (.int p4)] maxLocals)) tg := fun tg kg => k321 tg (by
                show Steps p.tables e below (T316.setTop (mkF m 153 #[.val (.int p1), .val (.int p2), .val (.int p3), .val (.int p4), .val (.int (2 : Int32)), .val (.int ch1), .val (.int ch2), .val (.int ch3), .val (.ref d), .val (.ref (own_ad c0 c1 c2 c3 c4 (own_aft (own_aft (0) ch1) ch2))), .val (.int (0 : Int32)), .unset, .unset] [(.int (34 : Int32)), (.int ch2)])) _
                refine XS.icmpYes X316.here hx rfl (pc0 := 153) (pc' := 160) rfl (hb hby at_153) rfl (feq t2).2 (by decide) (by decide) ?_
                exact kg)
            have k332 : ∀ tg, Steps p.tables e below (T316.setTop (mkF m 165 #[.val (.int p1), .val (.int p2), .val (.int p3), .val (.int p4), .val (.int (2 : Int32)), .val (.int ch1), .val (.int ch2), .val (.int ch3), .val (.ref d), .val (.ref (own_ad c0 c1 c2 c3 c4 (own_aft (own_aft (0) ch1) ch2))), .val (.int (0 : Int32)), .val (.int (0 : Int32)), .unset] [(.int (0 : Int32))])) tg → Steps p.tables e below (s₁.setTop (entryFrame m #[(.int p1), (.int p2), (.int p3), (.int p4)] maxLocals)) tg := fun tg kg => k331 tg (by
                show Steps p.tables e below (T316.setTop (mkF m 160 #[.val (.int p1), .val (.int p2), .val (.int p3), .val (.int p4), .val (.int (2 : Int32)), .val (.int ch1), .val (.int ch2), .val (.int ch3), .val (.ref d), .val (.ref (own_ad c0 c1 c2 c3 c4 (own_aft (own_aft (0) ch1) ch2))), .val (.int (0 : Int32)), .unset, .unset] [])) _
                refine XS.iconst X316.here hx rfl (hb hby at_160) ?_
                show Steps p.tables e below (T316.setTop (mkF m 161 #[.val (.int p1), .val (.int p2), .val (.int p3), .val (.int p4), .val (.int (2 : Int32)), .val (.int ch1), .val (.int ch2), .val (.int ch3), .val (.ref d), .val (.ref (own_ad c0 c1 c2 c3 c4 (own_aft (own_aft (0) ch1) ch2))), .val (.int (0 : Int32)), .unset, .unset] [(.int (0 : Int32))])) _
                refine XS.istore X316.here hx rfl (hb hby at_161) rfl (l' := #[.val (.int p1), .val (.int p2), .val (.int p3), .val (.int p4), .val (.int (2 : Int32)), .val (.int ch1), .val (.int ch2), .val (.int ch3), .val (.ref d), .val (.ref (own_ad c0 c1 c2 c3 c4 (own_aft (own_aft (0) ch1) ch2))), .val (.int (0 : Int32)), .val (.int (0 : Int32)), .unset]) rfl ?_
                show Steps p.tables e below (T316.setTop (mkF m 163 #[.val (.int p1), .val (.int p2), .val (.int p3), .val (.int p4), .val (.int (2 : Int32)), .val (.int ch1), .val (.int ch2), .val (.int ch3), .val (.ref d), .val (.ref (own_ad c0 c1 c2 c3 c4 (own_aft (own_aft (0) ch1) ch2))), .val (.int (0 : Int32)), .val (.int (0 : Int32)), .unset] [])) _
                refine XS.iload X316.here hx rfl (hb hby at_163) rfl ?_
                exact kg)
            have k333 : ∀ tg, Steps p.tables e below (T316.setTop (mkF m 168 #[.val (.int p1), .val (.int p2), .val (.int p3), .val (.int p4), .val (.int (2 : Int32)), .val (.int ch1), .val (.int ch2), .val (.int ch3), .val (.ref d), .val (.ref (own_ad c0 c1 c2 c3 c4 (own_aft (own_aft (0) ch1) ch2))), .val (.int (0 : Int32)), .val (.int (0 : Int32)), .unset] [])) tg → Steps p.tables e below (s₁.setTop (entryFrame m #[(.int p1), (.int p2), (.int p3), (.int p4)] maxLocals)) tg := fun tg kg => k332 tg (by
                show Steps p.tables e below (T316.setTop (mkF m 165 #[.val (.int p1), .val (.int p2), .val (.int p3), .val (.int p4), .val (.int (2 : Int32)), .val (.int ch1), .val (.int ch2), .val (.int ch3), .val (.ref d), .val (.ref (own_ad c0 c1 c2 c3 c4 (own_aft (own_aft (0) ch1) ch2))), .val (.int (0 : Int32)), .val (.int (0 : Int32)), .unset] [(.int (0 : Int32))])) _
                refine XS.ifNo X316.here hx rfl (hb hby at_165) rfl ((if0 _ _).trans (teq (by decide)).2) ?_
                exact kg)
            have k334 : ∀ tg, Steps p.tables e below (T316.setTop (mkF m 170 #[.val (.int p1), .val (.int p2), .val (.int p3), .val (.int p4), .val (.int (2 : Int32)), .val (.int ch1), .val (.int ch2), .val (.int ch3), .val (.ref d), .val (.ref (own_ad c0 c1 c2 c3 c4 (own_aft (own_aft (0) ch1) ch2))), .val (.int (0 : Int32)), .val (.int (0 : Int32)), .unset] [(.int (0 : Int32))])) tg → Steps p.tables e below (s₁.setTop (entryFrame m #[(.int p1), (.int p2), (.int p3), (.int p4)] maxLocals)) tg := fun tg kg => k333 tg (by
                show Steps p.tables e below (T316.setTop (mkF m 168 #[.val (.int p1), .val (.int p2), .val (.int p3), .val (.int p4), .val (.int (2 : Int32)), .val (.int ch1), .val (.int ch2), .val (.int ch3), .val (.ref d), .val (.ref (own_ad c0 c1 c2 c3 c4 (own_aft (own_aft (0) ch1) ch2))), .val (.int (0 : Int32)), .val (.int (0 : Int32)), .unset] [])) _
                refine XS.iload X316.here hx rfl (hb hby at_168) rfl ?_
                exact kg)
            have k335 : ∀ tg, Steps p.tables e below (T316.setTop (mkF m 173 #[.val (.int p1), .val (.int p2), .val (.int p3), .val (.int p4), .val (.int (2 : Int32)), .val (.int ch1), .val (.int ch2), .val (.int ch3), .val (.ref d), .val (.ref (own_ad c0 c1 c2 c3 c4 (own_aft (own_aft (0) ch1) ch2))), .val (.int (0 : Int32)), .val (.int (0 : Int32)), .unset] [])) tg → Steps p.tables e below (s₁.setTop (entryFrame m #[(.int p1), (.int p2), (.int p3), (.int p4)] maxLocals)) tg := fun tg kg => k334 tg (by
                show Steps p.tables e below (T316.setTop (mkF m 170 #[.val (.int p1), .val (.int p2), .val (.int p3), .val (.int p4), .val (.int (2 : Int32)), .val (.int ch1), .val (.int ch2), .val (.int ch3), .val (.ref d), .val (.ref (own_ad c0 c1 c2 c3 c4 (own_aft (own_aft (0) ch1) ch2))), .val (.int (0 : Int32)), .val (.int (0 : Int32)), .unset] [(.int (0 : Int32))])) _
                refine XS.ifNo X316.here hx rfl (hb hby at_170) rfl ((if0 _ _).trans (teq (by decide)).2) ?_
                exact kg)
            have k336 : ∀ tg, Steps p.tables e below (T316.setTop (mkF m 182 #[.val (.int p1), .val (.int p2), .val (.int p3), .val (.int p4), .val (.int (2 : Int32)), .val (.int ch1), .val (.int ch2), .val (.int ch3), .val (.ref d), .val (.ref (own_ad c0 c1 c2 c3 c4 (own_aft (own_aft (0) ch1) ch2))), .val (.int (0 : Int32)), .val (.int (0 : Int32)), .val (.int (1 : Int32))] [(.ref (own_ad c0 c1 c2 c3 c4 (own_aft (own_aft (0) ch1) ch2)))])) tg → Steps p.tables e below (s₁.setTop (entryFrame m #[(.int p1), (.int p2), (.int p3), (.int p4)] maxLocals)) tg := fun tg kg => k335 tg (by
                show Steps p.tables e below (T316.setTop (mkF m 173 #[.val (.int p1), .val (.int p2), .val (.int p3), .val (.int p4), .val (.int (2 : Int32)), .val (.int ch1), .val (.int ch2), .val (.int ch3), .val (.ref d), .val (.ref (own_ad c0 c1 c2 c3 c4 (own_aft (own_aft (0) ch1) ch2))), .val (.int (0 : Int32)), .val (.int (0 : Int32)), .unset] [])) _
                refine XS.iconst X316.here hx rfl (hb hby at_173) ?_
                show Steps p.tables e below (T316.setTop (mkF m 174 #[.val (.int p1), .val (.int p2), .val (.int p3), .val (.int p4), .val (.int (2 : Int32)), .val (.int ch1), .val (.int ch2), .val (.int ch3), .val (.ref d), .val (.ref (own_ad c0 c1 c2 c3 c4 (own_aft (own_aft (0) ch1) ch2))), .val (.int (0 : Int32)), .val (.int (0 : Int32)), .unset] [(.int (1 : Int32))])) _
                refine XS.goto X316.here hx rfl (pc0 := 174) (pc' := 178) rfl (hb hby at_174) (by decide) (by decide) ?_
                show Steps p.tables e below (T316.setTop (mkF m 178 #[.val (.int p1), .val (.int p2), .val (.int p3), .val (.int p4), .val (.int (2 : Int32)), .val (.int ch1), .val (.int ch2), .val (.int ch3), .val (.ref d), .val (.ref (own_ad c0 c1 c2 c3 c4 (own_aft (own_aft (0) ch1) ch2))), .val (.int (0 : Int32)), .val (.int (0 : Int32)), .unset] [(.int (1 : Int32))])) _
                refine XS.istore X316.here hx rfl (hb hby at_178) rfl (l' := #[.val (.int p1), .val (.int p2), .val (.int p3), .val (.int p4), .val (.int (2 : Int32)), .val (.int ch1), .val (.int ch2), .val (.int ch3), .val (.ref d), .val (.ref (own_ad c0 c1 c2 c3 c4 (own_aft (own_aft (0) ch1) ch2))), .val (.int (0 : Int32)), .val (.int (0 : Int32)), .val (.int (1 : Int32))]) rfl ?_
                show Steps p.tables e below (T316.setTop (mkF m 180 #[.val (.int p1), .val (.int p2), .val (.int p3), .val (.int p4), .val (.int (2 : Int32)), .val (.int ch1), .val (.int ch2), .val (.int ch3), .val (.ref d), .val (.ref (own_ad c0 c1 c2 c3 c4 (own_aft (own_aft (0) ch1) ch2))), .val (.int (0 : Int32)), .val (.int (0 : Int32)), .val (.int (1 : Int32))] [])) _
                refine XS.aload X316.here hx rfl (hb hby at_180) rfl rfl ?_
                exact kg)
            have hex : Exa Z T278.heap (own_ad c0 c1 c2 c3 c4 (own_aft (own_aft (0) ch1) ch2)) "com/example/vaxwire/vaxwire/hl7/Repetition$Content" := by
              have q5 : (own_aft (own_aft (0) ch1) ch2) < 5 := own_aft5 _ _
              generalize (own_aft (own_aft (0) ch1) ch2) = sx at q5 ⊢
              have : sx = 0 ∨ sx = 1 ∨ sx = 2 ∨ sx = 3 ∨ sx = 4 := by omega
              rcases this with rfl | rfl | rfl | rfl | rfl
              · exact E0.ext XE
              · exact E1.ext XE
              · exact E2.ext XE
              · exact E3.ext XE
              · exact E4.ext XE
            obtain ⟨cq337, kq337, q337a, q337b, q337c⟩ := isOf hZ e316 hex
            obtain ⟨_, _, ⟨T337, L337, c337, n337⟩, -, X337, ⟨Lc337, hQ337, l337, y337, z337⟩, st337⟩ := X316.virtualBack hx (y := (⟨"com/example/vaxwire/vaxwire/hl7/Repetition$Content", "isValue", "()Z"⟩ : MethodName)) (z := (⟨"com/example/vaxwire/vaxwire/hl7/Repetition$Content", "isValue", "()Z"⟩ : MethodName)) hown (mvT hZ (hw _ (List.mem_of_getElem? (i := 11) rfl))) (mvT hZ (hw _ (List.mem_of_getElem? (i := 12) rfl))) (notFace_of_selects (args := #[]) (mvT hZ (hw _ (List.mem_of_getElem? (i := 14) rfl)))) (mvT hZ (hw _ (List.mem_of_getElem? (i := 14) rfl))) (mvT hZ (hw _ (List.mem_of_getElem? (i := 13) rfl))) (by decide) (backOf (W := 0) (rm2 l Z a0 hw [] (own_ad c0 c1 c2 c3 c4 (own_aft (own_aft (0) ch1) ch2)) (own_aft (own_aft (0) ch1) ch2) d c0 c1 c2 c3 c4 T278.heap n0 Zx278 (own_aft5 _ _) rfl Wh0 XE) hZ (hw _ (List.mem_of_getElem? (i := 15) rfl)) (hw _ (List.mem_of_getElem? (i := 9) rfl)) (by decide) (by decide)) q337a q337c (g := (mkF m 182 #[.val (.int p1), .val (.int p2), .val (.int p3), .val (.int p4), .val (.int (2 : Int32)), .val (.int ch1), .val (.int ch2), .val (.int ch3), .val (.ref d), .val (.ref (own_ad c0 c1 c2 c3 c4 (own_aft (own_aft (0) ch1) ch2))), .val (.int (0 : Int32)), .val (.int (0 : Int32)), .val (.int (1 : Int32))] [(.ref (own_ad c0 c1 c2 c3 c4 (own_aft (own_aft (0) ch1) ch2)))])) rfl (by rw [hml]; rfl) (Steps.refl _) (argsL := []) (rest := []) (lenOf own_pd1 rfl) rfl (by show 2 * 0 + _ ≤ _; exact Nat.le_of_eq rfl) (hb hby at_182) (fun _ _ => ⟨rfl, e316, (by decide : 4 + 0 ≤ _), (by decide : 24 + 0 ≤ _)⟩)
            dsimp only [Pt.U, Pt.locs, Pt.cells, Pt.slots] at X337 l337 y337 z337 st337 hQ337
            obtain rfl : c337 = 4 := y337
            obtain rfl : n337 = 24 := z337
            obtain ⟨rfl, N337q, e337⟩ := hQ337
            have N337 := own_frE l337 (Fr.app N316 N337q)
            have k338 : ∀ tg, Steps p.tables e below (T337.setTop (mkF m 185 #[.val (.int p1), .val (.int p2), .val (.int p3), .val (.int p4), .val (.int (2 : Int32)), .val (.int ch1), .val (.int ch2), .val (.int ch3), .val (.ref d), .val (.ref (own_ad c0 c1 c2 c3 c4 (own_aft (own_aft (0) ch1) ch2))), .val (.int (0 : Int32)), .val (.int (0 : Int32)), .val (.int (1 : Int32))] [(.int (own_val (own_aft (own_aft (0) ch1) ch2)))])) tg → Steps p.tables e below (s₁.setTop (entryFrame m #[(.int p1), (.int p2), (.int p3), (.int p4)] maxLocals)) tg := fun tg kg => k336 tg (st337.trans kg)
            have hv : own_val (own_aft (own_aft (0) ch1) ch2) = (1 : Int32) := by rw [own_f2]; first | exact if_pos ⟨by first | exact Or.inl s1 | exact Or.inr s2, fun q => by first | exact t1 q.1 | exact t2 q.2⟩ | exact if_neg (fun ⟨q, r⟩ => by first | exact r ⟨t1, t2⟩ | exact q.elim s1 s2) | simp [s1, s2, t1, t2]
            have k339 : ∀ tg, Steps p.tables e below (T337.setTop (mkF m 195 #[.val (.int p1), .val (.int p2), .val (.int p3), .val (.int p4), .val (.int (2 : Int32)), .val (.int ch1), .val (.int ch2), .val (.int ch3), .val (.ref d), .val (.ref (own_ad c0 c1 c2 c3 c4 (own_aft (own_aft (0) ch1) ch2))), .val (.int (0 : Int32)), .val (.int (0 : Int32)), .val (.int (1 : Int32))] [(.int (1 : Int32))])) tg → Steps p.tables e below (s₁.setTop (entryFrame m #[(.int p1), (.int p2), (.int p3), (.int p4)] maxLocals)) tg := fun tg kg => k338 tg (by
                show Steps p.tables e below (T337.setTop (mkF m 185 #[.val (.int p1), .val (.int p2), .val (.int p3), .val (.int p4), .val (.int (2 : Int32)), .val (.int ch1), .val (.int ch2), .val (.int ch3), .val (.ref d), .val (.ref (own_ad c0 c1 c2 c3 c4 (own_aft (own_aft (0) ch1) ch2))), .val (.int (0 : Int32)), .val (.int (0 : Int32)), .val (.int (1 : Int32))] [(.int (own_val (own_aft (own_aft (0) ch1) ch2)))])) _
                refine XS.iload X337.here hx rfl (hb hby at_185) rfl ?_
                show Steps p.tables e below (T337.setTop (mkF m 187 #[.val (.int p1), .val (.int p2), .val (.int p3), .val (.int p4), .val (.int (2 : Int32)), .val (.int ch1), .val (.int ch2), .val (.int ch3), .val (.ref d), .val (.ref (own_ad c0 c1 c2 c3 c4 (own_aft (own_aft (0) ch1) ch2))), .val (.int (0 : Int32)), .val (.int (0 : Int32)), .val (.int (1 : Int32))] [(.int (1 : Int32)), (.int (own_val (own_aft (own_aft (0) ch1) ch2)))])) _
                refine XS.icmpNo X337.here hx rfl (hb hby at_187) rfl (teq hv).2 ?_
                show Steps p.tables e below (T337.setTop (mkF m 190 #[.val (.int p1), .val (.int p2), .val (.int p3), .val (.int p4), .val (.int (2 : Int32)), .val (.int ch1), .val (.int ch2), .val (.int ch3), .val (.ref d), .val (.ref (own_ad c0 c1 c2 c3 c4 (own_aft (own_aft (0) ch1) ch2))), .val (.int (0 : Int32)), .val (.int (0 : Int32)), .val (.int (1 : Int32))] [])) _
                refine XS.iconst X337.here hx rfl (hb hby at_190) ?_
                show Steps p.tables e below (T337.setTop (mkF m 191 #[.val (.int p1), .val (.int p2), .val (.int p3), .val (.int p4), .val (.int (2 : Int32)), .val (.int ch1), .val (.int ch2), .val (.int ch3), .val (.ref d), .val (.ref (own_ad c0 c1 c2 c3 c4 (own_aft (own_aft (0) ch1) ch2))), .val (.int (0 : Int32)), .val (.int (0 : Int32)), .val (.int (1 : Int32))] [(.int (1 : Int32))])) _
                refine XS.goto X337.here hx rfl (pc0 := 191) (pc' := 195) rfl (hb hby at_191) (by decide) (by decide) ?_
                exact kg)
            obtain ⟨fs, hr, hrun, hended, hend⟩ := Stand.leaveW X337 hS (by rw [e337]; first | exact hk | exact Nat.zero_le _) (v := some (.int (1 : Int32))) (fun h => by rw [Bd.returns] at h; cases h)
            refine ⟨_, _, k339 _ ?_, hrun, hended, _, _, rfl, ?_, own_rmono hend (by decide) (by decide)⟩
            · show Steps p.tables e below (T337.setTop (mkF m 195 #[.val (.int p1), .val (.int p2), .val (.int p3), .val (.int p4), .val (.int (2 : Int32)), .val (.int ch1), .val (.int ch2), .val (.int ch3), .val (.ref d), .val (.ref (own_ad c0 c1 c2 c3 c4 (own_aft (own_aft (0) ch1) ch2))), .val (.int (0 : Int32)), .val (.int (0 : Int32)), .val (.int (1 : Int32))] [(.int (1 : Int32))])) _
              exact retN X337 hx (t := .boolean) Bd.returns (by simp) (hb hby at_195) hr
            · exact ⟨rfl, N337⟩
        · have k340 : ∀ tg, Steps p.tables e below (T316.setTop (mkF m 160 #[.val (.int p1), .val (.int p2), .val (.int p3), .val (.int p4), .val (.int (2 : Int32)), .val (.int ch1), .val (.int ch2), .val (.int ch3), .val (.ref d), .val (.ref (own_ad c0 c1 c2 c3 c4 (own_aft (own_aft (0) ch1) ch2))), .val (.int (0 : Int32)), .unset, .unset] [])) tg → Steps p.tables e below (s₁.setTop (entryFrame m #[(.int p1), (.int p2), (.int p3), (.int p4)] maxLocals)) tg := fun tg kg => k319 tg (by
              show Steps p.tables e below (T316.setTop (mkF m 146 #[.val (.int p1), .val (.int p2), .val (.int p3), .val (.int p4), .val (.int (2 : Int32)), .val (.int ch1), .val (.int ch2), .val (.int ch3), .val (.ref d), .val (.ref (own_ad c0 c1 c2 c3 c4 (own_aft (own_aft (0) ch1) ch2))), .val (.int (0 : Int32)), .unset, .unset] [(.int (34 : Int32)), (.int ch1)])) _
              refine XS.icmpYes X316.here hx rfl (pc0 := 146) (pc' := 160) rfl (hb hby at_146) rfl (feq t1).2 (by decide) (by decide) ?_
              exact kg)
          have k341 : ∀ tg, Steps p.tables e below (T316.setTop (mkF m 165 #[.val (.int p1), .val (.int p2), .val (.int p3), .val (.int p4), .val (.int (2 : Int32)), .val (.int ch1), .val (.int ch2), .val (.int ch3), .val (.ref d), .val (.ref (own_ad c0 c1 c2 c3 c4 (own_aft (own_aft (0) ch1) ch2))), .val (.int (0 : Int32)), .val (.int (0 : Int32)), .unset] [(.int (0 : Int32))])) tg → Steps p.tables e below (s₁.setTop (entryFrame m #[(.int p1), (.int p2), (.int p3), (.int p4)] maxLocals)) tg := fun tg kg => k340 tg (by
              show Steps p.tables e below (T316.setTop (mkF m 160 #[.val (.int p1), .val (.int p2), .val (.int p3), .val (.int p4), .val (.int (2 : Int32)), .val (.int ch1), .val (.int ch2), .val (.int ch3), .val (.ref d), .val (.ref (own_ad c0 c1 c2 c3 c4 (own_aft (own_aft (0) ch1) ch2))), .val (.int (0 : Int32)), .unset, .unset] [])) _
              refine XS.iconst X316.here hx rfl (hb hby at_160) ?_
              show Steps p.tables e below (T316.setTop (mkF m 161 #[.val (.int p1), .val (.int p2), .val (.int p3), .val (.int p4), .val (.int (2 : Int32)), .val (.int ch1), .val (.int ch2), .val (.int ch3), .val (.ref d), .val (.ref (own_ad c0 c1 c2 c3 c4 (own_aft (own_aft (0) ch1) ch2))), .val (.int (0 : Int32)), .unset, .unset] [(.int (0 : Int32))])) _
              refine XS.istore X316.here hx rfl (hb hby at_161) rfl (l' := #[.val (.int p1), .val (.int p2), .val (.int p3), .val (.int p4), .val (.int (2 : Int32)), .val (.int ch1), .val (.int ch2), .val (.int ch3), .val (.ref d), .val (.ref (own_ad c0 c1 c2 c3 c4 (own_aft (own_aft (0) ch1) ch2))), .val (.int (0 : Int32)), .val (.int (0 : Int32)), .unset]) rfl ?_
              show Steps p.tables e below (T316.setTop (mkF m 163 #[.val (.int p1), .val (.int p2), .val (.int p3), .val (.int p4), .val (.int (2 : Int32)), .val (.int ch1), .val (.int ch2), .val (.int ch3), .val (.ref d), .val (.ref (own_ad c0 c1 c2 c3 c4 (own_aft (own_aft (0) ch1) ch2))), .val (.int (0 : Int32)), .val (.int (0 : Int32)), .unset] [])) _
              refine XS.iload X316.here hx rfl (hb hby at_163) rfl ?_
              exact kg)
          have k342 : ∀ tg, Steps p.tables e below (T316.setTop (mkF m 168 #[.val (.int p1), .val (.int p2), .val (.int p3), .val (.int p4), .val (.int (2 : Int32)), .val (.int ch1), .val (.int ch2), .val (.int ch3), .val (.ref d), .val (.ref (own_ad c0 c1 c2 c3 c4 (own_aft (own_aft (0) ch1) ch2))), .val (.int (0 : Int32)), .val (.int (0 : Int32)), .unset] [])) tg → Steps p.tables e below (s₁.setTop (entryFrame m #[(.int p1), (.int p2), (.int p3), (.int p4)] maxLocals)) tg := fun tg kg => k341 tg (by
              show Steps p.tables e below (T316.setTop (mkF m 165 #[.val (.int p1), .val (.int p2), .val (.int p3), .val (.int p4), .val (.int (2 : Int32)), .val (.int ch1), .val (.int ch2), .val (.int ch3), .val (.ref d), .val (.ref (own_ad c0 c1 c2 c3 c4 (own_aft (own_aft (0) ch1) ch2))), .val (.int (0 : Int32)), .val (.int (0 : Int32)), .unset] [(.int (0 : Int32))])) _
              refine XS.ifNo X316.here hx rfl (hb hby at_165) rfl ((if0 _ _).trans (teq (by decide)).2) ?_
              exact kg)
          have k343 : ∀ tg, Steps p.tables e below (T316.setTop (mkF m 170 #[.val (.int p1), .val (.int p2), .val (.int p3), .val (.int p4), .val (.int (2 : Int32)), .val (.int ch1), .val (.int ch2), .val (.int ch3), .val (.ref d), .val (.ref (own_ad c0 c1 c2 c3 c4 (own_aft (own_aft (0) ch1) ch2))), .val (.int (0 : Int32)), .val (.int (0 : Int32)), .unset] [(.int (0 : Int32))])) tg → Steps p.tables e below (s₁.setTop (entryFrame m #[(.int p1), (.int p2), (.int p3), (.int p4)] maxLocals)) tg := fun tg kg => k342 tg (by
              show Steps p.tables e below (T316.setTop (mkF m 168 #[.val (.int p1), .val (.int p2), .val (.int p3), .val (.int p4), .val (.int (2 : Int32)), .val (.int ch1), .val (.int ch2), .val (.int ch3), .val (.ref d), .val (.ref (own_ad c0 c1 c2 c3 c4 (own_aft (own_aft (0) ch1) ch2))), .val (.int (0 : Int32)), .val (.int (0 : Int32)), .unset] [])) _
              refine XS.iload X316.here hx rfl (hb hby at_168) rfl ?_
              exact kg)
          have k344 : ∀ tg, Steps p.tables e below (T316.setTop (mkF m 173 #[.val (.int p1), .val (.int p2), .val (.int p3), .val (.int p4), .val (.int (2 : Int32)), .val (.int ch1), .val (.int ch2), .val (.int ch3), .val (.ref d), .val (.ref (own_ad c0 c1 c2 c3 c4 (own_aft (own_aft (0) ch1) ch2))), .val (.int (0 : Int32)), .val (.int (0 : Int32)), .unset] [])) tg → Steps p.tables e below (s₁.setTop (entryFrame m #[(.int p1), (.int p2), (.int p3), (.int p4)] maxLocals)) tg := fun tg kg => k343 tg (by
              show Steps p.tables e below (T316.setTop (mkF m 170 #[.val (.int p1), .val (.int p2), .val (.int p3), .val (.int p4), .val (.int (2 : Int32)), .val (.int ch1), .val (.int ch2), .val (.int ch3), .val (.ref d), .val (.ref (own_ad c0 c1 c2 c3 c4 (own_aft (own_aft (0) ch1) ch2))), .val (.int (0 : Int32)), .val (.int (0 : Int32)), .unset] [(.int (0 : Int32))])) _
              refine XS.ifNo X316.here hx rfl (hb hby at_170) rfl ((if0 _ _).trans (teq (by decide)).2) ?_
              exact kg)
          have k345 : ∀ tg, Steps p.tables e below (T316.setTop (mkF m 182 #[.val (.int p1), .val (.int p2), .val (.int p3), .val (.int p4), .val (.int (2 : Int32)), .val (.int ch1), .val (.int ch2), .val (.int ch3), .val (.ref d), .val (.ref (own_ad c0 c1 c2 c3 c4 (own_aft (own_aft (0) ch1) ch2))), .val (.int (0 : Int32)), .val (.int (0 : Int32)), .val (.int (1 : Int32))] [(.ref (own_ad c0 c1 c2 c3 c4 (own_aft (own_aft (0) ch1) ch2)))])) tg → Steps p.tables e below (s₁.setTop (entryFrame m #[(.int p1), (.int p2), (.int p3), (.int p4)] maxLocals)) tg := fun tg kg => k344 tg (by
              show Steps p.tables e below (T316.setTop (mkF m 173 #[.val (.int p1), .val (.int p2), .val (.int p3), .val (.int p4), .val (.int (2 : Int32)), .val (.int ch1), .val (.int ch2), .val (.int ch3), .val (.ref d), .val (.ref (own_ad c0 c1 c2 c3 c4 (own_aft (own_aft (0) ch1) ch2))), .val (.int (0 : Int32)), .val (.int (0 : Int32)), .unset] [])) _
              refine XS.iconst X316.here hx rfl (hb hby at_173) ?_
              show Steps p.tables e below (T316.setTop (mkF m 174 #[.val (.int p1), .val (.int p2), .val (.int p3), .val (.int p4), .val (.int (2 : Int32)), .val (.int ch1), .val (.int ch2), .val (.int ch3), .val (.ref d), .val (.ref (own_ad c0 c1 c2 c3 c4 (own_aft (own_aft (0) ch1) ch2))), .val (.int (0 : Int32)), .val (.int (0 : Int32)), .unset] [(.int (1 : Int32))])) _
              refine XS.goto X316.here hx rfl (pc0 := 174) (pc' := 178) rfl (hb hby at_174) (by decide) (by decide) ?_
              show Steps p.tables e below (T316.setTop (mkF m 178 #[.val (.int p1), .val (.int p2), .val (.int p3), .val (.int p4), .val (.int (2 : Int32)), .val (.int ch1), .val (.int ch2), .val (.int ch3), .val (.ref d), .val (.ref (own_ad c0 c1 c2 c3 c4 (own_aft (own_aft (0) ch1) ch2))), .val (.int (0 : Int32)), .val (.int (0 : Int32)), .unset] [(.int (1 : Int32))])) _
              refine XS.istore X316.here hx rfl (hb hby at_178) rfl (l' := #[.val (.int p1), .val (.int p2), .val (.int p3), .val (.int p4), .val (.int (2 : Int32)), .val (.int ch1), .val (.int ch2), .val (.int ch3), .val (.ref d), .val (.ref (own_ad c0 c1 c2 c3 c4 (own_aft (own_aft (0) ch1) ch2))), .val (.int (0 : Int32)), .val (.int (0 : Int32)), .val (.int (1 : Int32))]) rfl ?_
              show Steps p.tables e below (T316.setTop (mkF m 180 #[.val (.int p1), .val (.int p2), .val (.int p3), .val (.int p4), .val (.int (2 : Int32)), .val (.int ch1), .val (.int ch2), .val (.int ch3), .val (.ref d), .val (.ref (own_ad c0 c1 c2 c3 c4 (own_aft (own_aft (0) ch1) ch2))), .val (.int (0 : Int32)), .val (.int (0 : Int32)), .val (.int (1 : Int32))] [])) _
              refine XS.aload X316.here hx rfl (hb hby at_180) rfl rfl ?_
              exact kg)
          have hex : Exa Z T278.heap (own_ad c0 c1 c2 c3 c4 (own_aft (own_aft (0) ch1) ch2)) "com/example/vaxwire/vaxwire/hl7/Repetition$Content" := by
            have q5 : (own_aft (own_aft (0) ch1) ch2) < 5 := own_aft5 _ _
            generalize (own_aft (own_aft (0) ch1) ch2) = sx at q5 ⊢
            have : sx = 0 ∨ sx = 1 ∨ sx = 2 ∨ sx = 3 ∨ sx = 4 := by omega
            rcases this with rfl | rfl | rfl | rfl | rfl
            · exact E0.ext XE
            · exact E1.ext XE
            · exact E2.ext XE
            · exact E3.ext XE
            · exact E4.ext XE
          obtain ⟨cq346, kq346, q346a, q346b, q346c⟩ := isOf hZ e316 hex
          obtain ⟨_, _, ⟨T346, L346, c346, n346⟩, -, X346, ⟨Lc346, hQ346, l346, y346, z346⟩, st346⟩ := X316.virtualBack hx (y := (⟨"com/example/vaxwire/vaxwire/hl7/Repetition$Content", "isValue", "()Z"⟩ : MethodName)) (z := (⟨"com/example/vaxwire/vaxwire/hl7/Repetition$Content", "isValue", "()Z"⟩ : MethodName)) hown (mvT hZ (hw _ (List.mem_of_getElem? (i := 11) rfl))) (mvT hZ (hw _ (List.mem_of_getElem? (i := 12) rfl))) (notFace_of_selects (args := #[]) (mvT hZ (hw _ (List.mem_of_getElem? (i := 14) rfl)))) (mvT hZ (hw _ (List.mem_of_getElem? (i := 14) rfl))) (mvT hZ (hw _ (List.mem_of_getElem? (i := 13) rfl))) (by decide) (backOf (W := 0) (rm2 l Z a0 hw [] (own_ad c0 c1 c2 c3 c4 (own_aft (own_aft (0) ch1) ch2)) (own_aft (own_aft (0) ch1) ch2) d c0 c1 c2 c3 c4 T278.heap n0 Zx278 (own_aft5 _ _) rfl Wh0 XE) hZ (hw _ (List.mem_of_getElem? (i := 15) rfl)) (hw _ (List.mem_of_getElem? (i := 9) rfl)) (by decide) (by decide)) q346a q346c (g := (mkF m 182 #[.val (.int p1), .val (.int p2), .val (.int p3), .val (.int p4), .val (.int (2 : Int32)), .val (.int ch1), .val (.int ch2), .val (.int ch3), .val (.ref d), .val (.ref (own_ad c0 c1 c2 c3 c4 (own_aft (own_aft (0) ch1) ch2))), .val (.int (0 : Int32)), .val (.int (0 : Int32)), .val (.int (1 : Int32))] [(.ref (own_ad c0 c1 c2 c3 c4 (own_aft (own_aft (0) ch1) ch2)))])) rfl (by rw [hml]; rfl) (Steps.refl _) (argsL := []) (rest := []) (lenOf own_pd1 rfl) rfl (by show 2 * 0 + _ ≤ _; exact Nat.le_of_eq rfl) (hb hby at_182) (fun _ _ => ⟨rfl, e316, (by decide : 4 + 0 ≤ _), (by decide : 24 + 0 ≤ _)⟩)
          dsimp only [Pt.U, Pt.locs, Pt.cells, Pt.slots] at X346 l346 y346 z346 st346 hQ346
          obtain rfl : c346 = 4 := y346
          obtain rfl : n346 = 24 := z346
          obtain ⟨rfl, N346q, e346⟩ := hQ346
          have N346 := own_frE l346 (Fr.app N316 N346q)
          have k347 : ∀ tg, Steps p.tables e below (T346.setTop (mkF m 185 #[.val (.int p1), .val (.int p2), .val (.int p3), .val (.int p4), .val (.int (2 : Int32)), .val (.int ch1), .val (.int ch2), .val (.int ch3), .val (.ref d), .val (.ref (own_ad c0 c1 c2 c3 c4 (own_aft (own_aft (0) ch1) ch2))), .val (.int (0 : Int32)), .val (.int (0 : Int32)), .val (.int (1 : Int32))] [(.int (own_val (own_aft (own_aft (0) ch1) ch2)))])) tg → Steps p.tables e below (s₁.setTop (entryFrame m #[(.int p1), (.int p2), (.int p3), (.int p4)] maxLocals)) tg := fun tg kg => k345 tg (st346.trans kg)
          have hv : own_val (own_aft (own_aft (0) ch1) ch2) = (1 : Int32) := by rw [own_f2]; first | exact if_pos ⟨by first | exact Or.inl s1 | exact Or.inr s2, fun q => by first | exact t1 q.1 | exact t2 q.2⟩ | exact if_neg (fun ⟨q, r⟩ => by first | exact r ⟨t1, t2⟩ | exact q.elim s1 s2) | simp [s1, s2, t1]
          have k348 : ∀ tg, Steps p.tables e below (T346.setTop (mkF m 195 #[.val (.int p1), .val (.int p2), .val (.int p3), .val (.int p4), .val (.int (2 : Int32)), .val (.int ch1), .val (.int ch2), .val (.int ch3), .val (.ref d), .val (.ref (own_ad c0 c1 c2 c3 c4 (own_aft (own_aft (0) ch1) ch2))), .val (.int (0 : Int32)), .val (.int (0 : Int32)), .val (.int (1 : Int32))] [(.int (1 : Int32))])) tg → Steps p.tables e below (s₁.setTop (entryFrame m #[(.int p1), (.int p2), (.int p3), (.int p4)] maxLocals)) tg := fun tg kg => k347 tg (by
              show Steps p.tables e below (T346.setTop (mkF m 185 #[.val (.int p1), .val (.int p2), .val (.int p3), .val (.int p4), .val (.int (2 : Int32)), .val (.int ch1), .val (.int ch2), .val (.int ch3), .val (.ref d), .val (.ref (own_ad c0 c1 c2 c3 c4 (own_aft (own_aft (0) ch1) ch2))), .val (.int (0 : Int32)), .val (.int (0 : Int32)), .val (.int (1 : Int32))] [(.int (own_val (own_aft (own_aft (0) ch1) ch2)))])) _
              refine XS.iload X346.here hx rfl (hb hby at_185) rfl ?_
              show Steps p.tables e below (T346.setTop (mkF m 187 #[.val (.int p1), .val (.int p2), .val (.int p3), .val (.int p4), .val (.int (2 : Int32)), .val (.int ch1), .val (.int ch2), .val (.int ch3), .val (.ref d), .val (.ref (own_ad c0 c1 c2 c3 c4 (own_aft (own_aft (0) ch1) ch2))), .val (.int (0 : Int32)), .val (.int (0 : Int32)), .val (.int (1 : Int32))] [(.int (1 : Int32)), (.int (own_val (own_aft (own_aft (0) ch1) ch2)))])) _
              refine XS.icmpNo X346.here hx rfl (hb hby at_187) rfl (teq hv).2 ?_
              show Steps p.tables e below (T346.setTop (mkF m 190 #[.val (.int p1), .val (.int p2), .val (.int p3), .val (.int p4), .val (.int (2 : Int32)), .val (.int ch1), .val (.int ch2), .val (.int ch3), .val (.ref d), .val (.ref (own_ad c0 c1 c2 c3 c4 (own_aft (own_aft (0) ch1) ch2))), .val (.int (0 : Int32)), .val (.int (0 : Int32)), .val (.int (1 : Int32))] [])) _
              refine XS.iconst X346.here hx rfl (hb hby at_190) ?_
              show Steps p.tables e below (T346.setTop (mkF m 191 #[.val (.int p1), .val (.int p2), .val (.int p3), .val (.int p4), .val (.int (2 : Int32)), .val (.int ch1), .val (.int ch2), .val (.int ch3), .val (.ref d), .val (.ref (own_ad c0 c1 c2 c3 c4 (own_aft (own_aft (0) ch1) ch2))), .val (.int (0 : Int32)), .val (.int (0 : Int32)), .val (.int (1 : Int32))] [(.int (1 : Int32))])) _
              refine XS.goto X346.here hx rfl (pc0 := 191) (pc' := 195) rfl (hb hby at_191) (by decide) (by decide) ?_
              exact kg)
          obtain ⟨fs, hr, hrun, hended, hend⟩ := Stand.leaveW X346 hS (by rw [e346]; first | exact hk | exact Nat.zero_le _) (v := some (.int (1 : Int32))) (fun h => by rw [Bd.returns] at h; cases h)
          refine ⟨_, _, k348 _ ?_, hrun, hended, _, _, rfl, ?_, own_rmono hend (by decide) (by decide)⟩
          · show Steps p.tables e below (T346.setTop (mkF m 195 #[.val (.int p1), .val (.int p2), .val (.int p3), .val (.int p4), .val (.int (2 : Int32)), .val (.int ch1), .val (.int ch2), .val (.int ch3), .val (.ref d), .val (.ref (own_ad c0 c1 c2 c3 c4 (own_aft (own_aft (0) ch1) ch2))), .val (.int (0 : Int32)), .val (.int (0 : Int32)), .val (.int (1 : Int32))] [(.int (1 : Int32))])) _
            exact retN X346 hx (t := .boolean) Bd.returns (by simp) (hb hby at_195) hr
          · exact ⟨rfl, N346⟩
      · have k349 : ∀ tg, Steps p.tables e below (T316.setTop (mkF m 115 #[.val (.int p1), .val (.int p2), .val (.int p3), .val (.int p4), .val (.int (2 : Int32)), .val (.int ch1), .val (.int ch2), .val (.int ch3), .val (.ref d), .val (.ref (own_ad c0 c1 c2 c3 c4 (own_aft (own_aft (0) ch1) ch2))), .unset, .unset, .unset] [])) tg → Steps p.tables e below (s₁.setTop (entryFrame m #[(.int p1), (.int p2), (.int p3), (.int p4)] maxLocals)) tg := fun tg kg => k317 tg (by
            show Steps p.tables e below (T316.setTop (mkF m 112 #[.val (.int p1), .val (.int p2), .val (.int p3), .val (.int p4), .val (.int (2 : Int32)), .val (.int ch1), .val (.int ch2), .val (.int ch3), .val (.ref d), .val (.ref (own_ad c0 c1 c2 c3 c4 (own_aft (own_aft (0) ch1) ch2))), .unset, .unset, .unset] [(.int (own_sep ch2))])) _
            refine XS.ifNo X316.here hx rfl (hb hby at_112) rfl ((if0 _ _).trans (feq s2).1) ?_
            exact kg)
        have k350 : ∀ tg, Steps p.tables e below (T316.setTop (mkF m 146 #[.val (.int p1), .val (.int p2), .val (.int p3), .val (.int p4), .val (.int (2 : Int32)), .val (.int ch1), .val (.int ch2), .val (.int ch3), .val (.ref d), .val (.ref (own_ad c0 c1 c2 c3 c4 (own_aft (own_aft (0) ch1) ch2))), .val (.int (1 : Int32)), .unset, .unset] [(.int (34 : Int32)), (.int ch1)])) tg → Steps p.tables e below (s₁.setTop (entryFrame m #[(.int p1), (.int p2), (.int p3), (.int p4)] maxLocals)) tg := fun tg kg => k349 tg (by
            show Steps p.tables e below (T316.setTop (mkF m 115 #[.val (.int p1), .val (.int p2), .val (.int p3), .val (.int p4), .val (.int (2 : Int32)), .val (.int ch1), .val (.int ch2), .val (.int ch3), .val (.ref d), .val (.ref (own_ad c0 c1 c2 c3 c4 (own_aft (own_aft (0) ch1) ch2))), .unset, .unset, .unset] [])) _
            refine XS.iload X316.here hx rfl (hb hby at_115) rfl ?_
            show Steps p.tables e below (T316.setTop (mkF m 117 #[.val (.int p1), .val (.int p2), .val (.int p3), .val (.int p4), .val (.int (2 : Int32)), .val (.int ch1), .val (.int ch2), .val (.int ch3), .val (.ref d), .val (.ref (own_ad c0 c1 c2 c3 c4 (own_aft (own_aft (0) ch1) ch2))), .unset, .unset, .unset] [(.int (2 : Int32))])) _
            refine XS.iconst X316.here hx rfl (hb hby at_117) ?_
            show Steps p.tables e below (T316.setTop (mkF m 118 #[.val (.int p1), .val (.int p2), .val (.int p3), .val (.int p4), .val (.int (2 : Int32)), .val (.int ch1), .val (.int ch2), .val (.int ch3), .val (.ref d), .val (.ref (own_ad c0 c1 c2 c3 c4 (own_aft (own_aft (0) ch1) ch2))), .unset, .unset, .unset] [(.int (3 : Int32)), (.int (2 : Int32))])) _
            refine XS.icmpYes X316.here hx rfl (pc0 := 118) (pc' := 129) rfl (hb hby at_118) rfl (tlt (by decide)).1 (by decide) (by decide) ?_
            show Steps p.tables e below (T316.setTop (mkF m 129 #[.val (.int p1), .val (.int p2), .val (.int p3), .val (.int p4), .val (.int (2 : Int32)), .val (.int ch1), .val (.int ch2), .val (.int ch3), .val (.ref d), .val (.ref (own_ad c0 c1 c2 c3 c4 (own_aft (own_aft (0) ch1) ch2))), .unset, .unset, .unset] [])) _
            refine XS.iconst X316.here hx rfl (hb hby at_129) ?_
            show Steps p.tables e below (T316.setTop (mkF m 130 #[.val (.int p1), .val (.int p2), .val (.int p3), .val (.int p4), .val (.int (2 : Int32)), .val (.int ch1), .val (.int ch2), .val (.int ch3), .val (.ref d), .val (.ref (own_ad c0 c1 c2 c3 c4 (own_aft (own_aft (0) ch1) ch2))), .unset, .unset, .unset] [(.int (1 : Int32))])) _
            refine XS.goto X316.here hx rfl (pc0 := 130) (pc' := 134) rfl (hb hby at_130) (by decide) (by decide) ?_
            show Steps p.tables e below (T316.setTop (mkF m 134 #[.val (.int p1), .val (.int p2), .val (.int p3), .val (.int p4), .val (.int (2 : Int32)), .val (.int ch1), .val (.int ch2), .val (.int ch3), .val (.ref d), .val (.ref (own_ad c0 c1 c2 c3 c4 (own_aft (own_aft (0) ch1) ch2))), .unset, .unset, .unset] [(.int (1 : Int32))])) _
            refine XS.istore X316.here hx rfl (hb hby at_134) rfl (l' := #[.val (.int p1), .val (.int p2), .val (.int p3), .val (.int p4), .val (.int (2 : Int32)), .val (.int ch1), .val (.int ch2), .val (.int ch3), .val (.ref d), .val (.ref (own_ad c0 c1 c2 c3 c4 (own_aft (own_aft (0) ch1) ch2))), .val (.int (1 : Int32)), .unset, .unset]) rfl ?_
            show Steps p.tables e below (T316.setTop (mkF m 136 #[.val (.int p1), .val (.int p2), .val (.int p3), .val (.int p4), .val (.int (2 : Int32)), .val (.int ch1), .val (.int ch2), .val (.int ch3), .val (.ref d), .val (.ref (own_ad c0 c1 c2 c3 c4 (own_aft (own_aft (0) ch1) ch2))), .val (.int (1 : Int32)), .unset, .unset] [])) _
            refine XS.iload X316.here hx rfl (hb hby at_136) rfl ?_
            show Steps p.tables e below (T316.setTop (mkF m 138 #[.val (.int p1), .val (.int p2), .val (.int p3), .val (.int p4), .val (.int (2 : Int32)), .val (.int ch1), .val (.int ch2), .val (.int ch3), .val (.ref d), .val (.ref (own_ad c0 c1 c2 c3 c4 (own_aft (own_aft (0) ch1) ch2))), .val (.int (1 : Int32)), .unset, .unset] [(.int (2 : Int32))])) _
            refine XS.iconst X316.here hx rfl (hb hby at_138) ?_
            show Steps p.tables e below (T316.setTop (mkF m 139 #[.val (.int p1), .val (.int p2), .val (.int p3), .val (.int p4), .val (.int (2 : Int32)), .val (.int ch1), .val (.int ch2), .val (.int ch3), .val (.ref d), .val (.ref (own_ad c0 c1 c2 c3 c4 (own_aft (own_aft (0) ch1) ch2))), .val (.int (1 : Int32)), .unset, .unset] [(.int (2 : Int32)), (.int (2 : Int32))])) _
            refine XS.icmpNo X316.here hx rfl (hb hby at_139) rfl (teq (by decide)).2 ?_
            show Steps p.tables e below (T316.setTop (mkF m 142 #[.val (.int p1), .val (.int p2), .val (.int p3), .val (.int p4), .val (.int (2 : Int32)), .val (.int ch1), .val (.int ch2), .val (.int ch3), .val (.ref d), .val (.ref (own_ad c0 c1 c2 c3 c4 (own_aft (own_aft (0) ch1) ch2))), .val (.int (1 : Int32)), .unset, .unset] [])) _
            refine XS.iload X316.here hx rfl (hb hby at_142) rfl ?_
            show Steps p.tables e below (T316.setTop (mkF m 144 #[.val (.int p1), .val (.int p2), .val (.int p3), .val (.int p4), .val (.int (2 : Int32)), .val (.int ch1), .val (.int ch2), .val (.int ch3), .val (.ref d), .val (.ref (own_ad c0 c1 c2 c3 c4 (own_aft (own_aft (0) ch1) ch2))), .val (.int (1 : Int32)), .unset, .unset] [(.int ch1)])) _
            refine XS.bipush X316.here hx rfl (hb hby at_144) ?_
            exact kg)
        by_cases t1 : ch1 = (34 : Int32)
        · have k351 : ∀ tg, Steps p.tables e below (T316.setTop (mkF m 149 #[.val (.int p1), .val (.int p2), .val (.int p3), .val (.int p4), .val (.int (2 : Int32)), .val (.int ch1), .val (.int ch2), .val (.int ch3), .val (.ref d), .val (.ref (own_ad c0 c1 c2 c3 c4 (own_aft (own_aft (0) ch1) ch2))), .val (.int (1 : Int32)), .unset, .unset] [])) tg → Steps p.tables e below (s₁.setTop (entryFrame m #[(.int p1), (.int p2), (.int p3), (.int p4)] maxLocals)) tg := fun tg kg => k350 tg (by
              show Steps p.tables e below (T316.setTop (mkF m 146 #[.val (.int p1), .val (.int p2), .val (.int p3), .val (.int p4), .val (.int (2 : Int32)), .val (.int ch1), .val (.int ch2), .val (.int ch3), .val (.ref d), .val (.ref (own_ad c0 c1 c2 c3 c4 (own_aft (own_aft (0) ch1) ch2))), .val (.int (1 : Int32)), .unset, .unset] [(.int (34 : Int32)), (.int ch1)])) _
              refine XS.icmpNo X316.here hx rfl (hb hby at_146) rfl (teq t1).2 ?_
              exact kg)
          have k352 : ∀ tg, Steps p.tables e below (T316.setTop (mkF m 153 #[.val (.int p1), .val (.int p2), .val (.int p3), .val (.int p4), .val (.int (2 : Int32)), .val (.int ch1), .val (.int ch2), .val (.int ch3), .val (.ref d), .val (.ref (own_ad c0 c1 c2 c3 c4 (own_aft (own_aft (0) ch1) ch2))), .val (.int (1 : Int32)), .unset, .unset] [(.int (34 : Int32)), (.int ch2)])) tg → Steps p.tables e below (s₁.setTop (entryFrame m #[(.int p1), (.int p2), (.int p3), (.int p4)] maxLocals)) tg := fun tg kg => k351 tg (by
              show Steps p.tables e below (T316.setTop (mkF m 149 #[.val (.int p1), .val (.int p2), .val (.int p3), .val (.int p4), .val (.int (2 : Int32)), .val (.int ch1), .val (.int ch2), .val (.int ch3), .val (.ref d), .val (.ref (own_ad c0 c1 c2 c3 c4 (own_aft (own_aft (0) ch1) ch2))), .val (.int (1 : Int32)), .unset, .unset] [])) _
              refine XS.iload X316.here hx rfl (hb hby at_149) rfl ?_
              show Steps p.tables e below (T316.setTop (mkF m 151 #[.val (.int p1), .val (.int p2), .val (.int p3), .val (.int p4), .val (.int (2 : Int32)), .val (.int ch1), .val (.int ch2), .val (.int ch3), .val (.ref d), .val (.ref (own_ad c0 c1 c2 c3 c4 (own_aft (own_aft (0) ch1) ch2))), .val (.int (1 : Int32)), .unset, .unset] [(.int ch2)])) _
              refine XS.bipush X316.here hx rfl (hb hby at_151) ?_
              exact kg)
          by_cases t2 : ch2 = (34 : Int32)
          · have k353 : ∀ tg, Steps p.tables e below (T316.setTop (mkF m 156 #[.val (.int p1), .val (.int p2), .val (.int p3), .val (.int p4), .val (.int (2 : Int32)), .val (.int ch1), .val (.int ch2), .val (.int ch3), .val (.ref d), .val (.ref (own_ad c0 c1 c2 c3 c4 (own_aft (own_aft (0) ch1) ch2))), .val (.int (1 : Int32)), .unset, .unset] [])) tg → Steps p.tables e below (s₁.setTop (entryFrame m #[(.int p1), (.int p2), (.int p3), (.int p4)] maxLocals)) tg := fun tg kg => k352 tg (by
                show Steps p.tables e below (T316.setTop (mkF m 153 #[.val (.int p1), .val (.int p2), .val (.int p3), .val (.int p4), .val (.int (2 : Int32)), .val (.int ch1), .val (.int ch2), .val (.int ch3), .val (.ref d), .val (.ref (own_ad c0 c1 c2 c3 c4 (own_aft (own_aft (0) ch1) ch2))), .val (.int (1 : Int32)), .unset, .unset] [(.int (34 : Int32)), (.int ch2)])) _
                refine XS.icmpNo X316.here hx rfl (hb hby at_153) rfl (teq t2).2 ?_
                exact kg)
            have k354 : ∀ tg, Steps p.tables e below (T316.setTop (mkF m 165 #[.val (.int p1), .val (.int p2), .val (.int p3), .val (.int p4), .val (.int (2 : Int32)), .val (.int ch1), .val (.int ch2), .val (.int ch3), .val (.ref d), .val (.ref (own_ad c0 c1 c2 c3 c4 (own_aft (own_aft (0) ch1) ch2))), .val (.int (1 : Int32)), .val (.int (1 : Int32)), .unset] [(.int (1 : Int32))])) tg → Steps p.tables e below (s₁.setTop (entryFrame m #[(.int p1), (.int p2), (.int p3), (.int p4)] maxLocals)) tg := fun tg kg => k353 tg (by
                show Steps p.tables e below (T316.setTop (mkF m 156 #[.val (.int p1), .val (.int p2), .val (.int p3), .val (.int p4), .val (.int (2 : Int32)), .val (.int ch1), .val (.int ch2), .val (.int ch3), .val (.ref d), .val (.ref (own_ad c0 c1 c2 c3 c4 (own_aft (own_aft (0) ch1) ch2))), .val (.int (1 : Int32)), .unset, .unset] [])) _
                refine XS.iconst X316.here hx rfl (hb hby at_156) ?_
                show Steps p.tables e below (T316.setTop (mkF m 157 #[.val (.int p1), .val (.int p2), .val (.int p3), .val (.int p4), .val (.int (2 : Int32)), .val (.int ch1), .val (.int ch2), .val (.int ch3), .val (.ref d), .val (.ref (own_ad c0 c1 c2 c3 c4 (own_aft (own_aft (0) ch1) ch2))), .val (.int (1 : Int32)), .unset, .unset] [(.int (1 : Int32))])) _
                refine XS.goto X316.here hx rfl (pc0 := 157) (pc' := 161) rfl (hb hby at_157) (by decide) (by decide) ?_
                show Steps p.tables e below (T316.setTop (mkF m 161 #[.val (.int p1), .val (.int p2), .val (.int p3), .val (.int p4), .val (.int (2 : Int32)), .val (.int ch1), .val (.int ch2), .val (.int ch3), .val (.ref d), .val (.ref (own_ad c0 c1 c2 c3 c4 (own_aft (own_aft (0) ch1) ch2))), .val (.int (1 : Int32)), .unset, .unset] [(.int (1 : Int32))])) _
                refine XS.istore X316.here hx rfl (hb hby at_161) rfl (l' := #[.val (.int p1), .val (.int p2), .val (.int p3), .val (.int p4), .val (.int (2 : Int32)), .val (.int ch1), .val (.int ch2), .val (.int ch3), .val (.ref d), .val (.ref (own_ad c0 c1 c2 c3 c4 (own_aft (own_aft (0) ch1) ch2))), .val (.int (1 : Int32)), .val (.int (1 : Int32)), .unset]) rfl ?_
                show Steps p.tables e below (T316.setTop (mkF m 163 #[.val (.int p1), .val (.int p2), .val (.int p3), .val (.int p4), .val (.int (2 : Int32)), .val (.int ch1), .val (.int ch2), .val (.int ch3), .val (.ref d), .val (.ref (own_ad c0 c1 c2 c3 c4 (own_aft (own_aft (0) ch1) ch2))), .val (.int (1 : Int32)), .val (.int (1 : Int32)), .unset] [])) _
                refine XS.iload X316.here hx rfl (hb hby at_163) rfl ?_
                exact kg)
            have k355 : ∀ tg, Steps p.tables e below (T316.setTop (mkF m 177 #[.val (.int p1), .val (.int p2), .val (.int p3), .val (.int p4), .val (.int (2 : Int32)), .val (.int ch1), .val (.int ch2), .val (.int ch3), .val (.ref d), .val (.ref (own_ad c0 c1 c2 c3 c4 (own_aft (own_aft (0) ch1) ch2))), .val (.int (1 : Int32)), .val (.int (1 : Int32)), .unset] [])) tg → Steps p.tables e below (s₁.setTop (entryFrame m #[(.int p1), (.int p2), (.int p3), (.int p4)] maxLocals)) tg := fun tg kg => k354 tg (by
                show Steps p.tables e below (T316.setTop (mkF m 165 #[.val (.int p1), .val (.int p2), .val (.int p3), .val (.int p4), .val (.int (2 : Int32)), .val (.int ch1), .val (.int ch2), .val (.int ch3), .val (.ref d), .val (.ref (own_ad c0 c1 c2 c3 c4 (own_aft (own_aft (0) ch1) ch2))), .val (.int (1 : Int32)), .val (.int (1 : Int32)), .unset] [(.int (1 : Int32))])) _
                refine XS.ifYes X316.here hx rfl (pc0 := 165) (pc' := 177) rfl (hb hby at_165) rfl ((if0 _ _).trans (feq (by decide)).2) (by decide) (by decide) ?_
                exact kg)
            have k356 : ∀ tg, Steps p.tables e below (T316.setTop (mkF m 182 #[.val (.int p1), .val (.int p2), .val (.int p3), .val (.int p4), .val (.int (2 : Int32)), .val (.int ch1), .val (.int ch2), .val (.int ch3), .val (.ref d), .val (.ref (own_ad c0 c1 c2 c3 c4 (own_aft (own_aft (0) ch1) ch2))), .val (.int (1 : Int32)), .val (.int (1 : Int32)), .val (.int (0 : Int32))] [(.ref (own_ad c0 c1 c2 c3 c4 (own_aft (own_aft (0) ch1) ch2)))])) tg → Steps p.tables e below (s₁.setTop (entryFrame m #[(.int p1), (.int p2), (.int p3), (.int p4)] maxLocals)) tg := fun tg kg => k355 tg (by
                show Steps p.tables e below (T316.setTop (mkF m 177 #[.val (.int p1), .val (.int p2), .val (.int p3), .val (.int p4), .val (.int (2 : Int32)), .val (.int ch1), .val (.int ch2), .val (.int ch3), .val (.ref d), .val (.ref (own_ad c0 c1 c2 c3 c4 (own_aft (own_aft (0) ch1) ch2))), .val (.int (1 : Int32)), .val (.int (1 : Int32)), .unset] [])) _
                refine XS.iconst X316.here hx rfl (hb hby at_177) ?_
                show Steps p.tables e below (T316.setTop (mkF m 178 #[.val (.int p1), .val (.int p2), .val (.int p3), .val (.int p4), .val (.int (2 : Int32)), .val (.int ch1), .val (.int ch2), .val (.int ch3), .val (.ref d), .val (.ref (own_ad c0 c1 c2 c3 c4 (own_aft (own_aft (0) ch1) ch2))), .val (.int (1 : Int32)), .val (.int (1 : Int32)), .unset] [(.int (0 : Int32))])) _
                refine XS.istore X316.here hx rfl (hb hby at_178) rfl (l' := #[.val (.int p1), .val (.int p2), .val (.int p3), .val (.int p4), .val (.int (2 : Int32)), .val (.int ch1), .val (.int ch2), .val (.int ch3), .val (.ref d), .val (.ref (own_ad c0 c1 c2 c3 c4 (own_aft (own_aft (0) ch1) ch2))), .val (.int (1 : Int32)), .val (.int (1 : Int32)), .val (.int (0 : Int32))]) rfl ?_
                show Steps p.tables e below (T316.setTop (mkF m 180 #[.val (.int p1), .val (.int p2), .val (.int p3), .val (.int p4), .val (.int (2 : Int32)), .val (.int ch1), .val (.int ch2), .val (.int ch3), .val (.ref d), .val (.ref (own_ad c0 c1 c2 c3 c4 (own_aft (own_aft (0) ch1) ch2))), .val (.int (1 : Int32)), .val (.int (1 : Int32)), .val (.int (0 : Int32))] [])) _
                refine XS.aload X316.here hx rfl (hb hby at_180) rfl rfl ?_
                exact kg)
            have hex : Exa Z T278.heap (own_ad c0 c1 c2 c3 c4 (own_aft (own_aft (0) ch1) ch2)) "com/example/vaxwire/vaxwire/hl7/Repetition$Content" := by
              have q5 : (own_aft (own_aft (0) ch1) ch2) < 5 := own_aft5 _ _
              generalize (own_aft (own_aft (0) ch1) ch2) = sx at q5 ⊢
              have : sx = 0 ∨ sx = 1 ∨ sx = 2 ∨ sx = 3 ∨ sx = 4 := by omega
              rcases this with rfl | rfl | rfl | rfl | rfl
              · exact E0.ext XE
              · exact E1.ext XE
              · exact E2.ext XE
              · exact E3.ext XE
              · exact E4.ext XE
            obtain ⟨cq357, kq357, q357a, q357b, q357c⟩ := isOf hZ e316 hex
            obtain ⟨_, _, ⟨T357, L357, c357, n357⟩, -, X357, ⟨Lc357, hQ357, l357, y357, z357⟩, st357⟩ := X316.virtualBack hx (y := (⟨"com/example/vaxwire/vaxwire/hl7/Repetition$Content", "isValue", "()Z"⟩ : MethodName)) (z := (⟨"com/example/vaxwire/vaxwire/hl7/Repetition$Content", "isValue", "()Z"⟩ : MethodName)) hown (mvT hZ (hw _ (List.mem_of_getElem? (i := 11) rfl))) (mvT hZ (hw _ (List.mem_of_getElem? (i := 12) rfl))) (notFace_of_selects (args := #[]) (mvT hZ (hw _ (List.mem_of_getElem? (i := 14) rfl)))) (mvT hZ (hw _ (List.mem_of_getElem? (i := 14) rfl))) (mvT hZ (hw _ (List.mem_of_getElem? (i := 13) rfl))) (by decide) (backOf (W := 0) (rm2 l Z a0 hw [] (own_ad c0 c1 c2 c3 c4 (own_aft (own_aft (0) ch1) ch2)) (own_aft (own_aft (0) ch1) ch2) d c0 c1 c2 c3 c4 T278.heap n0 Zx278 (own_aft5 _ _) rfl Wh0 XE) hZ (hw _ (List.mem_of_getElem? (i := 15) rfl)) (hw _ (List.mem_of_getElem? (i := 9) rfl)) (by decide) (by decide)) q357a q357c (g := (mkF m 182 #[.val (.int p1), .val (.int p2), .val (.int p3), .val (.int p4), .val (.int (2 : Int32)), .val (.int ch1), .val (.int ch2), .val (.int ch3), .val (.ref d), .val (.ref (own_ad c0 c1 c2 c3 c4 (own_aft (own_aft (0) ch1) ch2))), .val (.int (1 : Int32)), .val (.int (1 : Int32)), .val (.int (0 : Int32))] [(.ref (own_ad c0 c1 c2 c3 c4 (own_aft (own_aft (0) ch1) ch2)))])) rfl (by rw [hml]; rfl) (Steps.refl _) (argsL := []) (rest := []) (lenOf own_pd1 rfl) rfl (by show 2 * 0 + _ ≤ _; exact Nat.le_of_eq rfl) (hb hby at_182) (fun _ _ => ⟨rfl, e316, (by decide : 4 + 0 ≤ _), (by decide : 24 + 0 ≤ _)⟩)
            dsimp only [Pt.U, Pt.locs, Pt.cells, Pt.slots] at X357 l357 y357 z357 st357 hQ357
            obtain rfl : c357 = 4 := y357
            obtain rfl : n357 = 24 := z357
            obtain ⟨rfl, N357q, e357⟩ := hQ357
            have N357 := own_frE l357 (Fr.app N316 N357q)
            have k358 : ∀ tg, Steps p.tables e below (T357.setTop (mkF m 185 #[.val (.int p1), .val (.int p2), .val (.int p3), .val (.int p4), .val (.int (2 : Int32)), .val (.int ch1), .val (.int ch2), .val (.int ch3), .val (.ref d), .val (.ref (own_ad c0 c1 c2 c3 c4 (own_aft (own_aft (0) ch1) ch2))), .val (.int (1 : Int32)), .val (.int (1 : Int32)), .val (.int (0 : Int32))] [(.int (own_val (own_aft (own_aft (0) ch1) ch2)))])) tg → Steps p.tables e below (s₁.setTop (entryFrame m #[(.int p1), (.int p2), (.int p3), (.int p4)] maxLocals)) tg := fun tg kg => k356 tg (st357.trans kg)
            have hv : own_val (own_aft (own_aft (0) ch1) ch2) = (0 : Int32) := by rw [own_f2]; first | exact if_pos ⟨by first | exact Or.inl s1 | exact Or.inr s2, fun q => by first | exact t1 q.1 | exact t2 q.2⟩ | exact if_neg (fun ⟨q, r⟩ => by first | exact r ⟨t1, t2⟩ | exact q.elim s1 s2) | simp [s1, s2, t1, t2]
            have k359 : ∀ tg, Steps p.tables e below (T357.setTop (mkF m 195 #[.val (.int p1), .val (.int p2), .val (.int p3), .val (.int p4), .val (.int (2 : Int32)), .val (.int ch1), .val (.int ch2), .val (.int ch3), .val (.ref d), .val (.ref (own_ad c0 c1 c2 c3 c4 (own_aft (own_aft (0) ch1) ch2))), .val (.int (1 : Int32)), .val (.int (1 : Int32)), .val (.int (0 : Int32))] [(.int (1 : Int32))])) tg → Steps p.tables e below (s₁.setTop (entryFrame m #[(.int p1), (.int p2), (.int p3), (.int p4)] maxLocals)) tg := fun tg kg => k358 tg (by
                show Steps p.tables e below (T357.setTop (mkF m 185 #[.val (.int p1), .val (.int p2), .val (.int p3), .val (.int p4), .val (.int (2 : Int32)), .val (.int ch1), .val (.int ch2), .val (.int ch3), .val (.ref d), .val (.ref (own_ad c0 c1 c2 c3 c4 (own_aft (own_aft (0) ch1) ch2))), .val (.int (1 : Int32)), .val (.int (1 : Int32)), .val (.int (0 : Int32))] [(.int (own_val (own_aft (own_aft (0) ch1) ch2)))])) _
                refine XS.iload X357.here hx rfl (hb hby at_185) rfl ?_
                show Steps p.tables e below (T357.setTop (mkF m 187 #[.val (.int p1), .val (.int p2), .val (.int p3), .val (.int p4), .val (.int (2 : Int32)), .val (.int ch1), .val (.int ch2), .val (.int ch3), .val (.ref d), .val (.ref (own_ad c0 c1 c2 c3 c4 (own_aft (own_aft (0) ch1) ch2))), .val (.int (1 : Int32)), .val (.int (1 : Int32)), .val (.int (0 : Int32))] [(.int (0 : Int32)), (.int (own_val (own_aft (own_aft (0) ch1) ch2)))])) _
                refine XS.icmpNo X357.here hx rfl (hb hby at_187) rfl (teq hv).2 ?_
                show Steps p.tables e below (T357.setTop (mkF m 190 #[.val (.int p1), .val (.int p2), .val (.int p3), .val (.int p4), .val (.int (2 : Int32)), .val (.int ch1), .val (.int ch2), .val (.int ch3), .val (.ref d), .val (.ref (own_ad c0 c1 c2 c3 c4 (own_aft (own_aft (0) ch1) ch2))), .val (.int (1 : Int32)), .val (.int (1 : Int32)), .val (.int (0 : Int32))] [])) _
                refine XS.iconst X357.here hx rfl (hb hby at_190) ?_
                show Steps p.tables e below (T357.setTop (mkF m 191 #[.val (.int p1), .val (.int p2), .val (.int p3), .val (.int p4), .val (.int (2 : Int32)), .val (.int ch1), .val (.int ch2), .val (.int ch3), .val (.ref d), .val (.ref (own_ad c0 c1 c2 c3 c4 (own_aft (own_aft (0) ch1) ch2))), .val (.int (1 : Int32)), .val (.int (1 : Int32)), .val (.int (0 : Int32))] [(.int (1 : Int32))])) _
                refine XS.goto X357.here hx rfl (pc0 := 191) (pc' := 195) rfl (hb hby at_191) (by decide) (by decide) ?_
                exact kg)
            obtain ⟨fs, hr, hrun, hended, hend⟩ := Stand.leaveW X357 hS (by rw [e357]; first | exact hk | exact Nat.zero_le _) (v := some (.int (1 : Int32))) (fun h => by rw [Bd.returns] at h; cases h)
            refine ⟨_, _, k359 _ ?_, hrun, hended, _, _, rfl, ?_, own_rmono hend (by decide) (by decide)⟩
            · show Steps p.tables e below (T357.setTop (mkF m 195 #[.val (.int p1), .val (.int p2), .val (.int p3), .val (.int p4), .val (.int (2 : Int32)), .val (.int ch1), .val (.int ch2), .val (.int ch3), .val (.ref d), .val (.ref (own_ad c0 c1 c2 c3 c4 (own_aft (own_aft (0) ch1) ch2))), .val (.int (1 : Int32)), .val (.int (1 : Int32)), .val (.int (0 : Int32))] [(.int (1 : Int32))])) _
              exact retN X357 hx (t := .boolean) Bd.returns (by simp) (hb hby at_195) hr
            · exact ⟨rfl, N357⟩
          · have k360 : ∀ tg, Steps p.tables e below (T316.setTop (mkF m 160 #[.val (.int p1), .val (.int p2), .val (.int p3), .val (.int p4), .val (.int (2 : Int32)), .val (.int ch1), .val (.int ch2), .val (.int ch3), .val (.ref d), .val (.ref (own_ad c0 c1 c2 c3 c4 (own_aft (own_aft (0) ch1) ch2))), .val (.int (1 : Int32)), .unset, .unset] [])) tg → Steps p.tables e below (s₁.setTop (entryFrame m #[(.int p1), (.int p2), (.int p3), (.int p4)] maxLocals)) tg := fun tg kg => k352 tg (by
                show Steps p.tables e below (T316.setTop (mkF m 153 #[.val (.int p1), .val (.int p2), .val (.int p3), .val (.int p4), .val (.int (2 : Int32)), .val (.int ch1), .val (.int ch2), .val (.int ch3), .val (.ref d), .val (.ref (own_ad c0 c1 c2 c3 c4 (own_aft (own_aft (0) ch1) ch2))), .val (.int (1 : Int32)), .unset, .unset] [(.int (34 : Int32)), (.int ch2)])) _
                refine XS.icmpYes X316.here hx rfl (pc0 := 153) (pc' := 160) rfl (hb hby at_153) rfl (feq t2).2 (by decide) (by decide) ?_
                exact kg)
            have k361 : ∀ tg, Steps p.tables e below (T316.setTop (mkF m 165 #[.val (.int p1), .val (.int p2), .val (.int p3), .val (.int p4), .val (.int (2 : Int32)), .val (.int ch1), .val (.int ch2), .val (.int ch3), .val (.ref d), .val (.ref (own_ad c0 c1 c2 c3 c4 (own_aft (own_aft (0) ch1) ch2))), .val (.int (1 : Int32)), .val (.int (0 : Int32)), .unset] [(.int (1 : Int32))])) tg → Steps p.tables e below (s₁.setTop (entryFrame m #[(.int p1), (.int p2), (.int p3), (.int p4)] maxLocals)) tg := fun tg kg => k360 tg (by
                show Steps p.tables e below (T316.setTop (mkF m 160 #[.val (.int p1), .val (.int p2), .val (.int p3), .val (.int p4), .val (.int (2 : Int32)), .val (.int ch1), .val (.int ch2), .val (.int ch3), .val (.ref d), .val (.ref (own_ad c0 c1 c2 c3 c4 (own_aft (own_aft (0) ch1) ch2))), .val (.int (1 : Int32)), .unset, .unset] [])) _
                refine XS.iconst X316.here hx rfl (hb hby at_160) ?_
                show Steps p.tables e below (T316.setTop (mkF m 161 #[.val (.int p1), .val (.int p2), .val (.int p3), .val (.int p4), .val (.int (2 : Int32)), .val (.int ch1), .val (.int ch2), .val (.int ch3), .val (.ref d), .val (.ref (own_ad c0 c1 c2 c3 c4 (own_aft (own_aft (0) ch1) ch2))), .val (.int (1 : Int32)), .unset, .unset] [(.int (0 : Int32))])) _
                refine XS.istore X316.here hx rfl (hb hby at_161) rfl (l' := #[.val (.int p1), .val (.int p2), .val (.int p3), .val (.int p4), .val (.int (2 : Int32)), .val (.int ch1), .val (.int ch2), .val (.int ch3), .val (.ref d), .val (.ref (own_ad c0 c1 c2 c3 c4 (own_aft (own_aft (0) ch1) ch2))), .val (.int (1 : Int32)), .val (.int (0 : Int32)), .unset]) rfl ?_
                show Steps p.tables e below (T316.setTop (mkF m 163 #[.val (.int p1), .val (.int p2), .val (.int p3), .val (.int p4), .val (.int (2 : Int32)), .val (.int ch1), .val (.int ch2), .val (.int ch3), .val (.ref d), .val (.ref (own_ad c0 c1 c2 c3 c4 (own_aft (own_aft (0) ch1) ch2))), .val (.int (1 : Int32)), .val (.int (0 : Int32)), .unset] [])) _
                refine XS.iload X316.here hx rfl (hb hby at_163) rfl ?_
                exact kg)
            have k362 : ∀ tg, Steps p.tables e below (T316.setTop (mkF m 177 #[.val (.int p1), .val (.int p2), .val (.int p3), .val (.int p4), .val (.int (2 : Int32)), .val (.int ch1), .val (.int ch2), .val (.int ch3), .val (.ref d), .val (.ref (own_ad c0 c1 c2 c3 c4 (own_aft (own_aft (0) ch1) ch2))), .val (.int (1 : Int32)), .val (.int (0 : Int32)), .unset] [])) tg → Steps p.tables e below (s₁.setTop (entryFrame m #[(.int p1), (.int p2), (.int p3), (.int p4)] maxLocals)) tg := fun tg kg => k361 tg (by
                show Steps p.tables e below (T316.setTop (mkF m 165 #[.val (.int p1), .val (.int p2), .val (.int p3), .val (.int p4), .val (.int (2 : Int32)), .val (.int ch1), .val (.int ch2), .val (.int ch3), .val (.ref d), .val (.ref (own_ad c0 c1 c2 c3 c4 (own_aft (own_aft (0) ch1) ch2))), .val (.int (1 : Int32)), .val (.int (0 : Int32)), .unset] [(.int (1 : Int32))])) _
                refine XS.ifYes X316.here hx rfl (pc0 := 165) (pc' := 177) rfl (hb hby at_165) rfl ((if0 _ _).trans (feq (by decide)).2) (by decide) (by decide) ?_
                exact kg)
            have k363 : ∀ tg, Steps p.tables e below (T316.setTop (mkF m 182 #[.val (.int p1), .val (.int p2), .val (.int p3), .val (.int p4), .val (.int (2 : Int32)), .val (.int ch1), .val (.int ch2), .val (.int ch3), .val (.ref d), .val (.ref (own_ad c0 c1 c2 c3 c4 (own_aft (own_aft (0) ch1) ch2))), .val (.int (1 : Int32)), .val (.int (0 : Int32)), .val (.int (0 : Int32))] [(.ref (own_ad c0 c1 c2 c3 c4 (own_aft (own_aft (0) ch1) ch2)))])) tg → Steps p.tables e below (s₁.setTop (entryFrame m #[(.int p1), (.int p2), (.int p3), (.int p4)] maxLocals)) tg := fun tg kg => k362 tg (by
                show Steps p.tables e below (T316.setTop (mkF m 177 #[.val (.int p1), .val (.int p2), .val (.int p3), .val (.int p4), .val (.int (2 : Int32)), .val (.int ch1), .val (.int ch2), .val (.int ch3), .val (.ref d), .val (.ref (own_ad c0 c1 c2 c3 c4 (own_aft (own_aft (0) ch1) ch2))), .val (.int (1 : Int32)), .val (.int (0 : Int32)), .unset] [])) _
                refine XS.iconst X316.here hx rfl (hb hby at_177) ?_
                show Steps p.tables e below (T316.setTop (mkF m 178 #[.val (.int p1), .val (.int p2), .val (.int p3), .val (.int p4), .val (.int (2 : Int32)), .val (.int ch1), .val (.int ch2), .val (.int ch3), .val (.ref d), .val (.ref (own_ad c0 c1 c2 c3 c4 (own_aft (own_aft (0) ch1) ch2))), .val (.int (1 : Int32)), .val (.int (0 : Int32)), .unset] [(.int (0 : Int32))])) _
                refine XS.istore X316.here hx rfl (hb hby at_178) rfl (l' := #[.val (.int p1), .val (.int p2), .val (.int p3), .val (.int p4), .val (.int (2 : Int32)), .val (.int ch1), .val (.int ch2), .val (.int ch3), .val (.ref d), .val (.ref (own_ad c0 c1 c2 c3 c4 (own_aft (own_aft (0) ch1) ch2))), .val (.int (1 : Int32)), .val (.int (0 : Int32)), .val (.int (0 : Int32))]) rfl ?_
                show Steps p.tables e below (T316.setTop (mkF m 180 #[.val (.int p1), .val (.int p2), .val (.int p3), .val (.int p4), .val (.int (2 : Int32)), .val (.int ch1), .val (.int ch2), .val (.int ch3), .val (.ref d), .val (.ref (own_ad c0 c1 c2 c3 c4 (own_aft (own_aft (0) ch1) ch2))), .val (.int (1 : Int32)), .val (.int (0 : Int32)), .val (.int (0 : Int32))] [])) _
                refine XS.aload X316.here hx rfl (hb hby at_180) rfl rfl ?_
                exact kg)
            have hex : Exa Z T278.heap (own_ad c0 c1 c2 c3 c4 (own_aft (own_aft (0) ch1) ch2)) "com/example/vaxwire/vaxwire/hl7/Repetition$Content" := by
              have q5 : (own_aft (own_aft (0) ch1) ch2) < 5 := own_aft5 _ _
              generalize (own_aft (own_aft (0) ch1) ch2) = sx at q5 ⊢
              have : sx = 0 ∨ sx = 1 ∨ sx = 2 ∨ sx = 3 ∨ sx = 4 := by omega
              rcases this with rfl | rfl | rfl | rfl | rfl
              · exact E0.ext XE
              · exact E1.ext XE
              · exact E2.ext XE
              · exact E3.ext XE
              · exact E4.ext XE
            obtain ⟨cq364, kq364, q364a, q364b, q364c⟩ := isOf hZ e316 hex
            obtain ⟨_, _, ⟨T364, L364, c364, n364⟩, -, X364, ⟨Lc364, hQ364, l364, y364, z364⟩, st364⟩ := X316.virtualBack hx (y := (⟨"com/example/vaxwire/vaxwire/hl7/Repetition$Content", "isValue", "()Z"⟩ : MethodName)) (z := (⟨"com/example/vaxwire/vaxwire/hl7/Repetition$Content", "isValue", "()Z"⟩ : MethodName)) hown (mvT hZ (hw _ (List.mem_of_getElem? (i := 11) rfl))) (mvT hZ (hw _ (List.mem_of_getElem? (i := 12) rfl))) (notFace_of_selects (args := #[]) (mvT hZ (hw _ (List.mem_of_getElem? (i := 14) rfl)))) (mvT hZ (hw _ (List.mem_of_getElem? (i := 14) rfl))) (mvT hZ (hw _ (List.mem_of_getElem? (i := 13) rfl))) (by decide) (backOf (W := 0) (rm2 l Z a0 hw [] (own_ad c0 c1 c2 c3 c4 (own_aft (own_aft (0) ch1) ch2)) (own_aft (own_aft (0) ch1) ch2) d c0 c1 c2 c3 c4 T278.heap n0 Zx278 (own_aft5 _ _) rfl Wh0 XE) hZ (hw _ (List.mem_of_getElem? (i := 15) rfl)) (hw _ (List.mem_of_getElem? (i := 9) rfl)) (by decide) (by decide)) q364a q364c (g := (mkF m 182 #[.val (.int p1), .val (.int p2), .val (.int p3), .val (.int p4), .val (.int (2 : Int32)), .val (.int ch1), .val (.int ch2), .val (.int ch3), .val (.ref d), .val (.ref (own_ad c0 c1 c2 c3 c4 (own_aft (own_aft (0) ch1) ch2))), .val (.int (1 : Int32)), .val (.int (0 : Int32)), .val (.int (0 : Int32))] [(.ref (own_ad c0 c1 c2 c3 c4 (own_aft (own_aft (0) ch1) ch2)))])) rfl (by rw [hml]; rfl) (Steps.refl _) (argsL := []) (rest := []) (lenOf own_pd1 rfl) rfl (by show 2 * 0 + _ ≤ _; exact Nat.le_of_eq rfl) (hb hby at_182) (fun _ _ => ⟨rfl, e316, (by decide : 4 + 0 ≤ _), (by decide : 24 + 0 ≤ _)⟩)
            dsimp only [Pt.U, Pt.locs, Pt.cells, Pt.slots] at X364 l364 y364 z364 st364 hQ364
            obtain rfl : c364 = 4 := y364
            obtain rfl : n364 = 24 := z364
            obtain ⟨rfl, N364q, e364⟩ := hQ364
            have N364 := own_frE l364 (Fr.app N316 N364q)
            have k365 : ∀ tg, Steps p.tables e below (T364.setTop (mkF m 185 #[.val (.int p1), .val (.int p2), .val (.int p3), .val (.int p4), .val (.int (2 : Int32)), .val (.int ch1), .val (.int ch2), .val (.int ch3), .val (.ref d), .val (.ref (own_ad c0 c1 c2 c3 c4 (own_aft (own_aft (0) ch1) ch2))), .val (.int (1 : Int32)), .val (.int (0 : Int32)), .val (.int (0 : Int32))] [(.int (own_val (own_aft (own_aft (0) ch1) ch2)))])) tg → Steps p.tables e below (s₁.setTop (entryFrame m #[(.int p1), (.int p2), (.int p3), (.int p4)] maxLocals)) tg := fun tg kg => k363 tg (st364.trans kg)
            have hv : own_val (own_aft (own_aft (0) ch1) ch2) = (0 : Int32) := by rw [own_f2]; first | exact if_pos ⟨by first | exact Or.inl s1 | exact Or.inr s2, fun q => by first | exact t1 q.1 | exact t2 q.2⟩ | exact if_neg (fun ⟨q, r⟩ => by first | exact r ⟨t1, t2⟩ | exact q.elim s1 s2) | simp [s1, s2, t1, t2]
            have k366 : ∀ tg, Steps p.tables e below (T364.setTop (mkF m 195 #[.val (.int p1), .val (.int p2), .val (.int p3), .val (.int p4), .val (.int (2 : Int32)), .val (.int ch1), .val (.int ch2), .val (.int ch3), .val (.ref d), .val (.ref (own_ad c0 c1 c2 c3 c4 (own_aft (own_aft (0) ch1) ch2))), .val (.int (1 : Int32)), .val (.int (0 : Int32)), .val (.int (0 : Int32))] [(.int (1 : Int32))])) tg → Steps p.tables e below (s₁.setTop (entryFrame m #[(.int p1), (.int p2), (.int p3), (.int p4)] maxLocals)) tg := fun tg kg => k365 tg (by
                show Steps p.tables e below (T364.setTop (mkF m 185 #[.val (.int p1), .val (.int p2), .val (.int p3), .val (.int p4), .val (.int (2 : Int32)), .val (.int ch1), .val (.int ch2), .val (.int ch3), .val (.ref d), .val (.ref (own_ad c0 c1 c2 c3 c4 (own_aft (own_aft (0) ch1) ch2))), .val (.int (1 : Int32)), .val (.int (0 : Int32)), .val (.int (0 : Int32))] [(.int (own_val (own_aft (own_aft (0) ch1) ch2)))])) _
                refine XS.iload X364.here hx rfl (hb hby at_185) rfl ?_
                show Steps p.tables e below (T364.setTop (mkF m 187 #[.val (.int p1), .val (.int p2), .val (.int p3), .val (.int p4), .val (.int (2 : Int32)), .val (.int ch1), .val (.int ch2), .val (.int ch3), .val (.ref d), .val (.ref (own_ad c0 c1 c2 c3 c4 (own_aft (own_aft (0) ch1) ch2))), .val (.int (1 : Int32)), .val (.int (0 : Int32)), .val (.int (0 : Int32))] [(.int (0 : Int32)), (.int (own_val (own_aft (own_aft (0) ch1) ch2)))])) _
                refine XS.icmpNo X364.here hx rfl (hb hby at_187) rfl (teq hv).2 ?_
                show Steps p.tables e below (T364.setTop (mkF m 190 #[.val (.int p1), .val (.int p2), .val (.int p3), .val (.int p4), .val (.int (2 : Int32)), .val (.int ch1), .val (.int ch2), .val (.int ch3), .val (.ref d), .val (.ref (own_ad c0 c1 c2 c3 c4 (own_aft (own_aft (0) ch1) ch2))), .val (.int (1 : Int32)), .val (.int (0 : Int32)), .val (.int (0 : Int32))] [])) _
                refine XS.iconst X364.here hx rfl (hb hby at_190) ?_
                show Steps p.tables e below (T364.setTop (mkF m 191 #[.val (.int p1), .val (.int p2), .val (.int p3), .val (.int p4), .val (.int (2 : Int32)), .val (.int ch1), .val (.int ch2), .val (.int ch3), .val (.ref d), .val (.ref (own_ad c0 c1 c2 c3 c4 (own_aft (own_aft (0) ch1) ch2))), .val (.int (1 : Int32)), .val (.int (0 : Int32)), .val (.int (0 : Int32))] [(.int (1 : Int32))])) _
                refine XS.goto X364.here hx rfl (pc0 := 191) (pc' := 195) rfl (hb hby at_191) (by decide) (by decide) ?_
                exact kg)
            obtain ⟨fs, hr, hrun, hended, hend⟩ := Stand.leaveW X364 hS (by rw [e364]; first | exact hk | exact Nat.zero_le _) (v := some (.int (1 : Int32))) (fun h => by rw [Bd.returns] at h; cases h)
            refine ⟨_, _, k366 _ ?_, hrun, hended, _, _, rfl, ?_, own_rmono hend (by decide) (by decide)⟩
            · show Steps p.tables e below (T364.setTop (mkF m 195 #[.val (.int p1), .val (.int p2), .val (.int p3), .val (.int p4), .val (.int (2 : Int32)), .val (.int ch1), .val (.int ch2), .val (.int ch3), .val (.ref d), .val (.ref (own_ad c0 c1 c2 c3 c4 (own_aft (own_aft (0) ch1) ch2))), .val (.int (1 : Int32)), .val (.int (0 : Int32)), .val (.int (0 : Int32))] [(.int (1 : Int32))])) _
              exact retN X364 hx (t := .boolean) Bd.returns (by simp) (hb hby at_195) hr
            · exact ⟨rfl, N364⟩
        · have k367 : ∀ tg, Steps p.tables e below (T316.setTop (mkF m 160 #[.val (.int p1), .val (.int p2), .val (.int p3), .val (.int p4), .val (.int (2 : Int32)), .val (.int ch1), .val (.int ch2), .val (.int ch3), .val (.ref d), .val (.ref (own_ad c0 c1 c2 c3 c4 (own_aft (own_aft (0) ch1) ch2))), .val (.int (1 : Int32)), .unset, .unset] [])) tg → Steps p.tables e below (s₁.setTop (entryFrame m #[(.int p1), (.int p2), (.int p3), (.int p4)] maxLocals)) tg := fun tg kg => k350 tg (by
              show Steps p.tables e below (T316.setTop (mkF m 146 #[.val (.int p1), .val (.int p2), .val (.int p3), .val (.int p4), .val (.int (2 : Int32)), .val (.int ch1), .val (.int ch2), .val (.int ch3), .val (.ref d), .val (.ref (own_ad c0 c1 c2 c3 c4 (own_aft (own_aft (0) ch1) ch2))), .val (.int (1 : Int32)), .unset, .unset] [(.int (34 : Int32)), (.int ch1)])) _
              refine XS.icmpYes X316.here hx rfl (pc0 := 146) (pc' := 160) rfl (hb hby at_146) rfl (feq t1).2 (by decide) (by decide) ?_
              exact kg)
          have k368 : ∀ tg, Steps p.tables e below (T316.setTop (mkF m 165 #[.val (.int p1), .val (.int p2), .val (.int p3), .val (.int p4), .val (.int (2 : Int32)), .val (.int ch1), .val (.int ch2), .val (.int ch3), .val (.ref d), .val (.ref (own_ad c0 c1 c2 c3 c4 (own_aft (own_aft (0) ch1) ch2))), .val (.int (1 : Int32)), .val (.int (0 : Int32)), .unset] [(.int (1 : Int32))])) tg → Steps p.tables e below (s₁.setTop (entryFrame m #[(.int p1), (.int p2), (.int p3), (.int p4)] maxLocals)) tg := fun tg kg => k367 tg (by
              show Steps p.tables e below (T316.setTop (mkF m 160 #[.val (.int p1), .val (.int p2), .val (.int p3), .val (.int p4), .val (.int (2 : Int32)), .val (.int ch1), .val (.int ch2), .val (.int ch3), .val (.ref d), .val (.ref (own_ad c0 c1 c2 c3 c4 (own_aft (own_aft (0) ch1) ch2))), .val (.int (1 : Int32)), .unset, .unset] [])) _
              refine XS.iconst X316.here hx rfl (hb hby at_160) ?_
              show Steps p.tables e below (T316.setTop (mkF m 161 #[.val (.int p1), .val (.int p2), .val (.int p3), .val (.int p4), .val (.int (2 : Int32)), .val (.int ch1), .val (.int ch2), .val (.int ch3), .val (.ref d), .val (.ref (own_ad c0 c1 c2 c3 c4 (own_aft (own_aft (0) ch1) ch2))), .val (.int (1 : Int32)), .unset, .unset] [(.int (0 : Int32))])) _
              refine XS.istore X316.here hx rfl (hb hby at_161) rfl (l' := #[.val (.int p1), .val (.int p2), .val (.int p3), .val (.int p4), .val (.int (2 : Int32)), .val (.int ch1), .val (.int ch2), .val (.int ch3), .val (.ref d), .val (.ref (own_ad c0 c1 c2 c3 c4 (own_aft (own_aft (0) ch1) ch2))), .val (.int (1 : Int32)), .val (.int (0 : Int32)), .unset]) rfl ?_
              show Steps p.tables e below (T316.setTop (mkF m 163 #[.val (.int p1), .val (.int p2), .val (.int p3), .val (.int p4), .val (.int (2 : Int32)), .val (.int ch1), .val (.int ch2), .val (.int ch3), .val (.ref d), .val (.ref (own_ad c0 c1 c2 c3 c4 (own_aft (own_aft (0) ch1) ch2))), .val (.int (1 : Int32)), .val (.int (0 : Int32)), .unset] [])) _
              refine XS.iload X316.here hx rfl (hb hby at_163) rfl ?_
              exact kg)
          have k369 : ∀ tg, Steps p.tables e below (T316.setTop (mkF m 177 #[.val (.int p1), .val (.int p2), .val (.int p3), .val (.int p4), .val (.int (2 : Int32)), .val (.int ch1), .val (.int ch2), .val (.int ch3), .val (.ref d), .val (.ref (own_ad c0 c1 c2 c3 c4 (own_aft (own_aft (0) ch1) ch2))), .val (.int (1 : Int32)), .val (.int (0 : Int32)), .unset] [])) tg → Steps p.tables e below (s₁.setTop (entryFrame m #[(.int p1), (.int p2), (.int p3), (.int p4)] maxLocals)) tg := fun tg kg => k368 tg (by
              show Steps p.tables e below (T316.setTop (mkF m 165 #[.val (.int p1), .val (.int p2), .val (.int p3), .val (.int p4), .val (.int (2 : Int32)), .val (.int ch1), .val (.int ch2), .val (.int ch3), .val (.ref d), .val (.ref (own_ad c0 c1 c2 c3 c4 (own_aft (own_aft (0) ch1) ch2))), .val (.int (1 : Int32)), .val (.int (0 : Int32)), .unset] [(.int (1 : Int32))])) _
              refine XS.ifYes X316.here hx rfl (pc0 := 165) (pc' := 177) rfl (hb hby at_165) rfl ((if0 _ _).trans (feq (by decide)).2) (by decide) (by decide) ?_
              exact kg)
          have k370 : ∀ tg, Steps p.tables e below (T316.setTop (mkF m 182 #[.val (.int p1), .val (.int p2), .val (.int p3), .val (.int p4), .val (.int (2 : Int32)), .val (.int ch1), .val (.int ch2), .val (.int ch3), .val (.ref d), .val (.ref (own_ad c0 c1 c2 c3 c4 (own_aft (own_aft (0) ch1) ch2))), .val (.int (1 : Int32)), .val (.int (0 : Int32)), .val (.int (0 : Int32))] [(.ref (own_ad c0 c1 c2 c3 c4 (own_aft (own_aft (0) ch1) ch2)))])) tg → Steps p.tables e below (s₁.setTop (entryFrame m #[(.int p1), (.int p2), (.int p3), (.int p4)] maxLocals)) tg := fun tg kg => k369 tg (by
              show Steps p.tables e below (T316.setTop (mkF m 177 #[.val (.int p1), .val (.int p2), .val (.int p3), .val (.int p4), .val (.int (2 : Int32)), .val (.int ch1), .val (.int ch2), .val (.int ch3), .val (.ref d), .val (.ref (own_ad c0 c1 c2 c3 c4 (own_aft (own_aft (0) ch1) ch2))), .val (.int (1 : Int32)), .val (.int (0 : Int32)), .unset] [])) _
              refine XS.iconst X316.here hx rfl (hb hby at_177) ?_
              show Steps p.tables e below (T316.setTop (mkF m 178 #[.val (.int p1), .val (.int p2), .val (.int p3), .val (.int p4), .val (.int (2 : Int32)), .val (.int ch1), .val (.int ch2), .val (.int ch3), .val (.ref d), .val (.ref (own_ad c0 c1 c2 c3 c4 (own_aft (own_aft (0) ch1) ch2))), .val (.int (1 : Int32)), .val (.int (0 : Int32)), .unset] [(.int (0 : Int32))])) _
              refine XS.istore X316.here hx rfl (hb hby at_178) rfl (l' := #[.val (.int p1), .val (.int p2), .val (.int p3), .val (.int p4), .val (.int (2 : Int32)), .val (.int ch1), .val (.int ch2), .val (.int ch3), .val (.ref d), .val (.ref (own_ad c0 c1 c2 c3 c4 (own_aft (own_aft (0) ch1) ch2))), .val (.int (1 : Int32)), .val (.int (0 : Int32)), .val (.int (0 : Int32))]) rfl ?_
              show Steps p.tables e below (T316.setTop (mkF m 180 #[.val (.int p1), .val (.int p2), .val (.int p3), .val (.int p4), .val (.int (2 : Int32)), .val (.int ch1), .val (.int ch2), .val (.int ch3), .val (.ref d), .val (.ref (own_ad c0 c1 c2 c3 c4 (own_aft (own_aft (0) ch1) ch2))), .val (.int (1 : Int32)), .val (.int (0 : Int32)), .val (.int (0 : Int32))] [])) _
              refine XS.aload X316.here hx rfl (hb hby at_180) rfl rfl ?_
              exact kg)
          have hex : Exa Z T278.heap (own_ad c0 c1 c2 c3 c4 (own_aft (own_aft (0) ch1) ch2)) "com/example/vaxwire/vaxwire/hl7/Repetition$Content" := by
            have q5 : (own_aft (own_aft (0) ch1) ch2) < 5 := own_aft5 _ _
            generalize (own_aft (own_aft (0) ch1) ch2) = sx at q5 ⊢
            have : sx = 0 ∨ sx = 1 ∨ sx = 2 ∨ sx = 3 ∨ sx = 4 := by omega
            rcases this with rfl | rfl | rfl | rfl | rfl
            · exact E0.ext XE
            · exact E1.ext XE
            · exact E2.ext XE
            · exact E3.ext XE
            · exact E4.ext XE
          obtain ⟨cq371, kq371, q371a, q371b, q371c⟩ := isOf hZ e316 hex
          obtain ⟨_, _, ⟨T371, L371, c371, n371⟩, -, X371, ⟨Lc371, hQ371, l371, y371, z371⟩, st371⟩ := X316.virtualBack hx (y := (⟨"com/example/vaxwire/vaxwire/hl7/Repetition$Content", "isValue", "()Z"⟩ : MethodName)) (z := (⟨"com/example/vaxwire/vaxwire/hl7/Repetition$Content", "isValue", "()Z"⟩ : MethodName)) hown (mvT hZ (hw _ (List.mem_of_getElem? (i := 11) rfl))) (mvT hZ (hw _ (List.mem_of_getElem? (i := 12) rfl))) (notFace_of_selects (args := #[]) (mvT hZ (hw _ (List.mem_of_getElem? (i := 14) rfl)))) (mvT hZ (hw _ (List.mem_of_getElem? (i := 14) rfl))) (mvT hZ (hw _ (List.mem_of_getElem? (i := 13) rfl))) (by decide) (backOf (W := 0) (rm2 l Z a0 hw [] (own_ad c0 c1 c2 c3 c4 (own_aft (own_aft (0) ch1) ch2)) (own_aft (own_aft (0) ch1) ch2) d c0 c1 c2 c3 c4 T278.heap n0 Zx278 (own_aft5 _ _) rfl Wh0 XE) hZ (hw _ (List.mem_of_getElem? (i := 15) rfl)) (hw _ (List.mem_of_getElem? (i := 9) rfl)) (by decide) (by decide)) q371a q371c (g := (mkF m 182 #[.val (.int p1), .val (.int p2), .val (.int p3), .val (.int p4), .val (.int (2 : Int32)), .val (.int ch1), .val (.int ch2), .val (.int ch3), .val (.ref d), .val (.ref (own_ad c0 c1 c2 c3 c4 (own_aft (own_aft (0) ch1) ch2))), .val (.int (1 : Int32)), .val (.int (0 : Int32)), .val (.int (0 : Int32))] [(.ref (own_ad c0 c1 c2 c3 c4 (own_aft (own_aft (0) ch1) ch2)))])) rfl (by rw [hml]; rfl) (Steps.refl _) (argsL := []) (rest := []) (lenOf own_pd1 rfl) rfl (by show 2 * 0 + _ ≤ _; exact Nat.le_of_eq rfl) (hb hby at_182) (fun _ _ => ⟨rfl, e316, (by decide : 4 + 0 ≤ _), (by decide : 24 + 0 ≤ _)⟩)
          dsimp only [Pt.U, Pt.locs, Pt.cells, Pt.slots] at X371 l371 y371 z371 st371 hQ371
          obtain rfl : c371 = 4 := y371
          obtain rfl : n371 = 24 := z371
          obtain ⟨rfl, N371q, e371⟩ := hQ371
          have N371 := own_frE l371 (Fr.app N316 N371q)
          have k372 : ∀ tg, Steps p.tables e below (T371.setTop (mkF m 185 #[.val (.int p1), .val (.int p2), .val (.int p3), .val (.int p4), .val (.int (2 : Int32)), .val (.int ch1), .val (.int ch2), .val (.int ch3), .val (.ref d), .val (.ref (own_ad c0 c1 c2 c3 c4 (own_aft (own_aft (0) ch1) ch2))), .val (.int (1 : Int32)), .val (.int (0 : Int32)), .val (.int (0 : Int32))] [(.int (own_val (own_aft (own_aft (0) ch1) ch2)))])) tg → Steps p.tables e below (s₁.setTop (entryFrame m #[(.int p1), (.int p2), (.int p3), (.int p4)] maxLocals)) tg := fun tg kg => k370 tg (st371.trans kg)
          have hv : own_val (own_aft (own_aft (0) ch1) ch2) = (0 : Int32) := by rw [own_f2]; first | exact if_pos ⟨by first | exact Or.inl s1 | exact Or.inr s2, fun q => by first | exact t1 q.1 | exact t2 q.2⟩ | exact if_neg (fun ⟨q, r⟩ => by first | exact r ⟨t1, t2⟩ | exact q.elim s1 s2) | simp [s1, s2, t1]
          have k373 : ∀ tg, Steps p.tables e below (T371.setTop (mkF m 195 #[.val (.int p1), .val (.int p2), .val (.int p3), .val (.int p4), .val (.int (2 : Int32)), .val (.int ch1), .val (.int ch2), .val (.int ch3), .val (.ref d), .val (.ref (own_ad c0 c1 c2 c3 c4 (own_aft (own_aft (0) ch1) ch2))), .val (.int (1 : Int32)), .val (.int (0 : Int32)), .val (.int (0 : Int32))] [(.int (1 : Int32))])) tg → Steps p.tables e below (s₁.setTop (entryFrame m #[(.int p1), (.int p2), (.int p3), (.int p4)] maxLocals)) tg := fun tg kg => k372 tg (by
              show Steps p.tables e below (T371.setTop (mkF m 185 #[.val (.int p1), .val (.int p2), .val (.int p3), .val (.int p4), .val (.int (2 : Int32)), .val (.int ch1), .val (.int ch2), .val (.int ch3), .val (.ref d), .val (.ref (own_ad c0 c1 c2 c3 c4 (own_aft (own_aft (0) ch1) ch2))), .val (.int (1 : Int32)), .val (.int (0 : Int32)), .val (.int (0 : Int32))] [(.int (own_val (own_aft (own_aft (0) ch1) ch2)))])) _
              refine XS.iload X371.here hx rfl (hb hby at_185) rfl ?_
              show Steps p.tables e below (T371.setTop (mkF m 187 #[.val (.int p1), .val (.int p2), .val (.int p3), .val (.int p4), .val (.int (2 : Int32)), .val (.int ch1), .val (.int ch2), .val (.int ch3), .val (.ref d), .val (.ref (own_ad c0 c1 c2 c3 c4 (own_aft (own_aft (0) ch1) ch2))), .val (.int (1 : Int32)), .val (.int (0 : Int32)), .val (.int (0 : Int32))] [(.int (0 : Int32)), (.int (own_val (own_aft (own_aft (0) ch1) ch2)))])) _
              refine XS.icmpNo X371.here hx rfl (hb hby at_187) rfl (teq hv).2 ?_
              show Steps p.tables e below (T371.setTop (mkF m 190 #[.val (.int p1), .val (.int p2), .val (.int p3), .val (.int p4), .val (.int (2 : Int32)), .val (.int ch1), .val (.int ch2), .val (.int ch3), .val (.ref d), .val (.ref (own_ad c0 c1 c2 c3 c4 (own_aft (own_aft (0) ch1) ch2))), .val (.int (1 : Int32)), .val (.int (0 : Int32)), .val (.int (0 : Int32))] [])) _
              refine XS.iconst X371.here hx rfl (hb hby at_190) ?_
              show Steps p.tables e below (T371.setTop (mkF m 191 #[.val (.int p1), .val (.int p2), .val (.int p3), .val (.int p4), .val (.int (2 : Int32)), .val (.int ch1), .val (.int ch2), .val (.int ch3), .val (.ref d), .val (.ref (own_ad c0 c1 c2 c3 c4 (own_aft (own_aft (0) ch1) ch2))), .val (.int (1 : Int32)), .val (.int (0 : Int32)), .val (.int (0 : Int32))] [(.int (1 : Int32))])) _
              refine XS.goto X371.here hx rfl (pc0 := 191) (pc' := 195) rfl (hb hby at_191) (by decide) (by decide) ?_
              exact kg)
          obtain ⟨fs, hr, hrun, hended, hend⟩ := Stand.leaveW X371 hS (by rw [e371]; first | exact hk | exact Nat.zero_le _) (v := some (.int (1 : Int32))) (fun h => by rw [Bd.returns] at h; cases h)
          refine ⟨_, _, k373 _ ?_, hrun, hended, _, _, rfl, ?_, own_rmono hend (by decide) (by decide)⟩
          · show Steps p.tables e below (T371.setTop (mkF m 195 #[.val (.int p1), .val (.int p2), .val (.int p3), .val (.int p4), .val (.int (2 : Int32)), .val (.int ch1), .val (.int ch2), .val (.int ch3), .val (.ref d), .val (.ref (own_ad c0 c1 c2 c3 c4 (own_aft (own_aft (0) ch1) ch2))), .val (.int (1 : Int32)), .val (.int (0 : Int32)), .val (.int (0 : Int32))] [(.int (1 : Int32))])) _
            exact retN X371 hx (t := .boolean) Bd.returns (by simp) (hb hby at_195) hr
          · exact ⟨rfl, N371⟩
  · have k374 : ∀ t, Steps p.tables e below (T240.setTop (mkF m 36 #[.val (.int p1), .val (.int p2), .val (.int p3), .val (.int p4), .val (.int (3 : Int32)), .val (.int ch1), .val (.int ch2), .val (.int ch3), .val (.ref d), .val (.ref (own_ad c0 c1 c2 c3 c4 (0))), .unset, .unset, .unset] [])) t → Steps p.tables e below (s₁.setTop (entryFrame m #[(.int p1), (.int p2), (.int p3), (.int p4)] maxLocals)) t := k242
    have k375 : ∀ tg, Steps p.tables e below (T240.setTop (mkF m 48 #[.val (.int p1), .val (.int p2), .val (.int p3), .val (.int p4), .val (.int (3 : Int32)), .val (.int ch1), .val (.int ch2), .val (.int ch3), .val (.ref d), .val (.ref (own_ad c0 c1 c2 c3 c4 (0))), .unset, .unset, .unset] [(.ref d), (.int ch1), (.ref (own_ad c0 c1 c2 c3 c4 (0)))])) tg → Steps p.tables e below (s₁.setTop (entryFrame m #[(.int p1), (.int p2), (.int p3), (.int p4)] maxLocals)) tg := fun tg kg => k374 tg (by
        show Steps p.tables e below (T240.setTop (mkF m 36 #[.val (.int p1), .val (.int p2), .val (.int p3), .val (.int p4), .val (.int (3 : Int32)), .val (.int ch1), .val (.int ch2), .val (.int ch3), .val (.ref d), .val (.ref (own_ad c0 c1 c2 c3 c4 (0))), .unset, .unset, .unset] [])) _
        refine XS.iload Xb.here hx rfl (hb hby at_36) rfl ?_
        show Steps p.tables e below (T240.setTop (mkF m 38 #[.val (.int p1), .val (.int p2), .val (.int p3), .val (.int p4), .val (.int (3 : Int32)), .val (.int ch1), .val (.int ch2), .val (.int ch3), .val (.ref d), .val (.ref (own_ad c0 c1 c2 c3 c4 (0))), .unset, .unset, .unset] [(.int (3 : Int32))])) _
        refine XS.iconst Xb.here hx rfl (hb hby at_38) ?_
        show Steps p.tables e below (T240.setTop (mkF m 39 #[.val (.int p1), .val (.int p2), .val (.int p3), .val (.int p4), .val (.int (3 : Int32)), .val (.int ch1), .val (.int ch2), .val (.int ch3), .val (.ref d), .val (.ref (own_ad c0 c1 c2 c3 c4 (0))), .unset, .unset, .unset] [(.int (1 : Int32)), (.int (3 : Int32))])) _
        refine XS.icmpNo Xb.here hx rfl (hb hby at_39) rfl (flt (by decide)).1 ?_
        show Steps p.tables e below (T240.setTop (mkF m 42 #[.val (.int p1), .val (.int p2), .val (.int p3), .val (.int p4), .val (.int (3 : Int32)), .val (.int ch1), .val (.int ch2), .val (.int ch3), .val (.ref d), .val (.ref (own_ad c0 c1 c2 c3 c4 (0))), .unset, .unset, .unset] [])) _
        refine XS.aload Xb.here hx rfl (hb hby at_42) rfl rfl ?_
        show Steps p.tables e below (T240.setTop (mkF m 44 #[.val (.int p1), .val (.int p2), .val (.int p3), .val (.int p4), .val (.int (3 : Int32)), .val (.int ch1), .val (.int ch2), .val (.int ch3), .val (.ref d), .val (.ref (own_ad c0 c1 c2 c3 c4 (0))), .unset, .unset, .unset] [(.ref (own_ad c0 c1 c2 c3 c4 (0)))])) _
        refine XS.iload Xb.here hx rfl (hb hby at_44) rfl ?_
        show Steps p.tables e below (T240.setTop (mkF m 46 #[.val (.int p1), .val (.int p2), .val (.int p3), .val (.int p4), .val (.int (3 : Int32)), .val (.int ch1), .val (.int ch2), .val (.int ch3), .val (.ref d), .val (.ref (own_ad c0 c1 c2 c3 c4 (0))), .unset, .unset, .unset] [(.int ch1), (.ref (own_ad c0 c1 c2 c3 c4 (0)))])) _
        refine XS.aload Xb.here hx rfl (hb hby at_46) rfl rfl ?_
        exact kg)
    have Ex376 : Exa Z h0 (own_ad c0 c1 c2 c3 c4 (0)) "com/example/vaxwire/vaxwire/hl7/Repetition$Content" := by
      have q5 : (0) < 5 := by decide
      generalize (0) = sx at q5 ⊢
      have : sx = 0 ∨ sx = 1 ∨ sx = 2 ∨ sx = 3 ∨ sx = 4 := by omega
      rcases this with rfl | rfl | rfl | rfl | rfl
      · exact E0.ext XE
      · exact E1.ext XE
      · exact E2.ext XE
      · exact E3.ext XE
      · exact E4.ext XE
    obtain ⟨cq376, kq376, q376a, q376b, q376c⟩ := isOf hZ e240 Ex376
    obtain ⟨_, _, ⟨T376, L376, c376, n376⟩, -, X376, hSn376, hgr376, ⟨Lc376, hQ376, l376, y376, z376⟩, st376⟩ := Xb.virtualBackS hx (y := (⟨"com/example/vaxwire/vaxwire/hl7/Repetition$Content", "after", "(CLcom/example/vaxwire/vaxwire/hl7/Delimiters;)Lcom/example/vaxwire/vaxwire/hl7/Repetition$Content;"⟩ : MethodName)) (z := (⟨"com/example/vaxwire/vaxwire/hl7/Repetition$Content", "after", "(CLcom/example/vaxwire/vaxwire/hl7/Delimiters;)Lcom/example/vaxwire/vaxwire/hl7/Repetition$Content;"⟩ : MethodName)) hown (mvT hZ (hw _ (List.mem_of_getElem? (i := 20) rfl))) (mvT hZ (hw _ (List.mem_of_getElem? (i := 21) rfl))) (notFace_of_selects (args := #[]) (mvT hZ (hw _ (List.mem_of_getElem? (i := 23) rfl)))) (mvT hZ (hw _ (List.mem_of_getElem? (i := 23) rfl))) (mvT hZ (hw _ (List.mem_of_getElem? (i := 22) rfl))) (by decide) (own_backS (W := 0) (rm3 l Z a0 hw [] (own_ad c0 c1 c2 c3 c4 (0)) ch1 d (0) c0 c1 c2 c3 c4 G1 G3 h0 n0 Z0 (by decide) rfl O2 P1 O4 r3 hH hcw Wh0 XE) (fun v t t2 L e1 e2 q => by rw [Q3] at q ⊢; rw [← e1, ← e2]; exact q) hZ (hw _ (List.mem_of_getElem? (i := 24) rfl)) (hw _ (List.mem_of_getElem? (i := 9) rfl)) (by decide) (by decide)) q376a q376c (g := (mkF m 48 #[.val (.int p1), .val (.int p2), .val (.int p3), .val (.int p4), .val (.int (3 : Int32)), .val (.int ch1), .val (.int ch2), .val (.int ch3), .val (.ref d), .val (.ref (own_ad c0 c1 c2 c3 c4 (0))), .unset, .unset, .unset] [(.ref d), (.int ch1), (.ref (own_ad c0 c1 c2 c3 c4 (0)))])) rfl (by rw [hml]; rfl) (Steps.refl _) (argsL := [(.int ch1), (.ref d)]) (rest := []) (lenOf own_pd2 rfl) rfl (by show 2 * 0 + _ ≤ _; exact Nat.le_of_eq rfl) (hb hby at_48) (fun vm1 hv => ⟨rfl, e240, hLd.warm (s := s) hv, (by decide : 0 + 2 ≤ _), (by decide : 0 + 12 ≤ _)⟩)
    dsimp only [Pt.U, Pt.locs, Pt.cells, Pt.slots] at X376 hSn376 hgr376 l376 y376 z376 st376 hQ376
    obtain rfl : c376 = 2 := y376
    obtain rfl : n376 = 12 := z376
    have X376 : Stand p l e room_1 (s.setVm T376.vm) m #[(.int p1), (.int p2), (.int p3), (.int p4)] below meth c T376 L376 2 12 := X376
    obtain ⟨rfl, N376q, EE376, hLd376⟩ := hQ376
    have N376 := own_frE l376 (Fr.app N234 N376q)
    have hS := hS.trans hSn376 (Nat.le_trans hk hgr376)
    have hk := Nat.le_refl T376.heap.size
    have hLd := hLd376
    have XE := own_extT XE EE376
    have Zx376 : n0 ≤ T376.heap.size := Nat.le_trans Z0 EE376.1
    have hZ : Z.Warmed39 (s.setVm T376.vm).vm := State.Warmed39.trans hZ hSn376.1
    have hown : (s.setVm T376.vm).vm.findClass "com/example/vaxwire/vaxwire/hl7/ContentIsValuePinLaw" = some m.cls := by show T376.vm.findClass _ = _; rw [hSn376.1.alike.findClass]; exact hown
    have k377 : ∀ tg, Steps p.tables e below (T376.setTop (mkF m 51 #[.val (.int p1), .val (.int p2), .val (.int p3), .val (.int p4), .val (.int (3 : Int32)), .val (.int ch1), .val (.int ch2), .val (.int ch3), .val (.ref d), .val (.ref (own_ad c0 c1 c2 c3 c4 (0))), .unset, .unset, .unset] [(.ref (own_ad c0 c1 c2 c3 c4 (own_aft (0) ch1)))])) tg → Steps p.tables e below (s₁.setTop (entryFrame m #[(.int p1), (.int p2), (.int p3), (.int p4)] maxLocals)) tg := fun tg kg => k375 tg (st376.trans kg)
    have k378 : ∀ tg, Steps p.tables e below (T376.setTop (mkF m 65 #[.val (.int p1), .val (.int p2), .val (.int p3), .val (.int p4), .val (.int (3 : Int32)), .val (.int ch1), .val (.int ch2), .val (.int ch3), .val (.ref d), .val (.ref (own_ad c0 c1 c2 c3 c4 (own_aft (0) ch1))), .unset, .unset, .unset] [(.ref d), (.int ch2), (.ref (own_ad c0 c1 c2 c3 c4 (own_aft (0) ch1)))])) tg → Steps p.tables e below (s₁.setTop (entryFrame m #[(.int p1), (.int p2), (.int p3), (.int p4)] maxLocals)) tg := fun tg kg => k377 tg (by
        show Steps p.tables e below (T376.setTop (mkF m 51 #[.val (.int p1), .val (.int p2), .val (.int p3), .val (.int p4), .val (.int (3 : Int32)), .val (.int ch1), .val (.int ch2), .val (.int ch3), .val (.ref d), .val (.ref (own_ad c0 c1 c2 c3 c4 (0))), .unset, .unset, .unset] [(.ref (own_ad c0 c1 c2 c3 c4 (own_aft (0) ch1)))])) _
        refine XS.astore X376.here hx rfl (hb hby at_51) rfl rfl (l' := #[.val (.int p1), .val (.int p2), .val (.int p3), .val (.int p4), .val (.int (3 : Int32)), .val (.int ch1), .val (.int ch2), .val (.int ch3), .val (.ref d), .val (.ref (own_ad c0 c1 c2 c3 c4 (own_aft (0) ch1))), .unset, .unset, .unset]) rfl ?_
        show Steps p.tables e below (T376.setTop (mkF m 53 #[.val (.int p1), .val (.int p2), .val (.int p3), .val (.int p4), .val (.int (3 : Int32)), .val (.int ch1), .val (.int ch2), .val (.int ch3), .val (.ref d), .val (.ref (own_ad c0 c1 c2 c3 c4 (own_aft (0) ch1))), .unset, .unset, .unset] [])) _
        refine XS.iload X376.here hx rfl (hb hby at_53) rfl ?_
        show Steps p.tables e below (T376.setTop (mkF m 55 #[.val (.int p1), .val (.int p2), .val (.int p3), .val (.int p4), .val (.int (3 : Int32)), .val (.int ch1), .val (.int ch2), .val (.int ch3), .val (.ref d), .val (.ref (own_ad c0 c1 c2 c3 c4 (own_aft (0) ch1))), .unset, .unset, .unset] [(.int (3 : Int32))])) _
        refine XS.iconst X376.here hx rfl (hb hby at_55) ?_
        show Steps p.tables e below (T376.setTop (mkF m 56 #[.val (.int p1), .val (.int p2), .val (.int p3), .val (.int p4), .val (.int (3 : Int32)), .val (.int ch1), .val (.int ch2), .val (.int ch3), .val (.ref d), .val (.ref (own_ad c0 c1 c2 c3 c4 (own_aft (0) ch1))), .unset, .unset, .unset] [(.int (2 : Int32)), (.int (3 : Int32))])) _
        refine XS.icmpNo X376.here hx rfl (hb hby at_56) rfl (flt (by decide)).1 ?_
        show Steps p.tables e below (T376.setTop (mkF m 59 #[.val (.int p1), .val (.int p2), .val (.int p3), .val (.int p4), .val (.int (3 : Int32)), .val (.int ch1), .val (.int ch2), .val (.int ch3), .val (.ref d), .val (.ref (own_ad c0 c1 c2 c3 c4 (own_aft (0) ch1))), .unset, .unset, .unset] [])) _
        refine XS.aload X376.here hx rfl (hb hby at_59) rfl rfl ?_
        show Steps p.tables e below (T376.setTop (mkF m 61 #[.val (.int p1), .val (.int p2), .val (.int p3), .val (.int p4), .val (.int (3 : Int32)), .val (.int ch1), .val (.int ch2), .val (.int ch3), .val (.ref d), .val (.ref (own_ad c0 c1 c2 c3 c4 (own_aft (0) ch1))), .unset, .unset, .unset] [(.ref (own_ad c0 c1 c2 c3 c4 (own_aft (0) ch1)))])) _
        refine XS.iload X376.here hx rfl (hb hby at_61) rfl ?_
        show Steps p.tables e below (T376.setTop (mkF m 63 #[.val (.int p1), .val (.int p2), .val (.int p3), .val (.int p4), .val (.int (3 : Int32)), .val (.int ch1), .val (.int ch2), .val (.int ch3), .val (.ref d), .val (.ref (own_ad c0 c1 c2 c3 c4 (own_aft (0) ch1))), .unset, .unset, .unset] [(.int ch2), (.ref (own_ad c0 c1 c2 c3 c4 (own_aft (0) ch1)))])) _
        refine XS.aload X376.here hx rfl (hb hby at_63) rfl rfl ?_
        exact kg)
    have Ex379 : Exa Z T376.heap (own_ad c0 c1 c2 c3 c4 (own_aft (0) ch1)) "com/example/vaxwire/vaxwire/hl7/Repetition$Content" := by
      have q5 : (own_aft (0) ch1) < 5 := own_aft5 _ _
      generalize (own_aft (0) ch1) = sx at q5 ⊢
      have : sx = 0 ∨ sx = 1 ∨ sx = 2 ∨ sx = 3 ∨ sx = 4 := by omega
      rcases this with rfl | rfl | rfl | rfl | rfl
      · exact E0.ext XE
      · exact E1.ext XE
      · exact E2.ext XE
      · exact E3.ext XE
      · exact E4.ext XE
    obtain ⟨cq379, kq379, q379a, q379b, q379c⟩ := isOf hZ rfl Ex379
    obtain ⟨_, _, ⟨T379, L379, c379, n379⟩, -, X379, hSn379, hgr379, ⟨Lc379, hQ379, l379, y379, z379⟩, st379⟩ := X376.virtualBackS hx (y := (⟨"com/example/vaxwire/vaxwire/hl7/Repetition$Content", "after", "(CLcom/example/vaxwire/vaxwire/hl7/Delimiters;)Lcom/example/vaxwire/vaxwire/hl7/Repetition$Content;"⟩ : MethodName)) (z := (⟨"com/example/vaxwire/vaxwire/hl7/Repetition$Content", "after", "(CLcom/example/vaxwire/vaxwire/hl7/Delimiters;)Lcom/example/vaxwire/vaxwire/hl7/Repetition$Content;"⟩ : MethodName)) hown (mvT hZ (hw _ (List.mem_of_getElem? (i := 20) rfl))) (mvT hZ (hw _ (List.mem_of_getElem? (i := 21) rfl))) (notFace_of_selects (args := #[]) (mvT hZ (hw _ (List.mem_of_getElem? (i := 23) rfl)))) (mvT hZ (hw _ (List.mem_of_getElem? (i := 23) rfl))) (mvT hZ (hw _ (List.mem_of_getElem? (i := 22) rfl))) (by decide) (own_backS (W := 0) (rm3 l Z a0 hw [] (own_ad c0 c1 c2 c3 c4 (own_aft (0) ch1)) ch2 d (own_aft (0) ch1) c0 c1 c2 c3 c4 G1 G3 T376.heap n0 Zx376 (own_aft5 _ _) rfl O2 P1 O4 r3 hH hcw Wh0 XE) (fun v t t2 L e1 e2 q => by rw [Q3] at q ⊢; rw [← e1, ← e2]; exact q) hZ (hw _ (List.mem_of_getElem? (i := 24) rfl)) (hw _ (List.mem_of_getElem? (i := 9) rfl)) (by decide) (by decide)) q379a q379c (g := (mkF m 65 #[.val (.int p1), .val (.int p2), .val (.int p3), .val (.int p4), .val (.int (3 : Int32)), .val (.int ch1), .val (.int ch2), .val (.int ch3), .val (.ref d), .val (.ref (own_ad c0 c1 c2 c3 c4 (own_aft (0) ch1))), .unset, .unset, .unset] [(.ref d), (.int ch2), (.ref (own_ad c0 c1 c2 c3 c4 (own_aft (0) ch1)))])) rfl (by rw [hml]; rfl) (Steps.refl _) (argsL := [(.int ch2), (.ref d)]) (rest := []) (lenOf own_pd2 rfl) rfl (by show 2 * 0 + _ ≤ _; exact Nat.le_of_eq rfl) (hb hby at_65) (fun vm1 hv => ⟨rfl, rfl, hLd.warm (s := s) hv, (by decide : 2 + 2 ≤ _), (by decide : 12 + 12 ≤ _)⟩)
    dsimp only [Pt.U, Pt.locs, Pt.cells, Pt.slots] at X379 hSn379 hgr379 l379 y379 z379 st379 hQ379
    obtain rfl : c379 = 4 := y379
    obtain rfl : n379 = 24 := z379
    have X379 : Stand p l e room_1 (s.setVm T379.vm) m #[(.int p1), (.int p2), (.int p3), (.int p4)] below meth c T379 L379 4 24 := X379
    obtain ⟨rfl, N379q, EE379, hLd379⟩ := hQ379
    have N379 := own_frE l379 (Fr.app N376 N379q)
    have hS := hS.trans hSn379 (Nat.le_trans hk hgr379)
    have hk := Nat.le_refl T379.heap.size
    have hLd := hLd379
    have XE := own_extT XE EE379
    have Zx379 : n0 ≤ T379.heap.size := Nat.le_trans Zx376 EE379.1
    have hZ : Z.Warmed39 (s.setVm T379.vm).vm := State.Warmed39.trans hZ hSn379.1
    have hown : (s.setVm T379.vm).vm.findClass "com/example/vaxwire/vaxwire/hl7/ContentIsValuePinLaw" = some m.cls := by show T379.vm.findClass _ = _; rw [hSn379.1.alike.findClass]; exact hown
    have k380 : ∀ tg, Steps p.tables e below (T379.setTop (mkF m 68 #[.val (.int p1), .val (.int p2), .val (.int p3), .val (.int p4), .val (.int (3 : Int32)), .val (.int ch1), .val (.int ch2), .val (.int ch3), .val (.ref d), .val (.ref (own_ad c0 c1 c2 c3 c4 (own_aft (0) ch1))), .unset, .unset, .unset] [(.ref (own_ad c0 c1 c2 c3 c4 (own_aft (own_aft (0) ch1) ch2)))])) tg → Steps p.tables e below (s₁.setTop (entryFrame m #[(.int p1), (.int p2), (.int p3), (.int p4)] maxLocals)) tg := fun tg kg => k378 tg (st379.trans kg)
    have k381 : ∀ tg, Steps p.tables e below (T379.setTop (mkF m 82 #[.val (.int p1), .val (.int p2), .val (.int p3), .val (.int p4), .val (.int (3 : Int32)), .val (.int ch1), .val (.int ch2), .val (.int ch3), .val (.ref d), .val (.ref (own_ad c0 c1 c2 c3 c4 (own_aft (own_aft (0) ch1) ch2))), .unset, .unset, .unset] [(.ref d), (.int ch3), (.ref (own_ad c0 c1 c2 c3 c4 (own_aft (own_aft (0) ch1) ch2)))])) tg → Steps p.tables e below (s₁.setTop (entryFrame m #[(.int p1), (.int p2), (.int p3), (.int p4)] maxLocals)) tg := fun tg kg => k380 tg (by
        show Steps p.tables e below (T379.setTop (mkF m 68 #[.val (.int p1), .val (.int p2), .val (.int p3), .val (.int p4), .val (.int (3 : Int32)), .val (.int ch1), .val (.int ch2), .val (.int ch3), .val (.ref d), .val (.ref (own_ad c0 c1 c2 c3 c4 (own_aft (0) ch1))), .unset, .unset, .unset] [(.ref (own_ad c0 c1 c2 c3 c4 (own_aft (own_aft (0) ch1) ch2)))])) _
        refine XS.astore X379.here hx rfl (hb hby at_68) rfl rfl (l' := #[.val (.int p1), .val (.int p2), .val (.int p3), .val (.int p4), .val (.int (3 : Int32)), .val (.int ch1), .val (.int ch2), .val (.int ch3), .val (.ref d), .val (.ref (own_ad c0 c1 c2 c3 c4 (own_aft (own_aft (0) ch1) ch2))), .unset, .unset, .unset]) rfl ?_
        show Steps p.tables e below (T379.setTop (mkF m 70 #[.val (.int p1), .val (.int p2), .val (.int p3), .val (.int p4), .val (.int (3 : Int32)), .val (.int ch1), .val (.int ch2), .val (.int ch3), .val (.ref d), .val (.ref (own_ad c0 c1 c2 c3 c4 (own_aft (own_aft (0) ch1) ch2))), .unset, .unset, .unset] [])) _
        refine XS.iload X379.here hx rfl (hb hby at_70) rfl ?_
        show Steps p.tables e below (T379.setTop (mkF m 72 #[.val (.int p1), .val (.int p2), .val (.int p3), .val (.int p4), .val (.int (3 : Int32)), .val (.int ch1), .val (.int ch2), .val (.int ch3), .val (.ref d), .val (.ref (own_ad c0 c1 c2 c3 c4 (own_aft (own_aft (0) ch1) ch2))), .unset, .unset, .unset] [(.int (3 : Int32))])) _
        refine XS.iconst X379.here hx rfl (hb hby at_72) ?_
        show Steps p.tables e below (T379.setTop (mkF m 73 #[.val (.int p1), .val (.int p2), .val (.int p3), .val (.int p4), .val (.int (3 : Int32)), .val (.int ch1), .val (.int ch2), .val (.int ch3), .val (.ref d), .val (.ref (own_ad c0 c1 c2 c3 c4 (own_aft (own_aft (0) ch1) ch2))), .unset, .unset, .unset] [(.int (3 : Int32)), (.int (3 : Int32))])) _
        refine XS.icmpNo X379.here hx rfl (hb hby at_73) rfl (flt (by decide)).1 ?_
        show Steps p.tables e below (T379.setTop (mkF m 76 #[.val (.int p1), .val (.int p2), .val (.int p3), .val (.int p4), .val (.int (3 : Int32)), .val (.int ch1), .val (.int ch2), .val (.int ch3), .val (.ref d), .val (.ref (own_ad c0 c1 c2 c3 c4 (own_aft (own_aft (0) ch1) ch2))), .unset, .unset, .unset] [])) _
        refine XS.aload X379.here hx rfl (hb hby at_76) rfl rfl ?_
        show Steps p.tables e below (T379.setTop (mkF m 78 #[.val (.int p1), .val (.int p2), .val (.int p3), .val (.int p4), .val (.int (3 : Int32)), .val (.int ch1), .val (.int ch2), .val (.int ch3), .val (.ref d), .val (.ref (own_ad c0 c1 c2 c3 c4 (own_aft (own_aft (0) ch1) ch2))), .unset, .unset, .unset] [(.ref (own_ad c0 c1 c2 c3 c4 (own_aft (own_aft (0) ch1) ch2)))])) _
        refine XS.iload X379.here hx rfl (hb hby at_78) rfl ?_
        show Steps p.tables e below (T379.setTop (mkF m 80 #[.val (.int p1), .val (.int p2), .val (.int p3), .val (.int p4), .val (.int (3 : Int32)), .val (.int ch1), .val (.int ch2), .val (.int ch3), .val (.ref d), .val (.ref (own_ad c0 c1 c2 c3 c4 (own_aft (own_aft (0) ch1) ch2))), .unset, .unset, .unset] [(.int ch3), (.ref (own_ad c0 c1 c2 c3 c4 (own_aft (own_aft (0) ch1) ch2)))])) _
        refine XS.aload X379.here hx rfl (hb hby at_80) rfl rfl ?_
        exact kg)
    have Ex382 : Exa Z T379.heap (own_ad c0 c1 c2 c3 c4 (own_aft (own_aft (0) ch1) ch2)) "com/example/vaxwire/vaxwire/hl7/Repetition$Content" := by
      have q5 : (own_aft (own_aft (0) ch1) ch2) < 5 := own_aft5 _ _
      generalize (own_aft (own_aft (0) ch1) ch2) = sx at q5 ⊢
      have : sx = 0 ∨ sx = 1 ∨ sx = 2 ∨ sx = 3 ∨ sx = 4 := by omega
      rcases this with rfl | rfl | rfl | rfl | rfl
      · exact E0.ext XE
      · exact E1.ext XE
      · exact E2.ext XE
      · exact E3.ext XE
      · exact E4.ext XE
    obtain ⟨cq382, kq382, q382a, q382b, q382c⟩ := isOf hZ rfl Ex382
    obtain ⟨_, _, ⟨T382, L382, c382, n382⟩, -, X382, hSn382, hgr382, ⟨Lc382, hQ382, l382, y382, z382⟩, st382⟩ := X379.virtualBackS hx (y := (⟨"com/example/vaxwire/vaxwire/hl7/Repetition$Content", "after", "(CLcom/example/vaxwire/vaxwire/hl7/Delimiters;)Lcom/example/vaxwire/vaxwire/hl7/Repetition$Content;"⟩ : MethodName)) (z := (⟨"com/example/vaxwire/vaxwire/hl7/Repetition$Content", "after", "(CLcom/example/vaxwire/vaxwire/hl7/Delimiters;)Lcom/example/vaxwire/vaxwire/hl7/Repetition$Content;"⟩ : MethodName)) hown (mvT hZ (hw _ (List.mem_of_getElem? (i := 20) rfl))) (mvT hZ (hw _ (List.mem_of_getElem? (i := 21) rfl))) (notFace_of_selects (args := #[]) (mvT hZ (hw _ (List.mem_of_getElem? (i := 23) rfl)))) (mvT hZ (hw _ (List.mem_of_getElem? (i := 23) rfl))) (mvT hZ (hw _ (List.mem_of_getElem? (i := 22) rfl))) (by decide) (own_backS (W := 0) (rm3 l Z a0 hw [] (own_ad c0 c1 c2 c3 c4 (own_aft (own_aft (0) ch1) ch2)) ch3 d (own_aft (own_aft (0) ch1) ch2) c0 c1 c2 c3 c4 G1 G3 T379.heap n0 Zx379 (own_aft5 _ _) rfl O2 P1 O4 r3 hH hcw Wh0 XE) (fun v t t2 L e1 e2 q => by rw [Q3] at q ⊢; rw [← e1, ← e2]; exact q) hZ (hw _ (List.mem_of_getElem? (i := 24) rfl)) (hw _ (List.mem_of_getElem? (i := 9) rfl)) (by decide) (by decide)) q382a q382c (g := (mkF m 82 #[.val (.int p1), .val (.int p2), .val (.int p3), .val (.int p4), .val (.int (3 : Int32)), .val (.int ch1), .val (.int ch2), .val (.int ch3), .val (.ref d), .val (.ref (own_ad c0 c1 c2 c3 c4 (own_aft (own_aft (0) ch1) ch2))), .unset, .unset, .unset] [(.ref d), (.int ch3), (.ref (own_ad c0 c1 c2 c3 c4 (own_aft (own_aft (0) ch1) ch2)))])) rfl (by rw [hml]; rfl) (Steps.refl _) (argsL := [(.int ch3), (.ref d)]) (rest := []) (lenOf own_pd2 rfl) rfl (by show 2 * 0 + _ ≤ _; exact Nat.le_of_eq rfl) (hb hby at_82) (fun vm1 hv => ⟨rfl, rfl, hLd.warm (s := s) hv, (by decide : 4 + 2 ≤ _), (by decide : 24 + 12 ≤ _)⟩)
    dsimp only [Pt.U, Pt.locs, Pt.cells, Pt.slots] at X382 hSn382 hgr382 l382 y382 z382 st382 hQ382
    obtain rfl : c382 = 6 := y382
    obtain rfl : n382 = 36 := z382
    have X382 : Stand p l e room_1 (s.setVm T382.vm) m #[(.int p1), (.int p2), (.int p3), (.int p4)] below meth c T382 L382 6 36 := X382
    obtain ⟨rfl, N382q, EE382, hLd382⟩ := hQ382
    have N382 := own_frE l382 (Fr.app N379 N382q)
    have hS := hS.trans hSn382 (Nat.le_trans hk hgr382)
    have hk := Nat.le_refl T382.heap.size
    have hLd := hLd382
    have XE := own_extT XE EE382
    have Zx382 : n0 ≤ T382.heap.size := Nat.le_trans Zx379 EE382.1
    have hZ : Z.Warmed39 (s.setVm T382.vm).vm := State.Warmed39.trans hZ hSn382.1
    have hown : (s.setVm T382.vm).vm.findClass "com/example/vaxwire/vaxwire/hl7/ContentIsValuePinLaw" = some m.cls := by show T382.vm.findClass _ = _; rw [hSn382.1.alike.findClass]; exact hown
    have k383 : ∀ tg, Steps p.tables e below (T382.setTop (mkF m 85 #[.val (.int p1), .val (.int p2), .val (.int p3), .val (.int p4), .val (.int (3 : Int32)), .val (.int ch1), .val (.int ch2), .val (.int ch3), .val (.ref d), .val (.ref (own_ad c0 c1 c2 c3 c4 (own_aft (own_aft (0) ch1) ch2))), .unset, .unset, .unset] [(.ref (own_ad c0 c1 c2 c3 c4 (own_aft (own_aft (own_aft (0) ch1) ch2) ch3)))])) tg → Steps p.tables e below (s₁.setTop (entryFrame m #[(.int p1), (.int p2), (.int p3), (.int p4)] maxLocals)) tg := fun tg kg => k381 tg (st382.trans kg)
    have k384 : ∀ tg, Steps p.tables e below (T382.setTop (mkF m 95 #[.val (.int p1), .val (.int p2), .val (.int p3), .val (.int p4), .val (.int (3 : Int32)), .val (.int ch1), .val (.int ch2), .val (.int ch3), .val (.ref d), .val (.ref (own_ad c0 c1 c2 c3 c4 (own_aft (own_aft (own_aft (0) ch1) ch2) ch3))), .unset, .unset, .unset] [(.int ch1)])) tg → Steps p.tables e below (s₁.setTop (entryFrame m #[(.int p1), (.int p2), (.int p3), (.int p4)] maxLocals)) tg := fun tg kg => k383 tg (by
        show Steps p.tables e below (T382.setTop (mkF m 85 #[.val (.int p1), .val (.int p2), .val (.int p3), .val (.int p4), .val (.int (3 : Int32)), .val (.int ch1), .val (.int ch2), .val (.int ch3), .val (.ref d), .val (.ref (own_ad c0 c1 c2 c3 c4 (own_aft (own_aft (0) ch1) ch2))), .unset, .unset, .unset] [(.ref (own_ad c0 c1 c2 c3 c4 (own_aft (own_aft (own_aft (0) ch1) ch2) ch3)))])) _
        refine XS.astore X382.here hx rfl (hb hby at_85) rfl rfl (l' := #[.val (.int p1), .val (.int p2), .val (.int p3), .val (.int p4), .val (.int (3 : Int32)), .val (.int ch1), .val (.int ch2), .val (.int ch3), .val (.ref d), .val (.ref (own_ad c0 c1 c2 c3 c4 (own_aft (own_aft (own_aft (0) ch1) ch2) ch3))), .unset, .unset, .unset]) rfl ?_
        show Steps p.tables e below (T382.setTop (mkF m 87 #[.val (.int p1), .val (.int p2), .val (.int p3), .val (.int p4), .val (.int (3 : Int32)), .val (.int ch1), .val (.int ch2), .val (.int ch3), .val (.ref d), .val (.ref (own_ad c0 c1 c2 c3 c4 (own_aft (own_aft (own_aft (0) ch1) ch2) ch3))), .unset, .unset, .unset] [])) _
        refine XS.iload X382.here hx rfl (hb hby at_87) rfl ?_
        show Steps p.tables e below (T382.setTop (mkF m 89 #[.val (.int p1), .val (.int p2), .val (.int p3), .val (.int p4), .val (.int (3 : Int32)), .val (.int ch1), .val (.int ch2), .val (.int ch3), .val (.ref d), .val (.ref (own_ad c0 c1 c2 c3 c4 (own_aft (own_aft (own_aft (0) ch1) ch2) ch3))), .unset, .unset, .unset] [(.int (3 : Int32))])) _
        refine XS.iconst X382.here hx rfl (hb hby at_89) ?_
        show Steps p.tables e below (T382.setTop (mkF m 90 #[.val (.int p1), .val (.int p2), .val (.int p3), .val (.int p4), .val (.int (3 : Int32)), .val (.int ch1), .val (.int ch2), .val (.int ch3), .val (.ref d), .val (.ref (own_ad c0 c1 c2 c3 c4 (own_aft (own_aft (own_aft (0) ch1) ch2) ch3))), .unset, .unset, .unset] [(.int (1 : Int32)), (.int (3 : Int32))])) _
        refine XS.icmpNo X382.here hx rfl (hb hby at_90) rfl (flt (by decide)).1 ?_
        show Steps p.tables e below (T382.setTop (mkF m 93 #[.val (.int p1), .val (.int p2), .val (.int p3), .val (.int p4), .val (.int (3 : Int32)), .val (.int ch1), .val (.int ch2), .val (.int ch3), .val (.ref d), .val (.ref (own_ad c0 c1 c2 c3 c4 (own_aft (own_aft (own_aft (0) ch1) ch2) ch3))), .unset, .unset, .unset] [])) _
        refine XS.iload X382.here hx rfl (hb hby at_93) rfl ?_
        exact kg)
    obtain ⟨_, _, ⟨T385, L385, c385, n385⟩, -, X385, ⟨Lc385, hQ385, l385, y385, z385⟩, st385⟩ := Jvm.LawKit.callS X382 hx (y := (⟨"com/example/vaxwire/vaxwire/hl7/ContentIsValuePinLaw", "isSep", "(C)Z"⟩ : MethodName)) hown (mvT hZ (hw _ (List.mem_of_getElem? (i := 75) rfl))) (mvT hZ (hw _ (List.mem_of_getElem? (i := 76) rfl))) (mvT hZ (hw _ (List.mem_of_getElem? (i := 3) rfl))) (mvT hZ (hw _ (List.mem_of_getElem? (i := 77) rfl))) (by decide) (backOf (W := 0) (rm11 l Z a0 hw [] ch1 T382.heap n0 Zx382) hZ (hw _ (List.mem_of_getElem? (i := 77) rfl)) (hw _ (List.mem_of_getElem? (i := 3) rfl)) (by decide) (by decide)) (g := (mkF m 95 #[.val (.int p1), .val (.int p2), .val (.int p3), .val (.int p4), .val (.int (3 : Int32)), .val (.int ch1), .val (.int ch2), .val (.int ch3), .val (.ref d), .val (.ref (own_ad c0 c1 c2 c3 c4 (own_aft (own_aft (own_aft (0) ch1) ch2) ch3))), .unset, .unset, .unset] [(.int ch1)])) rfl (by rw [hml]; rfl) (argsL := [(.int ch1)]) (rest := []) (lenOf own_pd7 rfl) rfl (by show 2 * 0 + _ ≤ _; exact Nat.le_of_eq rfl) (hb hby at_95) (fun _ _ => ⟨rfl, rfl, (by decide : 6 + 0 ≤ _), (by decide : 36 + 0 ≤ _)⟩)
    dsimp only [Pt.U, Pt.locs, Pt.cells, Pt.slots] at X385 l385 y385 z385 st385 hQ385
    obtain rfl : c385 = 6 := y385
    obtain rfl : n385 = 36 := z385
    obtain ⟨rfl, N385q, e385⟩ := hQ385
    have N385 := own_frE l385 (Fr.app N382 N385q)
    have k386 : ∀ tg, Steps p.tables e below (T385.setTop (mkF m 98 #[.val (.int p1), .val (.int p2), .val (.int p3), .val (.int p4), .val (.int (3 : Int32)), .val (.int ch1), .val (.int ch2), .val (.int ch3), .val (.ref d), .val (.ref (own_ad c0 c1 c2 c3 c4 (own_aft (own_aft (own_aft (0) ch1) ch2) ch3))), .unset, .unset, .unset] [(.int (own_sep ch1))])) tg → Steps p.tables e below (s₁.setTop (entryFrame m #[(.int p1), (.int p2), (.int p3), (.int p4)] maxLocals)) tg := fun tg kg => k384 tg (st385 tg kg)
    by_cases s1 : own_sep ch1 = (0 : Int32)
    · have k387 : ∀ tg, Steps p.tables e below (T385.setTop (mkF m 133 #[.val (.int p1), .val (.int p2), .val (.int p3), .val (.int p4), .val (.int (3 : Int32)), .val (.int ch1), .val (.int ch2), .val (.int ch3), .val (.ref d), .val (.ref (own_ad c0 c1 c2 c3 c4 (own_aft (own_aft (own_aft (0) ch1) ch2) ch3))), .unset, .unset, .unset] [])) tg → Steps p.tables e below (s₁.setTop (entryFrame m #[(.int p1), (.int p2), (.int p3), (.int p4)] maxLocals)) tg := fun tg kg => k386 tg (by
          show Steps p.tables e below (T385.setTop (mkF m 98 #[.val (.int p1), .val (.int p2), .val (.int p3), .val (.int p4), .val (.int (3 : Int32)), .val (.int ch1), .val (.int ch2), .val (.int ch3), .val (.ref d), .val (.ref (own_ad c0 c1 c2 c3 c4 (own_aft (own_aft (own_aft (0) ch1) ch2) ch3))), .unset, .unset, .unset] [(.int (own_sep ch1))])) _
          refine XS.ifYes X385.here hx rfl (pc0 := 98) (pc' := 133) rfl (hb hby at_98) rfl ((if0 _ _).trans (teq s1).1) (by decide) (by decide) ?_
          exact kg)
      have k388 : ∀ tg, Steps p.tables e below (T385.setTop (mkF m 165 #[.val (.int p1), .val (.int p2), .val (.int p3), .val (.int p4), .val (.int (3 : Int32)), .val (.int ch1), .val (.int ch2), .val (.int ch3), .val (.ref d), .val (.ref (own_ad c0 c1 c2 c3 c4 (own_aft (own_aft (own_aft (0) ch1) ch2) ch3))), .val (.int (0 : Int32)), .val (.int (0 : Int32)), .unset] [(.int (0 : Int32))])) tg → Steps p.tables e below (s₁.setTop (entryFrame m #[(.int p1), (.int p2), (.int p3), (.int p4)] maxLocals)) tg := fun tg kg => k387 tg (by
          show Steps p.tables e below (T385.setTop (mkF m 133 #[.val (.int p1), .val (.int p2), .val (.int p3), .val (.int p4), .val (.int (3 : Int32)), .val (.int ch1), .val (.int ch2), .val (.int ch3), .val (.ref d), .val (.ref (own_ad c0 c1 c2 c3 c4 (own_aft (own_aft (own_aft (0) ch1) ch2) ch3))), .unset, .unset, .unset] [])) _
          refine XS.iconst X385.here hx rfl (hb hby at_133) ?_
          show Steps p.tables e below (T385.setTop (mkF m 134 #[.val (.int p1), .val (.int p2), .val (.int p3), .val (.int p4), .val (.int (3 : Int32)), .val (.int ch1), .val (.int ch2), .val (.int ch3), .val (.ref d), .val (.ref (own_ad c0 c1 c2 c3 c4 (own_aft (own_aft (own_aft (0) ch1) ch2) ch3))), .unset, .unset, .unset] [(.int (0 : Int32))])) _
          refine XS.istore X385.here hx rfl (hb hby at_134) rfl (l' := #[.val (.int p1), .val (.int p2), .val (.int p3), .val (.int p4), .val (.int (3 : Int32)), .val (.int ch1), .val (.int ch2), .val (.int ch3), .val (.ref d), .val (.ref (own_ad c0 c1 c2 c3 c4 (own_aft (own_aft (own_aft (0) ch1) ch2) ch3))), .val (.int (0 : Int32)), .unset, .unset]) rfl ?_
          show Steps p.tables e below (T385.setTop (mkF m 136 #[.val (.int p1), .val (.int p2), .val (.int p3), .val (.int p4), .val (.int (3 : Int32)), .val (.int ch1), .val (.int ch2), .val (.int ch3), .val (.ref d), .val (.ref (own_ad c0 c1 c2 c3 c4 (own_aft (own_aft (own_aft (0) ch1) ch2) ch3))), .val (.int (0 : Int32)), .unset, .unset] [])) _
          refine XS.iload X385.here hx rfl (hb hby at_136) rfl ?_
          show Steps p.tables e below (T385.setTop (mkF m 138 #[.val (.int p1), .val (.int p2), .val (.int p3), .val (.int p4), .val (.int (3 : Int32)), .val (.int ch1), .val (.int ch2), .val (.int ch3), .val (.ref d), .val (.ref (own_ad c0 c1 c2 c3 c4 (own_aft (own_aft (own_aft (0) ch1) ch2) ch3))), .val (.int (0 : Int32)), .unset, .unset] [(.int (3 : Int32))])) _
          refine XS.iconst X385.here hx rfl (hb hby at_138) ?_
          show Steps p.tables e below (T385.setTop (mkF m 139 #[.val (.int p1), .val (.int p2), .val (.int p3), .val (.int p4), .val (.int (3 : Int32)), .val (.int ch1), .val (.int ch2), .val (.int ch3), .val (.ref d), .val (.ref (own_ad c0 c1 c2 c3 c4 (own_aft (own_aft (own_aft (0) ch1) ch2) ch3))), .val (.int (0 : Int32)), .unset, .unset] [(.int (2 : Int32)), (.int (3 : Int32))])) _
          refine XS.icmpYes X385.here hx rfl (pc0 := 139) (pc' := 160) rfl (hb hby at_139) rfl (feq (by decide)).2 (by decide) (by decide) ?_
          show Steps p.tables e below (T385.setTop (mkF m 160 #[.val (.int p1), .val (.int p2), .val (.int p3), .val (.int p4), .val (.int (3 : Int32)), .val (.int ch1), .val (.int ch2), .val (.int ch3), .val (.ref d), .val (.ref (own_ad c0 c1 c2 c3 c4 (own_aft (own_aft (own_aft (0) ch1) ch2) ch3))), .val (.int (0 : Int32)), .unset, .unset] [])) _
          refine XS.iconst X385.here hx rfl (hb hby at_160) ?_
          show Steps p.tables e below (T385.setTop (mkF m 161 #[.val (.int p1), .val (.int p2), .val (.int p3), .val (.int p4), .val (.int (3 : Int32)), .val (.int ch1), .val (.int ch2), .val (.int ch3), .val (.ref d), .val (.ref (own_ad c0 c1 c2 c3 c4 (own_aft (own_aft (own_aft (0) ch1) ch2) ch3))), .val (.int (0 : Int32)), .unset, .unset] [(.int (0 : Int32))])) _
          refine XS.istore X385.here hx rfl (hb hby at_161) rfl (l' := #[.val (.int p1), .val (.int p2), .val (.int p3), .val (.int p4), .val (.int (3 : Int32)), .val (.int ch1), .val (.int ch2), .val (.int ch3), .val (.ref d), .val (.ref (own_ad c0 c1 c2 c3 c4 (own_aft (own_aft (own_aft (0) ch1) ch2) ch3))), .val (.int (0 : Int32)), .val (.int (0 : Int32)), .unset]) rfl ?_
          show Steps p.tables e below (T385.setTop (mkF m 163 #[.val (.int p1), .val (.int p2), .val (.int p3), .val (.int p4), .val (.int (3 : Int32)), .val (.int ch1), .val (.int ch2), .val (.int ch3), .val (.ref d), .val (.ref (own_ad c0 c1 c2 c3 c4 (own_aft (own_aft (own_aft (0) ch1) ch2) ch3))), .val (.int (0 : Int32)), .val (.int (0 : Int32)), .unset] [])) _
          refine XS.iload X385.here hx rfl (hb hby at_163) rfl ?_
          exact kg)
      have k389 : ∀ tg, Steps p.tables e below (T385.setTop (mkF m 168 #[.val (.int p1), .val (.int p2), .val (.int p3), .val (.int p4), .val (.int (3 : Int32)), .val (.int ch1), .val (.int ch2), .val (.int ch3), .val (.ref d), .val (.ref (own_ad c0 c1 c2 c3 c4 (own_aft (own_aft (own_aft (0) ch1) ch2) ch3))), .val (.int (0 : Int32)), .val (.int (0 : Int32)), .unset] [])) tg → Steps p.tables e below (s₁.setTop (entryFrame m #[(.int p1), (.int p2), (.int p3), (.int p4)] maxLocals)) tg := fun tg kg => k388 tg (by
          show Steps p.tables e below (T385.setTop (mkF m 165 #[.val (.int p1), .val (.int p2), .val (.int p3), .val (.int p4), .val (.int (3 : Int32)), .val (.int ch1), .val (.int ch2), .val (.int ch3), .val (.ref d), .val (.ref (own_ad c0 c1 c2 c3 c4 (own_aft (own_aft (own_aft (0) ch1) ch2) ch3))), .val (.int (0 : Int32)), .val (.int (0 : Int32)), .unset] [(.int (0 : Int32))])) _
          refine XS.ifNo X385.here hx rfl (hb hby at_165) rfl ((if0 _ _).trans (teq (by decide)).2) ?_
          exact kg)
      have k390 : ∀ tg, Steps p.tables e below (T385.setTop (mkF m 170 #[.val (.int p1), .val (.int p2), .val (.int p3), .val (.int p4), .val (.int (3 : Int32)), .val (.int ch1), .val (.int ch2), .val (.int ch3), .val (.ref d), .val (.ref (own_ad c0 c1 c2 c3 c4 (own_aft (own_aft (own_aft (0) ch1) ch2) ch3))), .val (.int (0 : Int32)), .val (.int (0 : Int32)), .unset] [(.int (0 : Int32))])) tg → Steps p.tables e below (s₁.setTop (entryFrame m #[(.int p1), (.int p2), (.int p3), (.int p4)] maxLocals)) tg := fun tg kg => k389 tg (by
          show Steps p.tables e below (T385.setTop (mkF m 168 #[.val (.int p1), .val (.int p2), .val (.int p3), .val (.int p4), .val (.int (3 : Int32)), .val (.int ch1), .val (.int ch2), .val (.int ch3), .val (.ref d), .val (.ref (own_ad c0 c1 c2 c3 c4 (own_aft (own_aft (own_aft (0) ch1) ch2) ch3))), .val (.int (0 : Int32)), .val (.int (0 : Int32)), .unset] [])) _
          refine XS.iload X385.here hx rfl (hb hby at_168) rfl ?_
          exact kg)
      have k391 : ∀ tg, Steps p.tables e below (T385.setTop (mkF m 173 #[.val (.int p1), .val (.int p2), .val (.int p3), .val (.int p4), .val (.int (3 : Int32)), .val (.int ch1), .val (.int ch2), .val (.int ch3), .val (.ref d), .val (.ref (own_ad c0 c1 c2 c3 c4 (own_aft (own_aft (own_aft (0) ch1) ch2) ch3))), .val (.int (0 : Int32)), .val (.int (0 : Int32)), .unset] [])) tg → Steps p.tables e below (s₁.setTop (entryFrame m #[(.int p1), (.int p2), (.int p3), (.int p4)] maxLocals)) tg := fun tg kg => k390 tg (by
          show Steps p.tables e below (T385.setTop (mkF m 170 #[.val (.int p1), .val (.int p2), .val (.int p3), .val (.int p4), .val (.int (3 : Int32)), .val (.int ch1), .val (.int ch2), .val (.int ch3), .val (.ref d), .val (.ref (own_ad c0 c1 c2 c3 c4 (own_aft (own_aft (own_aft (0) ch1) ch2) ch3))), .val (.int (0 : Int32)), .val (.int (0 : Int32)), .unset] [(.int (0 : Int32))])) _
          refine XS.ifNo X385.here hx rfl (hb hby at_170) rfl ((if0 _ _).trans (teq (by decide)).2) ?_
          exact kg)
      have k392 : ∀ tg, Steps p.tables e below (T385.setTop (mkF m 182 #[.val (.int p1), .val (.int p2), .val (.int p3), .val (.int p4), .val (.int (3 : Int32)), .val (.int ch1), .val (.int ch2), .val (.int ch3), .val (.ref d), .val (.ref (own_ad c0 c1 c2 c3 c4 (own_aft (own_aft (own_aft (0) ch1) ch2) ch3))), .val (.int (0 : Int32)), .val (.int (0 : Int32)), .val (.int (1 : Int32))] [(.ref (own_ad c0 c1 c2 c3 c4 (own_aft (own_aft (own_aft (0) ch1) ch2) ch3)))])) tg → Steps p.tables e below (s₁.setTop (entryFrame m #[(.int p1), (.int p2), (.int p3), (.int p4)] maxLocals)) tg := fun tg kg => k391 tg (by
          show Steps p.tables e below (T385.setTop (mkF m 173 #[.val (.int p1), .val (.int p2), .val (.int p3), .val (.int p4), .val (.int (3 : Int32)), .val (.int ch1), .val (.int ch2), .val (.int ch3), .val (.ref d), .val (.ref (own_ad c0 c1 c2 c3 c4 (own_aft (own_aft (own_aft (0) ch1) ch2) ch3))), .val (.int (0 : Int32)), .val (.int (0 : Int32)), .unset] [])) _
          refine XS.iconst X385.here hx rfl (hb hby at_173) ?_
          show Steps p.tables e below (T385.setTop (mkF m 174 #[.val (.int p1), .val (.int p2), .val (.int p3), .val (.int p4), .val (.int (3 : Int32)), .val (.int ch1), .val (.int ch2), .val (.int ch3), .val (.ref d), .val (.ref (own_ad c0 c1 c2 c3 c4 (own_aft (own_aft (own_aft (0) ch1) ch2) ch3))), .val (.int (0 : Int32)), .val (.int (0 : Int32)), .unset] [(.int (1 : Int32))])) _
          refine XS.goto X385.here hx rfl (pc0 := 174) (pc' := 178) rfl (hb hby at_174) (by decide) (by decide) ?_
          show Steps p.tables e below (T385.setTop (mkF m 178 #[.val (.int p1), .val (.int p2), .val (.int p3), .val (.int p4), .val (.int (3 : Int32)), .val (.int ch1), .val (.int ch2), .val (.int ch3), .val (.ref d), .val (.ref (own_ad c0 c1 c2 c3 c4 (own_aft (own_aft (own_aft (0) ch1) ch2) ch3))), .val (.int (0 : Int32)), .val (.int (0 : Int32)), .unset] [(.int (1 : Int32))])) _
          refine XS.istore X385.here hx rfl (hb hby at_178) rfl (l' := #[.val (.int p1), .val (.int p2), .val (.int p3), .val (.int p4), .val (.int (3 : Int32)), .val (.int ch1), .val (.int ch2), .val (.int ch3), .val (.ref d), .val (.ref (own_ad c0 c1 c2 c3 c4 (own_aft (own_aft (own_aft (0) ch1) ch2) ch3))), .val (.int (0 : Int32)), .val (.int (0 : Int32)), .val (.int (1 : Int32))]) rfl ?_
          show Steps p.tables e below (T385.setTop (mkF m 180 #[.val (.int p1), .val (.int p2), .val (.int p3), .val (.int p4), .val (.int (3 : Int32)), .val (.int ch1), .val (.int ch2), .val (.int ch3), .val (.ref d), .val (.ref (own_ad c0 c1 c2 c3 c4 (own_aft (own_aft (own_aft (0) ch1) ch2) ch3))), .val (.int (0 : Int32)), .val (.int (0 : Int32)), .val (.int (1 : Int32))] [])) _
          refine XS.aload X385.here hx rfl (hb hby at_180) rfl rfl ?_
          exact kg)
      have hex : Exa Z T382.heap (own_ad c0 c1 c2 c3 c4 (own_aft (own_aft (own_aft (0) ch1) ch2) ch3)) "com/example/vaxwire/vaxwire/hl7/Repetition$Content" := by
        have q5 : (own_aft (own_aft (own_aft (0) ch1) ch2) ch3) < 5 := own_aft5 _ _
        generalize (own_aft (own_aft (own_aft (0) ch1) ch2) ch3) = sx at q5 ⊢
        have : sx = 0 ∨ sx = 1 ∨ sx = 2 ∨ sx = 3 ∨ sx = 4 := by omega
        rcases this with rfl | rfl | rfl | rfl | rfl
        · exact E0.ext XE
        · exact E1.ext XE
        · exact E2.ext XE
        · exact E3.ext XE
        · exact E4.ext XE
      obtain ⟨cq393, kq393, q393a, q393b, q393c⟩ := isOf hZ e385 hex
      obtain ⟨_, _, ⟨T393, L393, c393, n393⟩, -, X393, ⟨Lc393, hQ393, l393, y393, z393⟩, st393⟩ := X385.virtualBack hx (y := (⟨"com/example/vaxwire/vaxwire/hl7/Repetition$Content", "isValue", "()Z"⟩ : MethodName)) (z := (⟨"com/example/vaxwire/vaxwire/hl7/Repetition$Content", "isValue", "()Z"⟩ : MethodName)) hown (mvT hZ (hw _ (List.mem_of_getElem? (i := 11) rfl))) (mvT hZ (hw _ (List.mem_of_getElem? (i := 12) rfl))) (notFace_of_selects (args := #[]) (mvT hZ (hw _ (List.mem_of_getElem? (i := 14) rfl)))) (mvT hZ (hw _ (List.mem_of_getElem? (i := 14) rfl))) (mvT hZ (hw _ (List.mem_of_getElem? (i := 13) rfl))) (by decide) (backOf (W := 0) (rm2 l Z a0 hw [] (own_ad c0 c1 c2 c3 c4 (own_aft (own_aft (own_aft (0) ch1) ch2) ch3)) (own_aft (own_aft (own_aft (0) ch1) ch2) ch3) d c0 c1 c2 c3 c4 T382.heap n0 Zx382 (own_aft5 _ _) rfl Wh0 XE) hZ (hw _ (List.mem_of_getElem? (i := 15) rfl)) (hw _ (List.mem_of_getElem? (i := 9) rfl)) (by decide) (by decide)) q393a q393c (g := (mkF m 182 #[.val (.int p1), .val (.int p2), .val (.int p3), .val (.int p4), .val (.int (3 : Int32)), .val (.int ch1), .val (.int ch2), .val (.int ch3), .val (.ref d), .val (.ref (own_ad c0 c1 c2 c3 c4 (own_aft (own_aft (own_aft (0) ch1) ch2) ch3))), .val (.int (0 : Int32)), .val (.int (0 : Int32)), .val (.int (1 : Int32))] [(.ref (own_ad c0 c1 c2 c3 c4 (own_aft (own_aft (own_aft (0) ch1) ch2) ch3)))])) rfl (by rw [hml]; rfl) (Steps.refl _) (argsL := []) (rest := []) (lenOf own_pd1 rfl) rfl (by show 2 * 0 + _ ≤ _; exact Nat.le_of_eq rfl) (hb hby at_182) (fun _ _ => ⟨rfl, e385, (by decide : 6 + 0 ≤ _), (by decide : 36 + 0 ≤ _)⟩)
      dsimp only [Pt.U, Pt.locs, Pt.cells, Pt.slots] at X393 l393 y393 z393 st393 hQ393
      obtain rfl : c393 = 6 := y393
      obtain rfl : n393 = 36 := z393
      obtain ⟨rfl, N393q, e393⟩ := hQ393
      have N393 := own_frE l393 (Fr.app N385 N393q)
      have k394 : ∀ tg, Steps p.tables e below (T393.setTop (mkF m 185 #[.val (.int p1), .val (.int p2), .val (.int p3), .val (.int p4), .val (.int (3 : Int32)), .val (.int ch1), .val (.int ch2), .val (.int ch3), .val (.ref d), .val (.ref (own_ad c0 c1 c2 c3 c4 (own_aft (own_aft (own_aft (0) ch1) ch2) ch3))), .val (.int (0 : Int32)), .val (.int (0 : Int32)), .val (.int (1 : Int32))] [(.int (own_val (own_aft (own_aft (own_aft (0) ch1) ch2) ch3)))])) tg → Steps p.tables e below (s₁.setTop (entryFrame m #[(.int p1), (.int p2), (.int p3), (.int p4)] maxLocals)) tg := fun tg kg => k392 tg (st393.trans kg)
      have hv : own_val (own_aft (own_aft (own_aft (0) ch1) ch2) ch3) = (1 : Int32) := by rw [own_f3]; simp [s1]
      have k395 : ∀ tg, Steps p.tables e below (T393.setTop (mkF m 195 #[.val (.int p1), .val (.int p2), .val (.int p3), .val (.int p4), .val (.int (3 : Int32)), .val (.int ch1), .val (.int ch2), .val (.int ch3), .val (.ref d), .val (.ref (own_ad c0 c1 c2 c3 c4 (own_aft (own_aft (own_aft (0) ch1) ch2) ch3))), .val (.int (0 : Int32)), .val (.int (0 : Int32)), .val (.int (1 : Int32))] [(.int (1 : Int32))])) tg → Steps p.tables e below (s₁.setTop (entryFrame m #[(.int p1), (.int p2), (.int p3), (.int p4)] maxLocals)) tg := fun tg kg => k394 tg (by
          show Steps p.tables e below (T393.setTop (mkF m 185 #[.val (.int p1), .val (.int p2), .val (.int p3), .val (.int p4), .val (.int (3 : Int32)), .val (.int ch1), .val (.int ch2), .val (.int ch3), .val (.ref d), .val (.ref (own_ad c0 c1 c2 c3 c4 (own_aft (own_aft (own_aft (0) ch1) ch2) ch3))), .val (.int (0 : Int32)), .val (.int (0 : Int32)), .val (.int (1 : Int32))] [(.int (own_val (own_aft (own_aft (own_aft (0) ch1) ch2) ch3)))])) _
          refine XS.iload X393.here hx rfl (hb hby at_185) rfl ?_
          show Steps p.tables e below (T393.setTop (mkF m 187 #[.val (.int p1), .val (.int p2), .val (.int p3), .val (.int p4), .val (.int (3 : Int32)), .val (.int ch1), .val (.int ch2), .val (.int ch3), .val (.ref d), .val (.ref (own_ad c0 c1 c2 c3 c4 (own_aft (own_aft (own_aft (0) ch1) ch2) ch3))), .val (.int (0 : Int32)), .val (.int (0 : Int32)), .val (.int (1 : Int32))] [(.int (1 : Int32)), (.int (own_val (own_aft (own_aft (own_aft (0) ch1) ch2) ch3)))])) _
          refine XS.icmpNo X393.here hx rfl (hb hby at_187) rfl (teq hv).2 ?_
          show Steps p.tables e below (T393.setTop (mkF m 190 #[.val (.int p1), .val (.int p2), .val (.int p3), .val (.int p4), .val (.int (3 : Int32)), .val (.int ch1), .val (.int ch2), .val (.int ch3), .val (.ref d), .val (.ref (own_ad c0 c1 c2 c3 c4 (own_aft (own_aft (own_aft (0) ch1) ch2) ch3))), .val (.int (0 : Int32)), .val (.int (0 : Int32)), .val (.int (1 : Int32))] [])) _
          refine XS.iconst X393.here hx rfl (hb hby at_190) ?_
          show Steps p.tables e below (T393.setTop (mkF m 191 #[.val (.int p1), .val (.int p2), .val (.int p3), .val (.int p4), .val (.int (3 : Int32)), .val (.int ch1), .val (.int ch2), .val (.int ch3), .val (.ref d), .val (.ref (own_ad c0 c1 c2 c3 c4 (own_aft (own_aft (own_aft (0) ch1) ch2) ch3))), .val (.int (0 : Int32)), .val (.int (0 : Int32)), .val (.int (1 : Int32))] [(.int (1 : Int32))])) _
          refine XS.goto X393.here hx rfl (pc0 := 191) (pc' := 195) rfl (hb hby at_191) (by decide) (by decide) ?_
          exact kg)
      obtain ⟨fs, hr, hrun, hended, hend⟩ := Stand.leaveW X393 hS (by rw [e393]; first | exact hk | exact Nat.zero_le _) (v := some (.int (1 : Int32))) (fun h => by rw [Bd.returns] at h; cases h)
      refine ⟨_, _, k395 _ ?_, hrun, hended, _, _, rfl, ?_, own_rmono hend (by decide) (by decide)⟩
      · show Steps p.tables e below (T393.setTop (mkF m 195 #[.val (.int p1), .val (.int p2), .val (.int p3), .val (.int p4), .val (.int (3 : Int32)), .val (.int ch1), .val (.int ch2), .val (.int ch3), .val (.ref d), .val (.ref (own_ad c0 c1 c2 c3 c4 (own_aft (own_aft (own_aft (0) ch1) ch2) ch3))), .val (.int (0 : Int32)), .val (.int (0 : Int32)), .val (.int (1 : Int32))] [(.int (1 : Int32))])) _
        exact retN X393 hx (t := .boolean) Bd.returns (by simp) (hb hby at_195) hr
      · exact ⟨rfl, N393⟩
    · have k396 : ∀ tg, Steps p.tables e below (T385.setTop (mkF m 101 #[.val (.int p1), .val (.int p2), .val (.int p3), .val (.int p4), .val (.int (3 : Int32)), .val (.int ch1), .val (.int ch2), .val (.int ch3), .val (.ref d), .val (.ref (own_ad c0 c1 c2 c3 c4 (own_aft (own_aft (own_aft (0) ch1) ch2) ch3))), .unset, .unset, .unset] [])) tg → Steps p.tables e below (s₁.setTop (entryFrame m #[(.int p1), (.int p2), (.int p3), (.int p4)] maxLocals)) tg := fun tg kg => k386 tg (by
          show Steps p.tables e below (T385.setTop (mkF m 98 #[.val (.int p1), .val (.int p2), .val (.int p3), .val (.int p4), .val (.int (3 : Int32)), .val (.int ch1), .val (.int ch2), .val (.int ch3), .val (.ref d), .val (.ref (own_ad c0 c1 c2 c3 c4 (own_aft (own_aft (own_aft (0) ch1) ch2) ch3))), .unset, .unset, .unset] [(.int (own_sep ch1))])) _
          refine XS.ifNo X385.here hx rfl (hb hby at_98) rfl ((if0 _ _).trans (feq s1).1) ?_
          exact kg)
      have k397 : ∀ tg, Steps p.tables e below (T385.setTop (mkF m 109 #[.val (.int p1), .val (.int p2), .val (.int p3), .val (.int p4), .val (.int (3 : Int32)), .val (.int ch1), .val (.int ch2), .val (.int ch3), .val (.ref d), .val (.ref (own_ad c0 c1 c2 c3 c4 (own_aft (own_aft (own_aft (0) ch1) ch2) ch3))), .unset, .unset, .unset] [(.int ch2)])) tg → Steps p.tables e below (s₁.setTop (entryFrame m #[(.int p1), (.int p2), (.int p3), (.int p4)] maxLocals)) tg := fun tg kg => k396 tg (by
          show Steps p.tables e below (T385.setTop (mkF m 101 #[.val (.int p1), .val (.int p2), .val (.int p3), .val (.int p4), .val (.int (3 : Int32)), .val (.int ch1), .val (.int ch2), .val (.int ch3), .val (.ref d), .val (.ref (own_ad c0 c1 c2 c3 c4 (own_aft (own_aft (own_aft (0) ch1) ch2) ch3))), .unset, .unset, .unset] [])) _
          refine XS.iload X385.here hx rfl (hb hby at_101) rfl ?_
          show Steps p.tables e below (T385.setTop (mkF m 103 #[.val (.int p1), .val (.int p2), .val (.int p3), .val (.int p4), .val (.int (3 : Int32)), .val (.int ch1), .val (.int ch2), .val (.int ch3), .val (.ref d), .val (.ref (own_ad c0 c1 c2 c3 c4 (own_aft (own_aft (own_aft (0) ch1) ch2) ch3))), .unset, .unset, .unset] [(.int (3 : Int32))])) _
          refine XS.iconst X385.here hx rfl (hb hby at_103) ?_
          show Steps p.tables e below (T385.setTop (mkF m 104 #[.val (.int p1), .val (.int p2), .val (.int p3), .val (.int p4), .val (.int (3 : Int32)), .val (.int ch1), .val (.int ch2), .val (.int ch3), .val (.ref d), .val (.ref (own_ad c0 c1 c2 c3 c4 (own_aft (own_aft (own_aft (0) ch1) ch2) ch3))), .unset, .unset, .unset] [(.int (2 : Int32)), (.int (3 : Int32))])) _
          refine XS.icmpNo X385.here hx rfl (hb hby at_104) rfl (flt (by decide)).1 ?_
          show Steps p.tables e below (T385.setTop (mkF m 107 #[.val (.int p1), .val (.int p2), .val (.int p3), .val (.int p4), .val (.int (3 : Int32)), .val (.int ch1), .val (.int ch2), .val (.int ch3), .val (.ref d), .val (.ref (own_ad c0 c1 c2 c3 c4 (own_aft (own_aft (own_aft (0) ch1) ch2) ch3))), .unset, .unset, .unset] [])) _
          refine XS.iload X385.here hx rfl (hb hby at_107) rfl ?_
          exact kg)
      obtain ⟨_, _, ⟨T398, L398, c398, n398⟩, -, X398, ⟨Lc398, hQ398, l398, y398, z398⟩, st398⟩ := Jvm.LawKit.callS X385 hx (y := (⟨"com/example/vaxwire/vaxwire/hl7/ContentIsValuePinLaw", "isSep", "(C)Z"⟩ : MethodName)) hown (mvT hZ (hw _ (List.mem_of_getElem? (i := 75) rfl))) (mvT hZ (hw _ (List.mem_of_getElem? (i := 76) rfl))) (mvT hZ (hw _ (List.mem_of_getElem? (i := 3) rfl))) (mvT hZ (hw _ (List.mem_of_getElem? (i := 77) rfl))) (by decide) (backOf (W := 0) (rm11 l Z a0 hw [] ch2 T382.heap n0 Zx382) hZ (hw _ (List.mem_of_getElem? (i := 77) rfl)) (hw _ (List.mem_of_getElem? (i := 3) rfl)) (by decide) (by decide)) (g := (mkF m 109 #[.val (.int p1), .val (.int p2), .val (.int p3), .val (.int p4), .val (.int (3 : Int32)), .val (.int ch1), .val (.int ch2), .val (.int ch3), .val (.ref d), .val (.ref (own_ad c0 c1 c2 c3 c4 (own_aft (own_aft (own_aft (0) ch1) ch2) ch3))), .unset, .unset, .unset] [(.int ch2)])) rfl (by rw [hml]; rfl) (argsL := [(.int ch2)]) (rest := []) (lenOf own_pd7 rfl) rfl (by show 2 * 0 + _ ≤ _; exact Nat.le_of_eq rfl) (hb hby at_109) (fun _ _ => ⟨rfl, e385, (by decide : 6 + 0 ≤ _), (by decide : 36 + 0 ≤ _)⟩)
      dsimp only [Pt.U, Pt.locs, Pt.cells, Pt.slots] at X398 l398 y398 z398 st398 hQ398
      obtain rfl : c398 = 6 := y398
      obtain rfl : n398 = 36 := z398
      obtain ⟨rfl, N398q, e398⟩ := hQ398
      have N398 := own_frE l398 (Fr.app N385 N398q)
      have k399 : ∀ tg, Steps p.tables e below (T398.setTop (mkF m 112 #[.val (.int p1), .val (.int p2), .val (.int p3), .val (.int p4), .val (.int (3 : Int32)), .val (.int ch1), .val (.int ch2), .val (.int ch3), .val (.ref d), .val (.ref (own_ad c0 c1 c2 c3 c4 (own_aft (own_aft (own_aft (0) ch1) ch2) ch3))), .unset, .unset, .unset] [(.int (own_sep ch2))])) tg → Steps p.tables e below (s₁.setTop (entryFrame m #[(.int p1), (.int p2), (.int p3), (.int p4)] maxLocals)) tg := fun tg kg => k397 tg (st398 tg kg)
      by_cases s2 : own_sep ch2 = (0 : Int32)
      · have k400 : ∀ tg, Steps p.tables e below (T398.setTop (mkF m 133 #[.val (.int p1), .val (.int p2), .val (.int p3), .val (.int p4), .val (.int (3 : Int32)), .val (.int ch1), .val (.int ch2), .val (.int ch3), .val (.ref d), .val (.ref (own_ad c0 c1 c2 c3 c4 (own_aft (own_aft (own_aft (0) ch1) ch2) ch3))), .unset, .unset, .unset] [])) tg → Steps p.tables e below (s₁.setTop (entryFrame m #[(.int p1), (.int p2), (.int p3), (.int p4)] maxLocals)) tg := fun tg kg => k399 tg (by
            show Steps p.tables e below (T398.setTop (mkF m 112 #[.val (.int p1), .val (.int p2), .val (.int p3), .val (.int p4), .val (.int (3 : Int32)), .val (.int ch1), .val (.int ch2), .val (.int ch3), .val (.ref d), .val (.ref (own_ad c0 c1 c2 c3 c4 (own_aft (own_aft (own_aft (0) ch1) ch2) ch3))), .unset, .unset, .unset] [(.int (own_sep ch2))])) _
            refine XS.ifYes X398.here hx rfl (pc0 := 112) (pc' := 133) rfl (hb hby at_112) rfl ((if0 _ _).trans (teq s2).1) (by decide) (by decide) ?_
            exact kg)
        have k401 : ∀ tg, Steps p.tables e below (T398.setTop (mkF m 165 #[.val (.int p1), .val (.int p2), .val (.int p3), .val (.int p4), .val (.int (3 : Int32)), .val (.int ch1), .val (.int ch2), .val (.int ch3), .val (.ref d), .val (.ref (own_ad c0 c1 c2 c3 c4 (own_aft (own_aft (own_aft (0) ch1) ch2) ch3))), .val (.int (0 : Int32)), .val (.int (0 : Int32)), .unset] [(.int (0 : Int32))])) tg → Steps p.tables e below (s₁.setTop (entryFrame m #[(.int p1), (.int p2), (.int p3), (.int p4)] maxLocals)) tg := fun tg kg => k400 tg (by
            show Steps p.tables e below (T398.setTop (mkF m 133 #[.val (.int p1), .val (.int p2), .val (.int p3), .val (.int p4), .val (.int (3 : Int32)), .val (.int ch1), .val (.int ch2), .val (.int ch3), .val (.ref d), .val (.ref (own_ad c0 c1 c2 c3 c4 (own_aft (own_aft (own_aft (0) ch1) ch2) ch3))), .unset, .unset, .unset] [])) _
            refine XS.iconst X398.here hx rfl (hb hby at_133) ?_
            show Steps p.tables e below (T398.setTop (mkF m 134 #[.val (.int p1), .val (.int p2), .val (.int p3), .val (.int p4), .val (.int (3 : Int32)), .val (.int ch1), .val (.int ch2), .val (.int ch3), .val (.ref d), .val (.ref (own_ad c0 c1 c2 c3 c4 (own_aft (own_aft (own_aft (0) ch1) ch2) ch3))), .unset, .unset, .unset] [(.int (0 : Int32))])) _
            refine XS.istore X398.here hx rfl (hb hby at_134) rfl (l' := #[.val (.int p1), .val (.int p2), .val (.int p3), .val (.int p4), .val (.int (3 : Int32)), .val (.int ch1), .val (.int ch2), .val (.int ch3), .val (.ref d), .val (.ref (own_ad c0 c1 c2 c3 c4 (own_aft (own_aft (own_aft (0) ch1) ch2) ch3))), .val (.int (0 : Int32)), .unset, .unset]) rfl ?_
            show Steps p.tables e below (T398.setTop (mkF m 136 #[.val (.int p1), .val (.int p2), .val (.int p3), .val (.int p4), .val (.int (3 : Int32)), .val (.int ch1), .val (.int ch2), .val (.int ch3), .val (.ref d), .val (.ref (own_ad c0 c1 c2 c3 c4 (own_aft (own_aft (own_aft (0) ch1) ch2) ch3))), .val (.int (0 : Int32)), .unset, .unset] [])) _
            refine XS.iload X398.here hx rfl (hb hby at_136) rfl ?_
            show Steps p.tables e below (T398.setTop (mkF m 138 #[.val (.int p1), .val (.int p2), .val (.int p3), .val (.int p4), .val (.int (3 : Int32)), .val (.int ch1), .val (.int ch2), .val (.int ch3), .val (.ref d), .val (.ref (own_ad c0 c1 c2 c3 c4 (own_aft (own_aft (own_aft (0) ch1) ch2) ch3))), .val (.int (0 : Int32)), .unset, .unset] [(.int (3 : Int32))])) _
            refine XS.iconst X398.here hx rfl (hb hby at_138) ?_
            show Steps p.tables e below (T398.setTop (mkF m 139 #[.val (.int p1), .val (.int p2), .val (.int p3), .val (.int p4), .val (.int (3 : Int32)), .val (.int ch1), .val (.int ch2), .val (.int ch3), .val (.ref d), .val (.ref (own_ad c0 c1 c2 c3 c4 (own_aft (own_aft (own_aft (0) ch1) ch2) ch3))), .val (.int (0 : Int32)), .unset, .unset] [(.int (2 : Int32)), (.int (3 : Int32))])) _
            refine XS.icmpYes X398.here hx rfl (pc0 := 139) (pc' := 160) rfl (hb hby at_139) rfl (feq (by decide)).2 (by decide) (by decide) ?_
            show Steps p.tables e below (T398.setTop (mkF m 160 #[.val (.int p1), .val (.int p2), .val (.int p3), .val (.int p4), .val (.int (3 : Int32)), .val (.int ch1), .val (.int ch2), .val (.int ch3), .val (.ref d), .val (.ref (own_ad c0 c1 c2 c3 c4 (own_aft (own_aft (own_aft (0) ch1) ch2) ch3))), .val (.int (0 : Int32)), .unset, .unset] [])) _
            refine XS.iconst X398.here hx rfl (hb hby at_160) ?_
            show Steps p.tables e below (T398.setTop (mkF m 161 #[.val (.int p1), .val (.int p2), .val (.int p3), .val (.int p4), .val (.int (3 : Int32)), .val (.int ch1), .val (.int ch2), .val (.int ch3), .val (.ref d), .val (.ref (own_ad c0 c1 c2 c3 c4 (own_aft (own_aft (own_aft (0) ch1) ch2) ch3))), .val (.int (0 : Int32)), .unset, .unset] [(.int (0 : Int32))])) _
            refine XS.istore X398.here hx rfl (hb hby at_161) rfl (l' := #[.val (.int p1), .val (.int p2), .val (.int p3), .val (.int p4), .val (.int (3 : Int32)), .val (.int ch1), .val (.int ch2), .val (.int ch3), .val (.ref d), .val (.ref (own_ad c0 c1 c2 c3 c4 (own_aft (own_aft (own_aft (0) ch1) ch2) ch3))), .val (.int (0 : Int32)), .val (.int (0 : Int32)), .unset]) rfl ?_
            show Steps p.tables e below (T398.setTop (mkF m 163 #[.val (.int p1), .val (.int p2), .val (.int p3), .val (.int p4), .val (.int (3 : Int32)), .val (.int ch1), .val (.int ch2), .val (.int ch3), .val (.ref d), .val (.ref (own_ad c0 c1 c2 c3 c4 (own_aft (own_aft (own_aft (0) ch1) ch2) ch3))), .val (.int (0 : Int32)), .val (.int (0 : Int32)), .unset] [])) _
            refine XS.iload X398.here hx rfl (hb hby at_163) rfl ?_
            exact kg)
        have k402 : ∀ tg, Steps p.tables e below (T398.setTop (mkF m 168 #[.val (.int p1), .val (.int p2), .val (.int p3), .val (.int p4), .val (.int (3 : Int32)), .val (.int ch1), .val (.int ch2), .val (.int ch3), .val (.ref d), .val (.ref (own_ad c0 c1 c2 c3 c4 (own_aft (own_aft (own_aft (0) ch1) ch2) ch3))), .val (.int (0 : Int32)), .val (.int (0 : Int32)), .unset] [])) tg → Steps p.tables e below (s₁.setTop (entryFrame m #[(.int p1), (.int p2), (.int p3), (.int p4)] maxLocals)) tg := fun tg kg => k401 tg (by
            show Steps p.tables e below (T398.setTop (mkF m 165 #[.val (.int p1), .val (.int p2), .val (.int p3), .val (.int p4), .val (.int (3 : Int32)), .val (.int ch1), .val (.int ch2), .val (.int ch3), .val (.ref d), .val (.ref (own_ad c0 c1 c2 c3 c4 (own_aft (own_aft (own_aft (0) ch1) ch2) ch3))), .val (.int (0 : Int32)), .val (.int (0 : Int32)), .unset] [(.int (0 : Int32))])) _
            refine XS.ifNo X398.here hx rfl (hb hby at_165) rfl ((if0 _ _).trans (teq (by decide)).2) ?_
            exact kg)
        have k403 : ∀ tg, Steps p.tables e below (T398.setTop (mkF m 170 #[.val (.int p1), .val (.int p2), .val (.int p3), .val (.int p4), .val (.int (3 : Int32)), .val (.int ch1), .val (.int ch2), .val (.int ch3), .val (.ref d), .val (.ref (own_ad c0 c1 c2 c3 c4 (own_aft (own_aft (own_aft (0) ch1) ch2) ch3))), .val (.int (0 : Int32)), .val (.int (0 : Int32)), .unset] [(.int (0 : Int32))])) tg → Steps p.tables e below (s₁.setTop (entryFrame m #[(.int p1), (.int p2), (.int p3), (.int p4)] maxLocals)) tg := fun tg kg => k402 tg (by
            show Steps p.tables e below (T398.setTop (mkF m 168 #[.val (.int p1), .val (.int p2), .val (.int p3), .val (.int p4), .val (.int (3 : Int32)), .val (.int ch1), .val (.int ch2), .val (.int ch3), .val (.ref d), .val (.ref (own_ad c0 c1 c2 c3 c4 (own_aft (own_aft (own_aft (0) ch1) ch2) ch3))), .val (.int (0 : Int32)), .val (.int (0 : Int32)), .unset] [])) _
            refine XS.iload X398.here hx rfl (hb hby at_168) rfl ?_
            exact kg)
        have k404 : ∀ tg, Steps p.tables e below (T398.setTop (mkF m 173 #[.val (.int p1), .val (.int p2), .val (.int p3), .val (.int p4), .val (.int (3 : Int32)), .val (.int ch1), .val (.int ch2), .val (.int ch3), .val (.ref d), .val (.ref (own_ad c0 c1 c2 c3 c4 (own_aft (own_aft (own_aft (0) ch1) ch2) ch3))), .val (.int (0 : Int32)), .val (.int (0 : Int32)), .unset] [])) tg → Steps p.tables e below (s₁.setTop (entryFrame m #[(.int p1), (.int p2), (.int p3), (.int p4)] maxLocals)) tg := fun tg kg => k403 tg (by
            show Steps p.tables e below (T398.setTop (mkF m 170 #[.val (.int p1), .val (.int p2), .val (.int p3), .val (.int p4), .val (.int (3 : Int32)), .val (.int ch1), .val (.int ch2), .val (.int ch3), .val (.ref d), .val (.ref (own_ad c0 c1 c2 c3 c4 (own_aft (own_aft (own_aft (0) ch1) ch2) ch3))), .val (.int (0 : Int32)), .val (.int (0 : Int32)), .unset] [(.int (0 : Int32))])) _
            refine XS.ifNo X398.here hx rfl (hb hby at_170) rfl ((if0 _ _).trans (teq (by decide)).2) ?_
            exact kg)
        have k405 : ∀ tg, Steps p.tables e below (T398.setTop (mkF m 182 #[.val (.int p1), .val (.int p2), .val (.int p3), .val (.int p4), .val (.int (3 : Int32)), .val (.int ch1), .val (.int ch2), .val (.int ch3), .val (.ref d), .val (.ref (own_ad c0 c1 c2 c3 c4 (own_aft (own_aft (own_aft (0) ch1) ch2) ch3))), .val (.int (0 : Int32)), .val (.int (0 : Int32)), .val (.int (1 : Int32))] [(.ref (own_ad c0 c1 c2 c3 c4 (own_aft (own_aft (own_aft (0) ch1) ch2) ch3)))])) tg → Steps p.tables e below (s₁.setTop (entryFrame m #[(.int p1), (.int p2), (.int p3), (.int p4)] maxLocals)) tg := fun tg kg => k404 tg (by
            show Steps p.tables e below (T398.setTop (mkF m 173 #[.val (.int p1), .val (.int p2), .val (.int p3), .val (.int p4), .val (.int (3 : Int32)), .val (.int ch1), .val (.int ch2), .val (.int ch3), .val (.ref d), .val (.ref (own_ad c0 c1 c2 c3 c4 (own_aft (own_aft (own_aft (0) ch1) ch2) ch3))), .val (.int (0 : Int32)), .val (.int (0 : Int32)), .unset] [])) _
            refine XS.iconst X398.here hx rfl (hb hby at_173) ?_
            show Steps p.tables e below (T398.setTop (mkF m 174 #[.val (.int p1), .val (.int p2), .val (.int p3), .val (.int p4), .val (.int (3 : Int32)), .val (.int ch1), .val (.int ch2), .val (.int ch3), .val (.ref d), .val (.ref (own_ad c0 c1 c2 c3 c4 (own_aft (own_aft (own_aft (0) ch1) ch2) ch3))), .val (.int (0 : Int32)), .val (.int (0 : Int32)), .unset] [(.int (1 : Int32))])) _
            refine XS.goto X398.here hx rfl (pc0 := 174) (pc' := 178) rfl (hb hby at_174) (by decide) (by decide) ?_
            show Steps p.tables e below (T398.setTop (mkF m 178 #[.val (.int p1), .val (.int p2), .val (.int p3), .val (.int p4), .val (.int (3 : Int32)), .val (.int ch1), .val (.int ch2), .val (.int ch3), .val (.ref d), .val (.ref (own_ad c0 c1 c2 c3 c4 (own_aft (own_aft (own_aft (0) ch1) ch2) ch3))), .val (.int (0 : Int32)), .val (.int (0 : Int32)), .unset] [(.int (1 : Int32))])) _
            refine XS.istore X398.here hx rfl (hb hby at_178) rfl (l' := #[.val (.int p1), .val (.int p2), .val (.int p3), .val (.int p4), .val (.int (3 : Int32)), .val (.int ch1), .val (.int ch2), .val (.int ch3), .val (.ref d), .val (.ref (own_ad c0 c1 c2 c3 c4 (own_aft (own_aft (own_aft (0) ch1) ch2) ch3))), .val (.int (0 : Int32)), .val (.int (0 : Int32)), .val (.int (1 : Int32))]) rfl ?_
            show Steps p.tables e below (T398.setTop (mkF m 180 #[.val (.int p1), .val (.int p2), .val (.int p3), .val (.int p4), .val (.int (3 : Int32)), .val (.int ch1), .val (.int ch2), .val (.int ch3), .val (.ref d), .val (.ref (own_ad c0 c1 c2 c3 c4 (own_aft (own_aft (own_aft (0) ch1) ch2) ch3))), .val (.int (0 : Int32)), .val (.int (0 : Int32)), .val (.int (1 : Int32))] [])) _
            refine XS.aload X398.here hx rfl (hb hby at_180) rfl rfl ?_
            exact kg)
        have hex : Exa Z T382.heap (own_ad c0 c1 c2 c3 c4 (own_aft (own_aft (own_aft (0) ch1) ch2) ch3)) "com/example/vaxwire/vaxwire/hl7/Repetition$Content" := by
          have q5 : (own_aft (own_aft (own_aft (0) ch1) ch2) ch3) < 5 := own_aft5 _ _
          generalize (own_aft (own_aft (own_aft (0) ch1) ch2) ch3) = sx at q5 ⊢
          have : sx = 0 ∨ sx = 1 ∨ sx = 2 ∨ sx = 3 ∨ sx = 4 := by omega
          rcases this with rfl | rfl | rfl | rfl | rfl
          · exact E0.ext XE
          · exact E1.ext XE
          · exact E2.ext XE
          · exact E3.ext XE
          · exact E4.ext XE
        obtain ⟨cq406, kq406, q406a, q406b, q406c⟩ := isOf hZ e398 hex
        obtain ⟨_, _, ⟨T406, L406, c406, n406⟩, -, X406, ⟨Lc406, hQ406, l406, y406, z406⟩, st406⟩ := X398.virtualBack hx (y := (⟨"com/example/vaxwire/vaxwire/hl7/Repetition$Content", "isValue", "()Z"⟩ : MethodName)) (z := (⟨"com/example/vaxwire/vaxwire/hl7/Repetition$Content", "isValue", "()Z"⟩ : MethodName)) hown (mvT hZ (hw _ (List.mem_of_getElem? (i := 11) rfl))) (mvT hZ (hw _ (List.mem_of_getElem? (i := 12) rfl))) (notFace_of_selects (args := #[]) (mvT hZ (hw _ (List.mem_of_getElem? (i := 14) rfl)))) (mvT hZ (hw _ (List.mem_of_getElem? (i := 14) rfl))) (mvT hZ (hw _ (List.mem_of_getElem? (i := 13) rfl))) (by decide) (backOf (W := 0) (rm2 l Z a0 hw [] (own_ad c0 c1 c2 c3 c4 (own_aft (own_aft (own_aft (0) ch1) ch2) ch3)) (own_aft (own_aft (own_aft (0) ch1) ch2) ch3) d c0 c1 c2 c3 c4 T382.heap n0 Zx382 (own_aft5 _ _) rfl Wh0 XE) hZ (hw _ (List.mem_of_getElem? (i := 15) rfl)) (hw _ (List.mem_of_getElem? (i := 9) rfl)) (by decide) (by decide)) q406a q406c (g := (mkF m 182 #[.val (.int p1), .val (.int p2), .val (.int p3), .val (.int p4), .val (.int (3 : Int32)), .val (.int ch1), .val (.int ch2), .val (.int ch3), .val (.ref d), .val (.ref (own_ad c0 c1 c2 c3 c4 (own_aft (own_aft (own_aft (0) ch1) ch2) ch3))), .val (.int (0 : Int32)), .val (.int (0 : Int32)), .val (.int (1 : Int32))] [(.ref (own_ad c0 c1 c2 c3 c4 (own_aft (own_aft (own_aft (0) ch1) ch2) ch3)))])) rfl (by rw [hml]; rfl) (Steps.refl _) (argsL := []) (rest := []) (lenOf own_pd1 rfl) rfl (by show 2 * 0 + _ ≤ _; exact Nat.le_of_eq rfl) (hb hby at_182) (fun _ _ => ⟨rfl, e398, (by decide : 6 + 0 ≤ _), (by decide : 36 + 0 ≤ _)⟩)
        dsimp only [Pt.U, Pt.locs, Pt.cells, Pt.slots] at X406 l406 y406 z406 st406 hQ406
        obtain rfl : c406 = 6 := y406
        obtain rfl : n406 = 36 := z406
        obtain ⟨rfl, N406q, e406⟩ := hQ406
        have N406 := own_frE l406 (Fr.app N398 N406q)
        have k407 : ∀ tg, Steps p.tables e below (T406.setTop (mkF m 185 #[.val (.int p1), .val (.int p2), .val (.int p3), .val (.int p4), .val (.int (3 : Int32)), .val (.int ch1), .val (.int ch2), .val (.int ch3), .val (.ref d), .val (.ref (own_ad c0 c1 c2 c3 c4 (own_aft (own_aft (own_aft (0) ch1) ch2) ch3))), .val (.int (0 : Int32)), .val (.int (0 : Int32)), .val (.int (1 : Int32))] [(.int (own_val (own_aft (own_aft (own_aft (0) ch1) ch2) ch3)))])) tg → Steps p.tables e below (s₁.setTop (entryFrame m #[(.int p1), (.int p2), (.int p3), (.int p4)] maxLocals)) tg := fun tg kg => k405 tg (st406.trans kg)
        have hv : own_val (own_aft (own_aft (own_aft (0) ch1) ch2) ch3) = (1 : Int32) := by rw [own_f3]; simp [s1, s2]
        have k408 : ∀ tg, Steps p.tables e below (T406.setTop (mkF m 195 #[.val (.int p1), .val (.int p2), .val (.int p3), .val (.int p4), .val (.int (3 : Int32)), .val (.int ch1), .val (.int ch2), .val (.int ch3), .val (.ref d), .val (.ref (own_ad c0 c1 c2 c3 c4 (own_aft (own_aft (own_aft (0) ch1) ch2) ch3))), .val (.int (0 : Int32)), .val (.int (0 : Int32)), .val (.int (1 : Int32))] [(.int (1 : Int32))])) tg → Steps p.tables e below (s₁.setTop (entryFrame m #[(.int p1), (.int p2), (.int p3), (.int p4)] maxLocals)) tg := fun tg kg => k407 tg (by
            show Steps p.tables e below (T406.setTop (mkF m 185 #[.val (.int p1), .val (.int p2), .val (.int p3), .val (.int p4), .val (.int (3 : Int32)), .val (.int ch1), .val (.int ch2), .val (.int ch3), .val (.ref d), .val (.ref (own_ad c0 c1 c2 c3 c4 (own_aft (own_aft (own_aft (0) ch1) ch2) ch3))), .val (.int (0 : Int32)), .val (.int (0 : Int32)), .val (.int (1 : Int32))] [(.int (own_val (own_aft (own_aft (own_aft (0) ch1) ch2) ch3)))])) _
            refine XS.iload X406.here hx rfl (hb hby at_185) rfl ?_
            show Steps p.tables e below (T406.setTop (mkF m 187 #[.val (.int p1), .val (.int p2), .val (.int p3), .val (.int p4), .val (.int (3 : Int32)), .val (.int ch1), .val (.int ch2), .val (.int ch3), .val (.ref d), .val (.ref (own_ad c0 c1 c2 c3 c4 (own_aft (own_aft (own_aft (0) ch1) ch2) ch3))), .val (.int (0 : Int32)), .val (.int (0 : Int32)), .val (.int (1 : Int32))] [(.int (1 : Int32)), (.int (own_val (own_aft (own_aft (own_aft (0) ch1) ch2) ch3)))])) _
            refine XS.icmpNo X406.here hx rfl (hb hby at_187) rfl (teq hv).2 ?_
            show Steps p.tables e below (T406.setTop (mkF m 190 #[.val (.int p1), .val (.int p2), .val (.int p3), .val (.int p4), .val (.int (3 : Int32)), .val (.int ch1), .val (.int ch2), .val (.int ch3), .val (.ref d), .val (.ref (own_ad c0 c1 c2 c3 c4 (own_aft (own_aft (own_aft (0) ch1) ch2) ch3))), .val (.int (0 : Int32)), .val (.int (0 : Int32)), .val (.int (1 : Int32))] [])) _
            refine XS.iconst X406.here hx rfl (hb hby at_190) ?_
            show Steps p.tables e below (T406.setTop (mkF m 191 #[.val (.int p1), .val (.int p2), .val (.int p3), .val (.int p4), .val (.int (3 : Int32)), .val (.int ch1), .val (.int ch2), .val (.int ch3), .val (.ref d), .val (.ref (own_ad c0 c1 c2 c3 c4 (own_aft (own_aft (own_aft (0) ch1) ch2) ch3))), .val (.int (0 : Int32)), .val (.int (0 : Int32)), .val (.int (1 : Int32))] [(.int (1 : Int32))])) _
            refine XS.goto X406.here hx rfl (pc0 := 191) (pc' := 195) rfl (hb hby at_191) (by decide) (by decide) ?_
            exact kg)
        obtain ⟨fs, hr, hrun, hended, hend⟩ := Stand.leaveW X406 hS (by rw [e406]; first | exact hk | exact Nat.zero_le _) (v := some (.int (1 : Int32))) (fun h => by rw [Bd.returns] at h; cases h)
        refine ⟨_, _, k408 _ ?_, hrun, hended, _, _, rfl, ?_, own_rmono hend (by decide) (by decide)⟩
        · show Steps p.tables e below (T406.setTop (mkF m 195 #[.val (.int p1), .val (.int p2), .val (.int p3), .val (.int p4), .val (.int (3 : Int32)), .val (.int ch1), .val (.int ch2), .val (.int ch3), .val (.ref d), .val (.ref (own_ad c0 c1 c2 c3 c4 (own_aft (own_aft (own_aft (0) ch1) ch2) ch3))), .val (.int (0 : Int32)), .val (.int (0 : Int32)), .val (.int (1 : Int32))] [(.int (1 : Int32))])) _
          exact retN X406 hx (t := .boolean) Bd.returns (by simp) (hb hby at_195) hr
        · exact ⟨rfl, N406⟩
      · have k409 : ∀ tg, Steps p.tables e below (T398.setTop (mkF m 115 #[.val (.int p1), .val (.int p2), .val (.int p3), .val (.int p4), .val (.int (3 : Int32)), .val (.int ch1), .val (.int ch2), .val (.int ch3), .val (.ref d), .val (.ref (own_ad c0 c1 c2 c3 c4 (own_aft (own_aft (own_aft (0) ch1) ch2) ch3))), .unset, .unset, .unset] [])) tg → Steps p.tables e below (s₁.setTop (entryFrame m #[(.int p1), (.int p2), (.int p3), (.int p4)] maxLocals)) tg := fun tg kg => k399 tg (by
            show Steps p.tables e below (T398.setTop (mkF m 112 #[.val (.int p1), .val (.int p2), .val (.int p3), .val (.int p4), .val (.int (3 : Int32)), .val (.int ch1), .val (.int ch2), .val (.int ch3), .val (.ref d), .val (.ref (own_ad c0 c1 c2 c3 c4 (own_aft (own_aft (own_aft (0) ch1) ch2) ch3))), .unset, .unset, .unset] [(.int (own_sep ch2))])) _
            refine XS.ifNo X398.here hx rfl (hb hby at_112) rfl ((if0 _ _).trans (feq s2).1) ?_
            exact kg)
        have k410 : ∀ tg, Steps p.tables e below (T398.setTop (mkF m 123 #[.val (.int p1), .val (.int p2), .val (.int p3), .val (.int p4), .val (.int (3 : Int32)), .val (.int ch1), .val (.int ch2), .val (.int ch3), .val (.ref d), .val (.ref (own_ad c0 c1 c2 c3 c4 (own_aft (own_aft (own_aft (0) ch1) ch2) ch3))), .unset, .unset, .unset] [(.int ch3)])) tg → Steps p.tables e below (s₁.setTop (entryFrame m #[(.int p1), (.int p2), (.int p3), (.int p4)] maxLocals)) tg := fun tg kg => k409 tg (by
            show Steps p.tables e below (T398.setTop (mkF m 115 #[.val (.int p1), .val (.int p2), .val (.int p3), .val (.int p4), .val (.int (3 : Int32)), .val (.int ch1), .val (.int ch2), .val (.int ch3), .val (.ref d), .val (.ref (own_ad c0 c1 c2 c3 c4 (own_aft (own_aft (own_aft (0) ch1) ch2) ch3))), .unset, .unset, .unset] [])) _
            refine XS.iload X398.here hx rfl (hb hby at_115) rfl ?_
            show Steps p.tables e below (T398.setTop (mkF m 117 #[.val (.int p1), .val (.int p2), .val (.int p3), .val (.int p4), .val (.int (3 : Int32)), .val (.int ch1), .val (.int ch2), .val (.int ch3), .val (.ref d), .val (.ref (own_ad c0 c1 c2 c3 c4 (own_aft (own_aft (own_aft (0) ch1) ch2) ch3))), .unset, .unset, .unset] [(.int (3 : Int32))])) _
            refine XS.iconst X398.here hx rfl (hb hby at_117) ?_
            show Steps p.tables e below (T398.setTop (mkF m 118 #[.val (.int p1), .val (.int p2), .val (.int p3), .val (.int p4), .val (.int (3 : Int32)), .val (.int ch1), .val (.int ch2), .val (.int ch3), .val (.ref d), .val (.ref (own_ad c0 c1 c2 c3 c4 (own_aft (own_aft (own_aft (0) ch1) ch2) ch3))), .unset, .unset, .unset] [(.int (3 : Int32)), (.int (3 : Int32))])) _
            refine XS.icmpNo X398.here hx rfl (hb hby at_118) rfl (flt (by decide)).1 ?_
            show Steps p.tables e below (T398.setTop (mkF m 121 #[.val (.int p1), .val (.int p2), .val (.int p3), .val (.int p4), .val (.int (3 : Int32)), .val (.int ch1), .val (.int ch2), .val (.int ch3), .val (.ref d), .val (.ref (own_ad c0 c1 c2 c3 c4 (own_aft (own_aft (own_aft (0) ch1) ch2) ch3))), .unset, .unset, .unset] [])) _
            refine XS.iload X398.here hx rfl (hb hby at_121) rfl ?_
            exact kg)
        obtain ⟨_, _, ⟨T411, L411, c411, n411⟩, -, X411, ⟨Lc411, hQ411, l411, y411, z411⟩, st411⟩ := Jvm.LawKit.callS X398 hx (y := (⟨"com/example/vaxwire/vaxwire/hl7/ContentIsValuePinLaw", "isSep", "(C)Z"⟩ : MethodName)) hown (mvT hZ (hw _ (List.mem_of_getElem? (i := 75) rfl))) (mvT hZ (hw _ (List.mem_of_getElem? (i := 76) rfl))) (mvT hZ (hw _ (List.mem_of_getElem? (i := 3) rfl))) (mvT hZ (hw _ (List.mem_of_getElem? (i := 77) rfl))) (by decide) (backOf (W := 0) (rm11 l Z a0 hw [] ch3 T382.heap n0 Zx382) hZ (hw _ (List.mem_of_getElem? (i := 77) rfl)) (hw _ (List.mem_of_getElem? (i := 3) rfl)) (by decide) (by decide)) (g := (mkF m 123 #[.val (.int p1), .val (.int p2), .val (.int p3), .val (.int p4), .val (.int (3 : Int32)), .val (.int ch1), .val (.int ch2), .val (.int ch3), .val (.ref d), .val (.ref (own_ad c0 c1 c2 c3 c4 (own_aft (own_aft (own_aft (0) ch1) ch2) ch3))), .unset, .unset, .unset] [(.int ch3)])) rfl (by rw [hml]; rfl) (argsL := [(.int ch3)]) (rest := []) (lenOf own_pd7 rfl) rfl (by show 2 * 0 + _ ≤ _; exact Nat.le_of_eq rfl) (hb hby at_123) (fun _ _ => ⟨rfl, e398, (by decide : 6 + 0 ≤ _), (by decide : 36 + 0 ≤ _)⟩)
        dsimp only [Pt.U, Pt.locs, Pt.cells, Pt.slots] at X411 l411 y411 z411 st411 hQ411
        obtain rfl : c411 = 6 := y411
        obtain rfl : n411 = 36 := z411
        obtain ⟨rfl, N411q, e411⟩ := hQ411
        have N411 := own_frE l411 (Fr.app N398 N411q)
        have k412 : ∀ tg, Steps p.tables e below (T411.setTop (mkF m 126 #[.val (.int p1), .val (.int p2), .val (.int p3), .val (.int p4), .val (.int (3 : Int32)), .val (.int ch1), .val (.int ch2), .val (.int ch3), .val (.ref d), .val (.ref (own_ad c0 c1 c2 c3 c4 (own_aft (own_aft (own_aft (0) ch1) ch2) ch3))), .unset, .unset, .unset] [(.int (own_sep ch3))])) tg → Steps p.tables e below (s₁.setTop (entryFrame m #[(.int p1), (.int p2), (.int p3), (.int p4)] maxLocals)) tg := fun tg kg => k410 tg (st411 tg kg)
        by_cases s3 : own_sep ch3 = (0 : Int32)
        · have k413 : ∀ tg, Steps p.tables e below (T411.setTop (mkF m 133 #[.val (.int p1), .val (.int p2), .val (.int p3), .val (.int p4), .val (.int (3 : Int32)), .val (.int ch1), .val (.int ch2), .val (.int ch3), .val (.ref d), .val (.ref (own_ad c0 c1 c2 c3 c4 (own_aft (own_aft (own_aft (0) ch1) ch2) ch3))), .unset, .unset, .unset] [])) tg → Steps p.tables e below (s₁.setTop (entryFrame m #[(.int p1), (.int p2), (.int p3), (.int p4)] maxLocals)) tg := fun tg kg => k412 tg (by
              show Steps p.tables e below (T411.setTop (mkF m 126 #[.val (.int p1), .val (.int p2), .val (.int p3), .val (.int p4), .val (.int (3 : Int32)), .val (.int ch1), .val (.int ch2), .val (.int ch3), .val (.ref d), .val (.ref (own_ad c0 c1 c2 c3 c4 (own_aft (own_aft (own_aft (0) ch1) ch2) ch3))), .unset, .unset, .unset] [(.int (own_sep ch3))])) _
              refine XS.ifYes X411.here hx rfl (pc0 := 126) (pc' := 133) rfl (hb hby at_126) rfl ((if0 _ _).trans (teq s3).1) (by decide) (by decide) ?_
              exact kg)
          have k414 : ∀ tg, Steps p.tables e below (T411.setTop (mkF m 165 #[.val (.int p1), .val (.int p2), .val (.int p3), .val (.int p4), .val (.int (3 : Int32)), .val (.int ch1), .val (.int ch2), .val (.int ch3), .val (.ref d), .val (.ref (own_ad c0 c1 c2 c3 c4 (own_aft (own_aft (own_aft (0) ch1) ch2) ch3))), .val (.int (0 : Int32)), .val (.int (0 : Int32)), .unset] [(.int (0 : Int32))])) tg → Steps p.tables e below (s₁.setTop (entryFrame m #[(.int p1), (.int p2), (.int p3), (.int p4)] maxLocals)) tg := fun tg kg => k413 tg (by
              show Steps p.tables e below (T411.setTop (mkF m 133 #[.val (.int p1), .val (.int p2), .val (.int p3), .val (.int p4), .val (.int (3 : Int32)), .val (.int ch1), .val (.int ch2), .val (.int ch3), .val (.ref d), .val (.ref (own_ad c0 c1 c2 c3 c4 (own_aft (own_aft (own_aft (0) ch1) ch2) ch3))), .unset, .unset, .unset] [])) _
              refine XS.iconst X411.here hx rfl (hb hby at_133) ?_
              show Steps p.tables e below (T411.setTop (mkF m 134 #[.val (.int p1), .val (.int p2), .val (.int p3), .val (.int p4), .val (.int (3 : Int32)), .val (.int ch1), .val (.int ch2), .val (.int ch3), .val (.ref d), .val (.ref (own_ad c0 c1 c2 c3 c4 (own_aft (own_aft (own_aft (0) ch1) ch2) ch3))), .unset, .unset, .unset] [(.int (0 : Int32))])) _
              refine XS.istore X411.here hx rfl (hb hby at_134) rfl (l' := #[.val (.int p1), .val (.int p2), .val (.int p3), .val (.int p4), .val (.int (3 : Int32)), .val (.int ch1), .val (.int ch2), .val (.int ch3), .val (.ref d), .val (.ref (own_ad c0 c1 c2 c3 c4 (own_aft (own_aft (own_aft (0) ch1) ch2) ch3))), .val (.int (0 : Int32)), .unset, .unset]) rfl ?_
              show Steps p.tables e below (T411.setTop (mkF m 136 #[.val (.int p1), .val (.int p2), .val (.int p3), .val (.int p4), .val (.int (3 : Int32)), .val (.int ch1), .val (.int ch2), .val (.int ch3), .val (.ref d), .val (.ref (own_ad c0 c1 c2 c3 c4 (own_aft (own_aft (own_aft (0) ch1) ch2) ch3))), .val (.int (0 : Int32)), .unset, .unset] [])) _
              refine XS.iload X411.here hx rfl (hb hby at_136) rfl ?_
              show Steps p.tables e below (T411.setTop (mkF m 138 #[.val (.int p1), .val (.int p2), .val (.int p3), .val (.int p4), .val (.int (3 : Int32)), .val (.int ch1), .val (.int ch2), .val (.int ch3), .val (.ref d), .val (.ref (own_ad c0 c1 c2 c3 c4 (own_aft (own_aft (own_aft (0) ch1) ch2) ch3))), .val (.int (0 : Int32)), .unset, .unset] [(.int (3 : Int32))])) _
              refine XS.iconst X411.here hx rfl (hb hby at_138) ?_
              show Steps p.tables e below (T411.setTop (mkF m 139 #[.val (.int p1), .val (.int p2), .val (.int p3), .val (.int p4), .val (.int (3 : Int32)), .val (.int ch1), .val (.int ch2), .val (.int ch3), .val (.ref d), .val (.ref (own_ad c0 c1 c2 c3 c4 (own_aft (own_aft (own_aft (0) ch1) ch2) ch3))), .val (.int (0 : Int32)), .unset, .unset] [(.int (2 : Int32)), (.int (3 : Int32))])) _
              refine XS.icmpYes X411.here hx rfl (pc0 := 139) (pc' := 160) rfl (hb hby at_139) rfl (feq (by decide)).2 (by decide) (by decide) ?_
              show Steps p.tables e below (T411.setTop (mkF m 160 #[.val (.int p1), .val (.int p2), .val (.int p3), .val (.int p4), .val (.int (3 : Int32)), .val (.int ch1), .val (.int ch2), .val (.int ch3), .val (.ref d), .val (.ref (own_ad c0 c1 c2 c3 c4 (own_aft (own_aft (own_aft (0) ch1) ch2) ch3))), .val (.int (0 : Int32)), .unset, .unset] [])) _
              refine XS.iconst X411.here hx rfl (hb hby at_160) ?_
              show Steps p.tables e below (T411.setTop (mkF m 161 #[.val (.int p1), .val (.int p2), .val (.int p3), .val (.int p4), .val (.int (3 : Int32)), .val (.int ch1), .val (.int ch2), .val (.int ch3), .val (.ref d), .val (.ref (own_ad c0 c1 c2 c3 c4 (own_aft (own_aft (own_aft (0) ch1) ch2) ch3))), .val (.int (0 : Int32)), .unset, .unset] [(.int (0 : Int32))])) _
              refine XS.istore X411.here hx rfl (hb hby at_161) rfl (l' := #[.val (.int p1), .val (.int p2), .val (.int p3), .val (.int p4), .val (.int (3 : Int32)), .val (.int ch1), .val (.int ch2), .val (.int ch3), .val (.ref d), .val (.ref (own_ad c0 c1 c2 c3 c4 (own_aft (own_aft (own_aft (0) ch1) ch2) ch3))), .val (.int (0 : Int32)), .val (.int (0 : Int32)), .unset]) rfl ?_
              show Steps p.tables e below (T411.setTop (mkF m 163 #[.val (.int p1), .val (.int p2), .val (.int p3), .val (.int p4), .val (.int (3 : Int32)), .val (.int ch1), .val (.int ch2), .val (.int ch3), .val (.ref d), .val (.ref (own_ad c0 c1 c2 c3 c4 (own_aft (own_aft (own_aft (0) ch1) ch2) ch3))), .val (.int (0 : Int32)), .val (.int (0 : Int32)), .unset] [])) _
              refine XS.iload X411.here hx rfl (hb hby at_163) rfl ?_
              exact kg)
          have k415 : ∀ tg, Steps p.tables e below (T411.setTop (mkF m 168 #[.val (.int p1), .val (.int p2), .val (.int p3), .val (.int p4), .val (.int (3 : Int32)), .val (.int ch1), .val (.int ch2), .val (.int ch3), .val (.ref d), .val (.ref (own_ad c0 c1 c2 c3 c4 (own_aft (own_aft (own_aft (0) ch1) ch2) ch3))), .val (.int (0 : Int32)), .val (.int (0 : Int32)), .unset] [])) tg → Steps p.tables e below (s₁.setTop (entryFrame m #[(.int p1), (.int p2), (.int p3), (.int p4)] maxLocals)) tg := fun tg kg => k414 tg (by
              show Steps p.tables e below (T411.setTop (mkF m 165 #[.val (.int p1), .val (.int p2), .val (.int p3), .val (.int p4), .val (.int (3 : Int32)), .val (.int ch1), .val (.int ch2), .val (.int ch3), .val (.ref d), .val (.ref (own_ad c0 c1 c2 c3 c4 (own_aft (own_aft (own_aft (0) ch1) ch2) ch3))), .val (.int (0 : Int32)), .val (.int (0 : Int32)), .unset] [(.int (0 : Int32))])) _
              refine XS.ifNo X411.here hx rfl (hb hby at_165) rfl ((if0 _ _).trans (teq (by decide)).2) ?_
              exact kg)
          have k416 : ∀ tg, Steps p.tables e below (T411.setTop (mkF m 170 #[.val (.int p1), .val (.int p2), .val (.int p3), .val (.int p4), .val (.int (3 : Int32)), .val (.int ch1), .val (.int ch2), .val (.int ch3), .val (.ref d), .val (.ref (own_ad c0 c1 c2 c3 c4 (own_aft (own_aft (own_aft (0) ch1) ch2) ch3))), .val (.int (0 : Int32)), .val (.int (0 : Int32)), .unset] [(.int (0 : Int32))])) tg → Steps p.tables e below (s₁.setTop (entryFrame m #[(.int p1), (.int p2), (.int p3), (.int p4)] maxLocals)) tg := fun tg kg => k415 tg (by
              show Steps p.tables e below (T411.setTop (mkF m 168 #[.val (.int p1), .val (.int p2), .val (.int p3), .val (.int p4), .val (.int (3 : Int32)), .val (.int ch1), .val (.int ch2), .val (.int ch3), .val (.ref d), .val (.ref (own_ad c0 c1 c2 c3 c4 (own_aft (own_aft (own_aft (0) ch1) ch2) ch3))), .val (.int (0 : Int32)), .val (.int (0 : Int32)), .unset] [])) _
              refine XS.iload X411.here hx rfl (hb hby at_168) rfl ?_
              exact kg)
          have k417 : ∀ tg, Steps p.tables e below (T411.setTop (mkF m 173 #[.val (.int p1), .val (.int p2), .val (.int p3), .val (.int p4), .val (.int (3 : Int32)), .val (.int ch1), .val (.int ch2), .val (.int ch3), .val (.ref d), .val (.ref (own_ad c0 c1 c2 c3 c4 (own_aft (own_aft (own_aft (0) ch1) ch2) ch3))), .val (.int (0 : Int32)), .val (.int (0 : Int32)), .unset] [])) tg → Steps p.tables e below (s₁.setTop (entryFrame m #[(.int p1), (.int p2), (.int p3), (.int p4)] maxLocals)) tg := fun tg kg => k416 tg (by
              show Steps p.tables e below (T411.setTop (mkF m 170 #[.val (.int p1), .val (.int p2), .val (.int p3), .val (.int p4), .val (.int (3 : Int32)), .val (.int ch1), .val (.int ch2), .val (.int ch3), .val (.ref d), .val (.ref (own_ad c0 c1 c2 c3 c4 (own_aft (own_aft (own_aft (0) ch1) ch2) ch3))), .val (.int (0 : Int32)), .val (.int (0 : Int32)), .unset] [(.int (0 : Int32))])) _
              refine XS.ifNo X411.here hx rfl (hb hby at_170) rfl ((if0 _ _).trans (teq (by decide)).2) ?_
              exact kg)
          have k418 : ∀ tg, Steps p.tables e below (T411.setTop (mkF m 182 #[.val (.int p1), .val (.int p2), .val (.int p3), .val (.int p4), .val (.int (3 : Int32)), .val (.int ch1), .val (.int ch2), .val (.int ch3), .val (.ref d), .val (.ref (own_ad c0 c1 c2 c3 c4 (own_aft (own_aft (own_aft (0) ch1) ch2) ch3))), .val (.int (0 : Int32)), .val (.int (0 : Int32)), .val (.int (1 : Int32))] [(.ref (own_ad c0 c1 c2 c3 c4 (own_aft (own_aft (own_aft (0) ch1) ch2) ch3)))])) tg → Steps p.tables e below (s₁.setTop (entryFrame m #[(.int p1), (.int p2), (.int p3), (.int p4)] maxLocals)) tg := fun tg kg => k417 tg (by
              show Steps p.tables e below (T411.setTop (mkF m 173 #[.val (.int p1), .val (.int p2), .val (.int p3), .val (.int p4), .val (.int (3 : Int32)), .val (.int ch1), .val (.int ch2), .val (.int ch3), .val (.ref d), .val (.ref (own_ad c0 c1 c2 c3 c4 (own_aft (own_aft (own_aft (0) ch1) ch2) ch3))), .val (.int (0 : Int32)), .val (.int (0 : Int32)), .unset] [])) _
              refine XS.iconst X411.here hx rfl (hb hby at_173) ?_
              show Steps p.tables e below (T411.setTop (mkF m 174 #[.val (.int p1), .val (.int p2), .val (.int p3), .val (.int p4), .val (.int (3 : Int32)), .val (.int ch1), .val (.int ch2), .val (.int ch3), .val (.ref d), .val (.ref (own_ad c0 c1 c2 c3 c4 (own_aft (own_aft (own_aft (0) ch1) ch2) ch3))), .val (.int (0 : Int32)), .val (.int (0 : Int32)), .unset] [(.int (1 : Int32))])) _
              refine XS.goto X411.here hx rfl (pc0 := 174) (pc' := 178) rfl (hb hby at_174) (by decide) (by decide) ?_
              show Steps p.tables e below (T411.setTop (mkF m 178 #[.val (.int p1), .val (.int p2), .val (.int p3), .val (.int p4), .val (.int (3 : Int32)), .val (.int ch1), .val (.int ch2), .val (.int ch3), .val (.ref d), .val (.ref (own_ad c0 c1 c2 c3 c4 (own_aft (own_aft (own_aft (0) ch1) ch2) ch3))), .val (.int (0 : Int32)), .val (.int (0 : Int32)), .unset] [(.int (1 : Int32))])) _
              refine XS.istore X411.here hx rfl (hb hby at_178) rfl (l' := #[.val (.int p1), .val (.int p2), .val (.int p3), .val (.int p4), .val (.int (3 : Int32)), .val (.int ch1), .val (.int ch2), .val (.int ch3), .val (.ref d), .val (.ref (own_ad c0 c1 c2 c3 c4 (own_aft (own_aft (own_aft (0) ch1) ch2) ch3))), .val (.int (0 : Int32)), .val (.int (0 : Int32)), .val (.int (1 : Int32))]) rfl ?_
              show Steps p.tables e below (T411.setTop (mkF m 180 #[.val (.int p1), .val (.int p2), .val (.int p3), .val (.int p4), .val (.int (3 : Int32)), .val (.int ch1), .val (.int ch2), .val (.int ch3), .val (.ref d), .val (.ref (own_ad c0 c1 c2 c3 c4 (own_aft (own_aft (own_aft (0) ch1) ch2) ch3))), .val (.int (0 : Int32)), .val (.int (0 : Int32)), .val (.int (1 : Int32))] [])) _
              refine XS.aload X411.here hx rfl (hb hby at_180) rfl rfl ?_
              exact kg)
          have hex : Exa Z T382.heap (own_ad c0 c1 c2 c3 c4 (own_aft (own_aft (own_aft (0) ch1) ch2) ch3)) "com/example/vaxwire/vaxwire/hl7/Repetition$Content" := by
            have q5 : (own_aft (own_aft (own_aft (0) ch1) ch2) ch3) < 5 := own_aft5 _ _
            generalize (own_aft (own_aft (own_aft (0) ch1) ch2) ch3) = sx at q5 ⊢
            have : sx = 0 ∨ sx = 1 ∨ sx = 2 ∨ sx = 3 ∨ sx = 4 := by omega
            rcases this with rfl | rfl | rfl | rfl | rfl
            · exact E0.ext XE
            · exact E1.ext XE
            · exact E2.ext XE
            · exact E3.ext XE
            · exact E4.ext XE
          obtain ⟨cq419, kq419, q419a, q419b, q419c⟩ := isOf hZ e411 hex
          obtain ⟨_, _, ⟨T419, L419, c419, n419⟩, -, X419, ⟨Lc419, hQ419, l419, y419, z419⟩, st419⟩ := X411.virtualBack hx (y := (⟨"com/example/vaxwire/vaxwire/hl7/Repetition$Content", "isValue", "()Z"⟩ : MethodName)) (z := (⟨"com/example/vaxwire/vaxwire/hl7/Repetition$Content", "isValue", "()Z"⟩ : MethodName)) hown (mvT hZ (hw _ (List.mem_of_getElem? (i := 11) rfl))) (mvT hZ (hw _ (List.mem_of_getElem? (i := 12) rfl))) (notFace_of_selects (args := #[]) (mvT hZ (hw _ (List.mem_of_getElem? (i := 14) rfl)))) (mvT hZ (hw _ (List.mem_of_getElem? (i := 14) rfl))) (mvT hZ (hw _ (List.mem_of_getElem? (i := 13) rfl))) (by decide) (backOf (W := 0) (rm2 l Z a0 hw [] (own_ad c0 c1 c2 c3 c4 (own_aft (own_aft (own_aft (0) ch1) ch2) ch3)) (own_aft (own_aft (own_aft (0) ch1) ch2) ch3) d c0 c1 c2 c3 c4 T382.heap n0 Zx382 (own_aft5 _ _) rfl Wh0 XE) hZ (hw _ (List.mem_of_getElem? (i := 15) rfl)) (hw _ (List.mem_of_getElem? (i := 9) rfl)) (by decide) (by decide)) q419a q419c (g := (mkF m 182 #[.val (.int p1), .val (.int p2), .val (.int p3), .val (.int p4), .val (.int (3 : Int32)), .val (.int ch1), .val (.int ch2), .val (.int ch3), .val (.ref d), .val (.ref (own_ad c0 c1 c2 c3 c4 (own_aft (own_aft (own_aft (0) ch1) ch2) ch3))), .val (.int (0 : Int32)), .val (.int (0 : Int32)), .val (.int (1 : Int32))] [(.ref (own_ad c0 c1 c2 c3 c4 (own_aft (own_aft (own_aft (0) ch1) ch2) ch3)))])) rfl (by rw [hml]; rfl) (Steps.refl _) (argsL := []) (rest := []) (lenOf own_pd1 rfl) rfl (by show 2 * 0 + _ ≤ _; exact Nat.le_of_eq rfl) (hb hby at_182) (fun _ _ => ⟨rfl, e411, (by decide : 6 + 0 ≤ _), (by decide : 36 + 0 ≤ _)⟩)
          dsimp only [Pt.U, Pt.locs, Pt.cells, Pt.slots] at X419 l419 y419 z419 st419 hQ419
          obtain rfl : c419 = 6 := y419
          obtain rfl : n419 = 36 := z419
          obtain ⟨rfl, N419q, e419⟩ := hQ419
          have N419 := own_frE l419 (Fr.app N411 N419q)
          have k420 : ∀ tg, Steps p.tables e below (T419.setTop (mkF m 185 #[.val (.int p1), .val (.int p2), .val (.int p3), .val (.int p4), .val (.int (3 : Int32)), .val (.int ch1), .val (.int ch2), .val (.int ch3), .val (.ref d), .val (.ref (own_ad c0 c1 c2 c3 c4 (own_aft (own_aft (own_aft (0) ch1) ch2) ch3))), .val (.int (0 : Int32)), .val (.int (0 : Int32)), .val (.int (1 : Int32))] [(.int (own_val (own_aft (own_aft (own_aft (0) ch1) ch2) ch3)))])) tg → Steps p.tables e below (s₁.setTop (entryFrame m #[(.int p1), (.int p2), (.int p3), (.int p4)] maxLocals)) tg := fun tg kg => k418 tg (st419.trans kg)
          have hv : own_val (own_aft (own_aft (own_aft (0) ch1) ch2) ch3) = (1 : Int32) := by rw [own_f3]; simp [s1, s2, s3]
          have k421 : ∀ tg, Steps p.tables e below (T419.setTop (mkF m 195 #[.val (.int p1), .val (.int p2), .val (.int p3), .val (.int p4), .val (.int (3 : Int32)), .val (.int ch1), .val (.int ch2), .val (.int ch3), .val (.ref d), .val (.ref (own_ad c0 c1 c2 c3 c4 (own_aft (own_aft (own_aft (0) ch1) ch2) ch3))), .val (.int (0 : Int32)), .val (.int (0 : Int32)), .val (.int (1 : Int32))] [(.int (1 : Int32))])) tg → Steps p.tables e below (s₁.setTop (entryFrame m #[(.int p1), (.int p2), (.int p3), (.int p4)] maxLocals)) tg := fun tg kg => k420 tg (by
              show Steps p.tables e below (T419.setTop (mkF m 185 #[.val (.int p1), .val (.int p2), .val (.int p3), .val (.int p4), .val (.int (3 : Int32)), .val (.int ch1), .val (.int ch2), .val (.int ch3), .val (.ref d), .val (.ref (own_ad c0 c1 c2 c3 c4 (own_aft (own_aft (own_aft (0) ch1) ch2) ch3))), .val (.int (0 : Int32)), .val (.int (0 : Int32)), .val (.int (1 : Int32))] [(.int (own_val (own_aft (own_aft (own_aft (0) ch1) ch2) ch3)))])) _
              refine XS.iload X419.here hx rfl (hb hby at_185) rfl ?_
              show Steps p.tables e below (T419.setTop (mkF m 187 #[.val (.int p1), .val (.int p2), .val (.int p3), .val (.int p4), .val (.int (3 : Int32)), .val (.int ch1), .val (.int ch2), .val (.int ch3), .val (.ref d), .val (.ref (own_ad c0 c1 c2 c3 c4 (own_aft (own_aft (own_aft (0) ch1) ch2) ch3))), .val (.int (0 : Int32)), .val (.int (0 : Int32)), .val (.int (1 : Int32))] [(.int (1 : Int32)), (.int (own_val (own_aft (own_aft (own_aft (0) ch1) ch2) ch3)))])) _
              refine XS.icmpNo X419.here hx rfl (hb hby at_187) rfl (teq hv).2 ?_
              show Steps p.tables e below (T419.setTop (mkF m 190 #[.val (.int p1), .val (.int p2), .val (.int p3), .val (.int p4), .val (.int (3 : Int32)), .val (.int ch1), .val (.int ch2), .val (.int ch3), .val (.ref d), .val (.ref (own_ad c0 c1 c2 c3 c4 (own_aft (own_aft (own_aft (0) ch1) ch2) ch3))), .val (.int (0 : Int32)), .val (.int (0 : Int32)), .val (.int (1 : Int32))] [])) _
              refine XS.iconst X419.here hx rfl (hb hby at_190) ?_
              show Steps p.tables e below (T419.setTop (mkF m 191 #[.val (.int p1), .val (.int p2), .val (.int p3), .val (.int p4), .val (.int (3 : Int32)), .val (.int ch1), .val (.int ch2), .val (.int ch3), .val (.ref d), .val (.ref (own_ad c0 c1 c2 c3 c4 (own_aft (own_aft (own_aft (0) ch1) ch2) ch3))), .val (.int (0 : Int32)), .val (.int (0 : Int32)), .val (.int (1 : Int32))] [(.int (1 : Int32))])) _
              refine XS.goto X419.here hx rfl (pc0 := 191) (pc' := 195) rfl (hb hby at_191) (by decide) (by decide) ?_
              exact kg)
          obtain ⟨fs, hr, hrun, hended, hend⟩ := Stand.leaveW X419 hS (by rw [e419]; first | exact hk | exact Nat.zero_le _) (v := some (.int (1 : Int32))) (fun h => by rw [Bd.returns] at h; cases h)
          refine ⟨_, _, k421 _ ?_, hrun, hended, _, _, rfl, ?_, own_rmono hend (by decide) (by decide)⟩
          · show Steps p.tables e below (T419.setTop (mkF m 195 #[.val (.int p1), .val (.int p2), .val (.int p3), .val (.int p4), .val (.int (3 : Int32)), .val (.int ch1), .val (.int ch2), .val (.int ch3), .val (.ref d), .val (.ref (own_ad c0 c1 c2 c3 c4 (own_aft (own_aft (own_aft (0) ch1) ch2) ch3))), .val (.int (0 : Int32)), .val (.int (0 : Int32)), .val (.int (1 : Int32))] [(.int (1 : Int32))])) _
            exact retN X419 hx (t := .boolean) Bd.returns (by simp) (hb hby at_195) hr
          · exact ⟨rfl, N419⟩
        · have k422 : ∀ tg, Steps p.tables e below (T411.setTop (mkF m 129 #[.val (.int p1), .val (.int p2), .val (.int p3), .val (.int p4), .val (.int (3 : Int32)), .val (.int ch1), .val (.int ch2), .val (.int ch3), .val (.ref d), .val (.ref (own_ad c0 c1 c2 c3 c4 (own_aft (own_aft (own_aft (0) ch1) ch2) ch3))), .unset, .unset, .unset] [])) tg → Steps p.tables e below (s₁.setTop (entryFrame m #[(.int p1), (.int p2), (.int p3), (.int p4)] maxLocals)) tg := fun tg kg => k412 tg (by
              show Steps p.tables e below (T411.setTop (mkF m 126 #[.val (.int p1), .val (.int p2), .val (.int p3), .val (.int p4), .val (.int (3 : Int32)), .val (.int ch1), .val (.int ch2), .val (.int ch3), .val (.ref d), .val (.ref (own_ad c0 c1 c2 c3 c4 (own_aft (own_aft (own_aft (0) ch1) ch2) ch3))), .unset, .unset, .unset] [(.int (own_sep ch3))])) _
              refine XS.ifNo X411.here hx rfl (hb hby at_126) rfl ((if0 _ _).trans (feq s3).1) ?_
              exact kg)
          have k423 : ∀ tg, Steps p.tables e below (T411.setTop (mkF m 165 #[.val (.int p1), .val (.int p2), .val (.int p3), .val (.int p4), .val (.int (3 : Int32)), .val (.int ch1), .val (.int ch2), .val (.int ch3), .val (.ref d), .val (.ref (own_ad c0 c1 c2 c3 c4 (own_aft (own_aft (own_aft (0) ch1) ch2) ch3))), .val (.int (1 : Int32)), .val (.int (0 : Int32)), .unset] [(.int (1 : Int32))])) tg → Steps p.tables e below (s₁.setTop (entryFrame m #[(.int p1), (.int p2), (.int p3), (.int p4)] maxLocals)) tg := fun tg kg => k422 tg (by
              show Steps p.tables e below (T411.setTop (mkF m 129 #[.val (.int p1), .val (.int p2), .val (.int p3), .val (.int p4), .val (.int (3 : Int32)), .val (.int ch1), .val (.int ch2), .val (.int ch3), .val (.ref d), .val (.ref (own_ad c0 c1 c2 c3 c4 (own_aft (own_aft (own_aft (0) ch1) ch2) ch3))), .unset, .unset, .unset] [])) _
              refine XS.iconst X411.here hx rfl (hb hby at_129) ?_
              show Steps p.tables e below (T411.setTop (mkF m 130 #[.val (.int p1), .val (.int p2), .val (.int p3), .val (.int p4), .val (.int (3 : Int32)), .val (.int ch1), .val (.int ch2), .val (.int ch3), .val (.ref d), .val (.ref (own_ad c0 c1 c2 c3 c4 (own_aft (own_aft (own_aft (0) ch1) ch2) ch3))), .unset, .unset, .unset] [(.int (1 : Int32))])) _
              refine XS.goto X411.here hx rfl (pc0 := 130) (pc' := 134) rfl (hb hby at_130) (by decide) (by decide) ?_
              show Steps p.tables e below (T411.setTop (mkF m 134 #[.val (.int p1), .val (.int p2), .val (.int p3), .val (.int p4), .val (.int (3 : Int32)), .val (.int ch1), .val (.int ch2), .val (.int ch3), .val (.ref d), .val (.ref (own_ad c0 c1 c2 c3 c4 (own_aft (own_aft (own_aft (0) ch1) ch2) ch3))), .unset, .unset, .unset] [(.int (1 : Int32))])) _
              refine XS.istore X411.here hx rfl (hb hby at_134) rfl (l' := #[.val (.int p1), .val (.int p2), .val (.int p3), .val (.int p4), .val (.int (3 : Int32)), .val (.int ch1), .val (.int ch2), .val (.int ch3), .val (.ref d), .val (.ref (own_ad c0 c1 c2 c3 c4 (own_aft (own_aft (own_aft (0) ch1) ch2) ch3))), .val (.int (1 : Int32)), .unset, .unset]) rfl ?_
              show Steps p.tables e below (T411.setTop (mkF m 136 #[.val (.int p1), .val (.int p2), .val (.int p3), .val (.int p4), .val (.int (3 : Int32)), .val (.int ch1), .val (.int ch2), .val (.int ch3), .val (.ref d), .val (.ref (own_ad c0 c1 c2 c3 c4 (own_aft (own_aft (own_aft (0) ch1) ch2) ch3))), .val (.int (1 : Int32)), .unset, .unset] [])) _
              refine XS.iload X411.here hx rfl (hb hby at_136) rfl ?_
              show Steps p.tables e below (T411.setTop (mkF m 138 #[.val (.int p1), .val (.int p2), .val (.int p3), .val (.int p4), .val (.int (3 : Int32)), .val (.int ch1), .val (.int ch2), .val (.int ch3), .val (.ref d), .val (.ref (own_ad c0 c1 c2 c3 c4 (own_aft (own_aft (own_aft (0) ch1) ch2) ch3))), .val (.int (1 : Int32)), .unset, .unset] [(.int (3 : Int32))])) _
              refine XS.iconst X411.here hx rfl (hb hby at_138) ?_
              show Steps p.tables e below (T411.setTop (mkF m 139 #[.val (.int p1), .val (.int p2), .val (.int p3), .val (.int p4), .val (.int (3 : Int32)), .val (.int ch1), .val (.int ch2), .val (.int ch3), .val (.ref d), .val (.ref (own_ad c0 c1 c2 c3 c4 (own_aft (own_aft (own_aft (0) ch1) ch2) ch3))), .val (.int (1 : Int32)), .unset, .unset] [(.int (2 : Int32)), (.int (3 : Int32))])) _
              refine XS.icmpYes X411.here hx rfl (pc0 := 139) (pc' := 160) rfl (hb hby at_139) rfl (feq (by decide)).2 (by decide) (by decide) ?_
              show Steps p.tables e below (T411.setTop (mkF m 160 #[.val (.int p1), .val (.int p2), .val (.int p3), .val (.int p4), .val (.int (3 : Int32)), .val (.int ch1), .val (.int ch2), .val (.int ch3), .val (.ref d), .val (.ref (own_ad c0 c1 c2 c3 c4 (own_aft (own_aft (own_aft (0) ch1) ch2) ch3))), .val (.int (1 : Int32)), .unset, .unset] [])) _
              refine XS.iconst X411.here hx rfl (hb hby at_160) ?_
              show Steps p.tables e below (T411.setTop (mkF m 161 #[.val (.int p1), .val (.int p2), .val (.int p3), .val (.int p4), .val (.int (3 : Int32)), .val (.int ch1), .val (.int ch2), .val (.int ch3), .val (.ref d), .val (.ref (own_ad c0 c1 c2 c3 c4 (own_aft (own_aft (own_aft (0) ch1) ch2) ch3))), .val (.int (1 : Int32)), .unset, .unset] [(.int (0 : Int32))])) _
              refine XS.istore X411.here hx rfl (hb hby at_161) rfl (l' := #[.val (.int p1), .val (.int p2), .val (.int p3), .val (.int p4), .val (.int (3 : Int32)), .val (.int ch1), .val (.int ch2), .val (.int ch3), .val (.ref d), .val (.ref (own_ad c0 c1 c2 c3 c4 (own_aft (own_aft (own_aft (0) ch1) ch2) ch3))), .val (.int (1 : Int32)), .val (.int (0 : Int32)), .unset]) rfl ?_
              show Steps p.tables e below (T411.setTop (mkF m 163 #[.val (.int p1), .val (.int p2), .val (.int p3), .val (.int p4), .val (.int (3 : Int32)), .val (.int ch1), .val (.int ch2), .val (.int ch3), .val (.ref d), .val (.ref (own_ad c0 c1 c2 c3 c4 (own_aft (own_aft (own_aft (0) ch1) ch2) ch3))), .val (.int (1 : Int32)), .val (.int (0 : Int32)), .unset] [])) _
              refine XS.iload X411.here hx rfl (hb hby at_163) rfl ?_
              exact kg)
          have k424 : ∀ tg, Steps p.tables e below (T411.setTop (mkF m 177 #[.val (.int p1), .val (.int p2), .val (.int p3), .val (.int p4), .val (.int (3 : Int32)), .val (.int ch1), .val (.int ch2), .val (.int ch3), .val (.ref d), .val (.ref (own_ad c0 c1 c2 c3 c4 (own_aft (own_aft (own_aft (0) ch1) ch2) ch3))), .val (.int (1 : Int32)), .val (.int (0 : Int32)), .unset] [])) tg → Steps p.tables e below (s₁.setTop (entryFrame m #[(.int p1), (.int p2), (.int p3), (.int p4)] maxLocals)) tg := fun tg kg => k423 tg (by
              show Steps p.tables e below (T411.setTop (mkF m 165 #[.val (.int p1), .val (.int p2), .val (.int p3), .val (.int p4), .val (.int (3 : Int32)), .val (.int ch1), .val (.int ch2), .val (.int ch3), .val (.ref d), .val (.ref (own_ad c0 c1 c2 c3 c4 (own_aft (own_aft (own_aft (0) ch1) ch2) ch3))), .val (.int (1 : Int32)), .val (.int (0 : Int32)), .unset] [(.int (1 : Int32))])) _
              refine XS.ifYes X411.here hx rfl (pc0 := 165) (pc' := 177) rfl (hb hby at_165) rfl ((if0 _ _).trans (feq (by decide)).2) (by decide) (by decide) ?_
              exact kg)
          have k425 : ∀ tg, Steps p.tables e below (T411.setTop (mkF m 182 #[.val (.int p1), .val (.int p2), .val (.int p3), .val (.int p4), .val (.int (3 : Int32)), .val (.int ch1), .val (.int ch2), .val (.int ch3), .val (.ref d), .val (.ref (own_ad c0 c1 c2 c3 c4 (own_aft (own_aft (own_aft (0) ch1) ch2) ch3))), .val (.int (1 : Int32)), .val (.int (0 : Int32)), .val (.int (0 : Int32))] [(.ref (own_ad c0 c1 c2 c3 c4 (own_aft (own_aft (own_aft (0) ch1) ch2) ch3)))])) tg → Steps p.tables e below (s₁.setTop (entryFrame m #[(.int p1), (.int p2), (.int p3), (.int p4)] maxLocals)) tg := fun tg kg => k424 tg (by
              show Steps p.tables e below (T411.setTop (mkF m 177 #[.val (.int p1), .val (.int p2), .val (.int p3), .val (.int p4), .val (.int (3 : Int32)), .val (.int ch1), .val (.int ch2), .val (.int ch3), .val (.ref d), .val (.ref (own_ad c0 c1 c2 c3 c4 (own_aft (own_aft (own_aft (0) ch1) ch2) ch3))), .val (.int (1 : Int32)), .val (.int (0 : Int32)), .unset] [])) _
              refine XS.iconst X411.here hx rfl (hb hby at_177) ?_
              show Steps p.tables e below (T411.setTop (mkF m 178 #[.val (.int p1), .val (.int p2), .val (.int p3), .val (.int p4), .val (.int (3 : Int32)), .val (.int ch1), .val (.int ch2), .val (.int ch3), .val (.ref d), .val (.ref (own_ad c0 c1 c2 c3 c4 (own_aft (own_aft (own_aft (0) ch1) ch2) ch3))), .val (.int (1 : Int32)), .val (.int (0 : Int32)), .unset] [(.int (0 : Int32))])) _
              refine XS.istore X411.here hx rfl (hb hby at_178) rfl (l' := #[.val (.int p1), .val (.int p2), .val (.int p3), .val (.int p4), .val (.int (3 : Int32)), .val (.int ch1), .val (.int ch2), .val (.int ch3), .val (.ref d), .val (.ref (own_ad c0 c1 c2 c3 c4 (own_aft (own_aft (own_aft (0) ch1) ch2) ch3))), .val (.int (1 : Int32)), .val (.int (0 : Int32)), .val (.int (0 : Int32))]) rfl ?_
              show Steps p.tables e below (T411.setTop (mkF m 180 #[.val (.int p1), .val (.int p2), .val (.int p3), .val (.int p4), .val (.int (3 : Int32)), .val (.int ch1), .val (.int ch2), .val (.int ch3), .val (.ref d), .val (.ref (own_ad c0 c1 c2 c3 c4 (own_aft (own_aft (own_aft (0) ch1) ch2) ch3))), .val (.int (1 : Int32)), .val (.int (0 : Int32)), .val (.int (0 : Int32))] [])) _
              refine XS.aload X411.here hx rfl (hb hby at_180) rfl rfl ?_
              exact kg)
          have hex : Exa Z T382.heap (own_ad c0 c1 c2 c3 c4 (own_aft (own_aft (own_aft (0) ch1) ch2) ch3)) "com/example/vaxwire/vaxwire/hl7/Repetition$Content" := by
            have q5 : (own_aft (own_aft (own_aft (0) ch1) ch2) ch3) < 5 := own_aft5 _ _
            generalize (own_aft (own_aft (own_aft (0) ch1) ch2) ch3) = sx at q5 ⊢
            have : sx = 0 ∨ sx = 1 ∨ sx = 2 ∨ sx = 3 ∨ sx = 4 := by omega
            rcases this with rfl | rfl | rfl | rfl | rfl
            · exact E0.ext XE
            · exact E1.ext XE
            · exact E2.ext XE
            · exact E3.ext XE
            · exact E4.ext XE
          obtain ⟨cq426, kq426, q426a, q426b, q426c⟩ := isOf hZ e411 hex
          obtain ⟨_, _, ⟨T426, L426, c426, n426⟩, -, X426, ⟨Lc426, hQ426, l426, y426, z426⟩, st426⟩ := X411.virtualBack hx (y := (⟨"com/example/vaxwire/vaxwire/hl7/Repetition$Content", "isValue", "()Z"⟩ : MethodName)) (z := (⟨"com/example/vaxwire/vaxwire/hl7/Repetition$Content", "isValue", "()Z"⟩ : MethodName)) hown (mvT hZ (hw _ (List.mem_of_getElem? (i := 11) rfl))) (mvT hZ (hw _ (List.mem_of_getElem? (i := 12) rfl))) (notFace_of_selects (args := #[]) (mvT hZ (hw _ (List.mem_of_getElem? (i := 14) rfl)))) (mvT hZ (hw _ (List.mem_of_getElem? (i := 14) rfl))) (mvT hZ (hw _ (List.mem_of_getElem? (i := 13) rfl))) (by decide) (backOf (W := 0) (rm2 l Z a0 hw [] (own_ad c0 c1 c2 c3 c4 (own_aft (own_aft (own_aft (0) ch1) ch2) ch3)) (own_aft (own_aft (own_aft (0) ch1) ch2) ch3) d c0 c1 c2 c3 c4 T382.heap n0 Zx382 (own_aft5 _ _) rfl Wh0 XE) hZ (hw _ (List.mem_of_getElem? (i := 15) rfl)) (hw _ (List.mem_of_getElem? (i := 9) rfl)) (by decide) (by decide)) q426a q426c (g := (mkF m 182 #[.val (.int p1), .val (.int p2), .val (.int p3), .val (.int p4), .val (.int (3 : Int32)), .val (.int ch1), .val (.int ch2), .val (.int ch3), .val (.ref d), .val (.ref (own_ad c0 c1 c2 c3 c4 (own_aft (own_aft (own_aft (0) ch1) ch2) ch3))), .val (.int (1 : Int32)), .val (.int (0 : Int32)), .val (.int (0 : Int32))] [(.ref (own_ad c0 c1 c2 c3 c4 (own_aft (own_aft (own_aft (0) ch1) ch2) ch3)))])) rfl (by rw [hml]; rfl) (Steps.refl _) (argsL := []) (rest := []) (lenOf own_pd1 rfl) rfl (by show 2 * 0 + _ ≤ _; exact Nat.le_of_eq rfl) (hb hby at_182) (fun _ _ => ⟨rfl, e411, (by decide : 6 + 0 ≤ _), (by decide : 36 + 0 ≤ _)⟩)
          dsimp only [Pt.U, Pt.locs, Pt.cells, Pt.slots] at X426 l426 y426 z426 st426 hQ426
          obtain rfl : c426 = 6 := y426
          obtain rfl : n426 = 36 := z426
          obtain ⟨rfl, N426q, e426⟩ := hQ426
          have N426 := own_frE l426 (Fr.app N411 N426q)
          have k427 : ∀ tg, Steps p.tables e below (T426.setTop (mkF m 185 #[.val (.int p1), .val (.int p2), .val (.int p3), .val (.int p4), .val (.int (3 : Int32)), .val (.int ch1), .val (.int ch2), .val (.int ch3), .val (.ref d), .val (.ref (own_ad c0 c1 c2 c3 c4 (own_aft (own_aft (own_aft (0) ch1) ch2) ch3))), .val (.int (1 : Int32)), .val (.int (0 : Int32)), .val (.int (0 : Int32))] [(.int (own_val (own_aft (own_aft (own_aft (0) ch1) ch2) ch3)))])) tg → Steps p.tables e below (s₁.setTop (entryFrame m #[(.int p1), (.int p2), (.int p3), (.int p4)] maxLocals)) tg := fun tg kg => k425 tg (st426.trans kg)
          have hv : own_val (own_aft (own_aft (own_aft (0) ch1) ch2) ch3) = (0 : Int32) := by rw [own_f3]; simp [s1, s2, s3]
          have k428 : ∀ tg, Steps p.tables e below (T426.setTop (mkF m 195 #[.val (.int p1), .val (.int p2), .val (.int p3), .val (.int p4), .val (.int (3 : Int32)), .val (.int ch1), .val (.int ch2), .val (.int ch3), .val (.ref d), .val (.ref (own_ad c0 c1 c2 c3 c4 (own_aft (own_aft (own_aft (0) ch1) ch2) ch3))), .val (.int (1 : Int32)), .val (.int (0 : Int32)), .val (.int (0 : Int32))] [(.int (1 : Int32))])) tg → Steps p.tables e below (s₁.setTop (entryFrame m #[(.int p1), (.int p2), (.int p3), (.int p4)] maxLocals)) tg := fun tg kg => k427 tg (by
              show Steps p.tables e below (T426.setTop (mkF m 185 #[.val (.int p1), .val (.int p2), .val (.int p3), .val (.int p4), .val (.int (3 : Int32)), .val (.int ch1), .val (.int ch2), .val (.int ch3), .val (.ref d), .val (.ref (own_ad c0 c1 c2 c3 c4 (own_aft (own_aft (own_aft (0) ch1) ch2) ch3))), .val (.int (1 : Int32)), .val (.int (0 : Int32)), .val (.int (0 : Int32))] [(.int (own_val (own_aft (own_aft (own_aft (0) ch1) ch2) ch3)))])) _
              refine XS.iload X426.here hx rfl (hb hby at_185) rfl ?_
              show Steps p.tables e below (T426.setTop (mkF m 187 #[.val (.int p1), .val (.int p2), .val (.int p3), .val (.int p4), .val (.int (3 : Int32)), .val (.int ch1), .val (.int ch2), .val (.int ch3), .val (.ref d), .val (.ref (own_ad c0 c1 c2 c3 c4 (own_aft (own_aft (own_aft (0) ch1) ch2) ch3))), .val (.int (1 : Int32)), .val (.int (0 : Int32)), .val (.int (0 : Int32))] [(.int (0 : Int32)), (.int (own_val (own_aft (own_aft (own_aft (0) ch1) ch2) ch3)))])) _
              refine XS.icmpNo X426.here hx rfl (hb hby at_187) rfl (teq hv).2 ?_
              show Steps p.tables e below (T426.setTop (mkF m 190 #[.val (.int p1), .val (.int p2), .val (.int p3), .val (.int p4), .val (.int (3 : Int32)), .val (.int ch1), .val (.int ch2), .val (.int ch3), .val (.ref d), .val (.ref (own_ad c0 c1 c2 c3 c4 (own_aft (own_aft (own_aft (0) ch1) ch2) ch3))), .val (.int (1 : Int32)), .val (.int (0 : Int32)), .val (.int (0 : Int32))] [])) _
              refine XS.iconst X426.here hx rfl (hb hby at_190) ?_
              show Steps p.tables e below (T426.setTop (mkF m 191 #[.val (.int p1), .val (.int p2), .val (.int p3), .val (.int p4), .val (.int (3 : Int32)), .val (.int ch1), .val (.int ch2), .val (.int ch3), .val (.ref d), .val (.ref (own_ad c0 c1 c2 c3 c4 (own_aft (own_aft (own_aft (0) ch1) ch2) ch3))), .val (.int (1 : Int32)), .val (.int (0 : Int32)), .val (.int (0 : Int32))] [(.int (1 : Int32))])) _
              refine XS.goto X426.here hx rfl (pc0 := 191) (pc' := 195) rfl (hb hby at_191) (by decide) (by decide) ?_
              exact kg)
          obtain ⟨fs, hr, hrun, hended, hend⟩ := Stand.leaveW X426 hS (by rw [e426]; first | exact hk | exact Nat.zero_le _) (v := some (.int (1 : Int32))) (fun h => by rw [Bd.returns] at h; cases h)
          refine ⟨_, _, k428 _ ?_, hrun, hended, _, _, rfl, ?_, own_rmono hend (by decide) (by decide)⟩
          · show Steps p.tables e below (T426.setTop (mkF m 195 #[.val (.int p1), .val (.int p2), .val (.int p3), .val (.int p4), .val (.int (3 : Int32)), .val (.int ch1), .val (.int ch2), .val (.int ch3), .val (.ref d), .val (.ref (own_ad c0 c1 c2 c3 c4 (own_aft (own_aft (own_aft (0) ch1) ch2) ch3))), .val (.int (1 : Int32)), .val (.int (0 : Int32)), .val (.int (0 : Int32))] [(.int (1 : Int32))])) _
            exact retN X426 hx (t := .boolean) Bd.returns (by simp) (hb hby at_195) hr
          · exact ⟨rfl, N426⟩
theorem own_fs {s : State} {args : Array Value} {t : Term} {a : Addr} {C n d : String} {z : Int32} (ev : t.eval args s none [] s = some (.ref a)) (h : (Jvm.Cond.eq (.field t C n d) (.int z)).value args s none s [] = some true) : Fld s s.heap a C n d (.int z) := by
  apply Fld.start
  obtain ⟨x, y, e1, e2, -⟩ := cmp_v (Or.inl h)
  rw [fld_at ev] at e1
  rw [e1]
  have h2 : (Jvm.Cond.eq (.field t C n d) (.int z)).value args s none s [] = some true := h
  simp only [Cond.value, fld_at ev, e1, Term.eval] at h2
  cases x <;> simp_all
set_option maxRecDepth 65536 in
set_option maxHeartbeats 40000000 in
theorem comes_1 {Post : Tables → Env → Array Value → State → Outcome → State → Prop} (hpost : ∀ tb e args s v u, (limb_1_1.after args s (.returned v) u = true ∧ limb_1_2.after args s (.returned v) u = true ∧ True) → ReturnedEndW s (.returned v) u (Jvm.fieldLocs frame_1_writes args s ++ Jvm.arrayLocs frame_1_arrays args s ++ Jvm.staticLocs frame_1_statics s) 8 1088 → Post tb e args s (.returned v) u) :
    ArmFor flags0 classFile x code maxLocals ret World_1 tables_1 room_1 Calls_1 rest_1 Pre_1 Post := by
  intro l hfl _ _ p e ha hc hk s m args below hf hA hF happ hP
  obtain ⟨hcalls, hrest, hpre⟩ := hP
  obtain ⟨-, -, -, hnamed, -, -, -, hat⟩ := (Spec.applies_iff hf).mp happ
  obtain ⟨hg, hn⟩ := and_e (Cond.before_iff.mp (show (Jvm.Cond.and given_1 narrow_1).before args s = true from hpre))
  obtain ⟨g1a, g1b⟩ := and_e hg
  obtain ⟨g2a, g2b⟩ := and_e g1b
  obtain ⟨g3a, g3b⟩ := and_e g2b
  obtain ⟨g4a, g4b⟩ := and_e g3b
  obtain ⟨w0, w1, w2, w3, rfl⟩ : ∃ w0 w1 w2 w3 : Value, args = #[w0, w1, w2, w3] := by
    have hs : args.size = 4 := by simpa [Cond.value, given_1] using g1a
    obtain ⟨L⟩ := args
    match L, hs with
    | [w0, w1, w2, w3], _ => exact ⟨w0, w1, w2, w3, rfl⟩
  have hw := fun d (hd : d ∈ tables_1) => atoms_spec (ws := Jvm.Cond.code x code maxLocals ret :: tables_1) hat d (List.mem_cons_of_mem _ hd)
  obtain ⟨i0, ei0⟩ := is_v g2a
  obtain rfl : w0 = (.int i0) := Option.some.inj ei0
  obtain ⟨i1, ei1⟩ := is_v g3a
  obtain rfl : w1 = (.int i1) := Option.some.inj ei1
  obtain ⟨i2, ei2⟩ := is_v g4a
  obtain rfl : w2 = (.int i2) := Option.some.inj ei2
  obtain ⟨i3, ei3⟩ := is_v g4b
  obtain rfl : w3 = (.int i3) := Option.some.inj ei3
  obtain ⟨hsets, hown0⟩ := atoms_of _ (rest_1_c_eq ▸ (show rest_1_c.before _ s = true from hrest))
  have n3 := not_v (Cond.before_iff.mp (hsets _ (List.mem_of_getElem? (i := 2) rfl)))
  obtain ⟨iG, eG⟩ := is_v (Cond.before_iff.mp (hsets _ (List.mem_of_getElem? (i := 1) rfl)))
  have S8 : Sta s s.heap "java/lang/String" "COMPACT_STRINGS" "Z" (.int iG) := Sta.start eG (Or.inl (hsets _ (List.mem_of_getElem? (i := 0) rfl)))
  have c9 : ¬ (iG = (0 : Int32)) := gotF (Cond.eq_ints eG (Term.int_eval (0))) n3
  obtain ⟨gF, eF, rF⟩ := isR_v (Cond.before_iff.mp (hsets _ (List.mem_of_getElem? (i := 8) rfl)))
  have S9 : Sta s s.heap "jdk/internal/util/Preconditions" "SIOOBE_FORMATTER" "Ljava/util/function/BiFunction;" gF := Sta.start eF (Or.inl (hsets _ (List.mem_of_getElem? (i := 7) rfl)))
  have hcw : Jvm.Lit.compactW.before _ s = true := hsets _ (List.mem_of_getElem? (i := 2) rfl)
  have hH : Jvm.Lit.constHeld s "com/example/vaxwire/vaxwire/hl7/Repetition$Content" 49 := hcalls.1 _ (List.mem_cons_self ..)
  obtain ⟨xD, hn⟩ := and_e hn
  obtain ⟨x0, hn⟩ := and_e hn
  obtain ⟨x2, hn⟩ := and_e hn
  obtain ⟨o0, hn⟩ := and_e hn
  obtain ⟨o2, hn⟩ := and_e hn
  obtain ⟨x4, hn⟩ := and_e hn
  obtain ⟨o4, hn⟩ := and_e hn
  obtain ⟨fc, hn⟩ := and_e hn
  obtain ⟨fs, hn⟩ := and_e hn
  obtain ⟨x1, hn⟩ := and_e hn
  obtain ⟨o1, hn⟩ := and_e hn
  obtain ⟨x3, hn⟩ := and_e hn
  have o3 := hn
  obtain ⟨d, ed⟩ := exa_v xD
  have Sd : Sta s s.heap "com/example/vaxwire/vaxwire/hl7/Delimiters" "STANDARD" "Lcom/example/vaxwire/vaxwire/hl7/Delimiters;" (.ref d) := Sta.start ed (Or.inr ⟨(hw _ (List.mem_of_getElem? (i := 6) rfl)), (hw _ (List.mem_of_getElem? (i := 7) rfl))⟩)
  have Ed := Exa.start ed xD
  obtain ⟨c0, ec0⟩ := exa_v x0
  have S0 : Sta s s.heap "com/example/vaxwire/vaxwire/hl7/Repetition$Content" "NOTHING" "Lcom/example/vaxwire/vaxwire/hl7/Repetition$Content;" (.ref c0) := Sta.start ec0 (Or.inr ⟨(hw _ (List.mem_of_getElem? (i := 9) rfl)), (hw _ (List.mem_of_getElem? (i := 10) rfl))⟩)
  have E0 := Exa.start ec0 x0
  have O0 : Fld s s.heap c0 "java/lang/Enum" "ordinal" "I" (.int (0 : Int32)) := own_fs ec0 o0
  obtain ⟨c1, ec1⟩ := exa_v x1
  have S1 : Sta s s.heap "com/example/vaxwire/vaxwire/hl7/Repetition$Content" "SEPARATORS" "Lcom/example/vaxwire/vaxwire/hl7/Repetition$Content;" (.ref c1) := Sta.start ec1 (Or.inr ⟨(hw _ (List.mem_of_getElem? (i := 9) rfl)), (hw _ (List.mem_of_getElem? (i := 74) rfl))⟩)
  have E1 := Exa.start ec1 x1
  have O1 : Fld s s.heap c1 "java/lang/Enum" "ordinal" "I" (.int (1 : Int32)) := own_fs ec1 o1
  obtain ⟨c2, ec2⟩ := exa_v x2
  have S2 : Sta s s.heap "com/example/vaxwire/vaxwire/hl7/Repetition$Content" "QUOTE" "Lcom/example/vaxwire/vaxwire/hl7/Repetition$Content;" (.ref c2) := Sta.start ec2 (Or.inr ⟨(hw _ (List.mem_of_getElem? (i := 9) rfl)), (hw _ (List.mem_of_getElem? (i := 17) rfl))⟩)
  have E2 := Exa.start ec2 x2
  have O2 : Fld s s.heap c2 "java/lang/Enum" "ordinal" "I" (.int (2 : Int32)) := own_fs ec2 o2
  obtain ⟨c3, ec3⟩ := exa_v x3
  have S3 : Sta s s.heap "com/example/vaxwire/vaxwire/hl7/Repetition$Content" "NULL_VALUE" "Lcom/example/vaxwire/vaxwire/hl7/Repetition$Content;" (.ref c3) := Sta.start ec3 (Or.inr ⟨(hw _ (List.mem_of_getElem? (i := 9) rfl)), (hw _ (List.mem_of_getElem? (i := 79) rfl))⟩)
  have E3 := Exa.start ec3 x3
  have O3 : Fld s s.heap c3 "java/lang/Enum" "ordinal" "I" (.int (3 : Int32)) := own_fs ec3 o3
  obtain ⟨c4, ec4⟩ := exa_v x4
  have S4 : Sta s s.heap "com/example/vaxwire/vaxwire/hl7/Repetition$Content" "VALUE" "Lcom/example/vaxwire/vaxwire/hl7/Repetition$Content;" (.ref c4) := Sta.start ec4 (Or.inr ⟨(hw _ (List.mem_of_getElem? (i := 9) rfl)), (hw _ (List.mem_of_getElem? (i := 19) rfl))⟩)
  have E4 := Exa.start ec4 x4
  have O4 : Fld s s.heap c4 "java/lang/Enum" "ordinal" "I" (.int (4 : Int32)) := own_fs ec4 o4
  have Fc : Fld s s.heap d "com/example/vaxwire/vaxwire/hl7/Delimiters" "component" "C" (.int (94 : Int32)) := own_fs ed fc
  have Fs : Fld s s.heap d "com/example/vaxwire/vaxwire/hl7/Delimiters" "subcomponent" "C" (.int (38 : Int32)) := own_fs ed fs
  have Wh : Wd s d c0 c1 c2 c3 c4 := ⟨⟨Sd, Ed, Fc, Fs⟩, ⟨S0, S1, S2, S3, S4⟩, ⟨E0, E1, E2, E3, E4⟩, O0.ne O1 (by decide), O0.ne O2 (by decide), O0.ne O3 (by decide), O0.ne O4 (by decide), O1.ne O2 (by decide), O1.ne O3 (by decide), O1.ne O4 (by decide), O2.ne O3 (by decide), O2.ne O4 (by decide), O3.ne O4 (by decide)⟩
  obtain ⟨n, o, h1, h2, h3, _, L, rfl, ⟨rfl, N⟩, hq⟩ := rm0 l s _ hw tables_1 i0 i1 i2 i3 d c0 c1 c2 c3 c4 iG gF s.heap s.heap.size (Nat.le_refl _) S8 c9 S9 rF hH hcw Wh own_extR p e ha hc hk s m _ below hf ((Spec.applies_iff_loose hf).mp happ).1 ⟨rfl, State.Warmed39.refl s, rfl, Or.inl IB.start⟩ trivial
  refine ⟨n, _, h1, h2, h3, hpost _ _ _ _ _ _ ⟨Cond.after_iff.mpr rfl, Cond.after_iff.mpr (eq_i res_at (Term.int_eval (1)) rfl), trivial⟩ ⟨hq.1, hq.2.1, hq.2.2.1, (hq.2.2.2.sift fun y hy => Or.inr (N y hy)).mono (by decide) (by decide)⟩⟩
theorem main_1_1 : Claimed_1_1 := comes_1 fun _ _ _ _ _ _ h hF => ⟨h.1, hF⟩
theorem main_1_2 : Claimed_1_2 := comes_1 fun _ _ _ _ _ _ h hF => ⟨h.2.1, hF⟩
end Jvm.Pilot.@@N@@
namespace Jvm.Pilot.@@N@@
open Jvm Jvm.ClassFile Sem Op Lib Jvm.Free Jvm.Stand Jvm.Pilot.@@N@@.Jvm.D
/-! MADE BY PROGRAM (witnessworld.py) out of the Statement's table words and the real class files: 20 classes; the members and pool entries that the words name. The judged class is class 1, her method 3. -/
namespace start1
open Jvm.ClassFile
def u (s : String) : CpInfo := .utf8 (stringToUtf16 s)
/-- a pool by its gaps: so many unusable entries, then the entry; so many at the end -/
def gap : Nat → List CpInfo → List CpInfo
  | 0, r => r
  | n + 1, r => .unusable :: gap n r
def poolList (es : List (Nat × CpInfo)) (last : Nat) : List CpInfo := es.foldr (fun e r => gap e.1 (e.2 :: r)) (gap last [])
def pool (es : List (Nat × CpInfo)) (last : Nat) : Array CpInfo := ⟨poolList es last⟩
def fileOf (pool : Array CpInfo) (this : Nat) (attrs : Array Attribute := #[]) (ms : Array MethodInfo := #[]) (fl : Nat := 33) (sup : Nat := 0) (ifs : Array Nat := #[]) (fds : Array FieldInfo := #[]) : ClassFile where
  minorVersion := 0
  majorVersion := 65
  constantPool := pool
  accessFlags := fl
  thisClass := this
  superClass := sup
  interfaces := ifs
  fields := fds
  methods := ms
  attributes := attrs
def plain (name : String) (sup : Option ClassId) : Class where
  name := name
  kind := .ordinary
  loader := none
  accessFlags := 33
  super := sup
  interfaces := #[]
  cf := none
  fields := #[]
  methods := #[]
  instanceTypes := #[]
  staticTypes := #[]
  resolved := #[]
  callSites := []
  init := .initialized
  statics := none
  mirror := none

def pool0 : Array CpInfo := pool [(5, u "<init>"), (0, u "()V"), (1, .class_ 10), (1, u "java/lang/Object")] 113

def k0m0 : Method := { name := "<init>", desc := "()V", sig := { parameters := [], returnType := none }, accessFlags := 1, code := none }
/-- java/lang/Object -/
def k0 : Class := { plain "java/lang/Object" none with
  accessFlags := 33
  interfaces := #[]
  cf := some (fileOf pool0 8 #[] #[{ accessFlags := 1, nameIndex := 5, descriptorIndex := 6, attributes := #[] }] 33 0 #[] #[])
  fields := #[]
  methods := #[k0m0]
  instanceTypes := #[]
  staticTypes := #[]
  resolved := Array.replicate 124 none
  statics := none }

def pool1 : Array CpInfo := pool [(2, .class_ 4), (1, u "java/lang/Object"), (0, u "<init>"), (0, u "()V"), (0, .integer 2147483647), (0, .methodref 9 10), (0, .class_ 11), (0, .nameAndType 12 13), (0, u "com/example/vaxwire/vaxwire/hl7/ContentIsValuePinLaw"), (0, u "pick"), (0, u "(I)C"), (0, .fieldref 15 16), (0, .class_ 17), (0, .nameAndType 18 19), (0, u "com/example/vaxwire/vaxwire/hl7/Delimiters"), (0, u "STANDARD"), (0, u "Lcom/example/vaxwire/vaxwire/hl7/Delimiters;"), (0, .fieldref 21 22), (0, .class_ 23), (0, .nameAndType 24 25), (0, u "com/example/vaxwire/vaxwire/hl7/Repetition$Content"), (0, u "NOTHING"), (0, u "Lcom/example/vaxwire/vaxwire/hl7/Repetition$Content;"), (0, .methodref 21 27), (0, .nameAndType 28 29), (0, u "after"), (0, u "(CLcom/example/vaxwire/vaxwire/hl7/Delimiters;)Lcom/example/vaxwire/vaxwire/hl7/Repetition$Content;"), (0, .methodref 9 31), (0, .nameAndType 32 33), (0, u "isSep"), (0, u "(C)Z"), (0, .methodref 21 35), (0, .nameAndType 36 37), (0, u "isValue"), (0, u "()Z"), (3, u "law"), (0, u "(IIII)Z")] 6

def k1m0 : Method := { name := "<init>", desc := "()V", sig := { parameters := [], returnType := none }, accessFlags := 2, code := none }
def k1c1 : Code := { maxStack := 2, maxLocals := 2, code := method_2_code, exceptionTable := #[], attributes := #[] }
def k1m1 : Method := { name := "pick", desc := "(I)C", sig := { parameters := [.int], returnType := some .char }, accessFlags := 10, code := some k1c1 }
def k1c2 : Code := { maxStack := 2, maxLocals := 1, code := method_3_code, exceptionTable := #[], attributes := #[] }
def k1m2 : Method := { name := "isSep", desc := "(C)Z", sig := { parameters := [.char], returnType := some .boolean }, accessFlags := 10, code := some k1c2 }
def k1c3 : Code := { maxStack := 3, maxLocals := 13, code := code, exceptionTable := #[], attributes := #[] }
def k1m3 : Method := { name := "law", desc := "(IIII)Z", sig := { parameters := [.int, .int, .int, .int], returnType := some .boolean }, accessFlags := 9, code := some k1c3 }
/-- com/example/vaxwire/vaxwire/hl7/ContentIsValuePinLaw -/
def k1 : Class := { plain "com/example/vaxwire/vaxwire/hl7/ContentIsValuePinLaw" (some 0) with
  accessFlags := 49
  interfaces := #[]
  cf := some (fileOf pool1 9 #[] #[{ accessFlags := 2, nameIndex := 5, descriptorIndex := 6, attributes := #[] }, { accessFlags := 10, nameIndex := 12, descriptorIndex := 13, attributes := #[] }, { accessFlags := 10, nameIndex := 32, descriptorIndex := 33, attributes := #[] }, { accessFlags := 9, nameIndex := 41, descriptorIndex := 42, attributes := #[] }] 49 2 #[] #[])
  fields := #[]
  methods := #[k1m0, k1m1, k1m2, k1m3]
  instanceTypes := #[]
  staticTypes := #[]
  resolved := Array.replicate 49 none
  statics := none }

def pool2 : Array CpInfo := pool [(2, .class_ 4), (1, u "java/lang/Object"), (0, u "<init>"), (0, u "()V"), (0, .class_ 8), (0, u "java/lang/Record")] 13

def k2m0 : Method := { name := "<init>", desc := "()V", sig := { parameters := [], returnType := none }, accessFlags := 4, code := none }
/-- java/lang/Record -/
def k2 : Class := { plain "java/lang/Record" (some 0) with
  accessFlags := 1057
  interfaces := #[]
  cf := some (fileOf pool2 7 #[] #[{ accessFlags := 4, nameIndex := 5, descriptorIndex := 6, attributes := #[] }] 1057 2 #[] #[])
  fields := #[]
  methods := #[k2m0]
  instanceTypes := #[]
  staticTypes := #[]
  resolved := Array.replicate 22 none
  statics := none }

def pool3 : Array CpInfo := pool [(2, .class_ 4), (1, u "java/lang/Record"), (42, .class_ 49), (1, u "com/example/vaxwire/vaxwire/hl7/Delimiters"), (0, u "field"), (0, u "C"), (0, .fieldref 47 53), (0, .nameAndType 54 51), (0, u "component"), (2, u "repetition"), (2, u "escape"), (0, .fieldref 47 62), (0, .nameAndType 63 51), (0, u "subcomponent"), (70, .class_ 136), (1, u "com/example/vaxwire/vaxwire/hl7/Delimiters$Writing"), (61, u "STANDARD"), (0, u "Lcom/example/vaxwire/vaxwire/hl7/Delimiters;"), (0, u "HEADER_PROBLEM"), (0, u "Ljava/lang/String;"), (11, u "()C")] 58

def k3c0 : Code := { maxStack := 1, maxLocals := 1, code := prog_48_method_20_code, exceptionTable := #[], attributes := #[] }
def k3m0 : Method := { name := "component", desc := "()C", sig := { parameters := [], returnType := some .char }, accessFlags := 1, code := some k3c0 }
def k3c1 : Code := { maxStack := 1, maxLocals := 1, code := prog_48_method_23_code, exceptionTable := #[], attributes := #[] }
def k3m1 : Method := { name := "subcomponent", desc := "()C", sig := { parameters := [], returnType := some .char }, accessFlags := 1, code := some k3c1 }
/-- com/example/vaxwire/vaxwire/hl7/Delimiters -/
def k3 : Class := { plain "com/example/vaxwire/vaxwire/hl7/Delimiters" (some 2) with
  accessFlags := 49
  interfaces := #[]
  cf := some (fileOf pool3 47 #[.nestMembers #[134]] #[{ accessFlags := 1, nameIndex := 54, descriptorIndex := 213, attributes := #[] }, { accessFlags := 1, nameIndex := 63, descriptorIndex := 213, attributes := #[] }] 49 2 #[] #[{ accessFlags := 18, nameIndex := 50, descriptorIndex := 51, attributes := #[] }, { accessFlags := 18, nameIndex := 54, descriptorIndex := 51, attributes := #[] }, { accessFlags := 18, nameIndex := 57, descriptorIndex := 51, attributes := #[] }, { accessFlags := 18, nameIndex := 60, descriptorIndex := 51, attributes := #[] }, { accessFlags := 18, nameIndex := 63, descriptorIndex := 51, attributes := #[] }, { accessFlags := 25, nameIndex := 198, descriptorIndex := 199, attributes := #[] }, { accessFlags := 26, nameIndex := 200, descriptorIndex := 201, attributes := #[] }])
  fields := #[{ name := "field", type := .char, accessFlags := 18, slot := 0, constantValue := 0 }, { name := "component", type := .char, accessFlags := 18, slot := 1, constantValue := 0 }, { name := "repetition", type := .char, accessFlags := 18, slot := 2, constantValue := 0 }, { name := "escape", type := .char, accessFlags := 18, slot := 3, constantValue := 0 }, { name := "subcomponent", type := .char, accessFlags := 18, slot := 4, constantValue := 0 }, { name := "STANDARD", type := (.object "com/example/vaxwire/vaxwire/hl7/Delimiters"), accessFlags := 25, slot := 0, constantValue := 0 }, { name := "HEADER_PROBLEM", type := (.object "java/lang/String"), accessFlags := 26, slot := 1, constantValue := 0 }]
  methods := #[k3m0, k3m1]
  instanceTypes := #[.char, .char, .char, .char, .char]
  staticTypes := #[(.object "com/example/vaxwire/vaxwire/hl7/Delimiters"), (.object "java/lang/String")]
  resolved := Array.replicate 272 none
  statics := some 0 }

def pool4 : Array CpInfo := pool [(1, .class_ 2), (0, u "java/lang/constant/Constable"), (0, .class_ 4), (0, u "java/lang/Object")] 6

/-- java/lang/constant/Constable -/
def k4 : Class := { plain "java/lang/constant/Constable" (some 0) with
  accessFlags := 1537
  interfaces := #[]
  cf := some (fileOf pool4 1 #[] #[] 1537 3 #[] #[])
  fields := #[]
  methods := #[]
  instanceTypes := #[]
  staticTypes := #[]
  resolved := Array.replicate 11 none
  statics := none }

def pool5 : Array CpInfo := pool [(1, .class_ 2), (0, u "java/lang/Comparable"), (0, .class_ 4), (0, u "java/lang/Object")] 7

/-- java/lang/Comparable -/
def k5 : Class := { plain "java/lang/Comparable" (some 0) with
  accessFlags := 1537
  interfaces := #[]
  cf := some (fileOf pool5 1 #[] #[] 1537 3 #[] #[])
  fields := #[]
  methods := #[]
  instanceTypes := #[]
  staticTypes := #[]
  resolved := Array.replicate 12 none
  statics := none }

def pool6 : Array CpInfo := pool [(1, .class_ 2), (0, u "java/io/Serializable"), (0, .class_ 4), (0, u "java/lang/Object")] 2

/-- java/io/Serializable -/
def k6 : Class := { plain "java/io/Serializable" (some 0) with
  accessFlags := 1537
  interfaces := #[]
  cf := some (fileOf pool6 1 #[] #[] 1537 3 #[] #[])
  fields := #[]
  methods := #[]
  instanceTypes := #[]
  staticTypes := #[]
  resolved := Array.replicate 7 none
  statics := none }

def pool7 : Array CpInfo := pool [(2, .class_ 4), (1, u "java/lang/Enum"), (0, u "name"), (0, u "Ljava/lang/String;"), (2, u "ordinal"), (0, u "I"), (1, .class_ 14), (1, u "java/lang/Object"), (4, u "hash"), (86, .class_ 108), (1, u "java/lang/Enum$EnumDesc"), (2, .class_ 112), (0, u "java/lang/constant/Constable"), (0, .class_ 114), (0, u "java/lang/Comparable"), (0, .class_ 116), (0, u "java/io/Serializable")] 87

/-- java/lang/Enum -/
def k7 : Class := { plain "java/lang/Enum" (some 0) with
  accessFlags := 1057
  interfaces := #[4, 5, 6]
  cf := some (fileOf pool7 2 #[.nestMembers #[106]] #[] 1057 12 #[111, 113, 115] #[{ accessFlags := 18, nameIndex := 5, descriptorIndex := 6, attributes := #[] }, { accessFlags := 18, nameIndex := 9, descriptorIndex := 10, attributes := #[] }, { accessFlags := 2, nameIndex := 19, descriptorIndex := 10, attributes := #[] }])
  fields := #[{ name := "name", type := (.object "java/lang/String"), accessFlags := 18, slot := 0, constantValue := 0 }, { name := "ordinal", type := .int, accessFlags := 18, slot := 1, constantValue := 0 }, { name := "hash", type := .int, accessFlags := 2, slot := 2, constantValue := 0 }]
  methods := #[]
  instanceTypes := #[(.object "java/lang/String"), .int, .int]
  staticTypes := #[]
  resolved := Array.replicate 204 none
  statics := none }

def pool8 : Array CpInfo := pool [(1, .class_ 2), (0, u "com/example/vaxwire/vaxwire/hl7/Repetition"), (0, .class_ 4), (0, u "com/example/vaxwire/vaxwire/hl7/Repetition$Content"), (0, .fieldref 3 6), (0, .nameAndType 7 8), (0, u "NOTHING"), (0, u "Lcom/example/vaxwire/vaxwire/hl7/Repetition$Content;"), (0, .fieldref 3 10), (0, .nameAndType 11 8), (0, u "SEPARATORS"), (0, .fieldref 3 13), (0, .nameAndType 14 8), (0, u "QUOTE"), (0, .fieldref 3 16), (0, .nameAndType 17 8), (0, u "NULL_VALUE"), (0, .fieldref 3 19), (0, .nameAndType 20 8), (0, u "VALUE"), (2, u "$VALUES"), (0, u "[Lcom/example/vaxwire/vaxwire/hl7/Repetition$Content;"), (6, .class_ 33), (1, u "java/lang/Enum"), (6, .methodref 41 42), (0, .class_ 43), (0, .nameAndType 44 45), (0, u "com/example/vaxwire/vaxwire/hl7/Delimiters"), (0, u "component"), (0, u "()C"), (0, .methodref 41 47), (0, .nameAndType 48 45), (0, u "subcomponent"), (0, .string 50), (0, u "\"\""), (0, .methodref 52 53), (0, .class_ 54), (0, .nameAndType 55 56), (0, u "java/lang/String"), (0, u "charAt"), (0, u "(I)C"), (17, u "after"), (0, u "(CLcom/example/vaxwire/vaxwire/hl7/Delimiters;)Lcom/example/vaxwire/vaxwire/hl7/Repetition$Content;"), (1, u "isValue"), (0, u "()Z")] 7

def k8c0 : Code := { maxStack := 3, maxLocals := 3, code := prog_56_method_4_code, exceptionTable := #[], attributes := #[] }
def k8m0 : Method := { name := "after", desc := "(CLcom/example/vaxwire/vaxwire/hl7/Delimiters;)Lcom/example/vaxwire/vaxwire/hl7/Repetition$Content;", sig := { parameters := [.char, (.object "com/example/vaxwire/vaxwire/hl7/Delimiters")], returnType := some (.object "com/example/vaxwire/vaxwire/hl7/Repetition$Content") }, accessFlags := 1, code := some k8c0 }
def k8c1 : Code := { maxStack := 2, maxLocals := 1, code := prog_56_method_5_code, exceptionTable := #[], attributes := #[] }
def k8m1 : Method := { name := "isValue", desc := "()Z", sig := { parameters := [], returnType := some .boolean }, accessFlags := 1, code := some k8c1 }
/-- com/example/vaxwire/vaxwire/hl7/Repetition$Content -/
def k8 : Class := { plain "com/example/vaxwire/vaxwire/hl7/Repetition$Content" (some 7) with
  accessFlags := 16433
  interfaces := #[]
  cf := some (fileOf pool8 3 #[.nestHost 1] #[{ accessFlags := 1, nameIndex := 74, descriptorIndex := 75, attributes := #[] }, { accessFlags := 1, nameIndex := 77, descriptorIndex := 78, attributes := #[] }] 16433 31 #[] #[{ accessFlags := 16409, nameIndex := 7, descriptorIndex := 8, attributes := #[] }, { accessFlags := 16409, nameIndex := 11, descriptorIndex := 8, attributes := #[] }, { accessFlags := 16409, nameIndex := 14, descriptorIndex := 8, attributes := #[] }, { accessFlags := 16409, nameIndex := 17, descriptorIndex := 8, attributes := #[] }, { accessFlags := 16409, nameIndex := 20, descriptorIndex := 8, attributes := #[] }, { accessFlags := 4122, nameIndex := 23, descriptorIndex := 24, attributes := #[] }])
  fields := #[{ name := "NOTHING", type := (.object "com/example/vaxwire/vaxwire/hl7/Repetition$Content"), accessFlags := 16409, slot := 0, constantValue := 0 }, { name := "SEPARATORS", type := (.object "com/example/vaxwire/vaxwire/hl7/Repetition$Content"), accessFlags := 16409, slot := 1, constantValue := 0 }, { name := "QUOTE", type := (.object "com/example/vaxwire/vaxwire/hl7/Repetition$Content"), accessFlags := 16409, slot := 2, constantValue := 0 }, { name := "NULL_VALUE", type := (.object "com/example/vaxwire/vaxwire/hl7/Repetition$Content"), accessFlags := 16409, slot := 3, constantValue := 0 }, { name := "VALUE", type := (.object "com/example/vaxwire/vaxwire/hl7/Repetition$Content"), accessFlags := 16409, slot := 4, constantValue := 0 }, { name := "$VALUES", type := (.array (.object "com/example/vaxwire/vaxwire/hl7/Repetition$Content")), accessFlags := 4122, slot := 5, constantValue := 0 }]
  methods := #[k8m0, k8m1]
  instanceTypes := #[(.object "java/lang/String"), .int, .int]
  staticTypes := #[(.object "com/example/vaxwire/vaxwire/hl7/Repetition$Content"), (.object "com/example/vaxwire/vaxwire/hl7/Repetition$Content"), (.object "com/example/vaxwire/vaxwire/hl7/Repetition$Content"), (.object "com/example/vaxwire/vaxwire/hl7/Repetition$Content"), (.object "com/example/vaxwire/vaxwire/hl7/Repetition$Content"), (.array (.object "com/example/vaxwire/vaxwire/hl7/Repetition$Content"))]
  resolved := Array.replicate 86 none
  statics := some 1 }

def pool9 : Array CpInfo := pool [(2, .class_ 4), (1, u "java/lang/CharSequence"), (42, .class_ 48), (0, u "java/lang/CharSequence$1CodePointIterator"), (10, .class_ 60), (0, u "java/lang/CharSequence$1CharIterator"), (5, .class_ 67), (0, u "java/lang/Object")] 63

/-- java/lang/CharSequence -/
def k9 : Class := { plain "java/lang/CharSequence" (some 0) with
  accessFlags := 1537
  interfaces := #[]
  cf := some (fileOf pool9 2 #[.nestMembers #[47, 59]] #[] 1537 66 #[] #[])
  fields := #[]
  methods := #[]
  instanceTypes := #[]
  staticTypes := #[]
  resolved := Array.replicate 131 none
  statics := none }

def pool10 : Array CpInfo := pool [(1, .class_ 2), (0, u "java/lang/constant/ConstantDesc"), (0, .class_ 4), (0, u "java/lang/Object")] 32

/-- java/lang/constant/ConstantDesc -/
def k10 : Class := { plain "java/lang/constant/ConstantDesc" (some 0) with
  accessFlags := 1537
  interfaces := #[]
  cf := some (fileOf pool10 1 #[] #[] 1537 3 #[] #[])
  fields := #[]
  methods := #[]
  instanceTypes := #[]
  staticTypes := #[]
  resolved := Array.replicate 37 none
  statics := none }

def pool11 : Array CpInfo := pool [(2, .class_ 4), (1, u "java/lang/Object"), (0, u "<init>"), (0, u "()V"), (2, .fieldref 10 11), (0, .class_ 12), (0, .nameAndType 13 14), (0, u "java/lang/String"), (0, u "value"), (0, u "[B"), (0, .fieldref 10 16), (0, .nameAndType 17 18), (0, u "coder"), (0, u "B"), (2, u "hash"), (0, u "I"), (2, u "hashIsZero"), (0, u "Z"), (11, .fieldref 10 39), (0, .nameAndType 40 26), (0, u "COMPACT_STRINGS"), (66, .class_ 109), (1, u "java/lang/StringLatin1"), (32, u "()Z"), (220, u "([BI)C"), (27, u "(II)V"), (35, u "(I)C"), (64, .methodref 10 493), (0, .nameAndType 494 142), (0, u "isLatin1"), (0, .methodref 107 496), (0, .nameAndType 497 363), (0, u "charAt"), (3, u "checkIndex"), (73, .class_ 576), (0, u "java/lang/CharSequence"), (22, u "CASE_INSENSITIVE_ORDER"), (0, u "Ljava/util/Comparator;"), (452, .fieldref 1054 1055), (0, .class_ 1056), (0, .nameAndType 1057 1058), (0, u "jdk/internal/util/Preconditions"), (0, u "SIOOBE_FORMATTER"), (0, u "Ljava/util/function/BiFunction;"), (0, .methodref 1054 1060), (0, .nameAndType 501 1061), (0, u "(IILjava/util/function/BiFunction;)I"), (39, u "serialPersistentFields"), (0, u "[Ljava/io/ObjectStreamField;"), (0, .class_ 1104), (0, u "java/lang/String$CaseInsensitiveComparator"), (1, .class_ 1107), (0, u "java/io/Serializable"), (0, .class_ 1109), (0, u "java/lang/Comparable"), (0, .class_ 1111), (0, u "java/lang/constant/Constable"), (0, .class_ 1113), (0, u "java/lang/constant/ConstantDesc"), (2, u "serialVersionUID"), (0, u "J"), (3, u "REPL"), (0, u "C"), (2, u "LATIN1"), (1, u "UTF16")] 323

def k11m0 : Method := { name := "<init>", desc := "()V", sig := { parameters := [], returnType := none }, accessFlags := 1, code := none }
def k11c1 : Code := { maxStack := 2, maxLocals := 2, code := jdk_42_method_56_code, exceptionTable := #[], attributes := #[] }
def k11m1 : Method := { name := "charAt", desc := "(I)C", sig := { parameters := [.int], returnType := some .char }, accessFlags := 1, code := some k11c1 }
def k11c2 : Code := { maxStack := 1, maxLocals := 1, code := jdk_42_method_154_code, exceptionTable := #[], attributes := #[] }
def k11m2 : Method := { name := "isLatin1", desc := "()Z", sig := { parameters := [], returnType := some .boolean }, accessFlags := 0, code := some k11c2 }
def k11c3 : Code := { maxStack := 3, maxLocals := 2, code := jdk_42_method_155_code, exceptionTable := #[], attributes := #[] }
def k11m3 : Method := { name := "checkIndex", desc := "(II)V", sig := { parameters := [.int, .int], returnType := none }, accessFlags := 8, code := some k11c3 }
/-- java/lang/String -/
def k11 : Class := { plain "java/lang/String" (some 0) with
  accessFlags := 49
  interfaces := #[6, 5, 9, 4, 10]
  cf := some (fileOf pool11 10 #[.nestMembers #[1103]] #[{ accessFlags := 1, nameIndex := 5, descriptorIndex := 6, attributes := #[] }, { accessFlags := 1, nameIndex := 497, descriptorIndex := 427, attributes := #[] }, { accessFlags := 0, nameIndex := 494, descriptorIndex := 142, attributes := #[] }, { accessFlags := 8, nameIndex := 501, descriptorIndex := 391, attributes := #[] }] 49 2 #[1106, 1108, 575, 1110, 1112] #[{ accessFlags := 18, nameIndex := 13, descriptorIndex := 14, attributes := #[] }, { accessFlags := 18, nameIndex := 17, descriptorIndex := 18, attributes := #[] }, { accessFlags := 2, nameIndex := 21, descriptorIndex := 22, attributes := #[] }, { accessFlags := 2, nameIndex := 25, descriptorIndex := 26, attributes := #[] }, { accessFlags := 26, nameIndex := 1116, descriptorIndex := 1117, attributes := #[] }, { accessFlags := 24, nameIndex := 40, descriptorIndex := 26, attributes := #[] }, { accessFlags := 26, nameIndex := 1101, descriptorIndex := 1102, attributes := #[] }, { accessFlags := 26, nameIndex := 1121, descriptorIndex := 1122, attributes := #[] }, { accessFlags := 25, nameIndex := 599, descriptorIndex := 600, attributes := #[] }, { accessFlags := 24, nameIndex := 1125, descriptorIndex := 18, attributes := #[] }, { accessFlags := 24, nameIndex := 1127, descriptorIndex := 18, attributes := #[] }])
  fields := #[{ name := "value", type := (.array .byte), accessFlags := 18, slot := 0, constantValue := 0 }, { name := "coder", type := .byte, accessFlags := 18, slot := 1, constantValue := 0 }, { name := "hash", type := .int, accessFlags := 2, slot := 2, constantValue := 0 }, { name := "hashIsZero", type := .boolean, accessFlags := 2, slot := 3, constantValue := 0 }, { name := "serialVersionUID", type := .long, accessFlags := 26, slot := 0, constantValue := 0 }, { name := "COMPACT_STRINGS", type := .boolean, accessFlags := 24, slot := 1, constantValue := 0 }, { name := "serialPersistentFields", type := (.array (.object "java/io/ObjectStreamField")), accessFlags := 26, slot := 2, constantValue := 0 }, { name := "REPL", type := .char, accessFlags := 26, slot := 3, constantValue := 0 }, { name := "CASE_INSENSITIVE_ORDER", type := (.object "java/util/Comparator"), accessFlags := 25, slot := 4, constantValue := 0 }, { name := "LATIN1", type := .byte, accessFlags := 24, slot := 5, constantValue := 0 }, { name := "UTF16", type := .byte, accessFlags := 24, slot := 6, constantValue := 0 }]
  methods := #[k11m0, k11m1, k11m2, k11m3]
  instanceTypes := #[(.array .byte), .byte, .int, .boolean]
  staticTypes := #[.long, .boolean, (.array (.object "java/io/ObjectStreamField")), .char, (.object "java/util/Comparator"), .byte, .byte]
  resolved := Array.replicate 1451 none
  statics := some 2 }

def pool12 : Array CpInfo := pool [(1, .class_ 2), (0, u "java/lang/String"), (1, .class_ 6), (1, u "java/lang/Object"), (0, u "<init>"), (0, u "()V"), (0, .methodref 1 10), (0, .nameAndType 11 12), (0, u "checkIndex"), (0, u "(II)V"), (1, .class_ 16), (1, u "java/lang/StringLatin1"), (36, u "([BI)C"), (67, u "$assertionsDisabled"), (0, u "Z"), (98, .class_ 223), (1, u "java/lang/StringLatin1$LinesSpliterator"), (28, u "charAt"), (137, .class_ 391), (0, u "java/lang/StringLatin1$CharsSpliterator")] 3

def k12m0 : Method := { name := "<init>", desc := "()V", sig := { parameters := [], returnType := none }, accessFlags := 0, code := none }
def k12c1 : Code := { maxStack := 2, maxLocals := 2, code := jdk_43_method_2_code, exceptionTable := #[], attributes := #[] }
def k12m1 : Method := { name := "charAt", desc := "([BI)C", sig := { parameters := [(.array .byte), .int], returnType := some .char }, accessFlags := 9, code := some k12c1 }
/-- java/lang/StringLatin1 -/
def k12 : Class := { plain "java/lang/StringLatin1" (some 0) with
  accessFlags := 48
  interfaces := #[]
  cf := some (fileOf pool12 14 #[.nestMembers #[390, 221]] #[{ accessFlags := 0, nameIndex := 7, descriptorIndex := 8, attributes := #[] }, { accessFlags := 9, nameIndex := 252, descriptorIndex := 53, attributes := #[] }] 48 4 #[] #[{ accessFlags := 4120, nameIndex := 121, descriptorIndex := 122, attributes := #[] }])
  fields := #[{ name := "$assertionsDisabled", type := .boolean, accessFlags := 4120, slot := 0, constantValue := 0 }]
  methods := #[k12m0, k12m1]
  instanceTypes := #[]
  staticTypes := #[.boolean]
  resolved := Array.replicate 395 none
  statics := none }

def pool13 : Array CpInfo := pool [(2, .class_ 4), (1, u "java/lang/Object"), (0, u "<init>"), (0, u "()V"), (17, .class_ 26), (1, u "jdk/internal/util/Preconditions"), (6, u "checkIndex"), (21, .class_ 56), (0, u "jdk/internal/util/Preconditions$4"), (57, .class_ 115), (0, u "jdk/internal/util/Preconditions$1"), (7, u "SIOOBE_FORMATTER"), (0, u "Ljava/util/function/BiFunction;"), (0, .class_ 126), (0, u "jdk/internal/util/Preconditions$2"), (3, u "AIOOBE_FORMATTER"), (0, .class_ 132), (0, u "jdk/internal/util/Preconditions$3"), (3, u "IOOBE_FORMATTER"), (41, u "(IILjava/util/function/BiFunction;)I")] 15

def k13m0 : Method := { name := "<init>", desc := "()V", sig := { parameters := [], returnType := none }, accessFlags := 1, code := none }
def k13c1 : Code := { maxStack := 3, maxLocals := 3, code := jdk_41_method_11_code, exceptionTable := #[], attributes := #[] }
def k13m1 : Method := { name := "checkIndex", desc := "(IILjava/util/function/BiFunction;)I", sig := { parameters := [.int, .int, (.object "java/util/function/BiFunction")], returnType := some .int }, accessFlags := 9, code := some k13c1 }
/-- jdk/internal/util/Preconditions -/
def k13 : Class := { plain "jdk/internal/util/Preconditions" (some 0) with
  accessFlags := 33
  interfaces := #[]
  cf := some (fileOf pool13 24 #[.nestMembers #[55, 131, 125, 114]] #[{ accessFlags := 1, nameIndex := 5, descriptorIndex := 6, attributes := #[] }, { accessFlags := 9, nameIndex := 33, descriptorIndex := 178, attributes := #[] }] 33 2 #[] #[{ accessFlags := 25, nameIndex := 123, descriptorIndex := 124, attributes := #[] }, { accessFlags := 25, nameIndex := 130, descriptorIndex := 124, attributes := #[] }, { accessFlags := 25, nameIndex := 136, descriptorIndex := 124, attributes := #[] }])
  fields := #[{ name := "SIOOBE_FORMATTER", type := (.object "java/util/function/BiFunction"), accessFlags := 25, slot := 0, constantValue := 0 }, { name := "AIOOBE_FORMATTER", type := (.object "java/util/function/BiFunction"), accessFlags := 25, slot := 1, constantValue := 0 }, { name := "IOOBE_FORMATTER", type := (.object "java/util/function/BiFunction"), accessFlags := 25, slot := 2, constantValue := 0 }]
  methods := #[k13m0, k13m1]
  instanceTypes := #[]
  staticTypes := #[(.object "java/util/function/BiFunction"), (.object "java/util/function/BiFunction"), (.object "java/util/function/BiFunction")]
  resolved := Array.replicate 194 none
  statics := some 3 }

def pool14 : Array CpInfo := pool [(9, u "<init>"), (6, .class_ 18), (1, u "java/lang/Object"), (0, u "()V"), (1, .class_ 23), (1, u "jdk/internal/util/ArraysSupport"), (0, u "LOG2_ARRAY_LONG_INDEX_SCALE"), (0, u "I"), (2, u "U"), (0, u "Ljdk/internal/misc/Unsafe;"), (8, u "BIG_ENDIAN"), (0, u "Z"), (8, u "LOG2_BYTE_BIT_SIZE"), (4, u "LOG2_ARRAY_INT_INDEX_SCALE"), (54, u "JLA"), (0, u "Ljdk/internal/access/JavaLangAccess;"), (11, u "LOG2_ARRAY_BOOLEAN_INDEX_SCALE"), (9, u "LOG2_ARRAY_BYTE_INDEX_SCALE"), (5, u "LOG2_ARRAY_CHAR_INDEX_SCALE"), (5, u "LOG2_ARRAY_SHORT_INDEX_SCALE"), (18, u "LOG2_ARRAY_FLOAT_INDEX_SCALE"), (24, u "LOG2_ARRAY_DOUBLE_INDEX_SCALE"), (89, u "T_BOOLEAN"), (2, u "T_CHAR"), (1, u "T_FLOAT"), (1, u "T_DOUBLE"), (1, u "T_BYTE"), (1, u "T_SHORT"), (1, u "T_INT"), (1, u "T_LONG"), (1, u "SOFT_MAX_ARRAY_LENGTH")] 83

def k14m0 : Method := { name := "<init>", desc := "()V", sig := { parameters := [], returnType := none }, accessFlags := 2, code := none }
/-- jdk/internal/util/ArraysSupport -/
def k14 : Class := { plain "jdk/internal/util/ArraysSupport" (some 0) with
  accessFlags := 33
  interfaces := #[]
  cf := some (fileOf pool14 21 #[] #[{ accessFlags := 2, nameIndex := 9, descriptorIndex := 19, attributes := #[] }] 33 16 #[] #[{ accessFlags := 24, nameIndex := 28, descriptorIndex := 29, attributes := #[] }, { accessFlags := 26, nameIndex := 38, descriptorIndex := 39, attributes := #[] }, { accessFlags := 25, nameIndex := 121, descriptorIndex := 25, attributes := #[] }, { accessFlags := 25, nameIndex := 131, descriptorIndex := 25, attributes := #[] }, { accessFlags := 25, nameIndex := 137, descriptorIndex := 25, attributes := #[] }, { accessFlags := 25, nameIndex := 143, descriptorIndex := 25, attributes := #[] }, { accessFlags := 25, nameIndex := 53, descriptorIndex := 25, attributes := #[] }, { accessFlags := 25, nameIndex := 24, descriptorIndex := 25, attributes := #[] }, { accessFlags := 25, nameIndex := 162, descriptorIndex := 25, attributes := #[] }, { accessFlags := 25, nameIndex := 187, descriptorIndex := 25, attributes := #[] }, { accessFlags := 26, nameIndex := 48, descriptorIndex := 25, attributes := #[] }, { accessFlags := 25, nameIndex := 277, descriptorIndex := 25, attributes := #[] }, { accessFlags := 25, nameIndex := 280, descriptorIndex := 25, attributes := #[] }, { accessFlags := 25, nameIndex := 282, descriptorIndex := 25, attributes := #[] }, { accessFlags := 25, nameIndex := 284, descriptorIndex := 25, attributes := #[] }, { accessFlags := 25, nameIndex := 286, descriptorIndex := 25, attributes := #[] }, { accessFlags := 25, nameIndex := 288, descriptorIndex := 25, attributes := #[] }, { accessFlags := 25, nameIndex := 290, descriptorIndex := 25, attributes := #[] }, { accessFlags := 25, nameIndex := 292, descriptorIndex := 25, attributes := #[] }, { accessFlags := 26, nameIndex := 108, descriptorIndex := 109, attributes := #[] }, { accessFlags := 25, nameIndex := 294, descriptorIndex := 25, attributes := #[] }])
  fields := #[{ name := "U", type := (.object "jdk/internal/misc/Unsafe"), accessFlags := 24, slot := 0, constantValue := 0 }, { name := "BIG_ENDIAN", type := .boolean, accessFlags := 26, slot := 1, constantValue := 0 }, { name := "LOG2_ARRAY_BOOLEAN_INDEX_SCALE", type := .int, accessFlags := 25, slot := 2, constantValue := 0 }, { name := "LOG2_ARRAY_BYTE_INDEX_SCALE", type := .int, accessFlags := 25, slot := 3, constantValue := 0 }, { name := "LOG2_ARRAY_CHAR_INDEX_SCALE", type := .int, accessFlags := 25, slot := 4, constantValue := 0 }, { name := "LOG2_ARRAY_SHORT_INDEX_SCALE", type := .int, accessFlags := 25, slot := 5, constantValue := 0 }, { name := "LOG2_ARRAY_INT_INDEX_SCALE", type := .int, accessFlags := 25, slot := 6, constantValue := 0 }, { name := "LOG2_ARRAY_LONG_INDEX_SCALE", type := .int, accessFlags := 25, slot := 7, constantValue := 0 }, { name := "LOG2_ARRAY_FLOAT_INDEX_SCALE", type := .int, accessFlags := 25, slot := 8, constantValue := 0 }, { name := "LOG2_ARRAY_DOUBLE_INDEX_SCALE", type := .int, accessFlags := 25, slot := 9, constantValue := 0 }, { name := "LOG2_BYTE_BIT_SIZE", type := .int, accessFlags := 26, slot := 10, constantValue := 0 }, { name := "T_BOOLEAN", type := .int, accessFlags := 25, slot := 11, constantValue := 0 }, { name := "T_CHAR", type := .int, accessFlags := 25, slot := 12, constantValue := 0 }, { name := "T_FLOAT", type := .int, accessFlags := 25, slot := 13, constantValue := 0 }, { name := "T_DOUBLE", type := .int, accessFlags := 25, slot := 14, constantValue := 0 }, { name := "T_BYTE", type := .int, accessFlags := 25, slot := 15, constantValue := 0 }, { name := "T_SHORT", type := .int, accessFlags := 25, slot := 16, constantValue := 0 }, { name := "T_INT", type := .int, accessFlags := 25, slot := 17, constantValue := 0 }, { name := "T_LONG", type := .int, accessFlags := 25, slot := 18, constantValue := 0 }, { name := "JLA", type := (.object "jdk/internal/access/JavaLangAccess"), accessFlags := 26, slot := 19, constantValue := 0 }, { name := "SOFT_MAX_ARRAY_LENGTH", type := .int, accessFlags := 25, slot := 20, constantValue := 0 }]
  methods := #[k14m0]
  instanceTypes := #[]
  staticTypes := #[(.object "jdk/internal/misc/Unsafe"), .boolean, .int, .int, .int, .int, .int, .int, .int, .int, .int, .int, .int, .int, .int, .int, .int, .int, .int, (.object "jdk/internal/access/JavaLangAccess"), .int]
  resolved := Array.replicate 378 none
  statics := none }

def pool15 : Array CpInfo := pool [(1, u "java/lang/Cloneable"), (0, .class_ 1), (0, u "java/lang/Object"), (0, .class_ 3)] 3

/-- java/lang/Cloneable -/
def k15 : Class := { plain "java/lang/Cloneable" (some 0) with
  accessFlags := 1537
  interfaces := #[]
  cf := some (fileOf pool15 2 #[] #[] 1537 4 #[] #[])
  fields := #[]
  methods := #[]
  instanceTypes := #[]
  staticTypes := #[]
  resolved := Array.replicate 8 none
  statics := none }

/-- the primitive byte -/
def k16 : Class := { plain "byte" none with kind := .primitive 'B', accessFlags := 0x411 }
/-- [B -/
def k17 : Class := { plain "[B" (some 0) with kind := .array 16 .byte, interfaces := #[15, 6], accessFlags := 1041 }

/-- the primitive int -/
def k18 : Class := { plain "int" none with kind := .primitive 'I', accessFlags := 0x411 }
/-- [I -/
def k19 : Class := { plain "[I" (some 0) with kind := .array 18 .int, interfaces := #[15, 6], accessFlags := 1041 }

def heap : Heap := #[{ cls := 3, slots := #[.ref 4, .null], vm := .statics 3 },
  { cls := 8, slots := #[.ref 5, .ref 6, .ref 7, .ref 8, .ref 9, .null], vm := .statics 8 },
  { cls := 11, slots := #[.long 0, .int 1, .null, .int 0, .null, .int 0, .int 0], vm := .statics 11 },
  { cls := 13, slots := #[.null, .null, .null], vm := .statics 13 },
  { cls := 3, slots := #[.int 124, .int 94, .int 126, .int 92, .int 38], vm := .none },
  { cls := 8, slots := #[.null, .int 0, .int 0], vm := .none },
  { cls := 8, slots := #[.null, .int 1, .int 0], vm := .none },
  { cls := 8, slots := #[.null, .int 2, .int 0], vm := .none },
  { cls := 8, slots := #[.null, .int 3, .int 0], vm := .none },
  { cls := 8, slots := #[.null, .int 4, .int 0], vm := .none }]
def classes : Array Class := #[k0, k1, k2, k3, k4, k5, k6, k7, k8, k9, k10, k11, k12, k13, k14, k15, k16, k17, k18, k19]
def interned : List (Array UInt16 × Addr) := []
def slotsUsed : Nat := 38
def theMethod : MethodId := ⟨1, 3⟩
def args0 : Array Value := #[.int 5, .int 6, .int 7, .int 8]
def aboutOver (below : List Frame) : State where
  vm := { classes := classes, interned := interned.toArray }
  heap := heap
  slotsUsed := slotsUsed
  threads := #[{ frames := .invoking theMethod args0 :: below }]
def below0 : List Frame := [.native { method := ⟨0, 0⟩, args := #[] }]
def about1 : State := aboutOver below0
def p0 : Program := .bare "" "" ""
def e0 : Env := launch0.env 0 0 0
theorem w_frames : about1.frames = Frame.invoking theMethod args0 :: below0 := rfl
set_option maxRecDepth 65536 in
theorem w_args : argsFit about1.vm theMethod args0 = true := by decide +kernel
set_option maxRecDepth 65536 in
theorem w_heap : heapFits about1 = true := by decide +kernel
set_option maxRecDepth 65536 in
theorem w_runnable : about1.curStatus? = some .runnable := by decide +kernel
set_option maxRecDepth 65536 in
theorem w_alone : about1.alone = true := by decide +kernel
set_option maxRecDepth 65536 in
theorem w_named : about1.methodNamed? x = some theMethod := by decide +kernel
set_option maxRecDepth 65536 in
theorem w_hears : about1.hears theMethod below0 = true := by decide +kernel
set_option maxRecDepth 65536 in
theorem w_ripe : about1.ripe theMethod args0 below0 = true := by decide +kernel
theorem w_running : about1.status = .running := rfl
set_option maxRecDepth 65536 in
theorem w_room : about1.hasRoom e0.platform room_1 = true :=
  launch0.hasRoom_least _ room_1 (by decide +kernel) (by decide +kernel) (by decide +kernel) (by decide +kernel) (by decide +kernel) (by decide +kernel)
theorem allAtoms_all (ts : List Jvm.Cond) (a : Array Jvm.Value) (st : Jvm.State) : (allAtoms ts).before a st = ts.all (fun c => c.before a st) := by
  induction ts with
  | nil => rfl
  | cons c t ih =>
    show (Jvm.Cond.and c (allAtoms t)).before a st = _
    rw [Jvm.Cond.before_and, ih, List.all_cons]
def words1 : List Jvm.Cond := Jvm.Cond.code x code maxLocals ret :: tables_1
/-- a 'code' word, met by the world's own term for the bytes: nothing is compared byte by byte -/
theorem code_word {y : MethodName} {bytes : ByteArray} {mx : Nat} {rt : Option FieldType} {a : Array Value} {s : State} {m : MethodId} {meth : Method} {c : Code} (h1 : s.methodNamed? y = some m) (h2 : s.vm.method? m = some meth) (h3 : meth.code = some c) (h4 : c.code = bytes)
    (h5 : (c.maxLocals == mx && c.exceptionTable.isEmpty && decide (c.maxStack ≤ mostOperands) && decide (meth.sig.returnType = rt) && !meth.locks && decide (parseMethodDescriptor y.desc = some meth.sig)) = true) : (Jvm.Cond.code y bytes mx rt).before a s = true := by
  simp only [Bool.and_eq_true, beq_iff_eq, Bool.not_eq_true', decide_eq_true_eq] at h5
  obtain ⟨⟨⟨⟨⟨g1, g2⟩, g3⟩, g4⟩, g5⟩, g6⟩ := h5
  simp [Cond.before, Cond.holds, Cond.value, h1, h2, h3, h4, g1, g2, g3, g4, g5, g6]
def isCode : Jvm.Cond → Bool
  | .code _ _ _ _ => true
  | _ => false
theorem all_split {L : List Jvm.Cond} {P : Jvm.Cond → Bool} (h1 : L.all (fun c => isCode c || P c) = true) (h2 : ∀ c ∈ L.filter isCode, P c = true) : L.all P = true := by
  refine List.all_eq_true.mpr fun c hc => ?_
  have h := List.all_eq_true.mp h1 c hc
  rcases Bool.eq_false_or_eq_true (isCode c) with hi | hi
  · exact h2 c (List.mem_filter.mpr ⟨hc, hi⟩)
  · simpa [hi] using h
set_option maxRecDepth 65536 in
theorem w_c0 : (Jvm.Cond.code x code maxLocals ret).before args0 about1 = true := code_word (m := ⟨1, 3⟩) (meth := k1m3) (c := k1c3) (by decide +kernel) rfl rfl rfl (by decide +kernel)
set_option maxRecDepth 65536 in
theorem w_c1 : (Jvm.Cond.code ({ cls := "com/example/vaxwire/vaxwire/hl7/ContentIsValuePinLaw", name := "pick", desc := "(I)C" } : Jvm.MethodName) method_2_code (2 : Nat) (Option.some Jvm.ClassFile.FieldType.char)).before args0 about1 = true := code_word (m := ⟨1, 1⟩) (meth := k1m1) (c := k1c1) (by decide +kernel) rfl rfl rfl (by decide +kernel)
set_option maxRecDepth 65536 in
theorem w_c2 : (Jvm.Cond.code ({ cls := "com/example/vaxwire/vaxwire/hl7/Repetition$Content", name := "isValue", desc := "()Z" } : Jvm.MethodName) prog_56_method_5_code (1 : Nat) (Option.some Jvm.ClassFile.FieldType.boolean)).before args0 about1 = true := code_word (m := ⟨8, 1⟩) (meth := k8m1) (c := k8c1) (by decide +kernel) rfl rfl rfl (by decide +kernel)
set_option maxRecDepth 65536 in
theorem w_c3 : (Jvm.Cond.code ({ cls := "com/example/vaxwire/vaxwire/hl7/Repetition$Content", name := "after", desc := "(CLcom/example/vaxwire/vaxwire/hl7/Delimiters;)Lcom/example/vaxwire/vaxwire/hl7/Repetition$Content;" } : Jvm.MethodName) prog_56_method_4_code (3 : Nat) (Option.some (Jvm.ClassFile.FieldType.object "com/example/vaxwire/vaxwire/hl7/Repetition$Content"))).before args0 about1 = true := code_word (m := ⟨8, 0⟩) (meth := k8m0) (c := k8c0) (by decide +kernel) rfl rfl rfl (by decide +kernel)
set_option maxRecDepth 65536 in
theorem w_c4 : (Jvm.Cond.code ({ cls := "com/example/vaxwire/vaxwire/hl7/Delimiters", name := "component", desc := "()C" } : Jvm.MethodName) prog_48_method_20_code (1 : Nat) (Option.some Jvm.ClassFile.FieldType.char)).before args0 about1 = true := code_word (m := ⟨3, 0⟩) (meth := k3m0) (c := k3c0) (by decide +kernel) rfl rfl rfl (by decide +kernel)
set_option maxRecDepth 65536 in
theorem w_c5 : (Jvm.Cond.code ({ cls := "com/example/vaxwire/vaxwire/hl7/Delimiters", name := "subcomponent", desc := "()C" } : Jvm.MethodName) prog_48_method_23_code (1 : Nat) (Option.some Jvm.ClassFile.FieldType.char)).before args0 about1 = true := code_word (m := ⟨3, 1⟩) (meth := k3m1) (c := k3c1) (by decide +kernel) rfl rfl rfl (by decide +kernel)
set_option maxRecDepth 65536 in
theorem w_c6 : (Jvm.Cond.code ({ cls := "java/lang/String", name := "charAt", desc := "(I)C" } : Jvm.MethodName) jdk_42_method_56_code (2 : Nat) (Option.some Jvm.ClassFile.FieldType.char)).before args0 about1 = true := code_word (m := ⟨11, 1⟩) (meth := k11m1) (c := k11c1) (by decide +kernel) rfl rfl rfl (by decide +kernel)
set_option maxRecDepth 65536 in
theorem w_c7 : (Jvm.Cond.code ({ cls := "java/lang/String", name := "isLatin1", desc := "()Z" } : Jvm.MethodName) jdk_42_method_154_code (1 : Nat) (Option.some Jvm.ClassFile.FieldType.boolean)).before args0 about1 = true := code_word (m := ⟨11, 2⟩) (meth := k11m2) (c := k11c2) (by decide +kernel) rfl rfl rfl (by decide +kernel)
set_option maxRecDepth 65536 in
theorem w_c8 : (Jvm.Cond.code ({ cls := "java/lang/StringLatin1", name := "charAt", desc := "([BI)C" } : Jvm.MethodName) jdk_43_method_2_code (2 : Nat) (Option.some Jvm.ClassFile.FieldType.char)).before args0 about1 = true := code_word (m := ⟨12, 1⟩) (meth := k12m1) (c := k12c1) (by decide +kernel) rfl rfl rfl (by decide +kernel)
set_option maxRecDepth 65536 in
theorem w_c9 : (Jvm.Cond.code ({ cls := "java/lang/String", name := "checkIndex", desc := "(II)V" } : Jvm.MethodName) jdk_42_method_155_code (2 : Nat) (Option.none : Option Jvm.ClassFile.FieldType)).before args0 about1 = true := code_word (m := ⟨11, 3⟩) (meth := k11m3) (c := k11c3) (by decide +kernel) rfl rfl rfl (by decide +kernel)
set_option maxRecDepth 65536 in
theorem w_c10 : (Jvm.Cond.code ({ cls := "jdk/internal/util/Preconditions", name := "checkIndex", desc := "(IILjava/util/function/BiFunction;)I" } : Jvm.MethodName) jdk_41_method_11_code (3 : Nat) (Option.some Jvm.ClassFile.FieldType.int)).before args0 about1 = true := code_word (m := ⟨13, 1⟩) (meth := k13m1) (c := k13c1) (by decide +kernel) rfl rfl rfl (by decide +kernel)
set_option maxRecDepth 65536 in
theorem w_c11 : (Jvm.Cond.code ({ cls := "com/example/vaxwire/vaxwire/hl7/ContentIsValuePinLaw", name := "isSep", desc := "(C)Z" } : Jvm.MethodName) method_3_code (1 : Nat) (Option.some Jvm.ClassFile.FieldType.boolean)).before args0 about1 = true := code_word (m := ⟨1, 2⟩) (meth := k1m2) (c := k1c2) (by decide +kernel) rfl rfl rfl (by decide +kernel)
def codes1 : List Jvm.Cond := [Jvm.Cond.code x code maxLocals ret, Jvm.Cond.code ({ cls := "com/example/vaxwire/vaxwire/hl7/ContentIsValuePinLaw", name := "pick", desc := "(I)C" } : Jvm.MethodName) method_2_code (2 : Nat) (Option.some Jvm.ClassFile.FieldType.char), Jvm.Cond.code ({ cls := "com/example/vaxwire/vaxwire/hl7/Repetition$Content", name := "isValue", desc := "()Z" } : Jvm.MethodName) prog_56_method_5_code (1 : Nat) (Option.some Jvm.ClassFile.FieldType.boolean), Jvm.Cond.code ({ cls := "com/example/vaxwire/vaxwire/hl7/Repetition$Content", name := "after", desc := "(CLcom/example/vaxwire/vaxwire/hl7/Delimiters;)Lcom/example/vaxwire/vaxwire/hl7/Repetition$Content;" } : Jvm.MethodName) prog_56_method_4_code (3 : Nat) (Option.some (Jvm.ClassFile.FieldType.object "com/example/vaxwire/vaxwire/hl7/Repetition$Content")), Jvm.Cond.code ({ cls := "com/example/vaxwire/vaxwire/hl7/Delimiters", name := "component", desc := "()C" } : Jvm.MethodName) prog_48_method_20_code (1 : Nat) (Option.some Jvm.ClassFile.FieldType.char), Jvm.Cond.code ({ cls := "com/example/vaxwire/vaxwire/hl7/Delimiters", name := "subcomponent", desc := "()C" } : Jvm.MethodName) prog_48_method_23_code (1 : Nat) (Option.some Jvm.ClassFile.FieldType.char), Jvm.Cond.code ({ cls := "java/lang/String", name := "charAt", desc := "(I)C" } : Jvm.MethodName) jdk_42_method_56_code (2 : Nat) (Option.some Jvm.ClassFile.FieldType.char), Jvm.Cond.code ({ cls := "java/lang/String", name := "isLatin1", desc := "()Z" } : Jvm.MethodName) jdk_42_method_154_code (1 : Nat) (Option.some Jvm.ClassFile.FieldType.boolean), Jvm.Cond.code ({ cls := "java/lang/StringLatin1", name := "charAt", desc := "([BI)C" } : Jvm.MethodName) jdk_43_method_2_code (2 : Nat) (Option.some Jvm.ClassFile.FieldType.char), Jvm.Cond.code ({ cls := "java/lang/String", name := "checkIndex", desc := "(II)V" } : Jvm.MethodName) jdk_42_method_155_code (2 : Nat) (Option.none : Option Jvm.ClassFile.FieldType), Jvm.Cond.code ({ cls := "jdk/internal/util/Preconditions", name := "checkIndex", desc := "(IILjava/util/function/BiFunction;)I" } : Jvm.MethodName) jdk_41_method_11_code (3 : Nat) (Option.some Jvm.ClassFile.FieldType.int), Jvm.Cond.code ({ cls := "com/example/vaxwire/vaxwire/hl7/ContentIsValuePinLaw", name := "isSep", desc := "(C)Z" } : Jvm.MethodName) method_3_code (1 : Nat) (Option.some Jvm.ClassFile.FieldType.boolean)]
set_option maxRecDepth 65536 in
theorem codes_eq : words1.filter isCode = codes1 := rfl
theorem w_codes : ∀ c ∈ words1.filter isCode, c.before args0 about1 = true := by
  rw [codes_eq]
  intro c hc
  simp only [codes1, List.mem_cons, List.not_mem_nil, or_false] at hc
  rcases hc with rfl | rfl | rfl | rfl | rfl | rfl | rfl | rfl | rfl | rfl | rfl | rfl
  · exact w_c0
  · exact w_c1
  · exact w_c2
  · exact w_c3
  · exact w_c4
  · exact w_c5
  · exact w_c6
  · exact w_c7
  · exact w_c8
  · exact w_c9
  · exact w_c10
  · exact w_c11
set_option maxRecDepth 65536 in
theorem w_t1 : (words1.take 24).all (fun c => isCode c || c.before args0 about1) = true := by decide +kernel
set_option maxRecDepth 65536 in
theorem w_t2 : ((words1.drop 24).take 24).all (fun c => isCode c || c.before args0 about1) = true := by decide +kernel
set_option maxRecDepth 65536 in
theorem w_t3 : (((words1.drop 24).drop 24).take 24).all (fun c => isCode c || c.before args0 about1) = true := by decide +kernel
set_option maxRecDepth 65536 in
theorem w_t4 : (((words1.drop 24).drop 24).drop 24).all (fun c => isCode c || c.before args0 about1) = true := by decide +kernel
theorem w_tables : (allAtoms (Jvm.Cond.code x code maxLocals ret :: tables_1)).before args0 about1 = true := by
  rw [allAtoms_all]
  show words1.all (fun c => c.before args0 about1) = true
  refine all_split ?_ w_codes
  rw [← List.take_append_drop 24 words1, List.all_append, w_t1, ← List.take_append_drop 24 (words1.drop 24), List.all_append, w_t2, ← List.take_append_drop 24 ((words1.drop 24).drop 24), List.all_append, w_t3, w_t4]
  rfl
set_option maxRecDepth 65536 in
theorem w_rest : rest_1_c.before args0 about1 = true := by decide +kernel
set_option maxRecDepth 65536 in
theorem w_case : (Jvm.Cond.and given_1 narrow_1).before args0 about1 = true := by decide +kernel
set_option maxRecDepth 65536 in
theorem w_consts : constsHeld consts_1 about1 := Jvm.Lit.constsHeldB_iff.mp (by decide +kernel)
theorem w_applies : (headSpec (Jvm.Cond.code x code maxLocals ret :: tables_1) room_1).applies x e0.platform about1 = true :=
  (Spec.applies_iff w_frames).mpr ⟨w_running, w_runnable, w_alone, w_named, w_hears, w_ripe, w_room, w_tables⟩
theorem atStart : AtStart classFile x code maxLocals ret World_1 tables_1 room_1 Calls_1 rest_1 Pre_1 launch0 p0 e0 about1 theMethod args0 below0 :=
  ⟨lists_1, trivial, launch0.admits_env _ _ _, launch0.least_env, fairChoices_fair.cas, fairChoices_fair.clock, w_frames, w_args, w_heap, w_applies, ⟨w_consts, trivial⟩, w_rest, w_case⟩
end start1
theorem witness_1 : WitnessClaimed_1 := ⟨start1.p0, start1.e0, start1.about1, start1.theMethod, start1.args0, start1.below0, start1.atStart⟩
end Jvm.Pilot.@@N@@
