import JvmDerived
import JvmDerived.Pilot.@@N@@Statement
import JvmDerived.Pilot.@@N@@Code
set_option linter.unusedVariables false
set_option linter.unusedSimpArgs false
namespace Jvm.RoadKit
open Sem ClassFile Op Lib Jvm.Stand Jvm.Free Jvm.LawKit
section New
variable {p : Program} {l : Launch} {e : Env} {R : Room} {s : State} {m : MethodId} {args : Array Value} {below : List Frame} {meth : Method} {c : Code} {T : State} {locs : List Loc} {cells slots : Nat}
theorem retI (X : Stand p l e R s m args below meth c T locs cells slots) (hx : p.tables.exec = Jvm.exec) {pc : Nat} {Ls : Array Slot} {z : Int32} {rest : List Value} (hret : meth.sig.returnType = some .int) (hd : decode c.code pc = .ok (.ireturn, 1)) {fs : List Frame}
    (hl : ∀ (f : JFrame) (acts : List Action), f.method = m → f.locked = none → f.entered = [] → (doReturn e (T.setTop f) acts (some (.int z))).1 = T.setFrames fs) : Steps p.tables e below (T.setTop (mkF m pc Ls (.int z :: rest))) (T.setFrames fs) := by
  have hm' : T.vm.method? m = some meth := X.method'
  have hn : narrow .int (.int z) = .int z := rfl
  show Steps p.tables e below (T.setTop { method := m, pc := pc, locals := Ls, stack := _ :: rest, locked := none }) _
  jvm_step X.here [X.here.top, hx, hd, hm', hret, hn]
  first | (intro acts; rw [hl _ acts rfl rfl rfl]) | rw [hl _ _ rfl rfl rfl]
  exact Steps.refl _
end New
end Jvm.RoadKit
namespace Jvm.Pilot.@@N@@
open Jvm Jvm.ClassFile Sem Op Lib Jvm.Free Jvm.Stand Jvm.LawKit Jvm.RoadKit Bundle Jvm.Pilot.@@N@@.Jvm.D
def VA (Z : State) (h : Heap) (a : Addr) (ty : FieldType) (len : Nat) (f : Nat → Value) : Prop := ∃ c : Cell, Arr Z h a c ty ∧ c.slots.size = len ∧ ∀ j, j < len → c.slots[j]? = some (f j) ∧ fits ty (f j) = true
section
variable {Z : State} {h h' : Heap} {a b : Addr} {ty : FieldType} {len sl : Nat} {f : Nat → Value} {v : Value}
theorem VA.ext (V : VA Z h a ty len f) (E : Ext h h') : VA Z h' a ty len f := by obtain ⟨c, A, r⟩ := V; exact ⟨c, A.ext E, r⟩
theorem VA.other (V : VA Z h b ty len f) (W : Wr h h' a sl v) (q : b ≠ a) : VA Z h' b ty len f := by obtain ⟨c, A, r⟩ := V; exact ⟨c, A.other W q, r⟩
theorem VA.keep {ws : List Addr} (V : VA Z h a ty len f) (K : Keep h h' ws) (q : a ∉ ws) : VA Z h' a ty len f := by obtain ⟨c, A, r⟩ := V; exact ⟨c, ⟨K.2.1 a c A.1 q, A.2⟩, r⟩
theorem VA.lt (V : VA Z h a ty len f) : a < h.size := by obtain ⟨c, A, r⟩ := V; exact A.lt
theorem VA.set (V : VA Z h a ty len f) (W : Wr h h' a sl v) (hv : fits ty v = true) : VA Z h' a ty len (fun k => if k = sl then v else f k) := by
  obtain ⟨c, A, s, r⟩ := V
  have A' := A.same W
  obtain ⟨c1, w1, w2, w3, w4⟩ := W
  cases A.1.symm.trans w1
  refine ⟨c.setSlot sl v, A', by rw [sz_set]; exact s, fun j hj => ?_⟩
  by_cases q : j = sl
  · subst q
    exact ⟨by simp [Cell.setSlot, w3], by simpa using hv⟩
  · refine ⟨?_, by simpa [q] using (r j hj).2⟩
    show (c.slots.setIfInBounds sl v)[j]? = some (if j = sl then v else f j)
    rw [if_neg q, Array.getElem?_setIfInBounds_ne (Ne.symm q)]
    exact (r j hj).1
theorem own_n32 {n : Nat} (hn : n ≤ 255) : (Int32.ofNat n).toInt = n := Int32.toInt_ofNat_of_lt (by omega)
theorem own_lt {i n : Nat} (h : i < n) (hn : n ≤ 255) : Int32.ofNat i < Int32.ofNat n := by
  rw [Int32.lt_iff_toInt_lt, own_n32 hn, own_n32 (by omega)]; omega
theorem own_nn {n : Nat} (hn : n ≤ 255) : ¬ Int32.ofNat n < 0 := by
  rw [Int32.lt_iff_toInt_lt, own_n32 hn]
  have k : (0 : Int32).toInt = 0 := by decide
  omega
theorem own_clamp {n : Nat} (hn : n ≤ 255) : (Int32.ofNat n).toNatClampNeg = n := by simp only [Int32.toNatClampNeg, own_n32 hn]; omega
theorem own_one (i : Nat) : Int32.ofNat i + (1 : Int32) = Int32.ofNat (i + 1) := (Int32.ofNat_add i 1).symm
theorem own_inj {i n : Nat} (hi : i ≤ 255) (hn : n ≤ 255) (h : Int32.ofNat i = Int32.ofNat n) : i = n := by
  have e := congrArg Int32.toInt h
  rw [own_n32 hi, own_n32 hn] at e; omega
theorem own_in {n i : Nat} {c : Cell} (hi : i < n) (hn : n ≤ 255) (s : c.slots.size = n) : ¬ (Int32.ofNat i < 0 ∨ c.slots.size ≤ (Int32.ofNat i).toNatClampNeg) := by
  rw [own_clamp (by omega), s]
  intro h
  rcases h with h | h
  · exact own_nn (by omega) h
  · omega
theorem VA.new {k : ClassId} {n : Nat} (hn : n ≤ 255) (A : Arr Z h a (newA k ty (Int32.ofNat n)) ty) (hf : fits ty (defaultValue ty) = true) : VA Z h a ty n (fun _ => defaultValue ty) := by
  refine ⟨_, A, by rw [sz_new, own_clamp hn], fun j hj => ⟨?_, hf⟩⟩
  simp [newA, own_clamp hn, hj]
theorem VA.arv2 {d : Value} (V : VA Z h a ty 2 f) : ∃ k, Arv Z h a k ty 2 [f 0, f 1] d := by
  obtain ⟨c, A, s, r⟩ := V
  have k2 : (2 : Int32).toNatClampNeg = 2 := by decide
  refine ⟨c.cls, c, A, rfl, by rw [s, k2], by decide, fun k hk => ?_, fun k hk => ?_⟩
  · rw [s] at hk
    match k, hk with
    | 0, _ => exact (r 0 (by omega)).1
    | 1, _ => exact (r 1 (by omega)).1
  · rw [s] at hk
    match k, hk with
    | 0, _ => exact (r 0 (by omega)).2
    | 1, _ => exact (r 1 (by omega)).2
theorem VA.of_arv {k : ClassId} {z : Int32} {vs : List Value} {d : Value} (V : Arv Z h a k ty z vs d) (hz : z.toNatClampNeg = len) : VA Z h a ty len (fun i => vs.getD i d) := by
  obtain ⟨c, A, -, s, -, H, G⟩ := V
  rw [hz] at s
  exact ⟨c, A, s, fun j hj => ⟨H j (by omega), G j (by omega)⟩⟩
end
def Gr (Z : State) (h : Heap) (g : Addr) (n0 len : Nat) (xs : List (Int64 × Int64)) : Prop := Exa Z h g "com/example/fast_tangle/fasttangle/PartingPairs$Groups" ∧ Fld Z h g "com/example/fast_tangle/fasttangle/PartingPairs$Groups" "size" "I" (.int (Int32.ofNat xs.length)) ∧ ∃ (r u w : Addr) (fr fu fw : Nat → Value), n0 ≤ r ∧ n0 ≤ u ∧ n0 ≤ w ∧ r ≠ u ∧ r ≠ w ∧ u ≠ w ∧ Fld Z h g "com/example/fast_tangle/fasttangle/PartingPairs$Groups" "ranks" "[I" (.ref r) ∧ Fld Z h g "com/example/fast_tangle/fasttangle/PartingPairs$Groups" "upper" "[J" (.ref u) ∧ Fld Z h g "com/example/fast_tangle/fasttangle/PartingPairs$Groups" "lower" "[J" (.ref w) ∧ VA Z h r .int len fr ∧ VA Z h u .long len fu ∧ VA Z h w .long len fw ∧ ∀ (i : Nat) (q : Int64 × Int64), xs[i]? = some q → fu i = .long q.1 ∧ fw i = .long q.2
def own_max (a b : Int32) : Int32 := if a < b then b else a
def own_min (a b : Int32) : Int32 := if b < a then b else a
def own_hi (p : Int64) : Int64 := (p >>> ((32 : Int32) &&& 0x3f).toInt64)
def own_lo (p : Int64) : Int64 := (p.toInt32).toInt64
def own_acc : Int64 → Int64 → Int64 → List (Int64 × Int64) → Int64 × Int64 × Int64
  | a, b, t, [] => (a, b, t)
  | a, b, t, (u, l) :: r => own_acc (a + u) (b + l) (t + u * l) r
def own_pairs (xs : List (Int64 × Int64)) : Int64 := (own_acc 0 0 0 xs).1 * (own_acc 0 0 0 xs).2.1 - (own_acc 0 0 0 xs).2.2
theorem d3_0 : decode jdk_29_method_65_code 0 = .ok (.iload_n 0, 1) := by decide +kernel
theorem d3_1 : decode jdk_29_method_65_code 1 = .ok (.iload_n 1, 1) := by decide +kernel
theorem d3_2 : decode jdk_29_method_65_code 2 = .ok (.if_icmp .lt 7, 3) := by decide +kernel
theorem d3_9 : decode jdk_29_method_65_code 9 = .ok (.iload_n 1, 1) := by decide +kernel
theorem d3_10 : decode jdk_29_method_65_code 10 = .ok (.ireturn, 1) := by decide +kernel
theorem ef_3 (m : MethodId) (x0 : Int32) (x1 : Int32) : entryFrame m #[(.int x0), (.int x1)] 2 = mkF m 0 #[.val (.int x0), .val (.int x1)] [] := by first | (simp [entryFrame, mkF, argsToLocals, Value.category]; done) | rfl
def Q3 (Z : State) (p1 : Int32) (p2 : Int32) (h0 : Heap) (n0 : Nat) (v : Option Value) (h : Heap) (L : List Loc) : Prop := v = some (.int (own_max p1 p2)) ∧ Fr n0 L ∧ h = h0
set_option maxRecDepth 65536 in
set_option maxHeartbeats 40000000 in
theorem rm3t (l : Launch) (Z : State) (a0 : Array Value) (hw : ∀ d ∈ tables_1, d.before a0 Z = true) (ws : List Jvm.Cond) (p1 : Int32) (p2 : Int32) (h0 : Heap) (n0 : Nat) (Z0 : n0 ≤ h0.size) (hc2 : p1 < p2) :
    MetFree l (⟨"java/lang/Math", "max", "(II)I"⟩ : MethodName) (head1 (Jvm.Cond.code (⟨"java/lang/Math", "max", "(II)I"⟩ : MethodName) jdk_29_method_65_code 2 (some .int) :: ws) ({ frames := 0, cells := 0, slots := 0, locals := 0 } : Room)) (fun a U => a = #[(.int p1), (.int p2)] ∧ Z.Warmed39 U.vm ∧ U.heap = h0) (fun _ _ _ _ _ => True) (fun _ U o U' => ∃ v L, o = .returned v ∧ Q3 Z p1 p2 h0 n0 v U'.heap L ∧ FrameEnd U o U' L ({ frames := 0, cells := 0, slots := 0, locals := 0 } : Room).cells ({ frames := 0, cells := 0, slots := 0, locals := 0 } : Room).slots) := by
  refine MetFree.of_bodySF (Jvm.Free.JP.mathPlain rfl (by decide +kernel)) hisR ?_
  intro p e s m args below meth c s₁ Bd hml0 hP hK
  obtain ⟨rfl, hZ, hh⟩ := hP
  have hx := Bd.exec
  have hby := Bd.bytes
  have hml : c.maxLocals = 2 := hml0
  have hown : s.vm.findClass "java/lang/Math" = some m.cls := findClass_of_methodNamed Bd.named
  have hnm := (name_of_methodNamed Bd.named Bd.method).1
  have X0 : Stand p l e ({ frames := 0, cells := 0, slots := 0, locals := 0 } : Room) s m #[(.int p1), (.int p2)] below meth c s₁ [] 0 0 := Stand.of_body Bd
  have e0 : s₁.heap = h0 := by rw [← hh, Bd.state]; rfl
  have N0 := Fr.nil n0
  have pre0 : ∀ t, Steps p.tables e below (s₁.setTop (mkF m 0 #[.val (.int p1), .val (.int p2)] [])) t → Steps p.tables e below (s₁.setTop (entryFrame m #[(.int p1), (.int p2)] 2)) t := fun t k => castTop (ef_3 m p1 p2) k

  obtain ⟨fs, hr, hrun, hended, hW, hsame⟩ := X0.leave (v := some (.int p2)) (fun h => by rw [Bd.returns] at h; cases h)
  refine ⟨_, _, pre0 _ ?_, hrun, hended, _, _, rfl, ?_, ⟨_, rfl⟩, hW, hsame.mono (by decide) (by decide)⟩
  · show Steps p.tables e below (s₁.setTop (mkF m 0 #[.val (.int p1), .val (.int p2)] [])) _
    refine XS.iloadN X0.here hx rfl (hb hby d3_0) rfl ?_
    show Steps p.tables e below (s₁.setTop (mkF m 1 #[.val (.int p1), .val (.int p2)] [(.int p1)])) _
    refine XS.iloadN X0.here hx rfl (hb hby d3_1) rfl ?_
    show Steps p.tables e below (s₁.setTop (mkF m 2 #[.val (.int p1), .val (.int p2)] [(.int p2), (.int p1)])) _
    refine XS.icmpYes X0.here hx rfl (pc0 := 2) (pc' := 9) rfl (hb hby d3_2) rfl (tlt hc2).1 (by decide) (by decide) ?_
    show Steps p.tables e below (s₁.setTop (mkF m 9 #[.val (.int p1), .val (.int p2)] [])) _
    refine XS.iloadN X0.here hx rfl (hb hby d3_9) rfl ?_
    show Steps p.tables e below (s₁.setTop (mkF m 10 #[.val (.int p1), .val (.int p2)] [(.int p2)])) _
    exact retI X0 hx Bd.returns (hb hby d3_10) hr
  · show Q3 Z p1 p2 h0 n0 _ s₁.heap _
    rw [e0]
    exact ⟨congrArg (fun z => some (Value.int z)) (if_pos hc2).symm, N0, rfl⟩
theorem d3_5 : decode jdk_29_method_65_code 5 = .ok (.iload_n 0, 1) := by decide +kernel
theorem d3_6 : decode jdk_29_method_65_code 6 = .ok (.goto 4, 3) := by decide +kernel
set_option maxRecDepth 65536 in
set_option maxHeartbeats 40000000 in
theorem rm3f (l : Launch) (Z : State) (a0 : Array Value) (hw : ∀ d ∈ tables_1, d.before a0 Z = true) (ws : List Jvm.Cond) (p1 : Int32) (p2 : Int32) (h0 : Heap) (n0 : Nat) (Z0 : n0 ≤ h0.size) (hc2 : ¬ (p1 < p2)) :
    MetFree l (⟨"java/lang/Math", "max", "(II)I"⟩ : MethodName) (head1 (Jvm.Cond.code (⟨"java/lang/Math", "max", "(II)I"⟩ : MethodName) jdk_29_method_65_code 2 (some .int) :: ws) ({ frames := 0, cells := 0, slots := 0, locals := 0 } : Room)) (fun a U => a = #[(.int p1), (.int p2)] ∧ Z.Warmed39 U.vm ∧ U.heap = h0) (fun _ _ _ _ _ => True) (fun _ U o U' => ∃ v L, o = .returned v ∧ Q3 Z p1 p2 h0 n0 v U'.heap L ∧ FrameEnd U o U' L ({ frames := 0, cells := 0, slots := 0, locals := 0 } : Room).cells ({ frames := 0, cells := 0, slots := 0, locals := 0 } : Room).slots) := by
  refine MetFree.of_bodySF (Jvm.Free.JP.mathPlain rfl (by decide +kernel)) hisR ?_
  intro p e s m args below meth c s₁ Bd hml0 hP hK
  obtain ⟨rfl, hZ, hh⟩ := hP
  have hx := Bd.exec
  have hby := Bd.bytes
  have hml : c.maxLocals = 2 := hml0
  have hown : s.vm.findClass "java/lang/Math" = some m.cls := findClass_of_methodNamed Bd.named
  have hnm := (name_of_methodNamed Bd.named Bd.method).1
  have X0 : Stand p l e ({ frames := 0, cells := 0, slots := 0, locals := 0 } : Room) s m #[(.int p1), (.int p2)] below meth c s₁ [] 0 0 := Stand.of_body Bd
  have e0 : s₁.heap = h0 := by rw [← hh, Bd.state]; rfl
  have N0 := Fr.nil n0
  have pre0 : ∀ t, Steps p.tables e below (s₁.setTop (mkF m 0 #[.val (.int p1), .val (.int p2)] [])) t → Steps p.tables e below (s₁.setTop (entryFrame m #[(.int p1), (.int p2)] 2)) t := fun t k => castTop (ef_3 m p1 p2) k

  obtain ⟨fs, hr, hrun, hended, hW, hsame⟩ := X0.leave (v := some (.int p1)) (fun h => by rw [Bd.returns] at h; cases h)
  refine ⟨_, _, pre0 _ ?_, hrun, hended, _, _, rfl, ?_, ⟨_, rfl⟩, hW, hsame.mono (by decide) (by decide)⟩
  · show Steps p.tables e below (s₁.setTop (mkF m 0 #[.val (.int p1), .val (.int p2)] [])) _
    refine XS.iloadN X0.here hx rfl (hb hby d3_0) rfl ?_
    show Steps p.tables e below (s₁.setTop (mkF m 1 #[.val (.int p1), .val (.int p2)] [(.int p1)])) _
    refine XS.iloadN X0.here hx rfl (hb hby d3_1) rfl ?_
    show Steps p.tables e below (s₁.setTop (mkF m 2 #[.val (.int p1), .val (.int p2)] [(.int p2), (.int p1)])) _
    refine XS.icmpNo X0.here hx rfl (hb hby d3_2) rfl (flt hc2).1 ?_
    show Steps p.tables e below (s₁.setTop (mkF m 5 #[.val (.int p1), .val (.int p2)] [])) _
    refine XS.iloadN X0.here hx rfl (hb hby d3_5) rfl ?_
    show Steps p.tables e below (s₁.setTop (mkF m 6 #[.val (.int p1), .val (.int p2)] [(.int p1)])) _
    refine XS.goto X0.here hx rfl (pc0 := 6) (pc' := 10) rfl (hb hby d3_6) (by decide) (by decide) ?_
    show Steps p.tables e below (s₁.setTop (mkF m 10 #[.val (.int p1), .val (.int p2)] [(.int p1)])) _
    exact retI X0 hx Bd.returns (hb hby d3_10) hr
  · show Q3 Z p1 p2 h0 n0 _ s₁.heap _
    rw [e0]
    exact ⟨congrArg (fun z => some (Value.int z)) (if_neg hc2).symm, N0, rfl⟩
theorem rm3 (l : Launch) (Z : State) (a0 : Array Value) (hw : ∀ d ∈ tables_1, d.before a0 Z = true) (ws : List Jvm.Cond) (p1 : Int32) (p2 : Int32) (h0 : Heap) (n0 : Nat) (Z0 : n0 ≤ h0.size) :
    MetFree l (⟨"java/lang/Math", "max", "(II)I"⟩ : MethodName) (head1 (Jvm.Cond.code (⟨"java/lang/Math", "max", "(II)I"⟩ : MethodName) jdk_29_method_65_code 2 (some .int) :: ws) ({ frames := 0, cells := 0, slots := 0, locals := 0 } : Room)) (fun a U => a = #[(.int p1), (.int p2)] ∧ Z.Warmed39 U.vm ∧ U.heap = h0) (fun _ _ _ _ _ => True) (fun _ U o U' => ∃ v L, o = .returned v ∧ Q3 Z p1 p2 h0 n0 v U'.heap L ∧ FrameEnd U o U' L ({ frames := 0, cells := 0, slots := 0, locals := 0 } : Room).cells ({ frames := 0, cells := 0, slots := 0, locals := 0 } : Room).slots) := by
  by_cases h : p1 < p2
  · exact rm3t l Z a0 hw ws p1 p2 h0 n0 Z0 h
  · exact rm3f l Z a0 hw ws p1 p2 h0 n0 Z0 h
theorem d11_0 : decode jdk_29_method_69_code 0 = .ok (.iload_n 0, 1) := by decide +kernel
theorem d11_1 : decode jdk_29_method_69_code 1 = .ok (.iload_n 1, 1) := by decide +kernel
theorem d11_2 : decode jdk_29_method_69_code 2 = .ok (.if_icmp .gt 7, 3) := by decide +kernel
theorem d11_9 : decode jdk_29_method_69_code 9 = .ok (.iload_n 1, 1) := by decide +kernel
theorem d11_10 : decode jdk_29_method_69_code 10 = .ok (.ireturn, 1) := by decide +kernel
theorem ef_11 (m : MethodId) (x0 : Int32) (x1 : Int32) : entryFrame m #[(.int x0), (.int x1)] 2 = mkF m 0 #[.val (.int x0), .val (.int x1)] [] := by first | (simp [entryFrame, mkF, argsToLocals, Value.category]; done) | rfl
def Q11 (Z : State) (p1 : Int32) (p2 : Int32) (h0 : Heap) (n0 : Nat) (v : Option Value) (h : Heap) (L : List Loc) : Prop := v = some (.int (own_min p1 p2)) ∧ Fr n0 L ∧ h = h0
set_option maxRecDepth 65536 in
set_option maxHeartbeats 40000000 in
theorem rm11t (l : Launch) (Z : State) (a0 : Array Value) (hw : ∀ d ∈ tables_1, d.before a0 Z = true) (ws : List Jvm.Cond) (p1 : Int32) (p2 : Int32) (h0 : Heap) (n0 : Nat) (Z0 : n0 ≤ h0.size) (hc2 : p2 < p1) :
    MetFree l (⟨"java/lang/Math", "min", "(II)I"⟩ : MethodName) (head1 (Jvm.Cond.code (⟨"java/lang/Math", "min", "(II)I"⟩ : MethodName) jdk_29_method_69_code 2 (some .int) :: ws) ({ frames := 0, cells := 0, slots := 0, locals := 0 } : Room)) (fun a U => a = #[(.int p1), (.int p2)] ∧ Z.Warmed39 U.vm ∧ U.heap = h0) (fun _ _ _ _ _ => True) (fun _ U o U' => ∃ v L, o = .returned v ∧ Q11 Z p1 p2 h0 n0 v U'.heap L ∧ FrameEnd U o U' L ({ frames := 0, cells := 0, slots := 0, locals := 0 } : Room).cells ({ frames := 0, cells := 0, slots := 0, locals := 0 } : Room).slots) := by
  refine MetFree.of_bodySF (Jvm.Free.JP.mathPlain rfl (by decide +kernel)) hisR ?_
  intro p e s m args below meth c s₁ Bd hml0 hP hK
  obtain ⟨rfl, hZ, hh⟩ := hP
  have hx := Bd.exec
  have hby := Bd.bytes
  have hml : c.maxLocals = 2 := hml0
  have hown : s.vm.findClass "java/lang/Math" = some m.cls := findClass_of_methodNamed Bd.named
  have hnm := (name_of_methodNamed Bd.named Bd.method).1
  have X0 : Stand p l e ({ frames := 0, cells := 0, slots := 0, locals := 0 } : Room) s m #[(.int p1), (.int p2)] below meth c s₁ [] 0 0 := Stand.of_body Bd
  have e0 : s₁.heap = h0 := by rw [← hh, Bd.state]; rfl
  have N0 := Fr.nil n0
  have pre0 : ∀ t, Steps p.tables e below (s₁.setTop (mkF m 0 #[.val (.int p1), .val (.int p2)] [])) t → Steps p.tables e below (s₁.setTop (entryFrame m #[(.int p1), (.int p2)] 2)) t := fun t k => castTop (ef_11 m p1 p2) k

  obtain ⟨fs, hr, hrun, hended, hW, hsame⟩ := X0.leave (v := some (.int p2)) (fun h => by rw [Bd.returns] at h; cases h)
  refine ⟨_, _, pre0 _ ?_, hrun, hended, _, _, rfl, ?_, ⟨_, rfl⟩, hW, hsame.mono (by decide) (by decide)⟩
  · show Steps p.tables e below (s₁.setTop (mkF m 0 #[.val (.int p1), .val (.int p2)] [])) _
    refine XS.iloadN X0.here hx rfl (hb hby d11_0) rfl ?_
    show Steps p.tables e below (s₁.setTop (mkF m 1 #[.val (.int p1), .val (.int p2)] [(.int p1)])) _
    refine XS.iloadN X0.here hx rfl (hb hby d11_1) rfl ?_
    show Steps p.tables e below (s₁.setTop (mkF m 2 #[.val (.int p1), .val (.int p2)] [(.int p2), (.int p1)])) _
    refine XS.icmpYes X0.here hx rfl (pc0 := 2) (pc' := 9) rfl (hb hby d11_2) rfl (tlt hc2).2.2.1 (by decide) (by decide) ?_
    show Steps p.tables e below (s₁.setTop (mkF m 9 #[.val (.int p1), .val (.int p2)] [])) _
    refine XS.iloadN X0.here hx rfl (hb hby d11_9) rfl ?_
    show Steps p.tables e below (s₁.setTop (mkF m 10 #[.val (.int p1), .val (.int p2)] [(.int p2)])) _
    exact retI X0 hx Bd.returns (hb hby d11_10) hr
  · show Q11 Z p1 p2 h0 n0 _ s₁.heap _
    rw [e0]
    exact ⟨congrArg (fun z => some (Value.int z)) (if_pos hc2).symm, N0, rfl⟩
theorem d11_5 : decode jdk_29_method_69_code 5 = .ok (.iload_n 0, 1) := by decide +kernel
theorem d11_6 : decode jdk_29_method_69_code 6 = .ok (.goto 4, 3) := by decide +kernel
set_option maxRecDepth 65536 in
set_option maxHeartbeats 40000000 in
theorem rm11f (l : Launch) (Z : State) (a0 : Array Value) (hw : ∀ d ∈ tables_1, d.before a0 Z = true) (ws : List Jvm.Cond) (p1 : Int32) (p2 : Int32) (h0 : Heap) (n0 : Nat) (Z0 : n0 ≤ h0.size) (hc2 : ¬ (p2 < p1)) :
    MetFree l (⟨"java/lang/Math", "min", "(II)I"⟩ : MethodName) (head1 (Jvm.Cond.code (⟨"java/lang/Math", "min", "(II)I"⟩ : MethodName) jdk_29_method_69_code 2 (some .int) :: ws) ({ frames := 0, cells := 0, slots := 0, locals := 0 } : Room)) (fun a U => a = #[(.int p1), (.int p2)] ∧ Z.Warmed39 U.vm ∧ U.heap = h0) (fun _ _ _ _ _ => True) (fun _ U o U' => ∃ v L, o = .returned v ∧ Q11 Z p1 p2 h0 n0 v U'.heap L ∧ FrameEnd U o U' L ({ frames := 0, cells := 0, slots := 0, locals := 0 } : Room).cells ({ frames := 0, cells := 0, slots := 0, locals := 0 } : Room).slots) := by
  refine MetFree.of_bodySF (Jvm.Free.JP.mathPlain rfl (by decide +kernel)) hisR ?_
  intro p e s m args below meth c s₁ Bd hml0 hP hK
  obtain ⟨rfl, hZ, hh⟩ := hP
  have hx := Bd.exec
  have hby := Bd.bytes
  have hml : c.maxLocals = 2 := hml0
  have hown : s.vm.findClass "java/lang/Math" = some m.cls := findClass_of_methodNamed Bd.named
  have hnm := (name_of_methodNamed Bd.named Bd.method).1
  have X0 : Stand p l e ({ frames := 0, cells := 0, slots := 0, locals := 0 } : Room) s m #[(.int p1), (.int p2)] below meth c s₁ [] 0 0 := Stand.of_body Bd
  have e0 : s₁.heap = h0 := by rw [← hh, Bd.state]; rfl
  have N0 := Fr.nil n0
  have pre0 : ∀ t, Steps p.tables e below (s₁.setTop (mkF m 0 #[.val (.int p1), .val (.int p2)] [])) t → Steps p.tables e below (s₁.setTop (entryFrame m #[(.int p1), (.int p2)] 2)) t := fun t k => castTop (ef_11 m p1 p2) k

  obtain ⟨fs, hr, hrun, hended, hW, hsame⟩ := X0.leave (v := some (.int p1)) (fun h => by rw [Bd.returns] at h; cases h)
  refine ⟨_, _, pre0 _ ?_, hrun, hended, _, _, rfl, ?_, ⟨_, rfl⟩, hW, hsame.mono (by decide) (by decide)⟩
  · show Steps p.tables e below (s₁.setTop (mkF m 0 #[.val (.int p1), .val (.int p2)] [])) _
    refine XS.iloadN X0.here hx rfl (hb hby d11_0) rfl ?_
    show Steps p.tables e below (s₁.setTop (mkF m 1 #[.val (.int p1), .val (.int p2)] [(.int p1)])) _
    refine XS.iloadN X0.here hx rfl (hb hby d11_1) rfl ?_
    show Steps p.tables e below (s₁.setTop (mkF m 2 #[.val (.int p1), .val (.int p2)] [(.int p2), (.int p1)])) _
    refine XS.icmpNo X0.here hx rfl (hb hby d11_2) rfl (flt hc2).2.2.1 ?_
    show Steps p.tables e below (s₁.setTop (mkF m 5 #[.val (.int p1), .val (.int p2)] [])) _
    refine XS.iloadN X0.here hx rfl (hb hby d11_5) rfl ?_
    show Steps p.tables e below (s₁.setTop (mkF m 6 #[.val (.int p1), .val (.int p2)] [(.int p1)])) _
    refine XS.goto X0.here hx rfl (pc0 := 6) (pc' := 10) rfl (hb hby d11_6) (by decide) (by decide) ?_
    show Steps p.tables e below (s₁.setTop (mkF m 10 #[.val (.int p1), .val (.int p2)] [(.int p1)])) _
    exact retI X0 hx Bd.returns (hb hby d11_10) hr
  · show Q11 Z p1 p2 h0 n0 _ s₁.heap _
    rw [e0]
    exact ⟨congrArg (fun z => some (Value.int z)) (if_neg hc2).symm, N0, rfl⟩
theorem rm11 (l : Launch) (Z : State) (a0 : Array Value) (hw : ∀ d ∈ tables_1, d.before a0 Z = true) (ws : List Jvm.Cond) (p1 : Int32) (p2 : Int32) (h0 : Heap) (n0 : Nat) (Z0 : n0 ≤ h0.size) :
    MetFree l (⟨"java/lang/Math", "min", "(II)I"⟩ : MethodName) (head1 (Jvm.Cond.code (⟨"java/lang/Math", "min", "(II)I"⟩ : MethodName) jdk_29_method_69_code 2 (some .int) :: ws) ({ frames := 0, cells := 0, slots := 0, locals := 0 } : Room)) (fun a U => a = #[(.int p1), (.int p2)] ∧ Z.Warmed39 U.vm ∧ U.heap = h0) (fun _ _ _ _ _ => True) (fun _ U o U' => ∃ v L, o = .returned v ∧ Q11 Z p1 p2 h0 n0 v U'.heap L ∧ FrameEnd U o U' L ({ frames := 0, cells := 0, slots := 0, locals := 0 } : Room).cells ({ frames := 0, cells := 0, slots := 0, locals := 0 } : Room).slots) := by
  by_cases h : p2 < p1
  · exact rm11t l Z a0 hw ws p1 p2 h0 n0 Z0 h
  · exact rm11f l Z a0 hw ws p1 p2 h0 n0 Z0 h
theorem d4_0 : decode method_2_code 0 = .ok (.lload_n 0, 1) := by decide +kernel
theorem d4_1 : decode method_2_code 1 = .ok (.bipush 32, 2) := by decide +kernel
theorem d4_3 : decode method_2_code 3 = .ok (.lshr, 1) := by decide +kernel
theorem d4_4 : decode method_2_code 4 = .ok (.lreturn, 1) := by decide +kernel
theorem pn_4 : plainName "com/example/fast_tangle/fasttangle/GroupsPairsPinLaw" = true := by first | (simp [plainName, overriddenIn]; done) | decide +kernel
theorem ef_4 (m : MethodId) (x0 : Int64) : entryFrame m #[(.long x0)] 2 = mkF m 0 #[.val (.long x0), .second] [] := by first | (simp [entryFrame, mkF, argsToLocals, Value.category]; done) | rfl
def Q4 (Z : State) (q1 : Int64) (h0 : Heap) (n0 : Nat) (v : Option Value) (h : Heap) (L : List Loc) : Prop := v = some (.long (own_hi q1)) ∧ Fr n0 L ∧ h = h0
set_option maxRecDepth 65536 in
set_option maxHeartbeats 40000000 in
theorem rm4 (l : Launch) (Z : State) (a0 : Array Value) (hw : ∀ d ∈ tables_1, d.before a0 Z = true) (ws : List Jvm.Cond) (q1 : Int64) (h0 : Heap) (n0 : Nat) (Z0 : n0 ≤ h0.size) :
    MetFree l (⟨"com/example/fast_tangle/fasttangle/GroupsPairsPinLaw", "hi", "(J)J"⟩ : MethodName) (head1 (Jvm.Cond.code (⟨"com/example/fast_tangle/fasttangle/GroupsPairsPinLaw", "hi", "(J)J"⟩ : MethodName) method_2_code 2 (some .long) :: ws) ({ frames := 0, cells := 0, slots := 0, locals := 0 } : Room)) (fun a U => a = #[(.long q1)] ∧ Z.Warmed39 U.vm ∧ U.heap = h0) (fun _ _ _ _ _ => True) (fun _ U o U' => ∃ v L, o = .returned v ∧ Q4 Z q1 h0 n0 v U'.heap L ∧ FrameEnd U o U' L ({ frames := 0, cells := 0, slots := 0, locals := 0 } : Room).cells ({ frames := 0, cells := 0, slots := 0, locals := 0 } : Room).slots) := by
  refine MetFree.of_bodySF (plainFor_of_name pn_4) hisR ?_
  intro p e s m args below meth c s₁ Bd hml0 hP hK
  obtain ⟨rfl, hZ, hh⟩ := hP
  have hx := Bd.exec
  have hby := Bd.bytes
  have hml : c.maxLocals = 2 := hml0
  have hown : s.vm.findClass "com/example/fast_tangle/fasttangle/GroupsPairsPinLaw" = some m.cls := findClass_of_methodNamed Bd.named
  have hnm := (name_of_methodNamed Bd.named Bd.method).1
  have X0 : Stand p l e ({ frames := 0, cells := 0, slots := 0, locals := 0 } : Room) s m #[(.long q1)] below meth c s₁ [] 0 0 := Stand.of_body Bd
  have e0 : s₁.heap = h0 := by rw [← hh, Bd.state]; rfl
  have N0 := Fr.nil n0
  have pre0 : ∀ t, Steps p.tables e below (s₁.setTop (mkF m 0 #[.val (.long q1), .second] [])) t → Steps p.tables e below (s₁.setTop (entryFrame m #[(.long q1)] 2)) t := fun t k => castTop (ef_4 m q1) k

  obtain ⟨fs, hr, hrun, hended, hW, hsame⟩ := X0.leave (v := some (.long (q1 >>> ((32 : Int32) &&& 0x3f).toInt64))) (fun h => by rw [Bd.returns] at h; cases h)
  refine ⟨_, _, pre0 _ ?_, hrun, hended, _, _, rfl, ?_, ⟨_, rfl⟩, hW, hsame.mono (by decide) (by decide)⟩
  · show Steps p.tables e below (s₁.setTop (mkF m 0 #[.val (.long q1), .second] [])) _
    refine XS.lloadN X0.here hx rfl (hb hby d4_0) rfl ?_
    show Steps p.tables e below (s₁.setTop (mkF m 1 #[.val (.long q1), .second] [(.long q1)])) _
    refine XS.bipush X0.here hx rfl (hb hby d4_1) ?_
    show Steps p.tables e below (s₁.setTop (mkF m 3 #[.val (.long q1), .second] [(.int (32 : Int32)), (.long q1)])) _
    refine XS.lshr X0.here hx rfl (hb hby d4_3) rfl ?_
    show Steps p.tables e below (s₁.setTop (mkF m 4 #[.val (.long q1), .second] [(.long (q1 >>> ((32 : Int32) &&& 0x3f).toInt64))])) _
    exact retOut X0 hx Bd.returns rfl (Or.inr (Or.inl ⟨rfl, rfl, _, rfl⟩)) (hb hby d4_4) hr
  · show Q4 Z q1 h0 n0 _ s₁.heap _
    rw [e0]
    exact ⟨rfl, N0, rfl⟩
theorem d5_0 : decode method_3_code 0 = .ok (.lload_n 0, 1) := by decide +kernel
theorem d5_1 : decode method_3_code 1 = .ok (.l2i, 1) := by decide +kernel
theorem d5_2 : decode method_3_code 2 = .ok (.i2l, 1) := by decide +kernel
theorem d5_3 : decode method_3_code 3 = .ok (.lreturn, 1) := by decide +kernel
theorem pn_5 : plainName "com/example/fast_tangle/fasttangle/GroupsPairsPinLaw" = true := by first | (simp [plainName, overriddenIn]; done) | decide +kernel
theorem ef_5 (m : MethodId) (x0 : Int64) : entryFrame m #[(.long x0)] 2 = mkF m 0 #[.val (.long x0), .second] [] := by first | (simp [entryFrame, mkF, argsToLocals, Value.category]; done) | rfl
def Q5 (Z : State) (q1 : Int64) (h0 : Heap) (n0 : Nat) (v : Option Value) (h : Heap) (L : List Loc) : Prop := v = some (.long (own_lo q1)) ∧ Fr n0 L ∧ h = h0
set_option maxRecDepth 65536 in
set_option maxHeartbeats 40000000 in
theorem rm5 (l : Launch) (Z : State) (a0 : Array Value) (hw : ∀ d ∈ tables_1, d.before a0 Z = true) (ws : List Jvm.Cond) (q1 : Int64) (h0 : Heap) (n0 : Nat) (Z0 : n0 ≤ h0.size) :
    MetFree l (⟨"com/example/fast_tangle/fasttangle/GroupsPairsPinLaw", "lo", "(J)J"⟩ : MethodName) (head1 (Jvm.Cond.code (⟨"com/example/fast_tangle/fasttangle/GroupsPairsPinLaw", "lo", "(J)J"⟩ : MethodName) method_3_code 2 (some .long) :: ws) ({ frames := 0, cells := 0, slots := 0, locals := 0 } : Room)) (fun a U => a = #[(.long q1)] ∧ Z.Warmed39 U.vm ∧ U.heap = h0) (fun _ _ _ _ _ => True) (fun _ U o U' => ∃ v L, o = .returned v ∧ Q5 Z q1 h0 n0 v U'.heap L ∧ FrameEnd U o U' L ({ frames := 0, cells := 0, slots := 0, locals := 0 } : Room).cells ({ frames := 0, cells := 0, slots := 0, locals := 0 } : Room).slots) := by
  refine MetFree.of_bodySF (plainFor_of_name pn_5) hisR ?_
  intro p e s m args below meth c s₁ Bd hml0 hP hK
  obtain ⟨rfl, hZ, hh⟩ := hP
  have hx := Bd.exec
  have hby := Bd.bytes
  have hml : c.maxLocals = 2 := hml0
  have hown : s.vm.findClass "com/example/fast_tangle/fasttangle/GroupsPairsPinLaw" = some m.cls := findClass_of_methodNamed Bd.named
  have hnm := (name_of_methodNamed Bd.named Bd.method).1
  have X0 : Stand p l e ({ frames := 0, cells := 0, slots := 0, locals := 0 } : Room) s m #[(.long q1)] below meth c s₁ [] 0 0 := Stand.of_body Bd
  have e0 : s₁.heap = h0 := by rw [← hh, Bd.state]; rfl
  have N0 := Fr.nil n0
  have pre0 : ∀ t, Steps p.tables e below (s₁.setTop (mkF m 0 #[.val (.long q1), .second] [])) t → Steps p.tables e below (s₁.setTop (entryFrame m #[(.long q1)] 2)) t := fun t k => castTop (ef_5 m q1) k

  obtain ⟨fs, hr, hrun, hended, hW, hsame⟩ := X0.leave (v := some (.long ((q1.toInt32).toInt64))) (fun h => by rw [Bd.returns] at h; cases h)
  refine ⟨_, _, pre0 _ ?_, hrun, hended, _, _, rfl, ?_, ⟨_, rfl⟩, hW, hsame.mono (by decide) (by decide)⟩
  · show Steps p.tables e below (s₁.setTop (mkF m 0 #[.val (.long q1), .second] [])) _
    refine XS.lloadN X0.here hx rfl (hb hby d5_0) rfl ?_
    show Steps p.tables e below (s₁.setTop (mkF m 1 #[.val (.long q1), .second] [(.long q1)])) _
    refine XS.l2i X0.here hx rfl (hb hby d5_1) rfl ?_
    show Steps p.tables e below (s₁.setTop (mkF m 2 #[.val (.long q1), .second] [(.int (q1.toInt32))])) _
    refine XS.i2l X0.here hx rfl (hb hby d5_2) rfl ?_
    show Steps p.tables e below (s₁.setTop (mkF m 3 #[.val (.long q1), .second] [(.long ((q1.toInt32).toInt64))])) _
    exact retOut X0 hx Bd.returns rfl (Or.inr (Or.inl ⟨rfl, rfl, _, rfl⟩)) (hb hby d5_3) hr
  · show Q5 Z q1 h0 n0 _ s₁.heap _
    rw [e0]
    exact ⟨rfl, N0, rfl⟩
theorem d1_0 : decode prog_51_method_1_code 0 = .ok (.aload_n 0, 1) := by decide +kernel
theorem d1_1 : decode prog_51_method_1_code 1 = .ok (.invokespecial 1, 3) := by decide +kernel
theorem d1_4 : decode prog_51_method_1_code 4 = .ok (.iconst 2, 1) := by decide +kernel
theorem d1_5 : decode prog_51_method_1_code 5 = .ok (.iload_n 1, 1) := by decide +kernel
theorem d1_6 : decode prog_51_method_1_code 6 = .ok (.invokestatic 7, 3) := by decide +kernel
theorem d1_9 : decode prog_51_method_1_code 9 = .ok (.istore_n 2, 1) := by decide +kernel
theorem d1_10 : decode prog_51_method_1_code 10 = .ok (.aload_n 0, 1) := by decide +kernel
theorem d1_11 : decode prog_51_method_1_code 11 = .ok (.iload_n 2, 1) := by decide +kernel
theorem d1_12 : decode prog_51_method_1_code 12 = .ok (.newarray .int, 2) := by decide +kernel
theorem d1_14 : decode prog_51_method_1_code 14 = .ok (.putfield 13, 3) := by decide +kernel
theorem d1_17 : decode prog_51_method_1_code 17 = .ok (.aload_n 0, 1) := by decide +kernel
theorem d1_18 : decode prog_51_method_1_code 18 = .ok (.iload_n 2, 1) := by decide +kernel
theorem d1_19 : decode prog_51_method_1_code 19 = .ok (.newarray .long, 2) := by decide +kernel
theorem d1_21 : decode prog_51_method_1_code 21 = .ok (.putfield 19, 3) := by decide +kernel
theorem d1_24 : decode prog_51_method_1_code 24 = .ok (.aload_n 0, 1) := by decide +kernel
theorem d1_25 : decode prog_51_method_1_code 25 = .ok (.iload_n 2, 1) := by decide +kernel
theorem d1_26 : decode prog_51_method_1_code 26 = .ok (.newarray .long, 2) := by decide +kernel
theorem d1_28 : decode prog_51_method_1_code 28 = .ok (.putfield 23, 3) := by decide +kernel
theorem d1_31 : decode prog_51_method_1_code 31 = .ok (.return_, 1) := by decide +kernel
theorem pn_1 : plainName "com/example/fast_tangle/fasttangle/PartingPairs$Groups" = true := by first | (simp [plainName, overriddenIn]; done) | decide +kernel
theorem pd_1_2 : parseMethodDescriptor "(II)I" = some ⟨[.int, .int], some .int⟩ := by decide +kernel
theorem ef_1 (m : MethodId) (x0 : Addr) (x1 : Int32) : entryFrame m #[(.ref x0), (.int x1)] 3 = mkF m 0 #[.val (.ref x0), .val (.int x1), .unset] [] := by first | (simp [entryFrame, mkF, argsToLocals, Value.category]; done) | rfl
def Q1 (Z : State) (a1 : Addr) (mn : Nat) (h0 : Heap) (n0 : Nat) (v : Option Value) (h : Heap) (L : List Loc) : Prop := v = none ∧ Fr n0 L ∧ n0 ≤ h.size ∧ Gr Z h a1 n0 mn []
set_option maxRecDepth 65536 in
set_option maxHeartbeats 40000000 in
theorem rm1 (l : Launch) (Z : State) (a0 : Array Value) (hw : ∀ d ∈ tables_1, d.before a0 Z = true) (ws : List Jvm.Cond) (a1 : Addr) (p2 : Int32) (u_ranks_a1 : Value) (u_upper_a1 : Value) (u_lower_a1 : Value) (mn : Nat) (h0 : Heap) (n0 : Nat) (Z0 : n0 ≤ h0.size) (hm : own_max 2 p2 = Int32.ofNat mn) (hmn : mn ≤ 7) (E_a1 : Exa Z h0 a1 "com/example/fast_tangle/fasttangle/PartingPairs$Groups") (F_ranks_a1 : Fld Z h0 a1 "com/example/fast_tangle/fasttangle/PartingPairs$Groups" "ranks" "[I" u_ranks_a1) (g_a1 : n0 ≤ a1) (F_upper_a1 : Fld Z h0 a1 "com/example/fast_tangle/fasttangle/PartingPairs$Groups" "upper" "[J" u_upper_a1) (F_lower_a1 : Fld Z h0 a1 "com/example/fast_tangle/fasttangle/PartingPairs$Groups" "lower" "[J" u_lower_a1) (F_size_a1 : Fld Z h0 a1 "com/example/fast_tangle/fasttangle/PartingPairs$Groups" "size" "I" (.int (Int32.ofNat 0))) :
    MetFree l (⟨"com/example/fast_tangle/fasttangle/PartingPairs$Groups", "<init>", "(I)V"⟩ : MethodName) (head1 (Jvm.Cond.code (⟨"com/example/fast_tangle/fasttangle/PartingPairs$Groups", "<init>", "(I)V"⟩ : MethodName) prog_51_method_1_code 3 none :: ws) ({ frames := 1, cells := 3, slots := 21, locals := 13 } : Room)) (fun a U => a = #[(.ref a1), (.int p2)] ∧ Z.Warmed39 U.vm ∧ U.heap = h0) (fun _ _ _ _ _ => True) (fun _ U o U' => ∃ v L, o = .returned v ∧ Q1 Z a1 mn h0 n0 v U'.heap L ∧ FrameEnd U o U' L ({ frames := 1, cells := 3, slots := 21, locals := 13 } : Room).cells ({ frames := 1, cells := 3, slots := 21, locals := 13 } : Room).slots) := by
  refine MetFree.of_bodySF (plainFor_of_name pn_1) hisR ?_
  intro p e s m args below meth c s₁ Bd hml0 hP hK
  obtain ⟨rfl, hZ, hh⟩ := hP
  have hx := Bd.exec
  have hby := Bd.bytes
  have hml : c.maxLocals = 3 := hml0
  have hown : s.vm.findClass "com/example/fast_tangle/fasttangle/PartingPairs$Groups" = some m.cls := findClass_of_methodNamed Bd.named
  have hnm := (name_of_methodNamed Bd.named Bd.method).1
  have X0 : Stand p l e ({ frames := 1, cells := 3, slots := 21, locals := 13 } : Room) s m #[(.ref a1), (.int p2)] below meth c s₁ [] 0 0 := Stand.of_body Bd
  have e0 : s₁.heap = h0 := by rw [← hh, Bd.state]; rfl
  have N0 := Fr.nil n0
  have pre0 : ∀ t, Steps p.tables e below (s₁.setTop (mkF m 0 #[.val (.ref a1), .val (.int p2), .unset] [])) t → Steps p.tables e below (s₁.setTop (entryFrame m #[(.ref a1), (.int p2)] 3)) t := fun t k => castTop (ef_1 m a1 p2) k
  obtain ⟨T3, X3, e3, st3⟩ := initO X0 hx hZ hown (hw _ (List.mem_of_getElem? (i := 6) rfl)) (hw _ (List.mem_of_getElem? (i := 7) rfl)) (hw _ (List.mem_of_getElem? (i := 8) rfl)) e0 (g := (mkF m 1 #[.val (.ref a1), .val (.int p2), .unset] [(.ref a1)])) rfl (by rw [hml]; rfl) rfl (hb hby d1_1) (by decide) (W := 0) (by show 2 * 0 + _ ≤ _; exact Nat.le_of_eq rfl) (by decide)
  obtain ⟨_, _, ⟨T4, L4, k4, n4⟩, -, X4, ⟨Lc4, hQ4, l4, y4, z4⟩, st4⟩ := Jvm.LawKit.callS X3 hx (y := (⟨"java/lang/Math", "max", "(II)I"⟩ : MethodName)) hown (mvT hZ (hw _ (List.mem_of_getElem? (i := 9) rfl))) (mvT hZ (hw _ (List.mem_of_getElem? (i := 10) rfl))) (mvT hZ (hw _ (List.mem_of_getElem? (i := 11) rfl))) (mvT hZ (hw _ (List.mem_of_getElem? (i := 12) rfl))) (by decide) (backOf (W := 0) (rm3 l Z a0 hw [] (2 : Int32) p2 h0 n0 Z0) hZ (hw _ (List.mem_of_getElem? (i := 12) rfl)) (hw _ (List.mem_of_getElem? (i := 11) rfl)) (by decide) (by decide)) (g := (mkF m 6 #[.val (.ref a1), .val (.int p2), .unset] [(.int p2), (.int (2 : Int32))])) rfl (by rw [hml]; rfl) (argsL := [(.int (2 : Int32)), (.int p2)]) (rest := []) (lenOf pd_1_2 rfl) rfl (by show 2 * 0 + _ ≤ _; exact Nat.le_of_eq rfl) (hb hby d1_6) (fun _ _ => ⟨rfl, e3, (Nat.le_of_ble_eq_true rfl), (Nat.le_of_ble_eq_true rfl)⟩)
  dsimp only [Pt.U, Pt.locs, Pt.cells, Pt.slots] at X4 l4 y4 z4 st4 hQ4
  subst l4 y4 z4
  obtain ⟨rfl, N4q, e4q⟩ := hQ4
  have N4 := Fr.app N0 N4q
  rw [hm] at st4
  have K4c : Keep h0 T4.heap [] := by rw [e4q]; exact Keep.refl h0 []
  have K4d : Keep h0 T4.heap [a1] := by rw [e4q]; exact Keep.refl h0 [a1]
  obtain ⟨T5, h5, k5, X5, e5, E5, A5, st5⟩ := newP X4 hx hZ (hw _ (List.mem_of_getElem? (i := 13) rfl)) rfl (g := (mkF m 12 #[.val (.ref a1), .val (.int p2), .val (.int (Int32.ofNat mn))] [(.int (Int32.ofNat mn)), (.ref a1)])) rfl (hb hby d1_12) rfl (own_nn (by omega)) (cap := 7) (by rw [own_clamp (by omega)]; exact hmn) (by decide) (by decide) (by decide)
  obtain ⟨b5, g5⟩ : ∃ z, z = T4.heap.size := ⟨_, rfl⟩
  rw [← g5] at A5 st5
  have g_b5 : n0 ≤ b5 := Nat.le_trans (Nat.le_trans Z0 K4c.1) (Nat.le_of_eq g5.symm)
  have sz_b5 : h0.size ≤ b5 := (Nat.le_trans K4d.1 (Nat.le_of_eq g5.symm))
  have K5 : Keep h0 h5 [a1] := K4d.ext E5
  obtain ⟨T6, h6, X6, e6, W6, st6⟩ := putF X5 hx hZ hown (host := "") (Or.inl (hw _ (List.mem_of_getElem? (i := 14) rfl))) Via.refl e5 ((F_ranks_a1.keep K4c nin0).ext E5) ((E_a1.keep K4c).ext E5) (Or.inl (hw _ (List.mem_of_getElem? (i := 15) rfl))) (hw _ (List.mem_of_getElem? (i := 1) rfl)) (ty := (.array .int)) (by decide) rfl rfl (g := (mkF m 14 #[.val (.ref a1), .val (.int p2), .val (.int (Int32.ofNat mn))] [(.ref b5), (.ref a1)])) rfl rfl (hb hby d1_14)
  have Fw6 := ((F_ranks_a1.keep K4c nin0).ext E5).same W6
  have K6 : Keep h0 h6 [a1] := K5.wr W6 (Or.inl (List.mem_of_getElem? (i := 0) rfl))
  have N6 := Fr.snoc X6 N4 g_a1
  obtain ⟨T7, h7, k7, X7, e7, E7, A7, st7⟩ := newP X6 hx hZ (hw _ (List.mem_of_getElem? (i := 16) rfl)) e6 (g := (mkF m 19 #[.val (.ref a1), .val (.int p2), .val (.int (Int32.ofNat mn))] [(.int (Int32.ofNat mn)), (.ref a1)])) rfl (hb hby d1_19) rfl (own_nn (by omega)) (cap := 7) (by rw [own_clamp (by omega)]; exact hmn) (by decide) (by decide) (by decide)
  obtain ⟨b7, g7⟩ : ∃ z, z = h6.size := ⟨_, rfl⟩
  rw [← g7] at A7 st7
  have g_b7 : n0 ≤ b7 := Nat.le_trans (Nat.le_trans (Nat.le_trans (Nat.le_trans Z0 K4c.1) E5.1) (Keep.of_wr W6).1) (Nat.le_of_eq g7.symm)
  have sz_b7 : h0.size ≤ b7 := (Nat.le_trans K6.1 (Nat.le_of_eq g7.symm))
  have K7 : Keep h0 h7 [a1] := K6.ext E7
  obtain ⟨T8, h8, X8, e8, W8, st8⟩ := putF X7 hx hZ hown (host := "") (Or.inl (hw _ (List.mem_of_getElem? (i := 17) rfl))) Via.refl e7 ((((F_upper_a1.keep K4c nin0).ext E5).other W6 (Or.inr (slot_ne (Or.inl (hw _ (List.mem_of_getElem? (i := 18) rfl))) (Or.inl (hw _ (List.mem_of_getElem? (i := 15) rfl))) (by decide) (t := (.array .long)) (t' := (.array .int)) (by decide) (by decide)))).ext E7) ((((E_a1.keep K4c).ext E5).wr W6).ext E7) (Or.inl (hw _ (List.mem_of_getElem? (i := 18) rfl))) (hw _ (List.mem_of_getElem? (i := 1) rfl)) (ty := (.array .long)) (by decide) rfl rfl (g := (mkF m 21 #[.val (.ref a1), .val (.int p2), .val (.int (Int32.ofNat mn))] [(.ref b7), (.ref a1)])) rfl rfl (hb hby d1_21)
  have Fw8 := ((((F_upper_a1.keep K4c nin0).ext E5).other W6 (Or.inr (slot_ne (Or.inl (hw _ (List.mem_of_getElem? (i := 18) rfl))) (Or.inl (hw _ (List.mem_of_getElem? (i := 15) rfl))) (by decide) (t := (.array .long)) (t' := (.array .int)) (by decide) (by decide)))).ext E7).same W8
  have K8 : Keep h0 h8 [a1] := K7.wr W8 (Or.inl (List.mem_of_getElem? (i := 0) rfl))
  have N8 := Fr.snoc X8 N6 g_a1
  obtain ⟨T9, h9, k9, X9, e9, E9, A9, st9⟩ := newP X8 hx hZ (hw _ (List.mem_of_getElem? (i := 16) rfl)) e8 (g := (mkF m 26 #[.val (.ref a1), .val (.int p2), .val (.int (Int32.ofNat mn))] [(.int (Int32.ofNat mn)), (.ref a1)])) rfl (hb hby d1_26) rfl (own_nn (by omega)) (cap := 7) (by rw [own_clamp (by omega)]; exact hmn) (by decide) (by decide) (by decide)
  obtain ⟨b9, g9⟩ : ∃ z, z = h8.size := ⟨_, rfl⟩
  rw [← g9] at A9 st9
  have g_b9 : n0 ≤ b9 := Nat.le_trans (Nat.le_trans (Nat.le_trans (Nat.le_trans (Nat.le_trans (Nat.le_trans Z0 K4c.1) E5.1) (Keep.of_wr W6).1) E7.1) (Keep.of_wr W8).1) (Nat.le_of_eq g9.symm)
  have sz_b9 : h0.size ≤ b9 := (Nat.le_trans K8.1 (Nat.le_of_eq g9.symm))
  have K9 : Keep h0 h9 [a1] := K8.ext E9
  obtain ⟨T10, h10, X10, e10, W10, st10⟩ := putF X9 hx hZ hown (host := "") (Or.inl (hw _ (List.mem_of_getElem? (i := 19) rfl))) Via.refl e9 ((((((F_lower_a1.keep K4c nin0).ext E5).other W6 (Or.inr (slot_ne (Or.inl (hw _ (List.mem_of_getElem? (i := 20) rfl))) (Or.inl (hw _ (List.mem_of_getElem? (i := 15) rfl))) (by decide) (t := (.array .long)) (t' := (.array .int)) (by decide) (by decide)))).ext E7).other W8 (Or.inr (slot_ne (Or.inl (hw _ (List.mem_of_getElem? (i := 20) rfl))) (Or.inl (hw _ (List.mem_of_getElem? (i := 18) rfl))) (by decide) (t := (.array .long)) (t' := (.array .long)) (by decide) (by decide)))).ext E9) ((((((E_a1.keep K4c).ext E5).wr W6).ext E7).wr W8).ext E9) (Or.inl (hw _ (List.mem_of_getElem? (i := 20) rfl))) (hw _ (List.mem_of_getElem? (i := 1) rfl)) (ty := (.array .long)) (by decide) rfl rfl (g := (mkF m 28 #[.val (.ref a1), .val (.int p2), .val (.int (Int32.ofNat mn))] [(.ref b9), (.ref a1)])) rfl rfl (hb hby d1_28)
  have Fw10 := ((((((F_lower_a1.keep K4c nin0).ext E5).other W6 (Or.inr (slot_ne (Or.inl (hw _ (List.mem_of_getElem? (i := 20) rfl))) (Or.inl (hw _ (List.mem_of_getElem? (i := 15) rfl))) (by decide) (t := (.array .long)) (t' := (.array .int)) (by decide) (by decide)))).ext E7).other W8 (Or.inr (slot_ne (Or.inl (hw _ (List.mem_of_getElem? (i := 20) rfl))) (Or.inl (hw _ (List.mem_of_getElem? (i := 18) rfl))) (by decide) (t := (.array .long)) (t' := (.array .long)) (by decide) (by decide)))).ext E9).same W10
  have K10 : Keep h0 h10 [a1] := K9.wr W10 (Or.inl (List.mem_of_getElem? (i := 0) rfl))
  have N10 := Fr.snoc X10 N8 g_a1
  have A5v := VA.new (ty := .int) (by omega) A5 rfl
  have A7v := VA.new (ty := .long) (by omega) A7 rfl
  have A9v := VA.new (ty := .long) (by omega) A9 rfl
  have A5w := A5v.other W6 (Ne.symm (Nat.ne_of_lt (Nat.lt_of_lt_of_le E_a1.lt sz_b5)))
  have A5x := (A5w.ext E7).other W8 (Ne.symm (Nat.ne_of_lt (Nat.lt_of_lt_of_le E_a1.lt sz_b5)))
  have A7x := A7v.other W8 (Ne.symm (Nat.ne_of_lt (Nat.lt_of_lt_of_le E_a1.lt sz_b7)))
  have GG : Gr Z h10 a1 n0 mn [] := ⟨((((((E_a1.keep K4c).ext E5).wr W6).ext E7).wr W8).ext E9).wr W10, ((((((F_size_a1.keep K4c nin0).ext E5).other W6 (Or.inr (slot_ne (Or.inl (hw _ (List.mem_of_getElem? (i := 34) rfl))) (Or.inl (hw _ (List.mem_of_getElem? (i := 15) rfl))) (by decide) (t := .int) (t' := (.array .int)) (by decide) (by decide)))).ext E7).other W8 (Or.inr (slot_ne (Or.inl (hw _ (List.mem_of_getElem? (i := 34) rfl))) (Or.inl (hw _ (List.mem_of_getElem? (i := 18) rfl))) (by decide) (t := .int) (t' := (.array .long)) (by decide) (by decide)))).ext E9).other W10 (Or.inr (slot_ne (Or.inl (hw _ (List.mem_of_getElem? (i := 34) rfl))) (Or.inl (hw _ (List.mem_of_getElem? (i := 20) rfl))) (by decide) (t := .int) (t' := (.array .long)) (by decide) (by decide))), b5, b7, b9, _, _, _, g_b5, g_b7, g_b9, (Nat.ne_of_lt (Nat.lt_of_lt_of_le A5w.lt (Nat.le_of_eq g7.symm))), (Nat.ne_of_lt (Nat.lt_of_lt_of_le A5x.lt (Nat.le_of_eq g9.symm))), (Nat.ne_of_lt (Nat.lt_of_lt_of_le A7x.lt (Nat.le_of_eq g9.symm))), ((((Fw6.ext E7).other W8 (Or.inr (slot_ne (Or.inl (hw _ (List.mem_of_getElem? (i := 15) rfl))) (Or.inl (hw _ (List.mem_of_getElem? (i := 18) rfl))) (by decide) (t := (.array .int)) (t' := (.array .long)) (by decide) (by decide)))).ext E9).other W10 (Or.inr (slot_ne (Or.inl (hw _ (List.mem_of_getElem? (i := 15) rfl))) (Or.inl (hw _ (List.mem_of_getElem? (i := 20) rfl))) (by decide) (t := (.array .int)) (t' := (.array .long)) (by decide) (by decide)))), ((Fw8.ext E9).other W10 (Or.inr (slot_ne (Or.inl (hw _ (List.mem_of_getElem? (i := 18) rfl))) (Or.inl (hw _ (List.mem_of_getElem? (i := 20) rfl))) (by decide) (t := (.array .long)) (t' := (.array .long)) (by decide) (by decide)))), Fw10, (A5x.ext E9).other W10 (Ne.symm (Nat.ne_of_lt (Nat.lt_of_lt_of_le E_a1.lt sz_b5))), (A7x.ext E9).other W10 (Ne.symm (Nat.ne_of_lt (Nat.lt_of_lt_of_le E_a1.lt sz_b7))), A9v.other W10 (Ne.symm (Nat.ne_of_lt (Nat.lt_of_lt_of_le E_a1.lt sz_b9))), fun i q hq => by simp at hq⟩
  obtain ⟨fs, hr, hrun, hended, hW, hsame⟩ := X10.leave (v := none) (fun _ => rfl)
  refine ⟨_, _, pre0 _ ?_, hrun, hended, _, _, rfl, ?_, ⟨_, rfl⟩, hW, hsame.mono (by decide) (by decide)⟩
  · show Steps p.tables e below (s₁.setTop (mkF m 0 #[.val (.ref a1), .val (.int p2), .unset] [])) _
    refine XS.aloadN X0.here hx rfl (hb hby d1_0) rfl rfl ?_
    show Steps p.tables e below (s₁.setTop (mkF m 1 #[.val (.ref a1), .val (.int p2), .unset] [(.ref a1)])) _
    refine st3 _ ?_
    show Steps p.tables e below (T3.setTop (mkF m 4 #[.val (.ref a1), .val (.int p2), .unset] [])) _
    refine XS.iconst X3.here hx rfl (hb hby d1_4) ?_
    show Steps p.tables e below (T3.setTop (mkF m 5 #[.val (.ref a1), .val (.int p2), .unset] [(.int (2 : Int32))])) _
    refine XS.iloadN X3.here hx rfl (hb hby d1_5) rfl ?_
    show Steps p.tables e below (T3.setTop (mkF m 6 #[.val (.ref a1), .val (.int p2), .unset] [(.int p2), (.int (2 : Int32))])) _
    refine st4 _ ?_
    show Steps p.tables e below (T4.setTop (mkF m 9 #[.val (.ref a1), .val (.int p2), .unset] [(.int (Int32.ofNat mn))])) _
    refine XS.istoreN X4.here hx rfl (hb hby d1_9) rfl (l' := #[.val (.ref a1), .val (.int p2), .val (.int (Int32.ofNat mn))]) rfl ?_
    show Steps p.tables e below (T4.setTop (mkF m 10 #[.val (.ref a1), .val (.int p2), .val (.int (Int32.ofNat mn))] [])) _
    refine XS.aloadN X4.here hx rfl (hb hby d1_10) rfl rfl ?_
    show Steps p.tables e below (T4.setTop (mkF m 11 #[.val (.ref a1), .val (.int p2), .val (.int (Int32.ofNat mn))] [(.ref a1)])) _
    refine XS.iloadN X4.here hx rfl (hb hby d1_11) rfl ?_
    show Steps p.tables e below (T4.setTop (mkF m 12 #[.val (.ref a1), .val (.int p2), .val (.int (Int32.ofNat mn))] [(.int (Int32.ofNat mn)), (.ref a1)])) _
    refine st5 _ ?_
    show Steps p.tables e below (T5.setTop (mkF m 14 #[.val (.ref a1), .val (.int p2), .val (.int (Int32.ofNat mn))] [(.ref b5), (.ref a1)])) _
    refine st6 _ ?_
    show Steps p.tables e below (T6.setTop (mkF m 17 #[.val (.ref a1), .val (.int p2), .val (.int (Int32.ofNat mn))] [])) _
    refine XS.aloadN X6.here hx rfl (hb hby d1_17) rfl rfl ?_
    show Steps p.tables e below (T6.setTop (mkF m 18 #[.val (.ref a1), .val (.int p2), .val (.int (Int32.ofNat mn))] [(.ref a1)])) _
    refine XS.iloadN X6.here hx rfl (hb hby d1_18) rfl ?_
    show Steps p.tables e below (T6.setTop (mkF m 19 #[.val (.ref a1), .val (.int p2), .val (.int (Int32.ofNat mn))] [(.int (Int32.ofNat mn)), (.ref a1)])) _
    refine st7 _ ?_
    show Steps p.tables e below (T7.setTop (mkF m 21 #[.val (.ref a1), .val (.int p2), .val (.int (Int32.ofNat mn))] [(.ref b7), (.ref a1)])) _
    refine st8 _ ?_
    show Steps p.tables e below (T8.setTop (mkF m 24 #[.val (.ref a1), .val (.int p2), .val (.int (Int32.ofNat mn))] [])) _
    refine XS.aloadN X8.here hx rfl (hb hby d1_24) rfl rfl ?_
    show Steps p.tables e below (T8.setTop (mkF m 25 #[.val (.ref a1), .val (.int p2), .val (.int (Int32.ofNat mn))] [(.ref a1)])) _
    refine XS.iloadN X8.here hx rfl (hb hby d1_25) rfl ?_
    show Steps p.tables e below (T8.setTop (mkF m 26 #[.val (.ref a1), .val (.int p2), .val (.int (Int32.ofNat mn))] [(.int (Int32.ofNat mn)), (.ref a1)])) _
    refine st9 _ ?_
    show Steps p.tables e below (T9.setTop (mkF m 28 #[.val (.ref a1), .val (.int p2), .val (.int (Int32.ofNat mn))] [(.ref b9), (.ref a1)])) _
    refine st10 _ ?_
    show Steps p.tables e below (T10.setTop (mkF m 31 #[.val (.ref a1), .val (.int p2), .val (.int (Int32.ofNat mn))] [])) _
    exact X10.returnOut hx Bd.returns (hb hby d1_31) hr
  · show Q1 Z a1 mn h0 n0 _ T10.heap _
    rw [e10]
    exact ⟨rfl, N10, Nat.le_trans Z0 K10.1, GG⟩
theorem d10_0 : decode jdk_65_method_123_code 0 = .ok (.iload_n 1, 1) := by decide +kernel
theorem d10_1 : decode jdk_65_method_123_code 1 = .ok (.aload_n 0, 1) := by decide +kernel
theorem d10_2 : decode jdk_65_method_123_code 2 = .ok (.arraylength, 1) := by decide +kernel
theorem d10_3 : decode jdk_65_method_123_code 3 = .ok (.if_icmp .ne 11, 3) := by decide +kernel
theorem d10_14 : decode jdk_65_method_123_code 14 = .ok (.iload_n 1, 1) := by decide +kernel
theorem d10_15 : decode jdk_65_method_123_code 15 = .ok (.newarray .int, 2) := by decide +kernel
theorem d10_17 : decode jdk_65_method_123_code 17 = .ok (.astore_n 2, 1) := by decide +kernel
theorem d10_18 : decode jdk_65_method_123_code 18 = .ok (.aload_n 0, 1) := by decide +kernel
theorem d10_19 : decode jdk_65_method_123_code 19 = .ok (.iconst 0, 1) := by decide +kernel
theorem d10_20 : decode jdk_65_method_123_code 20 = .ok (.aload_n 2, 1) := by decide +kernel
theorem d10_21 : decode jdk_65_method_123_code 21 = .ok (.iconst 0, 1) := by decide +kernel
theorem d10_22 : decode jdk_65_method_123_code 22 = .ok (.aload_n 0, 1) := by decide +kernel
theorem d10_23 : decode jdk_65_method_123_code 23 = .ok (.arraylength, 1) := by decide +kernel
theorem d10_24 : decode jdk_65_method_123_code 24 = .ok (.iload_n 1, 1) := by decide +kernel
theorem d10_25 : decode jdk_65_method_123_code 25 = .ok (.invokestatic 304, 3) := by decide +kernel
theorem d10_28 : decode jdk_65_method_123_code 28 = .ok (.invokestatic 150, 3) := by decide +kernel
theorem d10_31 : decode jdk_65_method_123_code 31 = .ok (.aload_n 2, 1) := by decide +kernel
theorem d10_32 : decode jdk_65_method_123_code 32 = .ok (.areturn, 1) := by decide +kernel
theorem pn_10 : plainName "java/util/Arrays" = true := by first | (simp [plainName, overriddenIn]; done) | decide +kernel
theorem pd_10_2 : parseMethodDescriptor "(II)I" = some ⟨[.int, .int], some .int⟩ := by decide +kernel
theorem ef_10 (m : MethodId) (x0 : Addr) (x1 : Int32) : entryFrame m #[(.ref x0), (.int x1)] 3 = mkF m 0 #[.val (.ref x0), .val (.int x1), .unset] [] := by first | (simp [entryFrame, mkF, argsToLocals, Value.category]; done) | rfl
def Q10 (Z : State) (a1 : Addr) (f : Nat → Value) (h0 : Heap) (n0 : Nat) (v : Option Value) (h : Heap) (L : List Loc) : Prop := ∃ b : Addr, v = some (.ref b) ∧ Fr n0 L ∧ n0 ≤ b ∧ h0.size ≤ b ∧ Keep h0 h [] ∧ VA Z h b .int 4 (fun i => [f 0, f 1, (.int (0 : Int32)), (.int (0 : Int32))].getD i (.int (0 : Int32)))
set_option maxRecDepth 65536 in
set_option maxHeartbeats 40000000 in
theorem rm10 (l : Launch) (Z : State) (a0 : Array Value) (hw : ∀ d ∈ tables_1, d.before a0 Z = true) (ws : List Jvm.Cond) (a1 : Addr) (f : Nat → Value) (h0 : Heap) (n0 : Nat) (Z0 : n0 ≤ h0.size) (V_a1 : VA Z h0 a1 .int 2 f) :
    MetFree l (⟨"java/util/Arrays", "copyOf", "([II)[I"⟩ : MethodName) (head1 (Jvm.Cond.code (⟨"java/util/Arrays", "copyOf", "([II)[I"⟩ : MethodName) jdk_65_method_123_code 3 (some (.array .int)) :: ws) ({ frames := 1, cells := 1, slots := 4, locals := 18 } : Room)) (fun a U => a = #[(.ref a1), (.int (4 : Int32))] ∧ Z.Warmed39 U.vm ∧ U.heap = h0) (fun _ _ _ _ _ => True) (fun _ U o U' => ∃ v L, o = .returned v ∧ Q10 Z a1 f h0 n0 v U'.heap L ∧ FrameEnd U o U' L ({ frames := 1, cells := 1, slots := 4, locals := 18 } : Room).cells ({ frames := 1, cells := 1, slots := 4, locals := 18 } : Room).slots) := by
  refine MetFree.of_bodySF (plainFor_of_name pn_10) hisR ?_
  intro p e s m args below meth c s₁ Bd hml0 hP hK
  obtain ⟨rfl, hZ, hh⟩ := hP
  have hx := Bd.exec
  have hby := Bd.bytes
  have hml : c.maxLocals = 3 := hml0
  have hown : s.vm.findClass "java/util/Arrays" = some m.cls := findClass_of_methodNamed Bd.named
  have hnm := (name_of_methodNamed Bd.named Bd.method).1
  have X0 : Stand p l e ({ frames := 1, cells := 1, slots := 4, locals := 18 } : Room) s m #[(.ref a1), (.int (4 : Int32))] below meth c s₁ [] 0 0 := Stand.of_body Bd
  have e0 : s₁.heap = h0 := by rw [← hh, Bd.state]; rfl
  have N0 := Fr.nil n0
  have pre0 : ∀ t, Steps p.tables e below (s₁.setTop (mkF m 0 #[.val (.ref a1), .val (.int (4 : Int32)), .unset] [])) t → Steps p.tables e below (s₁.setTop (entryFrame m #[(.ref a1), (.int (4 : Int32))] 3)) t := fun t k => castTop (ef_10 m a1 (4 : Int32)) k
  obtain ⟨cl_a1, Ar_a1, s_a1, r_a1⟩ := V_a1
  have S_a1 : cl_a1.slots.size = (2 : Int32).toNatClampNeg := s_a1
  have N_a1 : ¬ (2 : Int32) < 0 := by decide
  have hc3 : ¬ ((4 : Int32) = (2 : Int32)) := by decide
  obtain ⟨T3, h3, k3, X3, e3, E3, A3, st3⟩ := newP X0 hx hZ (hw _ (List.mem_of_getElem? (i := 13) rfl)) e0 (g := (mkF m 15 #[.val (.ref a1), .val (.int (4 : Int32)), .unset] [(.int (4 : Int32))])) rfl (hb hby d10_15) rfl (by decide) (cap := 4) (by decide) (by decide) (by decide) (by decide)
  obtain ⟨b3, g3⟩ : ∃ z, z = h0.size := ⟨_, rfl⟩
  rw [← g3] at A3 st3
  have V_b3 : Arv Z h3 b3 k3 .int 4 [(.int (0 : Int32)), (.int (0 : Int32)), (.int (0 : Int32)), (.int (0 : Int32))] (.int (0 : Int32)) := (Arv.new A3 (by decide)).pad (pad_rep [] (.int (0 : Int32)) 4)
  have g_b3 : n0 ≤ b3 := Nat.le_trans Z0 (Nat.le_of_eq g3.symm)
  have sz_b3 : h0.size ≤ b3 := (Nat.le_trans (Keep.refl h0 []).1 (Nat.le_of_eq g3.symm))
  have K3 : Keep h0 h3 [] := (Keep.refl h0 []).ext E3
  obtain ⟨_, _, ⟨T4, L4, k4, n4⟩, -, X4, ⟨Lc4, hQ4, l4, y4, z4⟩, st4⟩ := Jvm.LawKit.callS X3 hx (y := (⟨"java/lang/Math", "min", "(II)I"⟩ : MethodName)) hown (mvT hZ (hw _ (List.mem_of_getElem? (i := 54) rfl))) (mvT hZ (hw _ (List.mem_of_getElem? (i := 55) rfl))) (mvT hZ (hw _ (List.mem_of_getElem? (i := 11) rfl))) (mvT hZ (hw _ (List.mem_of_getElem? (i := 56) rfl))) (by decide) (backOf (W := 4) (rm11 l Z a0 hw [] (2 : Int32) (4 : Int32) h3 n0 (Nat.le_trans Z0 E3.1)) hZ (hw _ (List.mem_of_getElem? (i := 56) rfl)) (hw _ (List.mem_of_getElem? (i := 11) rfl)) (by decide) (by decide)) (g := (mkF m 25 #[.val (.ref a1), .val (.int (4 : Int32)), .val (.ref b3)] [(.int (4 : Int32)), (.int (2 : Int32)), (.int (0 : Int32)), (.ref b3), (.int (0 : Int32)), (.ref a1)])) rfl (by rw [hml]; rfl) (argsL := [(.int (2 : Int32)), (.int (4 : Int32))]) (rest := [(.int (0 : Int32)), (.ref b3), (.int (0 : Int32)), (.ref a1)]) (lenOf pd_10_2 rfl) rfl (by show 2 * 0 + _ ≤ _; exact Nat.le_of_eq rfl) (hb hby d10_25) (fun _ _ => ⟨rfl, e3, (Nat.le_of_ble_eq_true rfl), (Nat.le_of_ble_eq_true rfl)⟩)
  dsimp only [Pt.U, Pt.locs, Pt.cells, Pt.slots] at X4 l4 y4 z4 st4 hQ4
  subst l4 y4 z4
  obtain ⟨rfl, N4q, e4q⟩ := hQ4
  have N4 := Fr.app N0 N4q
  obtain ⟨ks, Vs⟩ := VA.arv2 (d := (.int (0 : Int32))) (VA.ext (⟨cl_a1, Ar_a1, s_a1, r_a1⟩ : VA Z h0 a1 .int 2 f) E3)
  obtain ⟨T5, h5, Lc5, X5, e5, N5, Kc5, Vc5, st5⟩ := cpA X4 hx hZ hown (hw _ (List.mem_of_getElem? (i := 57) rfl)) (hw _ (List.mem_of_getElem? (i := 60) rfl)) (hw _ (List.mem_of_getElem? (i := 58) rfl)) (hw _ (List.mem_of_getElem? (i := 59) rfl)) rfl (by rw [e4q]; exact Vs) (by rw [e4q]; exact V_b3) (Or.inl ⟨rfl, rfl⟩) (by decide) (by decide) (by decide) (by decide) (by decide) rfl (by decide) N4 g_b3 (g := (mkF m 28 #[.val (.ref a1), .val (.int (4 : Int32)), .val (.ref b3)] [(.int (2 : Int32)), (.int (0 : Int32)), (.ref b3), (.int (0 : Int32)), (.ref a1)])) rfl (by rw [hml]; rfl) rfl (hb hby d10_28) (by decide) (W := 0) (by show 2 * 0 + _ ≤ _; exact Nat.le_of_eq rfl) (by decide)
  have KK : Keep h0 h5 [] := by
    have Kc' : Keep h3 h5 [b3] := by rw [← e4q]; exact Kc5
    exact K3.trans Kc' (allS (Or.inr sz_b3) all0)
  obtain ⟨fs, hr, hrun, hended, hW, hsame⟩ := X5.leave (v := some (.ref b3)) (fun h => by rw [Bd.returns] at h; cases h)
  refine ⟨_, _, pre0 _ ?_, hrun, hended, _, _, rfl, ?_, ⟨_, rfl⟩, hW, hsame.mono (by decide) (by decide)⟩
  · show Steps p.tables e below (s₁.setTop (mkF m 0 #[.val (.ref a1), .val (.int (4 : Int32)), .unset] [])) _
    refine XS.iloadN X0.here hx rfl (hb hby d10_0) rfl ?_
    show Steps p.tables e below (s₁.setTop (mkF m 1 #[.val (.ref a1), .val (.int (4 : Int32)), .unset] [(.int (4 : Int32))])) _
    refine XS.aloadN X0.here hx rfl (hb hby d10_1) rfl rfl ?_
    show Steps p.tables e below (s₁.setTop (mkF m 2 #[.val (.ref a1), .val (.int (4 : Int32)), .unset] [(.ref a1), (.int (4 : Int32))])) _
    refine X0.arraylength hx (by rw [e0]; exact Ar_a1.1) (State.isArrayOf_alike hZ.alike Ar_a1.2.1) (g := (mkF m 2 #[.val (.ref a1), .val (.int (4 : Int32)), .unset] [(.ref a1), (.int (4 : Int32))])) rfl rfl (hb hby d10_2) _ ?_
    rw [len_of S_a1 N_a1]
    show Steps p.tables e below (s₁.setTop (mkF m 3 #[.val (.ref a1), .val (.int (4 : Int32)), .unset] [(.int (2 : Int32)), (.int (4 : Int32))])) _
    refine XS.icmpYes X0.here hx rfl (pc0 := 3) (pc' := 14) rfl (hb hby d10_3) rfl (feq hc3).2 (by decide) (by decide) ?_
    show Steps p.tables e below (s₁.setTop (mkF m 14 #[.val (.ref a1), .val (.int (4 : Int32)), .unset] [])) _
    refine XS.iloadN X0.here hx rfl (hb hby d10_14) rfl ?_
    show Steps p.tables e below (s₁.setTop (mkF m 15 #[.val (.ref a1), .val (.int (4 : Int32)), .unset] [(.int (4 : Int32))])) _
    refine st3 _ ?_
    show Steps p.tables e below (T3.setTop (mkF m 17 #[.val (.ref a1), .val (.int (4 : Int32)), .unset] [(.ref b3)])) _
    refine XS.astoreN X3.here hx rfl (hb hby d10_17) rfl rfl (l' := #[.val (.ref a1), .val (.int (4 : Int32)), .val (.ref b3)]) rfl ?_
    show Steps p.tables e below (T3.setTop (mkF m 18 #[.val (.ref a1), .val (.int (4 : Int32)), .val (.ref b3)] [])) _
    refine XS.aloadN X3.here hx rfl (hb hby d10_18) rfl rfl ?_
    show Steps p.tables e below (T3.setTop (mkF m 19 #[.val (.ref a1), .val (.int (4 : Int32)), .val (.ref b3)] [(.ref a1)])) _
    refine XS.iconst X3.here hx rfl (hb hby d10_19) ?_
    show Steps p.tables e below (T3.setTop (mkF m 20 #[.val (.ref a1), .val (.int (4 : Int32)), .val (.ref b3)] [(.int (0 : Int32)), (.ref a1)])) _
    refine XS.aloadN X3.here hx rfl (hb hby d10_20) rfl rfl ?_
    show Steps p.tables e below (T3.setTop (mkF m 21 #[.val (.ref a1), .val (.int (4 : Int32)), .val (.ref b3)] [(.ref b3), (.int (0 : Int32)), (.ref a1)])) _
    refine XS.iconst X3.here hx rfl (hb hby d10_21) ?_
    show Steps p.tables e below (T3.setTop (mkF m 22 #[.val (.ref a1), .val (.int (4 : Int32)), .val (.ref b3)] [(.int (0 : Int32)), (.ref b3), (.int (0 : Int32)), (.ref a1)])) _
    refine XS.aloadN X3.here hx rfl (hb hby d10_22) rfl rfl ?_
    show Steps p.tables e below (T3.setTop (mkF m 23 #[.val (.ref a1), .val (.int (4 : Int32)), .val (.ref b3)] [(.ref a1), (.int (0 : Int32)), (.ref b3), (.int (0 : Int32)), (.ref a1)])) _
    refine X3.arraylength hx (by rw [e3]; exact (Ar_a1.ext E3).1) (State.isArrayOf_alike hZ.alike Ar_a1.2.1) (g := (mkF m 23 #[.val (.ref a1), .val (.int (4 : Int32)), .val (.ref b3)] [(.ref a1), (.int (0 : Int32)), (.ref b3), (.int (0 : Int32)), (.ref a1)])) rfl rfl (hb hby d10_23) _ ?_
    rw [len_of S_a1 N_a1]
    show Steps p.tables e below (T3.setTop (mkF m 24 #[.val (.ref a1), .val (.int (4 : Int32)), .val (.ref b3)] [(.int (2 : Int32)), (.int (0 : Int32)), (.ref b3), (.int (0 : Int32)), (.ref a1)])) _
    refine XS.iloadN X3.here hx rfl (hb hby d10_24) rfl ?_
    show Steps p.tables e below (T3.setTop (mkF m 25 #[.val (.ref a1), .val (.int (4 : Int32)), .val (.ref b3)] [(.int (4 : Int32)), (.int (2 : Int32)), (.int (0 : Int32)), (.ref b3), (.int (0 : Int32)), (.ref a1)])) _
    refine st4 _ ?_
    show Steps p.tables e below (T4.setTop (mkF m 28 #[.val (.ref a1), .val (.int (4 : Int32)), .val (.ref b3)] [(.int (2 : Int32)), (.int (0 : Int32)), (.ref b3), (.int (0 : Int32)), (.ref a1)])) _
    refine st5 _ ?_
    show Steps p.tables e below (T5.setTop (mkF m 31 #[.val (.ref a1), .val (.int (4 : Int32)), .val (.ref b3)] [])) _
    refine XS.aloadN X5.here hx rfl (hb hby d10_31) rfl rfl ?_
    show Steps p.tables e below (T5.setTop (mkF m 32 #[.val (.ref a1), .val (.int (4 : Int32)), .val (.ref b3)] [(.ref b3)])) _
    jvm_step X5.here [X5.here.top, hx, (hb hby d10_32), X5.method', Bd.returns, Value.isRef, FieldType.isReference]
    first | (intro acts; rw [hr _ acts rfl rfl rfl]) | rw [hr _ _ rfl rfl rfl]
    exact Steps.refl _
  · show Q10 Z a1 f h0 n0 _ T5.heap _
    rw [e5]
    exact ⟨b3, rfl, N5, g_b3, sz_b3, KK, VA.of_arv Vc5 rfl⟩
theorem d12_0 : decode jdk_65_method_124_code 0 = .ok (.iload_n 1, 1) := by decide +kernel
theorem d12_1 : decode jdk_65_method_124_code 1 = .ok (.aload_n 0, 1) := by decide +kernel
theorem d12_2 : decode jdk_65_method_124_code 2 = .ok (.arraylength, 1) := by decide +kernel
theorem d12_3 : decode jdk_65_method_124_code 3 = .ok (.if_icmp .ne 11, 3) := by decide +kernel
theorem d12_14 : decode jdk_65_method_124_code 14 = .ok (.iload_n 1, 1) := by decide +kernel
theorem d12_15 : decode jdk_65_method_124_code 15 = .ok (.newarray .long, 2) := by decide +kernel
theorem d12_17 : decode jdk_65_method_124_code 17 = .ok (.astore_n 2, 1) := by decide +kernel
theorem d12_18 : decode jdk_65_method_124_code 18 = .ok (.aload_n 0, 1) := by decide +kernel
theorem d12_19 : decode jdk_65_method_124_code 19 = .ok (.iconst 0, 1) := by decide +kernel
theorem d12_20 : decode jdk_65_method_124_code 20 = .ok (.aload_n 2, 1) := by decide +kernel
theorem d12_21 : decode jdk_65_method_124_code 21 = .ok (.iconst 0, 1) := by decide +kernel
theorem d12_22 : decode jdk_65_method_124_code 22 = .ok (.aload_n 0, 1) := by decide +kernel
theorem d12_23 : decode jdk_65_method_124_code 23 = .ok (.arraylength, 1) := by decide +kernel
theorem d12_24 : decode jdk_65_method_124_code 24 = .ok (.iload_n 1, 1) := by decide +kernel
theorem d12_25 : decode jdk_65_method_124_code 25 = .ok (.invokestatic 304, 3) := by decide +kernel
theorem d12_28 : decode jdk_65_method_124_code 28 = .ok (.invokestatic 150, 3) := by decide +kernel
theorem d12_31 : decode jdk_65_method_124_code 31 = .ok (.aload_n 2, 1) := by decide +kernel
theorem d12_32 : decode jdk_65_method_124_code 32 = .ok (.areturn, 1) := by decide +kernel
theorem pn_12 : plainName "java/util/Arrays" = true := by first | (simp [plainName, overriddenIn]; done) | decide +kernel
theorem pd_12_2 : parseMethodDescriptor "(II)I" = some ⟨[.int, .int], some .int⟩ := by decide +kernel
theorem ef_12 (m : MethodId) (x0 : Addr) (x1 : Int32) : entryFrame m #[(.ref x0), (.int x1)] 3 = mkF m 0 #[.val (.ref x0), .val (.int x1), .unset] [] := by first | (simp [entryFrame, mkF, argsToLocals, Value.category]; done) | rfl
def Q12 (Z : State) (a1 : Addr) (f : Nat → Value) (h0 : Heap) (n0 : Nat) (v : Option Value) (h : Heap) (L : List Loc) : Prop := ∃ b : Addr, v = some (.ref b) ∧ Fr n0 L ∧ n0 ≤ b ∧ h0.size ≤ b ∧ Keep h0 h [] ∧ VA Z h b .long 4 (fun i => [f 0, f 1, (.long (0 : Int64)), (.long (0 : Int64))].getD i (.long (0 : Int64)))
set_option maxRecDepth 65536 in
set_option maxHeartbeats 40000000 in
theorem rm12 (l : Launch) (Z : State) (a0 : Array Value) (hw : ∀ d ∈ tables_1, d.before a0 Z = true) (ws : List Jvm.Cond) (a1 : Addr) (f : Nat → Value) (h0 : Heap) (n0 : Nat) (Z0 : n0 ≤ h0.size) (V_a1 : VA Z h0 a1 .long 2 f) :
    MetFree l (⟨"java/util/Arrays", "copyOf", "([JI)[J"⟩ : MethodName) (head1 (Jvm.Cond.code (⟨"java/util/Arrays", "copyOf", "([JI)[J"⟩ : MethodName) jdk_65_method_124_code 3 (some (.array .long)) :: ws) ({ frames := 1, cells := 1, slots := 4, locals := 18 } : Room)) (fun a U => a = #[(.ref a1), (.int (4 : Int32))] ∧ Z.Warmed39 U.vm ∧ U.heap = h0) (fun _ _ _ _ _ => True) (fun _ U o U' => ∃ v L, o = .returned v ∧ Q12 Z a1 f h0 n0 v U'.heap L ∧ FrameEnd U o U' L ({ frames := 1, cells := 1, slots := 4, locals := 18 } : Room).cells ({ frames := 1, cells := 1, slots := 4, locals := 18 } : Room).slots) := by
  refine MetFree.of_bodySF (plainFor_of_name pn_12) hisR ?_
  intro p e s m args below meth c s₁ Bd hml0 hP hK
  obtain ⟨rfl, hZ, hh⟩ := hP
  have hx := Bd.exec
  have hby := Bd.bytes
  have hml : c.maxLocals = 3 := hml0
  have hown : s.vm.findClass "java/util/Arrays" = some m.cls := findClass_of_methodNamed Bd.named
  have hnm := (name_of_methodNamed Bd.named Bd.method).1
  have X0 : Stand p l e ({ frames := 1, cells := 1, slots := 4, locals := 18 } : Room) s m #[(.ref a1), (.int (4 : Int32))] below meth c s₁ [] 0 0 := Stand.of_body Bd
  have e0 : s₁.heap = h0 := by rw [← hh, Bd.state]; rfl
  have N0 := Fr.nil n0
  have pre0 : ∀ t, Steps p.tables e below (s₁.setTop (mkF m 0 #[.val (.ref a1), .val (.int (4 : Int32)), .unset] [])) t → Steps p.tables e below (s₁.setTop (entryFrame m #[(.ref a1), (.int (4 : Int32))] 3)) t := fun t k => castTop (ef_12 m a1 (4 : Int32)) k
  obtain ⟨cl_a1, Ar_a1, s_a1, r_a1⟩ := V_a1
  have S_a1 : cl_a1.slots.size = (2 : Int32).toNatClampNeg := s_a1
  have N_a1 : ¬ (2 : Int32) < 0 := by decide
  have hc3 : ¬ ((4 : Int32) = (2 : Int32)) := by decide
  obtain ⟨T3, h3, k3, X3, e3, E3, A3, st3⟩ := newP X0 hx hZ (hw _ (List.mem_of_getElem? (i := 16) rfl)) e0 (g := (mkF m 15 #[.val (.ref a1), .val (.int (4 : Int32)), .unset] [(.int (4 : Int32))])) rfl (hb hby d12_15) rfl (by decide) (cap := 4) (by decide) (by decide) (by decide) (by decide)
  obtain ⟨b3, g3⟩ : ∃ z, z = h0.size := ⟨_, rfl⟩
  rw [← g3] at A3 st3
  have V_b3 : Arv Z h3 b3 k3 .long 4 [(.long (0 : Int64)), (.long (0 : Int64)), (.long (0 : Int64)), (.long (0 : Int64))] (.long (0 : Int64)) := (Arv.new A3 (by decide)).pad (pad_rep [] (.long (0 : Int64)) 4)
  have g_b3 : n0 ≤ b3 := Nat.le_trans Z0 (Nat.le_of_eq g3.symm)
  have sz_b3 : h0.size ≤ b3 := (Nat.le_trans (Keep.refl h0 []).1 (Nat.le_of_eq g3.symm))
  have K3 : Keep h0 h3 [] := (Keep.refl h0 []).ext E3
  obtain ⟨_, _, ⟨T4, L4, k4, n4⟩, -, X4, ⟨Lc4, hQ4, l4, y4, z4⟩, st4⟩ := Jvm.LawKit.callS X3 hx (y := (⟨"java/lang/Math", "min", "(II)I"⟩ : MethodName)) hown (mvT hZ (hw _ (List.mem_of_getElem? (i := 54) rfl))) (mvT hZ (hw _ (List.mem_of_getElem? (i := 55) rfl))) (mvT hZ (hw _ (List.mem_of_getElem? (i := 11) rfl))) (mvT hZ (hw _ (List.mem_of_getElem? (i := 56) rfl))) (by decide) (backOf (W := 4) (rm11 l Z a0 hw [] (2 : Int32) (4 : Int32) h3 n0 (Nat.le_trans Z0 E3.1)) hZ (hw _ (List.mem_of_getElem? (i := 56) rfl)) (hw _ (List.mem_of_getElem? (i := 11) rfl)) (by decide) (by decide)) (g := (mkF m 25 #[.val (.ref a1), .val (.int (4 : Int32)), .val (.ref b3)] [(.int (4 : Int32)), (.int (2 : Int32)), (.int (0 : Int32)), (.ref b3), (.int (0 : Int32)), (.ref a1)])) rfl (by rw [hml]; rfl) (argsL := [(.int (2 : Int32)), (.int (4 : Int32))]) (rest := [(.int (0 : Int32)), (.ref b3), (.int (0 : Int32)), (.ref a1)]) (lenOf pd_12_2 rfl) rfl (by show 2 * 0 + _ ≤ _; exact Nat.le_of_eq rfl) (hb hby d12_25) (fun _ _ => ⟨rfl, e3, (Nat.le_of_ble_eq_true rfl), (Nat.le_of_ble_eq_true rfl)⟩)
  dsimp only [Pt.U, Pt.locs, Pt.cells, Pt.slots] at X4 l4 y4 z4 st4 hQ4
  subst l4 y4 z4
  obtain ⟨rfl, N4q, e4q⟩ := hQ4
  have N4 := Fr.app N0 N4q
  obtain ⟨ks, Vs⟩ := VA.arv2 (d := (.long (0 : Int64))) (VA.ext (⟨cl_a1, Ar_a1, s_a1, r_a1⟩ : VA Z h0 a1 .long 2 f) E3)
  obtain ⟨T5, h5, Lc5, X5, e5, N5, Kc5, Vc5, st5⟩ := cpA X4 hx hZ hown (hw _ (List.mem_of_getElem? (i := 57) rfl)) (hw _ (List.mem_of_getElem? (i := 60) rfl)) (hw _ (List.mem_of_getElem? (i := 58) rfl)) (hw _ (List.mem_of_getElem? (i := 59) rfl)) rfl (by rw [e4q]; exact Vs) (by rw [e4q]; exact V_b3) (Or.inl ⟨rfl, rfl⟩) (by decide) (by decide) (by decide) (by decide) (by decide) rfl (by decide) N4 g_b3 (g := (mkF m 28 #[.val (.ref a1), .val (.int (4 : Int32)), .val (.ref b3)] [(.int (2 : Int32)), (.int (0 : Int32)), (.ref b3), (.int (0 : Int32)), (.ref a1)])) rfl (by rw [hml]; rfl) rfl (hb hby d12_28) (by decide) (W := 0) (by show 2 * 0 + _ ≤ _; exact Nat.le_of_eq rfl) (by decide)
  have KK : Keep h0 h5 [] := by
    have Kc' : Keep h3 h5 [b3] := by rw [← e4q]; exact Kc5
    exact K3.trans Kc' (allS (Or.inr sz_b3) all0)
  obtain ⟨fs, hr, hrun, hended, hW, hsame⟩ := X5.leave (v := some (.ref b3)) (fun h => by rw [Bd.returns] at h; cases h)
  refine ⟨_, _, pre0 _ ?_, hrun, hended, _, _, rfl, ?_, ⟨_, rfl⟩, hW, hsame.mono (by decide) (by decide)⟩
  · show Steps p.tables e below (s₁.setTop (mkF m 0 #[.val (.ref a1), .val (.int (4 : Int32)), .unset] [])) _
    refine XS.iloadN X0.here hx rfl (hb hby d12_0) rfl ?_
    show Steps p.tables e below (s₁.setTop (mkF m 1 #[.val (.ref a1), .val (.int (4 : Int32)), .unset] [(.int (4 : Int32))])) _
    refine XS.aloadN X0.here hx rfl (hb hby d12_1) rfl rfl ?_
    show Steps p.tables e below (s₁.setTop (mkF m 2 #[.val (.ref a1), .val (.int (4 : Int32)), .unset] [(.ref a1), (.int (4 : Int32))])) _
    refine X0.arraylength hx (by rw [e0]; exact Ar_a1.1) (State.isArrayOf_alike hZ.alike Ar_a1.2.1) (g := (mkF m 2 #[.val (.ref a1), .val (.int (4 : Int32)), .unset] [(.ref a1), (.int (4 : Int32))])) rfl rfl (hb hby d12_2) _ ?_
    rw [len_of S_a1 N_a1]
    show Steps p.tables e below (s₁.setTop (mkF m 3 #[.val (.ref a1), .val (.int (4 : Int32)), .unset] [(.int (2 : Int32)), (.int (4 : Int32))])) _
    refine XS.icmpYes X0.here hx rfl (pc0 := 3) (pc' := 14) rfl (hb hby d12_3) rfl (feq hc3).2 (by decide) (by decide) ?_
    show Steps p.tables e below (s₁.setTop (mkF m 14 #[.val (.ref a1), .val (.int (4 : Int32)), .unset] [])) _
    refine XS.iloadN X0.here hx rfl (hb hby d12_14) rfl ?_
    show Steps p.tables e below (s₁.setTop (mkF m 15 #[.val (.ref a1), .val (.int (4 : Int32)), .unset] [(.int (4 : Int32))])) _
    refine st3 _ ?_
    show Steps p.tables e below (T3.setTop (mkF m 17 #[.val (.ref a1), .val (.int (4 : Int32)), .unset] [(.ref b3)])) _
    refine XS.astoreN X3.here hx rfl (hb hby d12_17) rfl rfl (l' := #[.val (.ref a1), .val (.int (4 : Int32)), .val (.ref b3)]) rfl ?_
    show Steps p.tables e below (T3.setTop (mkF m 18 #[.val (.ref a1), .val (.int (4 : Int32)), .val (.ref b3)] [])) _
    refine XS.aloadN X3.here hx rfl (hb hby d12_18) rfl rfl ?_
    show Steps p.tables e below (T3.setTop (mkF m 19 #[.val (.ref a1), .val (.int (4 : Int32)), .val (.ref b3)] [(.ref a1)])) _
    refine XS.iconst X3.here hx rfl (hb hby d12_19) ?_
    show Steps p.tables e below (T3.setTop (mkF m 20 #[.val (.ref a1), .val (.int (4 : Int32)), .val (.ref b3)] [(.int (0 : Int32)), (.ref a1)])) _
    refine XS.aloadN X3.here hx rfl (hb hby d12_20) rfl rfl ?_
    show Steps p.tables e below (T3.setTop (mkF m 21 #[.val (.ref a1), .val (.int (4 : Int32)), .val (.ref b3)] [(.ref b3), (.int (0 : Int32)), (.ref a1)])) _
    refine XS.iconst X3.here hx rfl (hb hby d12_21) ?_
    show Steps p.tables e below (T3.setTop (mkF m 22 #[.val (.ref a1), .val (.int (4 : Int32)), .val (.ref b3)] [(.int (0 : Int32)), (.ref b3), (.int (0 : Int32)), (.ref a1)])) _
    refine XS.aloadN X3.here hx rfl (hb hby d12_22) rfl rfl ?_
    show Steps p.tables e below (T3.setTop (mkF m 23 #[.val (.ref a1), .val (.int (4 : Int32)), .val (.ref b3)] [(.ref a1), (.int (0 : Int32)), (.ref b3), (.int (0 : Int32)), (.ref a1)])) _
    refine X3.arraylength hx (by rw [e3]; exact (Ar_a1.ext E3).1) (State.isArrayOf_alike hZ.alike Ar_a1.2.1) (g := (mkF m 23 #[.val (.ref a1), .val (.int (4 : Int32)), .val (.ref b3)] [(.ref a1), (.int (0 : Int32)), (.ref b3), (.int (0 : Int32)), (.ref a1)])) rfl rfl (hb hby d12_23) _ ?_
    rw [len_of S_a1 N_a1]
    show Steps p.tables e below (T3.setTop (mkF m 24 #[.val (.ref a1), .val (.int (4 : Int32)), .val (.ref b3)] [(.int (2 : Int32)), (.int (0 : Int32)), (.ref b3), (.int (0 : Int32)), (.ref a1)])) _
    refine XS.iloadN X3.here hx rfl (hb hby d12_24) rfl ?_
    show Steps p.tables e below (T3.setTop (mkF m 25 #[.val (.ref a1), .val (.int (4 : Int32)), .val (.ref b3)] [(.int (4 : Int32)), (.int (2 : Int32)), (.int (0 : Int32)), (.ref b3), (.int (0 : Int32)), (.ref a1)])) _
    refine st4 _ ?_
    show Steps p.tables e below (T4.setTop (mkF m 28 #[.val (.ref a1), .val (.int (4 : Int32)), .val (.ref b3)] [(.int (2 : Int32)), (.int (0 : Int32)), (.ref b3), (.int (0 : Int32)), (.ref a1)])) _
    refine st5 _ ?_
    show Steps p.tables e below (T5.setTop (mkF m 31 #[.val (.ref a1), .val (.int (4 : Int32)), .val (.ref b3)] [])) _
    refine XS.aloadN X5.here hx rfl (hb hby d12_31) rfl rfl ?_
    show Steps p.tables e below (T5.setTop (mkF m 32 #[.val (.ref a1), .val (.int (4 : Int32)), .val (.ref b3)] [(.ref b3)])) _
    jvm_step X5.here [X5.here.top, hx, (hb hby d12_32), X5.method', Bd.returns, Value.isRef, FieldType.isReference]
    first | (intro acts; rw [hr _ acts rfl rfl rfl]) | rw [hr _ _ rfl rfl rfl]
    exact Steps.refl _
  · show Q12 Z a1 f h0 n0 _ T5.heap _
    rw [e5]
    exact ⟨b3, rfl, N5, g_b3, sz_b3, KK, VA.of_arv Vc5 rfl⟩
theorem d6_0 : decode prog_51_method_10_code 0 = .ok (.aload_n 0, 1) := by decide +kernel
theorem d6_1 : decode prog_51_method_10_code 1 = .ok (.getfield 26, 3) := by decide +kernel
theorem d6_4 : decode prog_51_method_10_code 4 = .ok (.aload_n 0, 1) := by decide +kernel
theorem d6_5 : decode prog_51_method_10_code 5 = .ok (.getfield 13, 3) := by decide +kernel
theorem d6_8 : decode prog_51_method_10_code 8 = .ok (.arraylength, 1) := by decide +kernel
theorem d6_9 : decode prog_51_method_10_code 9 = .ok (.if_icmp .ne 54, 3) := by decide +kernel
set_option maxRecDepth 65536 in
set_option maxHeartbeats 40000000 in
theorem own_roomN {p : Program} {l : Launch} {e : Env} {s : State} {m : MethodId} {args : Array Value} {below : List Frame} {meth : Method} {c : Code} {T0 : State} {locs : List Loc} {Z : State} {a0 : Array Value} {h0 : Heap} {n0 : Nat} (g : Addr) (rk : Int32) (uu : Int64) (lk : Int64) (len : Nat) (xs : List (Int64 × Int64))
    (X0 : Stand p l e ({ frames := 2, cells := 3, slots := 12, locals := 33 } : Room) s m args below meth c T0 locs 0 0) (hx : p.tables.exec = Jvm.exec) (hZ : Z.Warmed39 s.vm) (hw : ∀ d ∈ tables_1, d.before a0 Z = true) (hby : c.code = prog_51_method_10_code) (hml : c.maxLocals = 6) (hown : s.vm.findClass "com/example/fast_tangle/fasttangle/PartingPairs$Groups" = some m.cls) (e0 : T0.heap = h0) (Z0 : n0 ≤ h0.size) (N0 : Fr n0 locs) (G : Gr Z h0 g n0 len xs) (hl : len ≤ 7) (hx1 : xs.length < len) :
    ∃ (T' : State) (locs' : List Loc), Stand p l e ({ frames := 2, cells := 3, slots := 12, locals := 33 } : Room) s m args below meth c T' locs' 0 0 ∧ Fr n0 locs' ∧ T'.heap = h0 ∧
      ∀ target, Steps p.tables e below (T'.setTop (mkF m 63 #[.val (.ref g), .val (.int rk), .val (.long uu), .second, .val (.long lk), .second] [])) target → Steps p.tables e below (T0.setTop (mkF m 0 #[.val (.ref g), .val (.int rk), .val (.long uu), .second, .val (.long lk), .second] [])) target := by
  obtain ⟨E_g, F_size_g, r, u, w, fr, fu, fw, g_r, g_u, g_w, n1, n2, n3, F_ranks_g, F_upper_g, F_lower_g, V1, V2, V3, hxs⟩ := G
  obtain ⟨cl_r, Ar_r, s_r, v_r⟩ := V1
  have S_r : cl_r.slots.size = (Int32.ofNat len).toNatClampNeg := by rw [own_clamp (by omega)]; exact s_r
  have N_r : ¬ Int32.ofNat len < 0 := own_nn (by omega)
  have hc9 : ¬ (Int32.ofNat xs.length = Int32.ofNat len) := fun q => absurd (own_inj (by omega) (by omega) q) (by omega)
  obtain ⟨T6, X6, e6, st6⟩ := getF X0 hx hZ hown (host := "") (Or.inl (hw _ (List.mem_of_getElem? (i := 33) rfl))) Via.refl e0 F_size_g (g := (mkF m 1 #[.val (.ref g), .val (.int rk), .val (.long uu), .second, .val (.long lk), .second] [(.ref g)])) rfl rfl (hb hby d6_1)
  obtain ⟨T8, X8, e8, st8⟩ := getF X6 hx hZ hown (host := "") (Or.inl (hw _ (List.mem_of_getElem? (i := 14) rfl))) Via.refl e6 F_ranks_g (g := (mkF m 5 #[.val (.ref g), .val (.int rk), .val (.long uu), .second, .val (.long lk), .second] [(.ref g), (.int (Int32.ofNat xs.length))])) rfl rfl (hb hby d6_5)
  refine ⟨T8, _, X8, N0, e8, fun target kt => ?_⟩
  show Steps p.tables e below (T0.setTop (mkF m 0 #[.val (.ref g), .val (.int rk), .val (.long uu), .second, .val (.long lk), .second] [])) _
  refine XS.aloadN X0.here hx rfl (hb hby d6_0) rfl rfl ?_
  show Steps p.tables e below (T0.setTop (mkF m 1 #[.val (.ref g), .val (.int rk), .val (.long uu), .second, .val (.long lk), .second] [(.ref g)])) _
  refine st6 _ ?_
  show Steps p.tables e below (T6.setTop (mkF m 4 #[.val (.ref g), .val (.int rk), .val (.long uu), .second, .val (.long lk), .second] [(.int (Int32.ofNat xs.length))])) _
  refine XS.aloadN X6.here hx rfl (hb hby d6_4) rfl rfl ?_
  show Steps p.tables e below (T6.setTop (mkF m 5 #[.val (.ref g), .val (.int rk), .val (.long uu), .second, .val (.long lk), .second] [(.ref g), (.int (Int32.ofNat xs.length))])) _
  refine st8 _ ?_
  show Steps p.tables e below (T8.setTop (mkF m 8 #[.val (.ref g), .val (.int rk), .val (.long uu), .second, .val (.long lk), .second] [(.ref r), (.int (Int32.ofNat xs.length))])) _
  refine X8.arraylength hx (by rw [e8]; exact Ar_r.1) (State.isArrayOf_alike hZ.alike Ar_r.2.1) (g := (mkF m 8 #[.val (.ref g), .val (.int rk), .val (.long uu), .second, .val (.long lk), .second] [(.ref r), (.int (Int32.ofNat xs.length))])) rfl rfl (hb hby d6_8) _ ?_
  rw [len_of S_r N_r]
  show Steps p.tables e below (T8.setTop (mkF m 9 #[.val (.ref g), .val (.int rk), .val (.long uu), .second, .val (.long lk), .second] [(.int (Int32.ofNat len)), (.int (Int32.ofNat xs.length))])) _
  refine XS.icmpYes X8.here hx rfl (pc0 := 9) (pc' := 63) rfl (hb hby d6_9) rfl (feq hc9).2 (by decide) (by decide) ?_
  exact kt
theorem d6_12 : decode prog_51_method_10_code 12 = .ok (.aload_n 0, 1) := by decide +kernel
theorem d6_13 : decode prog_51_method_10_code 13 = .ok (.aload_n 0, 1) := by decide +kernel
theorem d6_14 : decode prog_51_method_10_code 14 = .ok (.getfield 13, 3) := by decide +kernel
theorem d6_17 : decode prog_51_method_10_code 17 = .ok (.iconst 2, 1) := by decide +kernel
theorem d6_18 : decode prog_51_method_10_code 18 = .ok (.aload_n 0, 1) := by decide +kernel
theorem d6_19 : decode prog_51_method_10_code 19 = .ok (.getfield 26, 3) := by decide +kernel
theorem d6_22 : decode prog_51_method_10_code 22 = .ok (.imul, 1) := by decide +kernel
theorem d6_23 : decode prog_51_method_10_code 23 = .ok (.invokestatic 39, 3) := by decide +kernel
theorem d6_26 : decode prog_51_method_10_code 26 = .ok (.putfield 13, 3) := by decide +kernel
theorem d6_29 : decode prog_51_method_10_code 29 = .ok (.aload_n 0, 1) := by decide +kernel
theorem d6_30 : decode prog_51_method_10_code 30 = .ok (.aload_n 0, 1) := by decide +kernel
theorem d6_31 : decode prog_51_method_10_code 31 = .ok (.getfield 19, 3) := by decide +kernel
theorem d6_34 : decode prog_51_method_10_code 34 = .ok (.iconst 2, 1) := by decide +kernel
theorem d6_35 : decode prog_51_method_10_code 35 = .ok (.aload_n 0, 1) := by decide +kernel
theorem d6_36 : decode prog_51_method_10_code 36 = .ok (.getfield 26, 3) := by decide +kernel
theorem d6_39 : decode prog_51_method_10_code 39 = .ok (.imul, 1) := by decide +kernel
theorem d6_40 : decode prog_51_method_10_code 40 = .ok (.invokestatic 45, 3) := by decide +kernel
theorem d6_43 : decode prog_51_method_10_code 43 = .ok (.putfield 19, 3) := by decide +kernel
theorem d6_46 : decode prog_51_method_10_code 46 = .ok (.aload_n 0, 1) := by decide +kernel
theorem d6_47 : decode prog_51_method_10_code 47 = .ok (.aload_n 0, 1) := by decide +kernel
theorem d6_48 : decode prog_51_method_10_code 48 = .ok (.getfield 23, 3) := by decide +kernel
theorem d6_51 : decode prog_51_method_10_code 51 = .ok (.iconst 2, 1) := by decide +kernel
theorem d6_52 : decode prog_51_method_10_code 52 = .ok (.aload_n 0, 1) := by decide +kernel
theorem d6_53 : decode prog_51_method_10_code 53 = .ok (.getfield 26, 3) := by decide +kernel
theorem d6_56 : decode prog_51_method_10_code 56 = .ok (.imul, 1) := by decide +kernel
theorem d6_57 : decode prog_51_method_10_code 57 = .ok (.invokestatic 45, 3) := by decide +kernel
theorem d6_60 : decode prog_51_method_10_code 60 = .ok (.putfield 23, 3) := by decide +kernel
theorem pd_6_7 : parseMethodDescriptor "([II)[I" = some ⟨[(.array .int), .int], some (.array .int)⟩ := by decide +kernel
theorem pd_6_9 : parseMethodDescriptor "([JI)[J" = some ⟨[(.array .long), .int], some (.array .long)⟩ := by decide +kernel
theorem own_kw {h h' : Heap} {ws : List Addr} (K : Keep h h' []) : Keep h h' ws := ⟨K.1, fun x c q _ => K.2.1 x c q nin0, K.2.2⟩
theorem own_neVA {Z : State} {h : Heap} {a b : Addr} {C : String} {k : Nat} {a0 : Array Value} {ty : FieldType} {len : Nat} {f : Nat → Value} (E : Exa Z h a C) (wi : (Cond.instantiable C k).before a0 Z = true) (V : VA Z h b ty len f) : a ≠ b := by obtain ⟨c, A, -⟩ := V; exact ne_arr E wi A
theorem own_four {xs : List (Int64 × Int64)} {fu fw : Nat → Value} {d : Value} (hx2 : xs.length = 2) (hxs : ∀ (i : Nat) (q : Int64 × Int64), xs[i]? = some q → fu i = .long q.1 ∧ fw i = .long q.2) (i : Nat) (q : Int64 × Int64) (hq : xs[i]? = some q) : [fu 0, fu 1, d, d].getD i d = .long q.1 ∧ [fw 0, fw 1, d, d].getD i d = .long q.2 := by
  have hi : i < 2 := by have := (List.getElem?_eq_some_iff.mp hq).1; omega
  match i, hi with
  | 0, _ => exact hxs 0 q hq
  | 1, _ => exact hxs 1 q hq
set_option maxRecDepth 65536 in
set_option maxHeartbeats 40000000 in
theorem own_roomG {p : Program} {l : Launch} {e : Env} {s : State} {m : MethodId} {args : Array Value} {below : List Frame} {meth : Method} {c : Code} {T0 : State} {locs : List Loc} {Z : State} {a0 : Array Value} {h0 : Heap} {n0 : Nat} (g : Addr) (rk : Int32) (uu : Int64) (lk : Int64) (xs : List (Int64 × Int64))
    (X0 : Stand p l e ({ frames := 2, cells := 3, slots := 12, locals := 33 } : Room) s m args below meth c T0 locs 0 0) (hx : p.tables.exec = Jvm.exec) (hZ : Z.Warmed39 s.vm) (hw : ∀ d ∈ tables_1, d.before a0 Z = true) (hby : c.code = prog_51_method_10_code) (hml : c.maxLocals = 6) (hown : s.vm.findClass "com/example/fast_tangle/fasttangle/PartingPairs$Groups" = some m.cls) (e0 : T0.heap = h0) (Z0 : n0 ≤ h0.size) (N0 : Fr n0 locs) (g_g : n0 ≤ g) (G : Gr Z h0 g n0 2 xs) (hx2 : xs.length = 2) :
    ∃ (T' : State) (locs' : List Loc), Stand p l e ({ frames := 2, cells := 3, slots := 12, locals := 33 } : Room) s m args below meth c T' locs' 3 12 ∧ Fr n0 locs' ∧ (n0 ≤ T'.heap.size ∧ Gr Z T'.heap g n0 4 xs) ∧
      ∀ target, Steps p.tables e below (T'.setTop (mkF m 63 #[.val (.ref g), .val (.int rk), .val (.long uu), .second, .val (.long lk), .second] [])) target → Steps p.tables e below (T0.setTop (mkF m 0 #[.val (.ref g), .val (.int rk), .val (.long uu), .second, .val (.long lk), .second] [])) target := by
  obtain ⟨E_g, F_size_g, r, u, w, fr, fu, fw, g_r, g_u, g_w, n1, n2, n3, F_ranks_g, F_upper_g, F_lower_g, V1, V2, V3, hxs⟩ := G
  have F_size_g : Fld Z h0 g "com/example/fast_tangle/fasttangle/PartingPairs$Groups" "size" "I" (.int (2 : Int32)) := by rw [hx2] at F_size_g; exact F_size_g
  obtain ⟨cl_r, Ar_r, s_r, v_r⟩ := V1
  have V1 : VA Z h0 r .int 2 fr := ⟨cl_r, Ar_r, s_r, v_r⟩
  have S_r : cl_r.slots.size = (2 : Int32).toNatClampNeg := s_r
  have N_r : ¬ (2 : Int32) < 0 := by decide
  have hc9 : (2 : Int32) = (2 : Int32) := rfl
  have ngu : g ≠ u := own_neVA E_g (hw _ (List.mem_of_getElem? (i := 1) rfl)) V2
  have ngw : g ≠ w := own_neVA E_g (hw _ (List.mem_of_getElem? (i := 1) rfl)) V3
  obtain ⟨T6, X6, e6, st6⟩ := getF X0 hx hZ hown (host := "") (Or.inl (hw _ (List.mem_of_getElem? (i := 33) rfl))) Via.refl e0 F_size_g (g := (mkF m 1 #[.val (.ref g), .val (.int rk), .val (.long uu), .second, .val (.long lk), .second] [(.ref g)])) rfl rfl (hb hby d6_1)
  obtain ⟨T8, X8, e8, st8⟩ := getF X6 hx hZ hown (host := "") (Or.inl (hw _ (List.mem_of_getElem? (i := 14) rfl))) Via.refl e6 F_ranks_g (g := (mkF m 5 #[.val (.ref g), .val (.int rk), .val (.long uu), .second, .val (.long lk), .second] [(.ref g), (.int (2 : Int32))])) rfl rfl (hb hby d6_5)
  obtain ⟨T9, X9, e9, st9⟩ := getF X8 hx hZ hown (host := "") (Or.inl (hw _ (List.mem_of_getElem? (i := 14) rfl))) Via.refl e8 F_ranks_g (g := (mkF m 14 #[.val (.ref g), .val (.int rk), .val (.long uu), .second, .val (.long lk), .second] [(.ref g), (.ref g)])) rfl rfl (hb hby d6_14)
  obtain ⟨T10, X10, e10, st10⟩ := getF X9 hx hZ hown (host := "") (Or.inl (hw _ (List.mem_of_getElem? (i := 33) rfl))) Via.refl e9 F_size_g (g := (mkF m 19 #[.val (.ref g), .val (.int rk), .val (.long uu), .second, .val (.long lk), .second] [(.ref g), (.int (2 : Int32)), (.ref r), (.ref g)])) rfl rfl (hb hby d6_19)
  obtain ⟨_, _, ⟨T11, L11, k11, n11⟩, -, X11, ⟨Lc11, hQ11, l11, y11, z11⟩, st11⟩ := Jvm.LawKit.callS X10 hx (y := (⟨"java/util/Arrays", "copyOf", "([II)[I"⟩ : MethodName)) hown (mvT hZ (hw _ (List.mem_of_getElem? (i := 50) rfl))) (mvT hZ (hw _ (List.mem_of_getElem? (i := 51) rfl))) (mvT hZ (hw _ (List.mem_of_getElem? (i := 52) rfl))) (mvT hZ (hw _ (List.mem_of_getElem? (i := 53) rfl))) (by decide) (backOf (W := 1) (rm10 l Z a0 hw [] r fr h0 n0 Z0 V1) hZ (hw _ (List.mem_of_getElem? (i := 53) rfl)) (hw _ (List.mem_of_getElem? (i := 52) rfl)) (by decide) (by decide)) (g := (mkF m 23 #[.val (.ref g), .val (.int rk), .val (.long uu), .second, .val (.long lk), .second] [(.int (4 : Int32)), (.ref r), (.ref g)])) rfl (by rw [hml]; rfl) (argsL := [(.ref r), (.int (4 : Int32))]) (rest := [(.ref g)]) (lenOf pd_6_7 rfl) rfl (by show 2 * 0 + _ ≤ _; exact Nat.le_of_eq rfl) (hb hby d6_23) (fun _ _ => ⟨rfl, e10, (Nat.le_of_ble_eq_true rfl), (Nat.le_of_ble_eq_true rfl)⟩)
  dsimp only [Pt.U, Pt.locs, Pt.cells, Pt.slots] at X11 l11 y11 z11 st11 hQ11
  subst l11 y11 z11
  obtain ⟨b1, rfl, N11q, gb1, sb1, K11q, VA1⟩ := hQ11
  have N11 := Fr.app N0 N11q
  have K11d : Keep h0 T11.heap [g] := own_kw K11q
  have hb1 : b1 ≠ g := (Ne.symm (Nat.ne_of_lt (Nat.lt_of_lt_of_le E_g.lt sb1)))
  obtain ⟨T12, h12, X12, e12, W12, st12⟩ := putF X11 hx hZ hown (host := "") (Or.inl (hw _ (List.mem_of_getElem? (i := 14) rfl))) Via.refl rfl (F_ranks_g.keep K11q nin0) (E_g.keep K11q) (Or.inl (hw _ (List.mem_of_getElem? (i := 15) rfl))) (hw _ (List.mem_of_getElem? (i := 1) rfl)) (ty := (.array .int)) (by decide) rfl rfl (g := (mkF m 26 #[.val (.ref g), .val (.int rk), .val (.long uu), .second, .val (.long lk), .second] [(.ref b1), (.ref g)])) rfl rfl (hb hby d6_26)
  have Fw12 := (F_ranks_g.keep K11q nin0).same W12
  have K12 : Keep h0 h12 [g] := K11d.wr W12 (Or.inl (List.mem_of_getElem? (i := 0) rfl))
  have N12 := Fr.snoc X12 N11 g_g
  have Z12 : n0 ≤ h12.size := Nat.le_trans Z0 K12.1
  have VA1a := VA1.other W12 hb1
  have V2a := (V2.keep K11q nin0).other W12 ngu.symm
  have V3a := (V3.keep K11q nin0).other W12 ngw.symm
  obtain ⟨T14, X14, e14, st14⟩ := getF X12 hx hZ hown (host := "") (Or.inl (hw _ (List.mem_of_getElem? (i := 17) rfl))) Via.refl e12 ((F_upper_g.keep K11q nin0).other W12 (Or.inr (slot_ne (Or.inl (hw _ (List.mem_of_getElem? (i := 18) rfl))) (Or.inl (hw _ (List.mem_of_getElem? (i := 15) rfl))) (by decide) (t := (.array .long)) (t' := (.array .int)) (by decide) (by decide)))) (g := (mkF m 31 #[.val (.ref g), .val (.int rk), .val (.long uu), .second, .val (.long lk), .second] [(.ref g), (.ref g)])) rfl rfl (hb hby d6_31)
  obtain ⟨T16, X16, e16, st16⟩ := getF X14 hx hZ hown (host := "") (Or.inl (hw _ (List.mem_of_getElem? (i := 33) rfl))) Via.refl e14 ((F_size_g.keep K11q nin0).other W12 (Or.inr (slot_ne (Or.inl (hw _ (List.mem_of_getElem? (i := 34) rfl))) (Or.inl (hw _ (List.mem_of_getElem? (i := 15) rfl))) (by decide) (t := .int) (t' := (.array .int)) (by decide) (by decide)))) (g := (mkF m 36 #[.val (.ref g), .val (.int rk), .val (.long uu), .second, .val (.long lk), .second] [(.ref g), (.int (2 : Int32)), (.ref u), (.ref g)])) rfl rfl (hb hby d6_36)
  obtain ⟨_, _, ⟨T17, L17, k17, n17⟩, -, X17, ⟨Lc17, hQ17, l17, y17, z17⟩, st17⟩ := Jvm.LawKit.callS X16 hx (y := (⟨"java/util/Arrays", "copyOf", "([JI)[J"⟩ : MethodName)) hown (mvT hZ (hw _ (List.mem_of_getElem? (i := 61) rfl))) (mvT hZ (hw _ (List.mem_of_getElem? (i := 62) rfl))) (mvT hZ (hw _ (List.mem_of_getElem? (i := 52) rfl))) (mvT hZ (hw _ (List.mem_of_getElem? (i := 63) rfl))) (by decide) (backOf (W := 1) (rm12 l Z a0 hw [] u fu h12 n0 Z12 V2a) hZ (hw _ (List.mem_of_getElem? (i := 63) rfl)) (hw _ (List.mem_of_getElem? (i := 52) rfl)) (by decide) (by decide)) (g := (mkF m 40 #[.val (.ref g), .val (.int rk), .val (.long uu), .second, .val (.long lk), .second] [(.int (4 : Int32)), (.ref u), (.ref g)])) rfl (by rw [hml]; rfl) (argsL := [(.ref u), (.int (4 : Int32))]) (rest := [(.ref g)]) (lenOf pd_6_9 rfl) rfl (by show 2 * 0 + _ ≤ _; exact Nat.le_of_eq rfl) (hb hby d6_40) (fun _ _ => ⟨rfl, e16, (Nat.le_of_ble_eq_true rfl), (Nat.le_of_ble_eq_true rfl)⟩)
  dsimp only [Pt.U, Pt.locs, Pt.cells, Pt.slots] at X17 l17 y17 z17 st17 hQ17
  subst l17 y17 z17
  obtain ⟨b2, rfl, N17q, gb2, sb2, K17q, VA2⟩ := hQ17
  have N17 := Fr.app N12 N17q
  have K17d : Keep h0 T17.heap [g] := K12.trans K17q all0
  have hb2 : b2 ≠ g := (Ne.symm (Nat.ne_of_lt (Nat.lt_of_lt_of_le E_g.lt (Nat.le_trans K12.1 sb2))))
  have VA1b := VA1a.keep K17q nin0
  have n12 : b1 ≠ b2 := Nat.ne_of_lt (Nat.lt_of_lt_of_le VA1a.lt sb2)
  obtain ⟨T18, h18, X18, e18, W18, st18⟩ := putF X17 hx hZ hown (host := "") (Or.inl (hw _ (List.mem_of_getElem? (i := 17) rfl))) Via.refl rfl (((F_upper_g.keep K11q nin0).other W12 (Or.inr (slot_ne (Or.inl (hw _ (List.mem_of_getElem? (i := 18) rfl))) (Or.inl (hw _ (List.mem_of_getElem? (i := 15) rfl))) (by decide) (t := (.array .long)) (t' := (.array .int)) (by decide) (by decide)))).keep K17q nin0) (((E_g.keep K11q).wr W12).keep K17q) (Or.inl (hw _ (List.mem_of_getElem? (i := 18) rfl))) (hw _ (List.mem_of_getElem? (i := 1) rfl)) (ty := (.array .long)) (by decide) rfl rfl (g := (mkF m 43 #[.val (.ref g), .val (.int rk), .val (.long uu), .second, .val (.long lk), .second] [(.ref b2), (.ref g)])) rfl rfl (hb hby d6_43)
  have Fw18 := (((F_upper_g.keep K11q nin0).other W12 (Or.inr (slot_ne (Or.inl (hw _ (List.mem_of_getElem? (i := 18) rfl))) (Or.inl (hw _ (List.mem_of_getElem? (i := 15) rfl))) (by decide) (t := (.array .long)) (t' := (.array .int)) (by decide) (by decide)))).keep K17q nin0).same W18
  have K18 : Keep h0 h18 [g] := K17d.wr W18 (Or.inl (List.mem_of_getElem? (i := 0) rfl))
  have N18 := Fr.snoc X18 N17 g_g
  have Z18 : n0 ≤ h18.size := Nat.le_trans Z0 K18.1
  have VA1c := VA1b.other W18 hb1
  have VA2a := VA2.other W18 hb2
  have V3b := (V3a.keep K17q nin0).other W18 ngw.symm
  obtain ⟨T20, X20, e20, st20⟩ := getF X18 hx hZ hown (host := "") (Or.inl (hw _ (List.mem_of_getElem? (i := 19) rfl))) Via.refl e18 ((((F_lower_g.keep K11q nin0).other W12 (Or.inr (slot_ne (Or.inl (hw _ (List.mem_of_getElem? (i := 20) rfl))) (Or.inl (hw _ (List.mem_of_getElem? (i := 15) rfl))) (by decide) (t := (.array .long)) (t' := (.array .int)) (by decide) (by decide)))).keep K17q nin0).other W18 (Or.inr (slot_ne (Or.inl (hw _ (List.mem_of_getElem? (i := 20) rfl))) (Or.inl (hw _ (List.mem_of_getElem? (i := 18) rfl))) (by decide) (t := (.array .long)) (t' := (.array .long)) (by decide) (by decide)))) (g := (mkF m 48 #[.val (.ref g), .val (.int rk), .val (.long uu), .second, .val (.long lk), .second] [(.ref g), (.ref g)])) rfl rfl (hb hby d6_48)
  obtain ⟨T22, X22, e22, st22⟩ := getF X20 hx hZ hown (host := "") (Or.inl (hw _ (List.mem_of_getElem? (i := 33) rfl))) Via.refl e20 ((((F_size_g.keep K11q nin0).other W12 (Or.inr (slot_ne (Or.inl (hw _ (List.mem_of_getElem? (i := 34) rfl))) (Or.inl (hw _ (List.mem_of_getElem? (i := 15) rfl))) (by decide) (t := .int) (t' := (.array .int)) (by decide) (by decide)))).keep K17q nin0).other W18 (Or.inr (slot_ne (Or.inl (hw _ (List.mem_of_getElem? (i := 34) rfl))) (Or.inl (hw _ (List.mem_of_getElem? (i := 18) rfl))) (by decide) (t := .int) (t' := (.array .long)) (by decide) (by decide)))) (g := (mkF m 53 #[.val (.ref g), .val (.int rk), .val (.long uu), .second, .val (.long lk), .second] [(.ref g), (.int (2 : Int32)), (.ref w), (.ref g)])) rfl rfl (hb hby d6_53)
  obtain ⟨_, _, ⟨T23, L23, k23, n23⟩, -, X23, ⟨Lc23, hQ23, l23, y23, z23⟩, st23⟩ := Jvm.LawKit.callS X22 hx (y := (⟨"java/util/Arrays", "copyOf", "([JI)[J"⟩ : MethodName)) hown (mvT hZ (hw _ (List.mem_of_getElem? (i := 61) rfl))) (mvT hZ (hw _ (List.mem_of_getElem? (i := 62) rfl))) (mvT hZ (hw _ (List.mem_of_getElem? (i := 52) rfl))) (mvT hZ (hw _ (List.mem_of_getElem? (i := 63) rfl))) (by decide) (backOf (W := 1) (rm12 l Z a0 hw [] w fw h18 n0 Z18 V3b) hZ (hw _ (List.mem_of_getElem? (i := 63) rfl)) (hw _ (List.mem_of_getElem? (i := 52) rfl)) (by decide) (by decide)) (g := (mkF m 57 #[.val (.ref g), .val (.int rk), .val (.long uu), .second, .val (.long lk), .second] [(.int (4 : Int32)), (.ref w), (.ref g)])) rfl (by rw [hml]; rfl) (argsL := [(.ref w), (.int (4 : Int32))]) (rest := [(.ref g)]) (lenOf pd_6_9 rfl) rfl (by show 2 * 0 + _ ≤ _; exact Nat.le_of_eq rfl) (hb hby d6_57) (fun _ _ => ⟨rfl, e22, (Nat.le_of_ble_eq_true rfl), (Nat.le_of_ble_eq_true rfl)⟩)
  dsimp only [Pt.U, Pt.locs, Pt.cells, Pt.slots] at X23 l23 y23 z23 st23 hQ23
  subst l23 y23 z23
  obtain ⟨b3, rfl, N23q, gb3, sb3, K23q, VA3⟩ := hQ23
  have N23 := Fr.app N18 N23q
  have K23d : Keep h0 T23.heap [g] := K18.trans K23q all0
  have hb3 : b3 ≠ g := (Ne.symm (Nat.ne_of_lt (Nat.lt_of_lt_of_le E_g.lt (Nat.le_trans K18.1 sb3))))
  have n13 : b1 ≠ b3 := Nat.ne_of_lt (Nat.lt_of_lt_of_le VA1c.lt sb3)
  have n23 : b2 ≠ b3 := Nat.ne_of_lt (Nat.lt_of_lt_of_le VA2a.lt sb3)
  obtain ⟨T24, h24, X24, e24, W24, st24⟩ := putF X23 hx hZ hown (host := "") (Or.inl (hw _ (List.mem_of_getElem? (i := 19) rfl))) Via.refl rfl (((((F_lower_g.keep K11q nin0).other W12 (Or.inr (slot_ne (Or.inl (hw _ (List.mem_of_getElem? (i := 20) rfl))) (Or.inl (hw _ (List.mem_of_getElem? (i := 15) rfl))) (by decide) (t := (.array .long)) (t' := (.array .int)) (by decide) (by decide)))).keep K17q nin0).other W18 (Or.inr (slot_ne (Or.inl (hw _ (List.mem_of_getElem? (i := 20) rfl))) (Or.inl (hw _ (List.mem_of_getElem? (i := 18) rfl))) (by decide) (t := (.array .long)) (t' := (.array .long)) (by decide) (by decide)))).keep K23q nin0) (((((E_g.keep K11q).wr W12).keep K17q).wr W18).keep K23q) (Or.inl (hw _ (List.mem_of_getElem? (i := 20) rfl))) (hw _ (List.mem_of_getElem? (i := 1) rfl)) (ty := (.array .long)) (by decide) rfl rfl (g := (mkF m 60 #[.val (.ref g), .val (.int rk), .val (.long uu), .second, .val (.long lk), .second] [(.ref b3), (.ref g)])) rfl rfl (hb hby d6_60)
  have Fw24 := (((((F_lower_g.keep K11q nin0).other W12 (Or.inr (slot_ne (Or.inl (hw _ (List.mem_of_getElem? (i := 20) rfl))) (Or.inl (hw _ (List.mem_of_getElem? (i := 15) rfl))) (by decide) (t := (.array .long)) (t' := (.array .int)) (by decide) (by decide)))).keep K17q nin0).other W18 (Or.inr (slot_ne (Or.inl (hw _ (List.mem_of_getElem? (i := 20) rfl))) (Or.inl (hw _ (List.mem_of_getElem? (i := 18) rfl))) (by decide) (t := (.array .long)) (t' := (.array .long)) (by decide) (by decide)))).keep K23q nin0).same W24
  have K24 : Keep h0 h24 [g] := K23d.wr W24 (Or.inl (List.mem_of_getElem? (i := 0) rfl))
  have N24 := Fr.snoc X24 N23 g_g
  have Z24 : n0 ≤ h24.size := Nat.le_trans Z0 K24.1
  have FS := (((((F_size_g.keep K11q nin0).other W12 (Or.inr (slot_ne (Or.inl (hw _ (List.mem_of_getElem? (i := 34) rfl))) (Or.inl (hw _ (List.mem_of_getElem? (i := 15) rfl))) (by decide) (t := .int) (t' := (.array .int)) (by decide) (by decide)))).keep K17q nin0).other W18 (Or.inr (slot_ne (Or.inl (hw _ (List.mem_of_getElem? (i := 34) rfl))) (Or.inl (hw _ (List.mem_of_getElem? (i := 18) rfl))) (by decide) (t := .int) (t' := (.array .long)) (by decide) (by decide)))).keep K23q nin0).other W24 (Or.inr (slot_ne (Or.inl (hw _ (List.mem_of_getElem? (i := 34) rfl))) (Or.inl (hw _ (List.mem_of_getElem? (i := 20) rfl))) (by decide) (t := .int) (t' := (.array .long)) (by decide) (by decide)))
  have GG : Gr Z h24 g n0 4 xs := ⟨(((((E_g.keep K11q).wr W12).keep K17q).wr W18).keep K23q).wr W24, by rw [hx2]; exact FS, b1, b2, b3, _, _, _, gb1, gb2, gb3, n12, n13, n23, (((Fw12.keep K17q nin0).other W18 (Or.inr (slot_ne (Or.inl (hw _ (List.mem_of_getElem? (i := 15) rfl))) (Or.inl (hw _ (List.mem_of_getElem? (i := 18) rfl))) (by decide) (t := (.array .int)) (t' := (.array .long)) (by decide) (by decide)))).keep K23q nin0).other W24 (Or.inr (slot_ne (Or.inl (hw _ (List.mem_of_getElem? (i := 15) rfl))) (Or.inl (hw _ (List.mem_of_getElem? (i := 20) rfl))) (by decide) (t := (.array .int)) (t' := (.array .long)) (by decide) (by decide))), (Fw18.keep K23q nin0).other W24 (Or.inr (slot_ne (Or.inl (hw _ (List.mem_of_getElem? (i := 18) rfl))) (Or.inl (hw _ (List.mem_of_getElem? (i := 20) rfl))) (by decide) (t := (.array .long)) (t' := (.array .long)) (by decide) (by decide))), Fw24, (VA1c.keep K23q nin0).other W24 hb1, (VA2a.keep K23q nin0).other W24 hb2, VA3.other W24 hb3, fun i q hq => own_four hx2 hxs i q hq⟩
  refine ⟨T24, _, X24, N24, (by rw [e24]; exact ⟨Z24, GG⟩), fun target kt => ?_⟩
  show Steps p.tables e below (T0.setTop (mkF m 0 #[.val (.ref g), .val (.int rk), .val (.long uu), .second, .val (.long lk), .second] [])) _
  refine XS.aloadN X0.here hx rfl (hb hby d6_0) rfl rfl ?_
  show Steps p.tables e below (T0.setTop (mkF m 1 #[.val (.ref g), .val (.int rk), .val (.long uu), .second, .val (.long lk), .second] [(.ref g)])) _
  refine st6 _ ?_
  show Steps p.tables e below (T6.setTop (mkF m 4 #[.val (.ref g), .val (.int rk), .val (.long uu), .second, .val (.long lk), .second] [(.int (2 : Int32))])) _
  refine XS.aloadN X6.here hx rfl (hb hby d6_4) rfl rfl ?_
  show Steps p.tables e below (T6.setTop (mkF m 5 #[.val (.ref g), .val (.int rk), .val (.long uu), .second, .val (.long lk), .second] [(.ref g), (.int (2 : Int32))])) _
  refine st8 _ ?_
  show Steps p.tables e below (T8.setTop (mkF m 8 #[.val (.ref g), .val (.int rk), .val (.long uu), .second, .val (.long lk), .second] [(.ref r), (.int (2 : Int32))])) _
  refine X8.arraylength hx (by rw [e8]; exact Ar_r.1) (State.isArrayOf_alike hZ.alike Ar_r.2.1) (g := (mkF m 8 #[.val (.ref g), .val (.int rk), .val (.long uu), .second, .val (.long lk), .second] [(.ref r), (.int (2 : Int32))])) rfl rfl (hb hby d6_8) _ ?_
  rw [len_of S_r N_r]
  show Steps p.tables e below (T8.setTop (mkF m 9 #[.val (.ref g), .val (.int rk), .val (.long uu), .second, .val (.long lk), .second] [(.int (2 : Int32)), (.int (2 : Int32))])) _
  refine XS.icmpNo X8.here hx rfl (hb hby d6_9) rfl (teq hc9).2 ?_
  show Steps p.tables e below (T8.setTop (mkF m 12 #[.val (.ref g), .val (.int rk), .val (.long uu), .second, .val (.long lk), .second] [])) _
  refine XS.aloadN X8.here hx rfl (hb hby d6_12) rfl rfl ?_
  show Steps p.tables e below (T8.setTop (mkF m 13 #[.val (.ref g), .val (.int rk), .val (.long uu), .second, .val (.long lk), .second] [(.ref g)])) _
  refine XS.aloadN X8.here hx rfl (hb hby d6_13) rfl rfl ?_
  show Steps p.tables e below (T8.setTop (mkF m 14 #[.val (.ref g), .val (.int rk), .val (.long uu), .second, .val (.long lk), .second] [(.ref g), (.ref g)])) _
  refine st9 _ ?_
  show Steps p.tables e below (T9.setTop (mkF m 17 #[.val (.ref g), .val (.int rk), .val (.long uu), .second, .val (.long lk), .second] [(.ref r), (.ref g)])) _
  refine XS.iconst X9.here hx rfl (hb hby d6_17) ?_
  show Steps p.tables e below (T9.setTop (mkF m 18 #[.val (.ref g), .val (.int rk), .val (.long uu), .second, .val (.long lk), .second] [(.int (2 : Int32)), (.ref r), (.ref g)])) _
  refine XS.aloadN X9.here hx rfl (hb hby d6_18) rfl rfl ?_
  show Steps p.tables e below (T9.setTop (mkF m 19 #[.val (.ref g), .val (.int rk), .val (.long uu), .second, .val (.long lk), .second] [(.ref g), (.int (2 : Int32)), (.ref r), (.ref g)])) _
  refine st10 _ ?_
  show Steps p.tables e below (T10.setTop (mkF m 22 #[.val (.ref g), .val (.int rk), .val (.long uu), .second, .val (.long lk), .second] [(.int (2 : Int32)), (.int (2 : Int32)), (.ref r), (.ref g)])) _
  refine XS.imul X10.here hx rfl (hb hby d6_22) rfl ?_
  show Steps p.tables e below (T10.setTop (mkF m 23 #[.val (.ref g), .val (.int rk), .val (.long uu), .second, .val (.long lk), .second] [(.int (4 : Int32)), (.ref r), (.ref g)])) _
  refine st11 _ ?_
  show Steps p.tables e below (T11.setTop (mkF m 26 #[.val (.ref g), .val (.int rk), .val (.long uu), .second, .val (.long lk), .second] [(.ref b1), (.ref g)])) _
  refine st12 _ ?_
  show Steps p.tables e below (T12.setTop (mkF m 29 #[.val (.ref g), .val (.int rk), .val (.long uu), .second, .val (.long lk), .second] [])) _
  refine XS.aloadN X12.here hx rfl (hb hby d6_29) rfl rfl ?_
  show Steps p.tables e below (T12.setTop (mkF m 30 #[.val (.ref g), .val (.int rk), .val (.long uu), .second, .val (.long lk), .second] [(.ref g)])) _
  refine XS.aloadN X12.here hx rfl (hb hby d6_30) rfl rfl ?_
  show Steps p.tables e below (T12.setTop (mkF m 31 #[.val (.ref g), .val (.int rk), .val (.long uu), .second, .val (.long lk), .second] [(.ref g), (.ref g)])) _
  refine st14 _ ?_
  show Steps p.tables e below (T14.setTop (mkF m 34 #[.val (.ref g), .val (.int rk), .val (.long uu), .second, .val (.long lk), .second] [(.ref u), (.ref g)])) _
  refine XS.iconst X14.here hx rfl (hb hby d6_34) ?_
  show Steps p.tables e below (T14.setTop (mkF m 35 #[.val (.ref g), .val (.int rk), .val (.long uu), .second, .val (.long lk), .second] [(.int (2 : Int32)), (.ref u), (.ref g)])) _
  refine XS.aloadN X14.here hx rfl (hb hby d6_35) rfl rfl ?_
  show Steps p.tables e below (T14.setTop (mkF m 36 #[.val (.ref g), .val (.int rk), .val (.long uu), .second, .val (.long lk), .second] [(.ref g), (.int (2 : Int32)), (.ref u), (.ref g)])) _
  refine st16 _ ?_
  show Steps p.tables e below (T16.setTop (mkF m 39 #[.val (.ref g), .val (.int rk), .val (.long uu), .second, .val (.long lk), .second] [(.int (2 : Int32)), (.int (2 : Int32)), (.ref u), (.ref g)])) _
  refine XS.imul X16.here hx rfl (hb hby d6_39) rfl ?_
  show Steps p.tables e below (T16.setTop (mkF m 40 #[.val (.ref g), .val (.int rk), .val (.long uu), .second, .val (.long lk), .second] [(.int (4 : Int32)), (.ref u), (.ref g)])) _
  refine st17 _ ?_
  show Steps p.tables e below (T17.setTop (mkF m 43 #[.val (.ref g), .val (.int rk), .val (.long uu), .second, .val (.long lk), .second] [(.ref b2), (.ref g)])) _
  refine st18 _ ?_
  show Steps p.tables e below (T18.setTop (mkF m 46 #[.val (.ref g), .val (.int rk), .val (.long uu), .second, .val (.long lk), .second] [])) _
  refine XS.aloadN X18.here hx rfl (hb hby d6_46) rfl rfl ?_
  show Steps p.tables e below (T18.setTop (mkF m 47 #[.val (.ref g), .val (.int rk), .val (.long uu), .second, .val (.long lk), .second] [(.ref g)])) _
  refine XS.aloadN X18.here hx rfl (hb hby d6_47) rfl rfl ?_
  show Steps p.tables e below (T18.setTop (mkF m 48 #[.val (.ref g), .val (.int rk), .val (.long uu), .second, .val (.long lk), .second] [(.ref g), (.ref g)])) _
  refine st20 _ ?_
  show Steps p.tables e below (T20.setTop (mkF m 51 #[.val (.ref g), .val (.int rk), .val (.long uu), .second, .val (.long lk), .second] [(.ref w), (.ref g)])) _
  refine XS.iconst X20.here hx rfl (hb hby d6_51) ?_
  show Steps p.tables e below (T20.setTop (mkF m 52 #[.val (.ref g), .val (.int rk), .val (.long uu), .second, .val (.long lk), .second] [(.int (2 : Int32)), (.ref w), (.ref g)])) _
  refine XS.aloadN X20.here hx rfl (hb hby d6_52) rfl rfl ?_
  show Steps p.tables e below (T20.setTop (mkF m 53 #[.val (.ref g), .val (.int rk), .val (.long uu), .second, .val (.long lk), .second] [(.ref g), (.int (2 : Int32)), (.ref w), (.ref g)])) _
  refine st22 _ ?_
  show Steps p.tables e below (T22.setTop (mkF m 56 #[.val (.ref g), .val (.int rk), .val (.long uu), .second, .val (.long lk), .second] [(.int (2 : Int32)), (.int (2 : Int32)), (.ref w), (.ref g)])) _
  refine XS.imul X22.here hx rfl (hb hby d6_56) rfl ?_
  show Steps p.tables e below (T22.setTop (mkF m 57 #[.val (.ref g), .val (.int rk), .val (.long uu), .second, .val (.long lk), .second] [(.int (4 : Int32)), (.ref w), (.ref g)])) _
  refine st23 _ ?_
  show Steps p.tables e below (T23.setTop (mkF m 60 #[.val (.ref g), .val (.int rk), .val (.long uu), .second, .val (.long lk), .second] [(.ref b3), (.ref g)])) _
  refine st24 _ ?_
  exact kt
theorem d6_63 : decode prog_51_method_10_code 63 = .ok (.aload_n 0, 1) := by decide +kernel
theorem d6_64 : decode prog_51_method_10_code 64 = .ok (.getfield 13, 3) := by decide +kernel
theorem d6_67 : decode prog_51_method_10_code 67 = .ok (.aload_n 0, 1) := by decide +kernel
theorem d6_68 : decode prog_51_method_10_code 68 = .ok (.getfield 26, 3) := by decide +kernel
theorem d6_71 : decode prog_51_method_10_code 71 = .ok (.iload_n 1, 1) := by decide +kernel
theorem d6_72 : decode prog_51_method_10_code 72 = .ok (.iastore, 1) := by decide +kernel
theorem d6_73 : decode prog_51_method_10_code 73 = .ok (.aload_n 0, 1) := by decide +kernel
theorem d6_74 : decode prog_51_method_10_code 74 = .ok (.getfield 19, 3) := by decide +kernel
theorem d6_77 : decode prog_51_method_10_code 77 = .ok (.aload_n 0, 1) := by decide +kernel
theorem d6_78 : decode prog_51_method_10_code 78 = .ok (.getfield 26, 3) := by decide +kernel
theorem d6_81 : decode prog_51_method_10_code 81 = .ok (.lload_n 2, 1) := by decide +kernel
theorem d6_82 : decode prog_51_method_10_code 82 = .ok (.lastore, 1) := by decide +kernel
theorem d6_83 : decode prog_51_method_10_code 83 = .ok (.aload_n 0, 1) := by decide +kernel
theorem d6_84 : decode prog_51_method_10_code 84 = .ok (.getfield 23, 3) := by decide +kernel
theorem d6_87 : decode prog_51_method_10_code 87 = .ok (.aload_n 0, 1) := by decide +kernel
theorem d6_88 : decode prog_51_method_10_code 88 = .ok (.getfield 26, 3) := by decide +kernel
theorem d6_91 : decode prog_51_method_10_code 91 = .ok (.lload 4, 2) := by decide +kernel
theorem d6_93 : decode prog_51_method_10_code 93 = .ok (.lload_n 2, 1) := by decide +kernel
theorem d6_94 : decode prog_51_method_10_code 94 = .ok (.lsub, 1) := by decide +kernel
theorem d6_95 : decode prog_51_method_10_code 95 = .ok (.lastore, 1) := by decide +kernel
theorem d6_96 : decode prog_51_method_10_code 96 = .ok (.aload_n 0, 1) := by decide +kernel
theorem d6_97 : decode prog_51_method_10_code 97 = .ok (.dup, 1) := by decide +kernel
theorem d6_98 : decode prog_51_method_10_code 98 = .ok (.getfield 26, 3) := by decide +kernel
theorem d6_101 : decode prog_51_method_10_code 101 = .ok (.iconst 1, 1) := by decide +kernel
theorem d6_102 : decode prog_51_method_10_code 102 = .ok (.iadd, 1) := by decide +kernel
theorem d6_103 : decode prog_51_method_10_code 103 = .ok (.putfield 26, 3) := by decide +kernel
theorem own_snoc {xs : List (Int64 × Int64)} {fu fw : Nat → Value} (hxs : ∀ (i : Nat) (q : Int64 × Int64), xs[i]? = some q → fu i = .long q.1 ∧ fw i = .long q.2) (a b : Int64) (i : Nat) (q : Int64 × Int64) (hq : (xs ++ [(a, b)])[i]? = some q) : (if i = xs.length then Value.long a else fu i) = .long q.1 ∧ (if i = xs.length then Value.long b else fw i) = .long q.2 := by
  by_cases h : i = xs.length
  · subst h
    simp at hq
    subst hq
    simp
  · rw [if_neg h, if_neg h]
    refine hxs i q ?_
    rw [List.getElem?_append_left] at hq
    · exact hq
    · have := (List.getElem?_eq_some_iff.mp hq).1
      simp at this
      omega
set_option maxRecDepth 65536 in
set_option maxHeartbeats 40000000 in
theorem own_store {p : Program} {l : Launch} {e : Env} {s : State} {m : MethodId} {args : Array Value} {below : List Frame} {meth : Method} {c : Code} {T0 : State} {locs : List Loc} {Z : State} {a0 : Array Value} {h0 : Heap} {n0 : Nat} (g : Addr) (rk : Int32) (uu : Int64) (lk : Int64) (len : Nat) (xs : List (Int64 × Int64))
    (X0 : Stand p l e ({ frames := 2, cells := 3, slots := 12, locals := 33 } : Room) s m args below meth c T0 locs 3 12) (hx : p.tables.exec = Jvm.exec) (hZ : Z.Warmed39 s.vm) (hw : ∀ d ∈ tables_1, d.before a0 Z = true) (hby : c.code = prog_51_method_10_code) (hml : c.maxLocals = 6) (hown : s.vm.findClass "com/example/fast_tangle/fasttangle/PartingPairs$Groups" = some m.cls) (e0 : T0.heap = h0) (Z0 : n0 ≤ h0.size) (N0 : Fr n0 locs) (g_g : n0 ≤ g) (G : Gr Z h0 g n0 len xs) (hl : len ≤ 7) (hx1 : xs.length < len) :
    ∃ (T' : State) (locs' : List Loc), Stand p l e ({ frames := 2, cells := 3, slots := 12, locals := 33 } : Room) s m args below meth c T' locs' 3 12 ∧ Fr n0 locs' ∧ (n0 ≤ T'.heap.size ∧ Gr Z T'.heap g n0 len (xs ++ [(uu, lk - uu)])) ∧
      ∀ target, Steps p.tables e below (T'.setTop (mkF m 106 #[.val (.ref g), .val (.int rk), .val (.long uu), .second, .val (.long lk), .second] [])) target → Steps p.tables e below (T0.setTop (mkF m 63 #[.val (.ref g), .val (.int rk), .val (.long uu), .second, .val (.long lk), .second] [])) target := by
  obtain ⟨E_g, F_size_g, r, u, w, fr, fu, fw, g_r, g_u, g_w, n1, n2, n3, F_ranks_g, F_upper_g, F_lower_g, V1, V2, V3, hxs⟩ := G
  have ngr : g ≠ r := own_neVA E_g (hw _ (List.mem_of_getElem? (i := 1) rfl)) V1
  have ngu : g ≠ u := own_neVA E_g (hw _ (List.mem_of_getElem? (i := 1) rfl)) V2
  have ngw : g ≠ w := own_neVA E_g (hw _ (List.mem_of_getElem? (i := 1) rfl)) V3
  obtain ⟨cl_r, Ar_r, s_r, v_r⟩ := V1
  obtain ⟨cl_u, Ar_u, s_u, v_u⟩ := V2
  obtain ⟨cl_w, Ar_w, s_w, v_w⟩ := V3
  have V1 : VA Z h0 r .int len fr := ⟨cl_r, Ar_r, s_r, v_r⟩
  have V2 : VA Z h0 u .long len fu := ⟨cl_u, Ar_u, s_u, v_u⟩
  have V3 : VA Z h0 w .long len fw := ⟨cl_w, Ar_w, s_w, v_w⟩
  have hin72 := own_in hx1 (by omega) s_r
  have hin82 := own_in hx1 (by omega) s_u
  have hin95 := own_in hx1 (by omega) s_w
  obtain ⟨T6, X6, e6, st6⟩ := getF X0 hx hZ hown (host := "") (Or.inl (hw _ (List.mem_of_getElem? (i := 14) rfl))) Via.refl e0 F_ranks_g (g := (mkF m 64 #[.val (.ref g), .val (.int rk), .val (.long uu), .second, .val (.long lk), .second] [(.ref g)])) rfl rfl (hb hby d6_64)
  obtain ⟨T8, X8, e8, st8⟩ := getF X6 hx hZ hown (host := "") (Or.inl (hw _ (List.mem_of_getElem? (i := 33) rfl))) Via.refl e6 F_size_g (g := (mkF m 68 #[.val (.ref g), .val (.int rk), .val (.long uu), .second, .val (.long lk), .second] [(.ref g), (.ref r)])) rfl rfl (hb hby d6_68)
  obtain ⟨T9, h9, X9, e9, W9, st9⟩ := stI X8 hx hZ e8 Ar_r (j := (Int32.ofNat xs.length)) hin72 (g := (mkF m 72 #[.val (.ref g), .val (.int rk), .val (.long uu), .second, .val (.long lk), .second] [(.int rk), (.int (Int32.ofNat xs.length)), (.ref r)])) rfl rfl (hb hby d6_72)
  have N9 := Fr.snoc X9 N0 g_r
  have K9 : Keep h0 h9 [r, u, w, g] := (Keep.refl h0 [r, u, w, g]).wr W9 (Or.inl (List.mem_of_getElem? (i := 0) rfl))
  obtain ⟨T11, X11, e11, st11⟩ := getF X9 hx hZ hown (host := "") (Or.inl (hw _ (List.mem_of_getElem? (i := 17) rfl))) Via.refl e9 (F_upper_g.other W9 (Or.inl ngr)) (g := (mkF m 74 #[.val (.ref g), .val (.int rk), .val (.long uu), .second, .val (.long lk), .second] [(.ref g)])) rfl rfl (hb hby d6_74)
  obtain ⟨T12, X12, e12, st12⟩ := getF X11 hx hZ hown (host := "") (Or.inl (hw _ (List.mem_of_getElem? (i := 33) rfl))) Via.refl e11 (F_size_g.other W9 (Or.inl ngr)) (g := (mkF m 78 #[.val (.ref g), .val (.int rk), .val (.long uu), .second, .val (.long lk), .second] [(.ref g), (.ref u)])) rfl rfl (hb hby d6_78)
  obtain ⟨T13, h13, X13, e13, W13, st13⟩ := stJ X12 hx hZ e12 (Ar_u.other W9 n1.symm) (j := (Int32.ofNat xs.length)) hin82 (g := (mkF m 82 #[.val (.ref g), .val (.int rk), .val (.long uu), .second, .val (.long lk), .second] [(.long uu), (.int (Int32.ofNat xs.length)), (.ref u)])) rfl rfl (hb hby d6_82)
  have N13 := Fr.snoc X13 N9 g_u
  have K13 : Keep h0 h13 [r, u, w, g] := K9.wr W13 (Or.inl (List.mem_of_getElem? (i := 1) rfl))
  obtain ⟨T15, X15, e15, st15⟩ := getF X13 hx hZ hown (host := "") (Or.inl (hw _ (List.mem_of_getElem? (i := 19) rfl))) Via.refl e13 ((F_lower_g.other W9 (Or.inl ngr)).other W13 (Or.inl ngu)) (g := (mkF m 84 #[.val (.ref g), .val (.int rk), .val (.long uu), .second, .val (.long lk), .second] [(.ref g)])) rfl rfl (hb hby d6_84)
  obtain ⟨T16, X16, e16, st16⟩ := getF X15 hx hZ hown (host := "") (Or.inl (hw _ (List.mem_of_getElem? (i := 33) rfl))) Via.refl e15 ((F_size_g.other W9 (Or.inl ngr)).other W13 (Or.inl ngu)) (g := (mkF m 88 #[.val (.ref g), .val (.int rk), .val (.long uu), .second, .val (.long lk), .second] [(.ref g), (.ref w)])) rfl rfl (hb hby d6_88)
  obtain ⟨T17, h17, X17, e17, W17, st17⟩ := stJ X16 hx hZ e16 ((Ar_w.other W9 n2.symm).other W13 n3.symm) (j := (Int32.ofNat xs.length)) hin95 (g := (mkF m 95 #[.val (.ref g), .val (.int rk), .val (.long uu), .second, .val (.long lk), .second] [(.long (lk - uu)), (.int (Int32.ofNat xs.length)), (.ref w)])) rfl rfl (hb hby d6_95)
  have N17 := Fr.snoc X17 N13 g_w
  have K17 : Keep h0 h17 [r, u, w, g] := K13.wr W17 (Or.inl (List.mem_of_getElem? (i := 2) rfl))
  obtain ⟨T18, X18, e18, st18⟩ := getF X17 hx hZ hown (host := "") (Or.inl (hw _ (List.mem_of_getElem? (i := 33) rfl))) Via.refl e17 (((F_size_g.other W9 (Or.inl ngr)).other W13 (Or.inl ngu)).other W17 (Or.inl ngw)) (g := (mkF m 98 #[.val (.ref g), .val (.int rk), .val (.long uu), .second, .val (.long lk), .second] [(.ref g), (.ref g)])) rfl rfl (hb hby d6_98)
  obtain ⟨T19, h19, X19, e19, W19, st19⟩ := putF X18 hx hZ hown (host := "") (Or.inl (hw _ (List.mem_of_getElem? (i := 33) rfl))) Via.refl e18 (((F_size_g.other W9 (Or.inl ngr)).other W13 (Or.inl ngu)).other W17 (Or.inl ngw)) (((E_g.wr W9).wr W13).wr W17) (Or.inl (hw _ (List.mem_of_getElem? (i := 34) rfl))) (hw _ (List.mem_of_getElem? (i := 1) rfl)) (ty := .int) (by decide) rfl rfl (g := (mkF m 103 #[.val (.ref g), .val (.int rk), .val (.long uu), .second, .val (.long lk), .second] [(.int ((Int32.ofNat xs.length) + (1 : Int32))), (.ref g)])) rfl rfl (hb hby d6_103)
  have Fw19 := (((F_size_g.other W9 (Or.inl ngr)).other W13 (Or.inl ngu)).other W17 (Or.inl ngw)).same W19
  have K19 : Keep h0 h19 [r, u, w, g] := K17.wr W19 (Or.inl (List.mem_of_getElem? (i := 3) rfl))
  have N19 := Fr.snoc X19 N17 g_g
  have W9' : Wr h0 h9 r xs.length (.int rk) := by rw [← (own_clamp (by omega : xs.length ≤ 255))]; exact W9
  have W13' : Wr h9 h13 u xs.length (.long uu) := by rw [← (own_clamp (by omega : xs.length ≤ 255))]; exact W13
  have W17' : Wr h13 h17 w xs.length (.long (lk - uu)) := by rw [← (own_clamp (by omega : xs.length ≤ 255))]; exact W17
  have VR := (((V1.set W9' rfl).other W13 n1).other W17 n2).other W19 ngr.symm
  have VU := (((V2.other W9 n1.symm).set W13' rfl).other W17 n3).other W19 ngu.symm
  have VW := (((V3.other W9 n2.symm).other W13 n3.symm).set W17' rfl).other W19 ngw.symm
  have FS : Fld Z h19 g "com/example/fast_tangle/fasttangle/PartingPairs$Groups" "size" "I" (.int (Int32.ofNat (xs ++ [(uu, lk - uu)]).length)) := by rw [List.length_append, List.length_singleton, ← own_one]; exact Fw19
  have GG : Gr Z h19 g n0 len (xs ++ [(uu, lk - uu)]) := ⟨(((E_g.wr W9).wr W13).wr W17).wr W19, FS, r, u, w, _, _, _, g_r, g_u, g_w, n1, n2, n3, (((F_ranks_g.other W9 (Or.inl ngr)).other W13 (Or.inl ngu)).other W17 (Or.inl ngw)).other W19 (Or.inr (slot_ne (Or.inl (hw _ (List.mem_of_getElem? (i := 15) rfl))) (Or.inl (hw _ (List.mem_of_getElem? (i := 34) rfl))) (by decide) (t := (.array .int)) (t' := .int) (by decide) (by decide))), (((F_upper_g.other W9 (Or.inl ngr)).other W13 (Or.inl ngu)).other W17 (Or.inl ngw)).other W19 (Or.inr (slot_ne (Or.inl (hw _ (List.mem_of_getElem? (i := 18) rfl))) (Or.inl (hw _ (List.mem_of_getElem? (i := 34) rfl))) (by decide) (t := (.array .long)) (t' := .int) (by decide) (by decide))), (((F_lower_g.other W9 (Or.inl ngr)).other W13 (Or.inl ngu)).other W17 (Or.inl ngw)).other W19 (Or.inr (slot_ne (Or.inl (hw _ (List.mem_of_getElem? (i := 20) rfl))) (Or.inl (hw _ (List.mem_of_getElem? (i := 34) rfl))) (by decide) (t := (.array .long)) (t' := .int) (by decide) (by decide))), VR, VU, VW, own_snoc hxs uu (lk - uu)⟩
  have Z19 : n0 ≤ h19.size := Nat.le_trans Z0 K19.1
  refine ⟨T19, _, X19, N19, (by rw [e19]; exact ⟨Z19, GG⟩), fun target kt => ?_⟩
  show Steps p.tables e below (T0.setTop (mkF m 63 #[.val (.ref g), .val (.int rk), .val (.long uu), .second, .val (.long lk), .second] [])) _
  refine XS.aloadN X0.here hx rfl (hb hby d6_63) rfl rfl ?_
  show Steps p.tables e below (T0.setTop (mkF m 64 #[.val (.ref g), .val (.int rk), .val (.long uu), .second, .val (.long lk), .second] [(.ref g)])) _
  refine st6 _ ?_
  show Steps p.tables e below (T6.setTop (mkF m 67 #[.val (.ref g), .val (.int rk), .val (.long uu), .second, .val (.long lk), .second] [(.ref r)])) _
  refine XS.aloadN X6.here hx rfl (hb hby d6_67) rfl rfl ?_
  show Steps p.tables e below (T6.setTop (mkF m 68 #[.val (.ref g), .val (.int rk), .val (.long uu), .second, .val (.long lk), .second] [(.ref g), (.ref r)])) _
  refine st8 _ ?_
  show Steps p.tables e below (T8.setTop (mkF m 71 #[.val (.ref g), .val (.int rk), .val (.long uu), .second, .val (.long lk), .second] [(.int (Int32.ofNat xs.length)), (.ref r)])) _
  refine XS.iloadN X8.here hx rfl (hb hby d6_71) rfl ?_
  show Steps p.tables e below (T8.setTop (mkF m 72 #[.val (.ref g), .val (.int rk), .val (.long uu), .second, .val (.long lk), .second] [(.int rk), (.int (Int32.ofNat xs.length)), (.ref r)])) _
  refine st9 _ ?_
  show Steps p.tables e below (T9.setTop (mkF m 73 #[.val (.ref g), .val (.int rk), .val (.long uu), .second, .val (.long lk), .second] [])) _
  refine XS.aloadN X9.here hx rfl (hb hby d6_73) rfl rfl ?_
  show Steps p.tables e below (T9.setTop (mkF m 74 #[.val (.ref g), .val (.int rk), .val (.long uu), .second, .val (.long lk), .second] [(.ref g)])) _
  refine st11 _ ?_
  show Steps p.tables e below (T11.setTop (mkF m 77 #[.val (.ref g), .val (.int rk), .val (.long uu), .second, .val (.long lk), .second] [(.ref u)])) _
  refine XS.aloadN X11.here hx rfl (hb hby d6_77) rfl rfl ?_
  show Steps p.tables e below (T11.setTop (mkF m 78 #[.val (.ref g), .val (.int rk), .val (.long uu), .second, .val (.long lk), .second] [(.ref g), (.ref u)])) _
  refine st12 _ ?_
  show Steps p.tables e below (T12.setTop (mkF m 81 #[.val (.ref g), .val (.int rk), .val (.long uu), .second, .val (.long lk), .second] [(.int (Int32.ofNat xs.length)), (.ref u)])) _
  refine XS.lloadN X12.here hx rfl (hb hby d6_81) rfl ?_
  show Steps p.tables e below (T12.setTop (mkF m 82 #[.val (.ref g), .val (.int rk), .val (.long uu), .second, .val (.long lk), .second] [(.long uu), (.int (Int32.ofNat xs.length)), (.ref u)])) _
  refine st13 _ ?_
  show Steps p.tables e below (T13.setTop (mkF m 83 #[.val (.ref g), .val (.int rk), .val (.long uu), .second, .val (.long lk), .second] [])) _
  refine XS.aloadN X13.here hx rfl (hb hby d6_83) rfl rfl ?_
  show Steps p.tables e below (T13.setTop (mkF m 84 #[.val (.ref g), .val (.int rk), .val (.long uu), .second, .val (.long lk), .second] [(.ref g)])) _
  refine st15 _ ?_
  show Steps p.tables e below (T15.setTop (mkF m 87 #[.val (.ref g), .val (.int rk), .val (.long uu), .second, .val (.long lk), .second] [(.ref w)])) _
  refine XS.aloadN X15.here hx rfl (hb hby d6_87) rfl rfl ?_
  show Steps p.tables e below (T15.setTop (mkF m 88 #[.val (.ref g), .val (.int rk), .val (.long uu), .second, .val (.long lk), .second] [(.ref g), (.ref w)])) _
  refine st16 _ ?_
  show Steps p.tables e below (T16.setTop (mkF m 91 #[.val (.ref g), .val (.int rk), .val (.long uu), .second, .val (.long lk), .second] [(.int (Int32.ofNat xs.length)), (.ref w)])) _
  refine XS.lload X16.here hx rfl (hb hby d6_91) rfl ?_
  show Steps p.tables e below (T16.setTop (mkF m 93 #[.val (.ref g), .val (.int rk), .val (.long uu), .second, .val (.long lk), .second] [(.long lk), (.int (Int32.ofNat xs.length)), (.ref w)])) _
  refine XS.lloadN X16.here hx rfl (hb hby d6_93) rfl ?_
  show Steps p.tables e below (T16.setTop (mkF m 94 #[.val (.ref g), .val (.int rk), .val (.long uu), .second, .val (.long lk), .second] [(.long uu), (.long lk), (.int (Int32.ofNat xs.length)), (.ref w)])) _
  refine XS.lsub X16.here hx rfl (hb hby d6_94) rfl ?_
  show Steps p.tables e below (T16.setTop (mkF m 95 #[.val (.ref g), .val (.int rk), .val (.long uu), .second, .val (.long lk), .second] [(.long (lk - uu)), (.int (Int32.ofNat xs.length)), (.ref w)])) _
  refine st17 _ ?_
  show Steps p.tables e below (T17.setTop (mkF m 96 #[.val (.ref g), .val (.int rk), .val (.long uu), .second, .val (.long lk), .second] [])) _
  refine XS.aloadN X17.here hx rfl (hb hby d6_96) rfl rfl ?_
  show Steps p.tables e below (T17.setTop (mkF m 97 #[.val (.ref g), .val (.int rk), .val (.long uu), .second, .val (.long lk), .second] [(.ref g)])) _
  refine XS.dup X17.here hx rfl (hb hby d6_97) rfl rfl ?_
  show Steps p.tables e below (T17.setTop (mkF m 98 #[.val (.ref g), .val (.int rk), .val (.long uu), .second, .val (.long lk), .second] [(.ref g), (.ref g)])) _
  refine st18 _ ?_
  show Steps p.tables e below (T18.setTop (mkF m 101 #[.val (.ref g), .val (.int rk), .val (.long uu), .second, .val (.long lk), .second] [(.int (Int32.ofNat xs.length)), (.ref g)])) _
  refine XS.iconst X18.here hx rfl (hb hby d6_101) ?_
  show Steps p.tables e below (T18.setTop (mkF m 102 #[.val (.ref g), .val (.int rk), .val (.long uu), .second, .val (.long lk), .second] [(.int (1 : Int32)), (.int (Int32.ofNat xs.length)), (.ref g)])) _
  refine XS.iadd X18.here hx rfl (hb hby d6_102) rfl ?_
  show Steps p.tables e below (T18.setTop (mkF m 103 #[.val (.ref g), .val (.int rk), .val (.long uu), .second, .val (.long lk), .second] [(.int ((Int32.ofNat xs.length) + (1 : Int32))), (.ref g)])) _
  refine st19 _ ?_
  exact kt
theorem d6_106 : decode prog_51_method_10_code 106 = .ok (.return_, 1) := by decide +kernel
theorem pn_6 : plainName "com/example/fast_tangle/fasttangle/PartingPairs$Groups" = true := by first | (simp [plainName, overriddenIn]; done) | decide +kernel
theorem ef_6 (m : MethodId) (x0 : Addr) (x1 : Int32) (x2 : Int64) (x3 : Int64) : entryFrame m #[(.ref x0), (.int x1), (.long x2), (.long x3)] 6 = mkF m 0 #[.val (.ref x0), .val (.int x1), .val (.long x2), .second, .val (.long x3), .second] [] := by first | (simp [entryFrame, mkF, argsToLocals, Value.category]; done) | rfl
def Q6 (Z : State) (a1 : Addr) (q3 q4 : Int64) (xs : List (Int64 × Int64)) (h0 : Heap) (n0 : Nat) (v : Option Value) (h : Heap) (L : List Loc) : Prop := v = none ∧ Fr n0 L ∧ n0 ≤ h.size ∧ ∃ len, 2 ≤ len ∧ len ≤ 7 ∧ xs.length + 1 ≤ len ∧ Gr Z h a1 n0 len (xs ++ [(q3, q4 - q3)])
set_option maxRecDepth 65536 in
set_option maxHeartbeats 40000000 in
theorem rm6 (l : Launch) (Z : State) (a0 : Array Value) (hw : ∀ d ∈ tables_1, d.before a0 Z = true) (ws : List Jvm.Cond) (a1 : Addr) (p2 : Int32) (q3 : Int64) (q4 : Int64) (len : Nat) (xs : List (Int64 × Int64)) (h0 : Heap) (n0 : Nat) (Z0 : n0 ≤ h0.size) (g_g : n0 ≤ a1) (G : Gr Z h0 a1 n0 len xs) (hl2 : 2 ≤ len) (hl : len ≤ 7) (hx3 : xs.length ≤ 2) :
    MetFree l (⟨"com/example/fast_tangle/fasttangle/PartingPairs$Groups", "add", "(IJJ)V"⟩ : MethodName) (head1 (Jvm.Cond.code (⟨"com/example/fast_tangle/fasttangle/PartingPairs$Groups", "add", "(IJJ)V"⟩ : MethodName) prog_51_method_10_code 6 none :: ws) ({ frames := 2, cells := 3, slots := 12, locals := 33 } : Room)) (fun a U => a = #[(.ref a1), (.int p2), (.long q3), (.long q4)] ∧ Z.Warmed39 U.vm ∧ U.heap = h0) (fun _ _ _ _ _ => True) (fun _ U o U' => ∃ v L, o = .returned v ∧ Q6 Z a1 q3 q4 xs h0 n0 v U'.heap L ∧ FrameEnd U o U' L ({ frames := 2, cells := 3, slots := 12, locals := 33 } : Room).cells ({ frames := 2, cells := 3, slots := 12, locals := 33 } : Room).slots) := by
  refine MetFree.of_bodySF (plainFor_of_name pn_6) hisR ?_
  intro p e s m args below meth c s₁ Bd hml0 hP hK
  obtain ⟨rfl, hZ, hh⟩ := hP
  have hx := Bd.exec
  have hby := Bd.bytes
  have hml : c.maxLocals = 6 := hml0
  have hown : s.vm.findClass "com/example/fast_tangle/fasttangle/PartingPairs$Groups" = some m.cls := findClass_of_methodNamed Bd.named
  have hnm := (name_of_methodNamed Bd.named Bd.method).1
  have X0 : Stand p l e ({ frames := 2, cells := 3, slots := 12, locals := 33 } : Room) s m #[(.ref a1), (.int p2), (.long q3), (.long q4)] below meth c s₁ [] 0 0 := Stand.of_body Bd
  have e0 : s₁.heap = h0 := by rw [← hh, Bd.state]; rfl
  have N0 := Fr.nil n0
  have pre0 : ∀ t, Steps p.tables e below (s₁.setTop (mkF m 0 #[.val (.ref a1), .val (.int p2), .val (.long q3), .second, .val (.long q4), .second] [])) t → Steps p.tables e below (s₁.setTop (entryFrame m #[(.ref a1), (.int p2), (.long q3), (.long q4)] 6)) t := fun t k => castTop (ef_6 m a1 p2 q3 q4) k
  by_cases hlt : xs.length < len
  · obtain ⟨T1, L1, X1, N1, e1, st1⟩ := own_roomN a1 p2 q3 q4 len xs X0 hx hZ hw hby hml hown e0 Z0 N0 G hl hlt
    obtain ⟨T2, L2, X2, N2, G2, st2⟩ := own_store a1 p2 q3 q4 len xs (X1.more (Nat.zero_le _) (Nat.zero_le _)) hx hZ hw hby hml hown e1 Z0 N1 g_g G hl hlt
    obtain ⟨fs, hr, hrun, hended, hW, hsame⟩ := X2.leave (v := none) (fun _ => rfl)
    refine ⟨_, _, pre0 _ ?_, hrun, hended, _, _, rfl, ?_, ⟨_, rfl⟩, hW, hsame.mono (by decide) (by decide)⟩
    · refine st1 _ ?_
      refine st2 _ ?_
      exact X2.returnOut hx Bd.returns (hb hby d6_106) hr
    · exact ⟨rfl, N2, G2.1, len, hl2, hl, hlt, G2.2⟩
  · obtain rfl : len = 2 := by omega
    obtain ⟨T1, L1, X1, N1, G1, st1⟩ := own_roomG a1 p2 q3 q4 xs X0 hx hZ hw hby hml hown e0 Z0 N0 g_g G (by omega)
    obtain ⟨T2, L2, X2, N2, G2, st2⟩ := own_store a1 p2 q3 q4 4 xs X1 hx hZ hw hby hml hown rfl G1.1 N1 g_g G1.2 (by decide) (by omega)
    obtain ⟨fs, hr, hrun, hended, hW, hsame⟩ := X2.leave (v := none) (fun _ => rfl)
    refine ⟨_, _, pre0 _ ?_, hrun, hended, _, _, rfl, ?_, ⟨_, rfl⟩, hW, hsame.mono (by decide) (by decide)⟩
    · refine st1 _ ?_
      refine st2 _ ?_
      exact X2.returnOut hx Bd.returns (hb hby d6_106) hr
    · exact ⟨rfl, N2, G2.1, 4, by decide, by decide, by omega, G2.2⟩
theorem d9_0 : decode prog_51_method_9_code 0 = .ok (.aload_n 0, 1) := by decide +kernel
theorem d9_1 : decode prog_51_method_9_code 1 = .ok (.iconst 0, 1) := by decide +kernel
theorem d9_2 : decode prog_51_method_9_code 2 = .ok (.putfield 26, 3) := by decide +kernel
theorem d9_5 : decode prog_51_method_9_code 5 = .ok (.return_, 1) := by decide +kernel
theorem pn_9 : plainName "com/example/fast_tangle/fasttangle/PartingPairs$Groups" = true := by first | (simp [plainName, overriddenIn]; done) | decide +kernel
theorem ef_9 (m : MethodId) (x0 : Addr) : entryFrame m #[(.ref x0)] 1 = mkF m 0 #[.val (.ref x0)] [] := by first | (simp [entryFrame, mkF, argsToLocals, Value.category]; done) | rfl
def Q9 (Z : State) (a1 : Addr) (len : Nat) (h0 : Heap) (n0 : Nat) (v : Option Value) (h : Heap) (L : List Loc) : Prop := v = none ∧ Fr n0 L ∧ n0 ≤ h.size ∧ Gr Z h a1 n0 len []
set_option maxRecDepth 65536 in
set_option maxHeartbeats 40000000 in
theorem rm9 (l : Launch) (Z : State) (a0 : Array Value) (hw : ∀ d ∈ tables_1, d.before a0 Z = true) (ws : List Jvm.Cond) (a1 : Addr) (len : Nat) (xs : List (Int64 × Int64)) (h0 : Heap) (n0 : Nat) (Z0 : n0 ≤ h0.size) (g_a1 : n0 ≤ a1) (G : Gr Z h0 a1 n0 len xs) :
    MetFree l (⟨"com/example/fast_tangle/fasttangle/PartingPairs$Groups", "clear", "()V"⟩ : MethodName) (head1 (Jvm.Cond.code (⟨"com/example/fast_tangle/fasttangle/PartingPairs$Groups", "clear", "()V"⟩ : MethodName) prog_51_method_9_code 1 none :: ws) ({ frames := 0, cells := 0, slots := 0, locals := 0 } : Room)) (fun a U => a = #[(.ref a1)] ∧ Z.Warmed39 U.vm ∧ U.heap = h0) (fun _ _ _ _ _ => True) (fun _ U o U' => ∃ v L, o = .returned v ∧ Q9 Z a1 len h0 n0 v U'.heap L ∧ FrameEnd U o U' L ({ frames := 0, cells := 0, slots := 0, locals := 0 } : Room).cells ({ frames := 0, cells := 0, slots := 0, locals := 0 } : Room).slots) := by
  refine MetFree.of_bodySF (plainFor_of_name pn_9) hisR ?_
  intro p e s m args below meth c s₁ Bd hml0 hP hK
  obtain ⟨rfl, hZ, hh⟩ := hP
  have hx := Bd.exec
  have hby := Bd.bytes
  have hml : c.maxLocals = 1 := hml0
  have hown : s.vm.findClass "com/example/fast_tangle/fasttangle/PartingPairs$Groups" = some m.cls := findClass_of_methodNamed Bd.named
  have hnm := (name_of_methodNamed Bd.named Bd.method).1
  have X0 : Stand p l e ({ frames := 0, cells := 0, slots := 0, locals := 0 } : Room) s m #[(.ref a1)] below meth c s₁ [] 0 0 := Stand.of_body Bd
  have e0 : s₁.heap = h0 := by rw [← hh, Bd.state]; rfl
  have N0 := Fr.nil n0
  have pre0 : ∀ t, Steps p.tables e below (s₁.setTop (mkF m 0 #[.val (.ref a1)] [])) t → Steps p.tables e below (s₁.setTop (entryFrame m #[(.ref a1)] 1)) t := fun t k => castTop (ef_9 m a1) k
  obtain ⟨E_a1, F_size_a1, r, u, w, fr, fu, fw, g_r, g_u, g_w, n1, n2, n3, F_ranks_g, F_upper_g, F_lower_g, V1, V2, V3, hxs⟩ := G
  obtain ⟨T2, h2, X2, e2, W2, st2⟩ := putF X0 hx hZ hown (host := "") (Or.inl (hw _ (List.mem_of_getElem? (i := 33) rfl))) Via.refl e0 F_size_a1 E_a1 (Or.inl (hw _ (List.mem_of_getElem? (i := 34) rfl))) (hw _ (List.mem_of_getElem? (i := 1) rfl)) (ty := .int) (by decide) rfl rfl (g := (mkF m 2 #[.val (.ref a1)] [(.int (0 : Int32)), (.ref a1)])) rfl rfl (hb hby d9_2)
  have Fw2 := F_size_a1.same W2
  have K2 : Keep h0 h2 [a1] := (Keep.refl h0 [a1]).wr W2 (Or.inl (List.mem_of_getElem? (i := 0) rfl))
  have N2 := Fr.snoc X2 N0 g_a1
  have GG : Gr Z h2 a1 n0 len [] := ⟨E_a1.wr W2, Fw2, r, u, w, _, _, _, g_r, g_u, g_w, n1, n2, n3, F_ranks_g.other W2 (Or.inr (slot_ne (Or.inl (hw _ (List.mem_of_getElem? (i := 15) rfl))) (Or.inl (hw _ (List.mem_of_getElem? (i := 34) rfl))) (by decide) (t := (.array .int)) (t' := .int) (by decide) (by decide))), F_upper_g.other W2 (Or.inr (slot_ne (Or.inl (hw _ (List.mem_of_getElem? (i := 18) rfl))) (Or.inl (hw _ (List.mem_of_getElem? (i := 34) rfl))) (by decide) (t := (.array .long)) (t' := .int) (by decide) (by decide))), F_lower_g.other W2 (Or.inr (slot_ne (Or.inl (hw _ (List.mem_of_getElem? (i := 20) rfl))) (Or.inl (hw _ (List.mem_of_getElem? (i := 34) rfl))) (by decide) (t := (.array .long)) (t' := .int) (by decide) (by decide))), V1.other W2 (own_neVA E_a1 (hw _ (List.mem_of_getElem? (i := 1) rfl)) V1).symm, V2.other W2 (own_neVA E_a1 (hw _ (List.mem_of_getElem? (i := 1) rfl)) V2).symm, V3.other W2 (own_neVA E_a1 (hw _ (List.mem_of_getElem? (i := 1) rfl)) V3).symm, fun i q hq => by simp at hq⟩
  obtain ⟨fs, hr, hrun, hended, hW, hsame⟩ := X2.leave (v := none) (fun _ => rfl)
  refine ⟨_, _, pre0 _ ?_, hrun, hended, _, _, rfl, ?_, ⟨_, rfl⟩, hW, hsame.mono (by decide) (by decide)⟩
  · show Steps p.tables e below (s₁.setTop (mkF m 0 #[.val (.ref a1)] [])) _
    refine XS.aloadN X0.here hx rfl (hb hby d9_0) rfl rfl ?_
    show Steps p.tables e below (s₁.setTop (mkF m 1 #[.val (.ref a1)] [(.ref a1)])) _
    refine XS.iconst X0.here hx rfl (hb hby d9_1) ?_
    show Steps p.tables e below (s₁.setTop (mkF m 2 #[.val (.ref a1)] [(.int (0 : Int32)), (.ref a1)])) _
    refine st2 _ ?_
    show Steps p.tables e below (T2.setTop (mkF m 5 #[.val (.ref a1)] [])) _
    exact X2.returnOut hx Bd.returns (hb hby d9_5) hr
  · show Q9 Z a1 len h0 n0 _ T2.heap _
    rw [e2]
    exact ⟨rfl, N2, Nat.le_trans Z0 K2.1, GG⟩
theorem d8_0 : decode prog_51_method_2_code 0 = .ok (.aload_n 0, 1) := by decide +kernel
theorem d8_1 : decode prog_51_method_2_code 1 = .ok (.getfield 26, 3) := by decide +kernel
theorem d8_4 : decode prog_51_method_2_code 4 = .ok (.ireturn, 1) := by decide +kernel
theorem pn_8 : plainName "com/example/fast_tangle/fasttangle/PartingPairs$Groups" = true := by first | (simp [plainName, overriddenIn]; done) | decide +kernel
theorem ef_8 (m : MethodId) (x0 : Addr) : entryFrame m #[(.ref x0)] 1 = mkF m 0 #[.val (.ref x0)] [] := by first | (simp [entryFrame, mkF, argsToLocals, Value.category]; done) | rfl
def Q8 (Z : State) (a1 : Addr) (w2 : Int32) (h0 : Heap) (n0 : Nat) (v : Option Value) (h : Heap) (L : List Loc) : Prop := v = some (.int w2) ∧ Fr n0 L ∧ h = h0
set_option maxRecDepth 65536 in
set_option maxHeartbeats 40000000 in
theorem rm8 (l : Launch) (Z : State) (a0 : Array Value) (hw : ∀ d ∈ tables_1, d.before a0 Z = true) (ws : List Jvm.Cond) (a1 : Addr) (w2 : Int32) (h0 : Heap) (n0 : Nat) (Z0 : n0 ≤ h0.size) (F_size_a1 : Fld Z h0 a1 "com/example/fast_tangle/fasttangle/PartingPairs$Groups" "size" "I" (.int w2)) :
    MetFree l (⟨"com/example/fast_tangle/fasttangle/PartingPairs$Groups", "size", "()I"⟩ : MethodName) (head1 (Jvm.Cond.code (⟨"com/example/fast_tangle/fasttangle/PartingPairs$Groups", "size", "()I"⟩ : MethodName) prog_51_method_2_code 1 (some .int) :: ws) ({ frames := 0, cells := 0, slots := 0, locals := 0 } : Room)) (fun a U => a = #[(.ref a1)] ∧ Z.Warmed39 U.vm ∧ U.heap = h0) (fun _ _ _ _ _ => True) (fun _ U o U' => ∃ v L, o = .returned v ∧ Q8 Z a1 w2 h0 n0 v U'.heap L ∧ FrameEnd U o U' L ({ frames := 0, cells := 0, slots := 0, locals := 0 } : Room).cells ({ frames := 0, cells := 0, slots := 0, locals := 0 } : Room).slots) := by
  refine MetFree.of_bodySF (plainFor_of_name pn_8) hisR ?_
  intro p e s m args below meth c s₁ Bd hml0 hP hK
  obtain ⟨rfl, hZ, hh⟩ := hP
  have hx := Bd.exec
  have hby := Bd.bytes
  have hml : c.maxLocals = 1 := hml0
  have hown : s.vm.findClass "com/example/fast_tangle/fasttangle/PartingPairs$Groups" = some m.cls := findClass_of_methodNamed Bd.named
  have hnm := (name_of_methodNamed Bd.named Bd.method).1
  have X0 : Stand p l e ({ frames := 0, cells := 0, slots := 0, locals := 0 } : Room) s m #[(.ref a1)] below meth c s₁ [] 0 0 := Stand.of_body Bd
  have e0 : s₁.heap = h0 := by rw [← hh, Bd.state]; rfl
  have N0 := Fr.nil n0
  have pre0 : ∀ t, Steps p.tables e below (s₁.setTop (mkF m 0 #[.val (.ref a1)] [])) t → Steps p.tables e below (s₁.setTop (entryFrame m #[(.ref a1)] 1)) t := fun t k => castTop (ef_8 m a1) k
  obtain ⟨T3, X3, e3, st3⟩ := getF X0 hx hZ hown (host := "") (Or.inl (hw _ (List.mem_of_getElem? (i := 33) rfl))) Via.refl e0 F_size_a1 (g := (mkF m 1 #[.val (.ref a1)] [(.ref a1)])) rfl rfl (hb hby d8_1)
  obtain ⟨fs, hr, hrun, hended, hW, hsame⟩ := X3.leave (v := some (.int w2)) (fun h => by rw [Bd.returns] at h; cases h)
  refine ⟨_, _, pre0 _ ?_, hrun, hended, _, _, rfl, ?_, ⟨_, rfl⟩, hW, hsame.mono (by decide) (by decide)⟩
  · show Steps p.tables e below (s₁.setTop (mkF m 0 #[.val (.ref a1)] [])) _
    refine XS.aloadN X0.here hx rfl (hb hby d8_0) rfl rfl ?_
    show Steps p.tables e below (s₁.setTop (mkF m 1 #[.val (.ref a1)] [(.ref a1)])) _
    refine st3 _ ?_
    show Steps p.tables e below (T3.setTop (mkF m 4 #[.val (.ref a1)] [(.int w2)])) _
    exact retI X3 hx Bd.returns (hb hby d8_4) hr
  · show Q8 Z a1 w2 h0 n0 _ T3.heap _
    rw [e3]
    exact ⟨rfl, N0, rfl⟩
theorem d7_10 : decode prog_51_method_6_code 10 = .ok (.iload 7, 2) := by decide +kernel
theorem d7_12 : decode prog_51_method_6_code 12 = .ok (.aload_n 0, 1) := by decide +kernel
theorem d7_13 : decode prog_51_method_6_code 13 = .ok (.getfield 26, 3) := by decide +kernel
theorem d7_16 : decode prog_51_method_6_code 16 = .ok (.if_icmp .ge 49, 3) := by decide +kernel
theorem d7_19 : decode prog_51_method_6_code 19 = .ok (.lload_n 1, 1) := by decide +kernel
theorem d7_20 : decode prog_51_method_6_code 20 = .ok (.aload_n 0, 1) := by decide +kernel
theorem d7_21 : decode prog_51_method_6_code 21 = .ok (.getfield 19, 3) := by decide +kernel
theorem d7_24 : decode prog_51_method_6_code 24 = .ok (.iload 7, 2) := by decide +kernel
theorem d7_26 : decode prog_51_method_6_code 26 = .ok (.laload, 1) := by decide +kernel
theorem d7_27 : decode prog_51_method_6_code 27 = .ok (.ladd, 1) := by decide +kernel
theorem d7_28 : decode prog_51_method_6_code 28 = .ok (.lstore_n 1, 1) := by decide +kernel
theorem d7_29 : decode prog_51_method_6_code 29 = .ok (.lload_n 3, 1) := by decide +kernel
theorem d7_30 : decode prog_51_method_6_code 30 = .ok (.aload_n 0, 1) := by decide +kernel
theorem d7_31 : decode prog_51_method_6_code 31 = .ok (.getfield 23, 3) := by decide +kernel
theorem d7_34 : decode prog_51_method_6_code 34 = .ok (.iload 7, 2) := by decide +kernel
theorem d7_36 : decode prog_51_method_6_code 36 = .ok (.laload, 1) := by decide +kernel
theorem d7_37 : decode prog_51_method_6_code 37 = .ok (.ladd, 1) := by decide +kernel
theorem d7_38 : decode prog_51_method_6_code 38 = .ok (.lstore_n 3, 1) := by decide +kernel
theorem d7_39 : decode prog_51_method_6_code 39 = .ok (.lload 5, 2) := by decide +kernel
theorem d7_41 : decode prog_51_method_6_code 41 = .ok (.aload_n 0, 1) := by decide +kernel
theorem d7_42 : decode prog_51_method_6_code 42 = .ok (.getfield 19, 3) := by decide +kernel
theorem d7_45 : decode prog_51_method_6_code 45 = .ok (.iload 7, 2) := by decide +kernel
theorem d7_47 : decode prog_51_method_6_code 47 = .ok (.laload, 1) := by decide +kernel
theorem d7_48 : decode prog_51_method_6_code 48 = .ok (.aload_n 0, 1) := by decide +kernel
theorem d7_49 : decode prog_51_method_6_code 49 = .ok (.getfield 23, 3) := by decide +kernel
theorem d7_52 : decode prog_51_method_6_code 52 = .ok (.iload 7, 2) := by decide +kernel
theorem d7_54 : decode prog_51_method_6_code 54 = .ok (.laload, 1) := by decide +kernel
theorem d7_55 : decode prog_51_method_6_code 55 = .ok (.lmul, 1) := by decide +kernel
theorem d7_56 : decode prog_51_method_6_code 56 = .ok (.ladd, 1) := by decide +kernel
theorem d7_57 : decode prog_51_method_6_code 57 = .ok (.lstore 5, 2) := by decide +kernel
theorem d7_59 : decode prog_51_method_6_code 59 = .ok (.iinc 7 1, 3) := by decide +kernel
theorem d7_62 : decode prog_51_method_6_code 62 = .ok (.goto (-52), 3) := by decide +kernel
set_option maxRecDepth 65536 in
set_option maxHeartbeats 40000000 in
theorem own_turn {p : Program} {l : Launch} {e : Env} {R : Room} {s : State} {m : MethodId} {args : Array Value} {below : List Frame} {meth : Method} {c : Code} {T0 : State} {locs : List Loc} {cells slots : Nat} {Z : State} {a0 : Array Value} {h0 : Heap} (g : Addr) (a : Int64) (b : Int64) (t : Int64) (iv : Int32) (w2 : Int32) (w4 : Addr) (w6 : Int64) (cl_w4 : Cell) (w7 : Addr) (w9 : Int64) (cl_w7 : Cell) (w11 : Int64) (w13 : Int64)
    (X0 : Stand p l e R s m args below meth c T0 locs cells slots) (hx : p.tables.exec = Jvm.exec) (hZ : Z.Warmed39 s.vm) (hw : ∀ d ∈ tables_1, d.before a0 Z = true) (hby : c.code = prog_51_method_6_code) (hml : c.maxLocals = 8) (hown : s.vm.findClass "com/example/fast_tangle/fasttangle/PartingPairs$Groups" = some m.cls) (e0 : T0.heap = h0) (F_size_g : Fld Z h0 g "com/example/fast_tangle/fasttangle/PartingPairs$Groups" "size" "I" (.int w2)) (F_upper_g : Fld Z h0 g "com/example/fast_tangle/fasttangle/PartingPairs$Groups" "upper" "[J" (.ref w4)) (Ar_w4 : Arr Z h0 w4 cl_w4 .long) (hin26 : ¬ (iv < 0 ∨ cl_w4.slots.size ≤ (iv).toNatClampNeg)) (hat26 : cl_w4.slots[(iv).toNatClampNeg]? = some (.long w6)) (F_lower_g : Fld Z h0 g "com/example/fast_tangle/fasttangle/PartingPairs$Groups" "lower" "[J" (.ref w7)) (Ar_w7 : Arr Z h0 w7 cl_w7 .long) (hin36 : ¬ (iv < 0 ∨ cl_w7.slots.size ≤ (iv).toNatClampNeg)) (hat36 : cl_w7.slots[(iv).toNatClampNeg]? = some (.long w9)) (hin47 : ¬ (iv < 0 ∨ cl_w4.slots.size ≤ (iv).toNatClampNeg)) (hat47 : cl_w4.slots[(iv).toNatClampNeg]? = some (.long w11)) (hin54 : ¬ (iv < 0 ∨ cl_w7.slots.size ≤ (iv).toNatClampNeg)) (hat54 : cl_w7.slots[(iv).toNatClampNeg]? = some (.long w13)) (hc16 : iv < w2) :
    ∃ (T' : State), Stand p l e R s m args below meth c T' locs cells slots ∧ T'.heap = h0 ∧
      ∀ target, Steps p.tables e below (T'.setTop (mkF m 10 #[.val (.ref g), .val (.long (a + w6)), .second, .val (.long (b + w9)), .second, .val (.long (t + (w11 * w13))), .second, .val (.int (iv + (1 : Int32)))] [])) target → Steps p.tables e below (T0.setTop (mkF m 10 #[.val (.ref g), .val (.long a), .second, .val (.long b), .second, .val (.long t), .second, .val (.int iv)] [])) target := by
  obtain ⟨T3, X3, e3, st3⟩ := getF X0 hx hZ hown (host := "") (Or.inl (hw _ (List.mem_of_getElem? (i := 33) rfl))) Via.refl e0 F_size_g (g := (mkF m 13 #[.val (.ref g), .val (.long a), .second, .val (.long b), .second, .val (.long t), .second, .val (.int iv)] [(.ref g), (.int iv)])) rfl rfl (hb hby d7_13)
  obtain ⟨T5, X5, e5, st5⟩ := getF X3 hx hZ hown (host := "") (Or.inl (hw _ (List.mem_of_getElem? (i := 17) rfl))) Via.refl e3 F_upper_g (g := (mkF m 21 #[.val (.ref g), .val (.long a), .second, .val (.long b), .second, .val (.long t), .second, .val (.int iv)] [(.ref g), (.long a)])) rfl rfl (hb hby d7_21)
  obtain ⟨T8, X8, e8, st8⟩ := getF X5 hx hZ hown (host := "") (Or.inl (hw _ (List.mem_of_getElem? (i := 19) rfl))) Via.refl e5 F_lower_g (g := (mkF m 31 #[.val (.ref g), .val (.long (a + w6)), .second, .val (.long b), .second, .val (.long t), .second, .val (.int iv)] [(.ref g), (.long b)])) rfl rfl (hb hby d7_31)
  obtain ⟨T10, X10, e10, st10⟩ := getF X8 hx hZ hown (host := "") (Or.inl (hw _ (List.mem_of_getElem? (i := 17) rfl))) Via.refl e8 F_upper_g (g := (mkF m 42 #[.val (.ref g), .val (.long (a + w6)), .second, .val (.long (b + w9)), .second, .val (.long t), .second, .val (.int iv)] [(.ref g), (.long t)])) rfl rfl (hb hby d7_42)
  obtain ⟨T12, X12, e12, st12⟩ := getF X10 hx hZ hown (host := "") (Or.inl (hw _ (List.mem_of_getElem? (i := 19) rfl))) Via.refl e10 F_lower_g (g := (mkF m 49 #[.val (.ref g), .val (.long (a + w6)), .second, .val (.long (b + w9)), .second, .val (.long t), .second, .val (.int iv)] [(.ref g), (.long w11), (.long t)])) rfl rfl (hb hby d7_49)
  refine ⟨T12, X12, e12, fun target kt => ?_⟩
  show Steps p.tables e below (T0.setTop (mkF m 10 #[.val (.ref g), .val (.long a), .second, .val (.long b), .second, .val (.long t), .second, .val (.int iv)] [])) _
  refine XS.iload X0.here hx rfl (hb hby d7_10) rfl ?_
  show Steps p.tables e below (T0.setTop (mkF m 12 #[.val (.ref g), .val (.long a), .second, .val (.long b), .second, .val (.long t), .second, .val (.int iv)] [(.int iv)])) _
  refine XS.aloadN X0.here hx rfl (hb hby d7_12) rfl rfl ?_
  show Steps p.tables e below (T0.setTop (mkF m 13 #[.val (.ref g), .val (.long a), .second, .val (.long b), .second, .val (.long t), .second, .val (.int iv)] [(.ref g), (.int iv)])) _
  refine st3 _ ?_
  show Steps p.tables e below (T3.setTop (mkF m 16 #[.val (.ref g), .val (.long a), .second, .val (.long b), .second, .val (.long t), .second, .val (.int iv)] [(.int w2), (.int iv)])) _
  refine XS.icmpNo X3.here hx rfl (hb hby d7_16) rfl (tlt hc16).2.1 ?_
  show Steps p.tables e below (T3.setTop (mkF m 19 #[.val (.ref g), .val (.long a), .second, .val (.long b), .second, .val (.long t), .second, .val (.int iv)] [])) _
  refine XS.lloadN X3.here hx rfl (hb hby d7_19) rfl ?_
  show Steps p.tables e below (T3.setTop (mkF m 20 #[.val (.ref g), .val (.long a), .second, .val (.long b), .second, .val (.long t), .second, .val (.int iv)] [(.long a)])) _
  refine XS.aloadN X3.here hx rfl (hb hby d7_20) rfl rfl ?_
  show Steps p.tables e below (T3.setTop (mkF m 21 #[.val (.ref g), .val (.long a), .second, .val (.long b), .second, .val (.long t), .second, .val (.int iv)] [(.ref g), (.long a)])) _
  refine st5 _ ?_
  show Steps p.tables e below (T5.setTop (mkF m 24 #[.val (.ref g), .val (.long a), .second, .val (.long b), .second, .val (.long t), .second, .val (.int iv)] [(.ref w4), (.long a)])) _
  refine XS.iload X5.here hx rfl (hb hby d7_24) rfl ?_
  show Steps p.tables e below (T5.setTop (mkF m 26 #[.val (.ref g), .val (.long a), .second, .val (.long b), .second, .val (.long t), .second, .val (.int iv)] [(.int iv), (.ref w4), (.long a)])) _
  refine X5.laload hx (j := iv) (v := (.long w6)) (by rw [e5]; exact Ar_w4.1) (State.isArrayOf_alike hZ.alike Ar_w4.2.1) Ar_w4.2.2 hin26 hat26 (g := (mkF m 26 #[.val (.ref g), .val (.long a), .second, .val (.long b), .second, .val (.long t), .second, .val (.int iv)] [(.int iv), (.ref w4), (.long a)])) rfl rfl (hb hby d7_26) _ ?_
  show Steps p.tables e below (T5.setTop (mkF m 27 #[.val (.ref g), .val (.long a), .second, .val (.long b), .second, .val (.long t), .second, .val (.int iv)] [(.long w6), (.long a)])) _
  refine XS.ladd X5.here hx rfl (hb hby d7_27) rfl ?_
  show Steps p.tables e below (T5.setTop (mkF m 28 #[.val (.ref g), .val (.long a), .second, .val (.long b), .second, .val (.long t), .second, .val (.int iv)] [(.long (a + w6))])) _
  refine XS.lstoreN X5.here hx rfl (hb hby d7_28) rfl (l' := #[.val (.ref g), .val (.long (a + w6)), .second, .val (.long b), .second, .val (.long t), .second, .val (.int iv)]) rfl ?_
  show Steps p.tables e below (T5.setTop (mkF m 29 #[.val (.ref g), .val (.long (a + w6)), .second, .val (.long b), .second, .val (.long t), .second, .val (.int iv)] [])) _
  refine XS.lloadN X5.here hx rfl (hb hby d7_29) rfl ?_
  show Steps p.tables e below (T5.setTop (mkF m 30 #[.val (.ref g), .val (.long (a + w6)), .second, .val (.long b), .second, .val (.long t), .second, .val (.int iv)] [(.long b)])) _
  refine XS.aloadN X5.here hx rfl (hb hby d7_30) rfl rfl ?_
  show Steps p.tables e below (T5.setTop (mkF m 31 #[.val (.ref g), .val (.long (a + w6)), .second, .val (.long b), .second, .val (.long t), .second, .val (.int iv)] [(.ref g), (.long b)])) _
  refine st8 _ ?_
  show Steps p.tables e below (T8.setTop (mkF m 34 #[.val (.ref g), .val (.long (a + w6)), .second, .val (.long b), .second, .val (.long t), .second, .val (.int iv)] [(.ref w7), (.long b)])) _
  refine XS.iload X8.here hx rfl (hb hby d7_34) rfl ?_
  show Steps p.tables e below (T8.setTop (mkF m 36 #[.val (.ref g), .val (.long (a + w6)), .second, .val (.long b), .second, .val (.long t), .second, .val (.int iv)] [(.int iv), (.ref w7), (.long b)])) _
  refine X8.laload hx (j := iv) (v := (.long w9)) (by rw [e8]; exact Ar_w7.1) (State.isArrayOf_alike hZ.alike Ar_w7.2.1) Ar_w7.2.2 hin36 hat36 (g := (mkF m 36 #[.val (.ref g), .val (.long (a + w6)), .second, .val (.long b), .second, .val (.long t), .second, .val (.int iv)] [(.int iv), (.ref w7), (.long b)])) rfl rfl (hb hby d7_36) _ ?_
  show Steps p.tables e below (T8.setTop (mkF m 37 #[.val (.ref g), .val (.long (a + w6)), .second, .val (.long b), .second, .val (.long t), .second, .val (.int iv)] [(.long w9), (.long b)])) _
  refine XS.ladd X8.here hx rfl (hb hby d7_37) rfl ?_
  show Steps p.tables e below (T8.setTop (mkF m 38 #[.val (.ref g), .val (.long (a + w6)), .second, .val (.long b), .second, .val (.long t), .second, .val (.int iv)] [(.long (b + w9))])) _
  refine XS.lstoreN X8.here hx rfl (hb hby d7_38) rfl (l' := #[.val (.ref g), .val (.long (a + w6)), .second, .val (.long (b + w9)), .second, .val (.long t), .second, .val (.int iv)]) rfl ?_
  show Steps p.tables e below (T8.setTop (mkF m 39 #[.val (.ref g), .val (.long (a + w6)), .second, .val (.long (b + w9)), .second, .val (.long t), .second, .val (.int iv)] [])) _
  refine XS.lload X8.here hx rfl (hb hby d7_39) rfl ?_
  show Steps p.tables e below (T8.setTop (mkF m 41 #[.val (.ref g), .val (.long (a + w6)), .second, .val (.long (b + w9)), .second, .val (.long t), .second, .val (.int iv)] [(.long t)])) _
  refine XS.aloadN X8.here hx rfl (hb hby d7_41) rfl rfl ?_
  show Steps p.tables e below (T8.setTop (mkF m 42 #[.val (.ref g), .val (.long (a + w6)), .second, .val (.long (b + w9)), .second, .val (.long t), .second, .val (.int iv)] [(.ref g), (.long t)])) _
  refine st10 _ ?_
  show Steps p.tables e below (T10.setTop (mkF m 45 #[.val (.ref g), .val (.long (a + w6)), .second, .val (.long (b + w9)), .second, .val (.long t), .second, .val (.int iv)] [(.ref w4), (.long t)])) _
  refine XS.iload X10.here hx rfl (hb hby d7_45) rfl ?_
  show Steps p.tables e below (T10.setTop (mkF m 47 #[.val (.ref g), .val (.long (a + w6)), .second, .val (.long (b + w9)), .second, .val (.long t), .second, .val (.int iv)] [(.int iv), (.ref w4), (.long t)])) _
  refine X10.laload hx (j := iv) (v := (.long w11)) (by rw [e10]; exact Ar_w4.1) (State.isArrayOf_alike hZ.alike Ar_w4.2.1) Ar_w4.2.2 hin47 hat47 (g := (mkF m 47 #[.val (.ref g), .val (.long (a + w6)), .second, .val (.long (b + w9)), .second, .val (.long t), .second, .val (.int iv)] [(.int iv), (.ref w4), (.long t)])) rfl rfl (hb hby d7_47) _ ?_
  show Steps p.tables e below (T10.setTop (mkF m 48 #[.val (.ref g), .val (.long (a + w6)), .second, .val (.long (b + w9)), .second, .val (.long t), .second, .val (.int iv)] [(.long w11), (.long t)])) _
  refine XS.aloadN X10.here hx rfl (hb hby d7_48) rfl rfl ?_
  show Steps p.tables e below (T10.setTop (mkF m 49 #[.val (.ref g), .val (.long (a + w6)), .second, .val (.long (b + w9)), .second, .val (.long t), .second, .val (.int iv)] [(.ref g), (.long w11), (.long t)])) _
  refine st12 _ ?_
  show Steps p.tables e below (T12.setTop (mkF m 52 #[.val (.ref g), .val (.long (a + w6)), .second, .val (.long (b + w9)), .second, .val (.long t), .second, .val (.int iv)] [(.ref w7), (.long w11), (.long t)])) _
  refine XS.iload X12.here hx rfl (hb hby d7_52) rfl ?_
  show Steps p.tables e below (T12.setTop (mkF m 54 #[.val (.ref g), .val (.long (a + w6)), .second, .val (.long (b + w9)), .second, .val (.long t), .second, .val (.int iv)] [(.int iv), (.ref w7), (.long w11), (.long t)])) _
  refine X12.laload hx (j := iv) (v := (.long w13)) (by rw [e12]; exact Ar_w7.1) (State.isArrayOf_alike hZ.alike Ar_w7.2.1) Ar_w7.2.2 hin54 hat54 (g := (mkF m 54 #[.val (.ref g), .val (.long (a + w6)), .second, .val (.long (b + w9)), .second, .val (.long t), .second, .val (.int iv)] [(.int iv), (.ref w7), (.long w11), (.long t)])) rfl rfl (hb hby d7_54) _ ?_
  show Steps p.tables e below (T12.setTop (mkF m 55 #[.val (.ref g), .val (.long (a + w6)), .second, .val (.long (b + w9)), .second, .val (.long t), .second, .val (.int iv)] [(.long w13), (.long w11), (.long t)])) _
  refine XS.lmul X12.here hx rfl (hb hby d7_55) rfl ?_
  show Steps p.tables e below (T12.setTop (mkF m 56 #[.val (.ref g), .val (.long (a + w6)), .second, .val (.long (b + w9)), .second, .val (.long t), .second, .val (.int iv)] [(.long (w11 * w13)), (.long t)])) _
  refine XS.ladd X12.here hx rfl (hb hby d7_56) rfl ?_
  show Steps p.tables e below (T12.setTop (mkF m 57 #[.val (.ref g), .val (.long (a + w6)), .second, .val (.long (b + w9)), .second, .val (.long t), .second, .val (.int iv)] [(.long (t + (w11 * w13)))])) _
  refine XS.lstore X12.here hx rfl (hb hby d7_57) rfl (l' := #[.val (.ref g), .val (.long (a + w6)), .second, .val (.long (b + w9)), .second, .val (.long (t + (w11 * w13))), .second, .val (.int iv)]) rfl ?_
  show Steps p.tables e below (T12.setTop (mkF m 59 #[.val (.ref g), .val (.long (a + w6)), .second, .val (.long (b + w9)), .second, .val (.long (t + (w11 * w13))), .second, .val (.int iv)] [])) _
  refine XS.iinc X12.here hx rfl (hb hby d7_59) rfl (l' := #[.val (.ref g), .val (.long (a + w6)), .second, .val (.long (b + w9)), .second, .val (.long (t + (w11 * w13))), .second, .val (.int (iv + (1 : Int32)))]) rfl ?_
  show Steps p.tables e below (T12.setTop (mkF m 62 #[.val (.ref g), .val (.long (a + w6)), .second, .val (.long (b + w9)), .second, .val (.long (t + (w11 * w13))), .second, .val (.int (iv + (1 : Int32)))] [])) _
  refine XS.goto X12.here hx rfl (pc0 := 62) (pc' := 10) rfl (hb hby d7_62) (by decide) (by decide) ?_
  exact kt

set_option maxRecDepth 65536 in
set_option maxHeartbeats 40000000 in
theorem own_end {p : Program} {l : Launch} {e : Env} {R : Room} {s : State} {m : MethodId} {args : Array Value} {below : List Frame} {meth : Method} {c : Code} {T0 : State} {locs : List Loc} {cells slots : Nat} {Z : State} {a0 : Array Value} {h0 : Heap} (g : Addr) (a : Int64) (b : Int64) (t : Int64) (iv : Int32) (w2 : Int32)
    (X0 : Stand p l e R s m args below meth c T0 locs cells slots) (hx : p.tables.exec = Jvm.exec) (hZ : Z.Warmed39 s.vm) (hw : ∀ d ∈ tables_1, d.before a0 Z = true) (hby : c.code = prog_51_method_6_code) (hml : c.maxLocals = 8) (hown : s.vm.findClass "com/example/fast_tangle/fasttangle/PartingPairs$Groups" = some m.cls) (e0 : T0.heap = h0) (F_size_g : Fld Z h0 g "com/example/fast_tangle/fasttangle/PartingPairs$Groups" "size" "I" (.int w2)) (hc16 : ¬ (iv < w2)) :
    ∃ (T' : State), Stand p l e R s m args below meth c T' locs cells slots ∧ T'.heap = h0 ∧
      ∀ target, Steps p.tables e below (T'.setTop (mkF m 65 #[.val (.ref g), .val (.long a), .second, .val (.long b), .second, .val (.long t), .second, .val (.int iv)] [])) target → Steps p.tables e below (T0.setTop (mkF m 10 #[.val (.ref g), .val (.long a), .second, .val (.long b), .second, .val (.long t), .second, .val (.int iv)] [])) target := by
  obtain ⟨T3, X3, e3, st3⟩ := getF X0 hx hZ hown (host := "") (Or.inl (hw _ (List.mem_of_getElem? (i := 33) rfl))) Via.refl e0 F_size_g (g := (mkF m 13 #[.val (.ref g), .val (.long a), .second, .val (.long b), .second, .val (.long t), .second, .val (.int iv)] [(.ref g), (.int iv)])) rfl rfl (hb hby d7_13)
  refine ⟨T3, X3, e3, fun target kt => ?_⟩
  show Steps p.tables e below (T0.setTop (mkF m 10 #[.val (.ref g), .val (.long a), .second, .val (.long b), .second, .val (.long t), .second, .val (.int iv)] [])) _
  refine XS.iload X0.here hx rfl (hb hby d7_10) rfl ?_
  show Steps p.tables e below (T0.setTop (mkF m 12 #[.val (.ref g), .val (.long a), .second, .val (.long b), .second, .val (.long t), .second, .val (.int iv)] [(.int iv)])) _
  refine XS.aloadN X0.here hx rfl (hb hby d7_12) rfl rfl ?_
  show Steps p.tables e below (T0.setTop (mkF m 13 #[.val (.ref g), .val (.long a), .second, .val (.long b), .second, .val (.long t), .second, .val (.int iv)] [(.ref g), (.int iv)])) _
  refine st3 _ ?_
  show Steps p.tables e below (T3.setTop (mkF m 16 #[.val (.ref g), .val (.long a), .second, .val (.long b), .second, .val (.long t), .second, .val (.int iv)] [(.int w2), (.int iv)])) _
  refine XS.icmpYes X3.here hx rfl (pc0 := 16) (pc' := 65) rfl (hb hby d7_16) rfl (flt hc16).2.1 (by decide) (by decide) ?_
  exact kt
theorem own_loop {p : Program} {l : Launch} {e : Env} {s : State} {m : MethodId} {args : Array Value} {below : List Frame} {meth : Method} {c : Code} {locs : List Loc} {Z : State} {a0 : Array Value} {h0 : Heap} (g u w : Addr) (cu cw : Cell) (n : Nat) (hx : p.tables.exec = Jvm.exec) (hZ : Z.Warmed39 s.vm) (hw : ∀ d ∈ tables_1, d.before a0 Z = true) (hby : c.code = prog_51_method_6_code) (hml : c.maxLocals = 8) (hown : s.vm.findClass "com/example/fast_tangle/fasttangle/PartingPairs$Groups" = some m.cls) (F_size_g : Fld Z h0 g "com/example/fast_tangle/fasttangle/PartingPairs$Groups" "size" "I" (.int (Int32.ofNat n))) (F_upper_g : Fld Z h0 g "com/example/fast_tangle/fasttangle/PartingPairs$Groups" "upper" "[J" (.ref u)) (F_lower_g : Fld Z h0 g "com/example/fast_tangle/fasttangle/PartingPairs$Groups" "lower" "[J" (.ref w)) (Au : Arr Z h0 u cu .long) (Aw : Arr Z h0 w cw .long) {len : Nat} (su : cu.slots.size = len) (sw : cw.slots.size = len) (hn : n ≤ len) (hl : len ≤ 255) :
    ∀ (ys : List (Int64 × Int64)) (i : Nat) (a b t : Int64) (T0 : State), Stand p l e ({ frames := 0, cells := 0, slots := 0, locals := 0 } : Room) s m args below meth c T0 locs 0 0 → T0.heap = h0 → i + ys.length = n → (∀ (j : Nat) (q : Int64 × Int64), ys[j]? = some q → cu.slots[i + j]? = some (.long q.1) ∧ cw.slots[i + j]? = some (.long q.2)) →
    ∃ T' : State, Stand p l e ({ frames := 0, cells := 0, slots := 0, locals := 0 } : Room) s m args below meth c T' locs 0 0 ∧ T'.heap = h0 ∧
      ∀ target, Steps p.tables e below (T'.setTop (mkF m 65 #[.val (.ref g), .val (.long (own_acc a b t ys).1), .second, .val (.long (own_acc a b t ys).2.1), .second, .val (.long (own_acc a b t ys).2.2), .second, .val (.int (Int32.ofNat n))] [])) target → Steps p.tables e below (T0.setTop (mkF m 10 #[.val (.ref g), .val (.long a), .second, .val (.long b), .second, .val (.long t), .second, .val (.int (Int32.ofNat i))] [])) target := by
  intro ys
  induction ys with
  | nil =>
    intro i a b t T0 X0 e0 hi hq
    obtain rfl : i = n := by simpa using hi
    exact own_end g a b t (Int32.ofNat i) (Int32.ofNat i) X0 hx hZ hw hby hml hown e0 F_size_g Int32.lt_irrefl
  | cons y r ih =>
    obtain ⟨y1, y2⟩ := y
    intro i a b t T0 X0 e0 hi hq
    have hi' : i + 1 + r.length = n := by rw [List.length_cons] at hi; omega
    have h1 := own_in (i := i) (by omega) hl su
    have h2 := own_in (i := i) (by omega) hl sw
    obtain ⟨q1, q2⟩ := hq 0 (y1, y2) rfl
    have a1 : cu.slots[(Int32.ofNat i).toNatClampNeg]? = some (.long y1) := by rw [own_clamp (by omega)]; exact q1
    have a2 : cw.slots[(Int32.ofNat i).toNatClampNeg]? = some (.long y2) := by rw [own_clamp (by omega)]; exact q2
    obtain ⟨T1, X1, e1, st1⟩ := own_turn g a b t (Int32.ofNat i) (Int32.ofNat n) u y1 cu w y2 cw y1 y2 X0 hx hZ hw hby hml hown e0 F_size_g F_upper_g Au h1 a1 F_lower_g Aw h2 a2 h1 a1 h2 a2 (own_lt (by omega) (by omega))
    rw [own_one] at st1
    obtain ⟨T2, X2, e2, st2⟩ := ih (i + 1) (a + y1) (b + y2) (t + y1 * y2) T1 X1 e1 hi' (fun j q hj => by
      have := hq (j + 1) q hj
      rw [show i + 1 + j = i + (j + 1) by omega]; exact this)
    exact ⟨T2, X2, e2, fun target k => st1 _ (st2 _ k)⟩
theorem d7_65 : decode prog_51_method_6_code 65 = .ok (.lload_n 1, 1) := by decide +kernel
theorem d7_66 : decode prog_51_method_6_code 66 = .ok (.lload_n 3, 1) := by decide +kernel
theorem d7_67 : decode prog_51_method_6_code 67 = .ok (.lmul, 1) := by decide +kernel
theorem d7_68 : decode prog_51_method_6_code 68 = .ok (.lload 5, 2) := by decide +kernel
theorem d7_70 : decode prog_51_method_6_code 70 = .ok (.lsub, 1) := by decide +kernel
set_option maxRecDepth 65536 in
set_option maxHeartbeats 40000000 in
theorem own_last {p : Program} {l : Launch} {e : Env} {R : Room} {s : State} {m : MethodId} {args : Array Value} {below : List Frame} {meth : Method} {c : Code} {T0 : State} {locs : List Loc} {cells slots : Nat} {Z : State} {a0 : Array Value} {h0 : Heap} (g : Addr) (a : Int64) (b : Int64) (t : Int64) (iv : Int32)
    (X0 : Stand p l e R s m args below meth c T0 locs cells slots) (hx : p.tables.exec = Jvm.exec) (hZ : Z.Warmed39 s.vm) (hw : ∀ d ∈ tables_1, d.before a0 Z = true) (hby : c.code = prog_51_method_6_code) (hml : c.maxLocals = 8) (hown : s.vm.findClass "com/example/fast_tangle/fasttangle/PartingPairs$Groups" = some m.cls) (e0 : T0.heap = h0) :
    ∃ (T' : State), Stand p l e R s m args below meth c T' locs cells slots ∧ T'.heap = h0 ∧
      ∀ target, Steps p.tables e below (T'.setTop (mkF m 71 #[.val (.ref g), .val (.long a), .second, .val (.long b), .second, .val (.long t), .second, .val (.int iv)] [(.long ((a * b) - t))])) target → Steps p.tables e below (T0.setTop (mkF m 65 #[.val (.ref g), .val (.long a), .second, .val (.long b), .second, .val (.long t), .second, .val (.int iv)] [])) target := by

  refine ⟨T0, X0, e0, fun target kt => ?_⟩
  show Steps p.tables e below (T0.setTop (mkF m 65 #[.val (.ref g), .val (.long a), .second, .val (.long b), .second, .val (.long t), .second, .val (.int iv)] [])) _
  refine XS.lloadN X0.here hx rfl (hb hby d7_65) rfl ?_
  show Steps p.tables e below (T0.setTop (mkF m 66 #[.val (.ref g), .val (.long a), .second, .val (.long b), .second, .val (.long t), .second, .val (.int iv)] [(.long a)])) _
  refine XS.lloadN X0.here hx rfl (hb hby d7_66) rfl ?_
  show Steps p.tables e below (T0.setTop (mkF m 67 #[.val (.ref g), .val (.long a), .second, .val (.long b), .second, .val (.long t), .second, .val (.int iv)] [(.long b), (.long a)])) _
  refine XS.lmul X0.here hx rfl (hb hby d7_67) rfl ?_
  show Steps p.tables e below (T0.setTop (mkF m 68 #[.val (.ref g), .val (.long a), .second, .val (.long b), .second, .val (.long t), .second, .val (.int iv)] [(.long (a * b))])) _
  refine XS.lload X0.here hx rfl (hb hby d7_68) rfl ?_
  show Steps p.tables e below (T0.setTop (mkF m 70 #[.val (.ref g), .val (.long a), .second, .val (.long b), .second, .val (.long t), .second, .val (.int iv)] [(.long t), (.long (a * b))])) _
  refine XS.lsub X0.here hx rfl (hb hby d7_70) rfl ?_
  exact kt
theorem d7_0 : decode prog_51_method_6_code 0 = .ok (.lconst 0, 1) := by decide +kernel
theorem d7_1 : decode prog_51_method_6_code 1 = .ok (.lstore_n 1, 1) := by decide +kernel
theorem d7_2 : decode prog_51_method_6_code 2 = .ok (.lconst 0, 1) := by decide +kernel
theorem d7_3 : decode prog_51_method_6_code 3 = .ok (.lstore_n 3, 1) := by decide +kernel
theorem d7_4 : decode prog_51_method_6_code 4 = .ok (.lconst 0, 1) := by decide +kernel
theorem d7_5 : decode prog_51_method_6_code 5 = .ok (.lstore 5, 2) := by decide +kernel
theorem d7_7 : decode prog_51_method_6_code 7 = .ok (.iconst 0, 1) := by decide +kernel
theorem d7_8 : decode prog_51_method_6_code 8 = .ok (.istore 7, 2) := by decide +kernel
theorem d7_71 : decode prog_51_method_6_code 71 = .ok (.lreturn, 1) := by decide +kernel
theorem pn_7 : plainName "com/example/fast_tangle/fasttangle/PartingPairs$Groups" = true := by first | (simp [plainName, overriddenIn]; done) | decide +kernel
theorem ef_7 (m : MethodId) (x0 : Addr) : entryFrame m #[(.ref x0)] 8 = mkF m 0 #[.val (.ref x0), .unset, .unset, .unset, .unset, .unset, .unset, .unset] [] := by first | (simp [entryFrame, mkF, argsToLocals, Value.category]; done) | rfl
def Q7 (Z : State) (a1 : Addr) (xs : List (Int64 × Int64)) (h0 : Heap) (n0 : Nat) (v : Option Value) (h : Heap) (L : List Loc) : Prop := v = some (.long (own_pairs xs)) ∧ Fr n0 L ∧ h = h0
set_option maxRecDepth 65536 in
set_option maxHeartbeats 40000000 in
theorem rm7 (l : Launch) (Z : State) (a0 : Array Value) (hw : ∀ d ∈ tables_1, d.before a0 Z = true) (ws : List Jvm.Cond) (a1 : Addr) (len : Nat) (xs : List (Int64 × Int64)) (h0 : Heap) (n0 : Nat) (Z0 : n0 ≤ h0.size) (G : Gr Z h0 a1 n0 len xs) (hl : len ≤ 7) (hx3 : xs.length ≤ len) :
    MetFree l (⟨"com/example/fast_tangle/fasttangle/PartingPairs$Groups", "pairs", "()J"⟩ : MethodName) (head1 (Jvm.Cond.code (⟨"com/example/fast_tangle/fasttangle/PartingPairs$Groups", "pairs", "()J"⟩ : MethodName) prog_51_method_6_code 8 (some .long) :: ws) ({ frames := 0, cells := 0, slots := 0, locals := 0 } : Room)) (fun a U => a = #[(.ref a1)] ∧ Z.Warmed39 U.vm ∧ U.heap = h0) (fun _ _ _ _ _ => True) (fun _ U o U' => ∃ v L, o = .returned v ∧ Q7 Z a1 xs h0 n0 v U'.heap L ∧ FrameEnd U o U' L ({ frames := 0, cells := 0, slots := 0, locals := 0 } : Room).cells ({ frames := 0, cells := 0, slots := 0, locals := 0 } : Room).slots) := by
  refine MetFree.of_bodySF (plainFor_of_name pn_7) hisR ?_
  intro p e s m args below meth c s₁ Bd hml0 hP hK
  obtain ⟨rfl, hZ, hh⟩ := hP
  have hx := Bd.exec
  have hby := Bd.bytes
  have hml : c.maxLocals = 8 := hml0
  have hown : s.vm.findClass "com/example/fast_tangle/fasttangle/PartingPairs$Groups" = some m.cls := findClass_of_methodNamed Bd.named
  have hnm := (name_of_methodNamed Bd.named Bd.method).1
  have X0 : Stand p l e ({ frames := 0, cells := 0, slots := 0, locals := 0 } : Room) s m #[(.ref a1)] below meth c s₁ [] 0 0 := Stand.of_body Bd
  have e0 : s₁.heap = h0 := by rw [← hh, Bd.state]; rfl
  have N0 := Fr.nil n0
  have pre0 : ∀ t, Steps p.tables e below (s₁.setTop (mkF m 0 #[.val (.ref a1), .unset, .unset, .unset, .unset, .unset, .unset, .unset] [])) t → Steps p.tables e below (s₁.setTop (entryFrame m #[(.ref a1)] 8)) t := fun t k => castTop (ef_7 m a1) k
  obtain ⟨E_g, F_size_g, r, u, w, fr, fu, fw, g_r, g_u, g_w, n1, n2, n3, F_ranks_g, F_upper_g, F_lower_g, V1, V2, V3, hxs⟩ := G
  obtain ⟨cu, Au, su, vu⟩ := V2
  obtain ⟨cw, Aw, sw, vw⟩ := V3
  obtain ⟨T1, X1, e1, st1⟩ := own_loop a1 u w cu cw xs.length hx hZ hw hby hml hown F_size_g F_upper_g F_lower_g Au Aw su sw hx3 (by omega) xs 0 0 0 0 s₁ X0 e0 (by omega) (fun j q hj => by
    have hjl : j < len := by have := (List.getElem?_eq_some_iff.mp hj).1; omega
    rw [Nat.zero_add]
    exact ⟨by rw [← (hxs j q hj).1]; exact (vu j hjl).1, by rw [← (hxs j q hj).2]; exact (vw j hjl).1⟩)
  obtain ⟨T2, X2, e2, st2⟩ := own_last a1 _ _ _ _ X1 hx hZ hw hby hml hown e1
  obtain ⟨fs, hr, hrun, hended, hW, hsame⟩ := X2.leave (v := some (.long (own_pairs xs))) (fun h => by rw [Bd.returns] at h; cases h)
  refine ⟨_, _, pre0 _ ?_, hrun, hended, _, _, rfl, ?_, ⟨_, rfl⟩, hW, hsame.mono (by decide) (by decide)⟩
  · show Steps p.tables e below (s₁.setTop (mkF m 0 #[.val (.ref a1), .unset, .unset, .unset, .unset, .unset, .unset, .unset] [])) _
    refine XS.lconst X0.here hx rfl (hb hby d7_0) ?_
    show Steps p.tables e below (s₁.setTop (mkF m 1 #[.val (.ref a1), .unset, .unset, .unset, .unset, .unset, .unset, .unset] [(.long (0 : Int64))])) _
    refine XS.lstoreN X0.here hx rfl (hb hby d7_1) rfl (l' := #[.val (.ref a1), .val (.long (0 : Int64)), .second, .unset, .unset, .unset, .unset, .unset]) rfl ?_
    show Steps p.tables e below (s₁.setTop (mkF m 2 #[.val (.ref a1), .val (.long (0 : Int64)), .second, .unset, .unset, .unset, .unset, .unset] [])) _
    refine XS.lconst X0.here hx rfl (hb hby d7_2) ?_
    show Steps p.tables e below (s₁.setTop (mkF m 3 #[.val (.ref a1), .val (.long (0 : Int64)), .second, .unset, .unset, .unset, .unset, .unset] [(.long (0 : Int64))])) _
    refine XS.lstoreN X0.here hx rfl (hb hby d7_3) rfl (l' := #[.val (.ref a1), .val (.long (0 : Int64)), .second, .val (.long (0 : Int64)), .second, .unset, .unset, .unset]) rfl ?_
    show Steps p.tables e below (s₁.setTop (mkF m 4 #[.val (.ref a1), .val (.long (0 : Int64)), .second, .val (.long (0 : Int64)), .second, .unset, .unset, .unset] [])) _
    refine XS.lconst X0.here hx rfl (hb hby d7_4) ?_
    show Steps p.tables e below (s₁.setTop (mkF m 5 #[.val (.ref a1), .val (.long (0 : Int64)), .second, .val (.long (0 : Int64)), .second, .unset, .unset, .unset] [(.long (0 : Int64))])) _
    refine XS.lstore X0.here hx rfl (hb hby d7_5) rfl (l' := #[.val (.ref a1), .val (.long (0 : Int64)), .second, .val (.long (0 : Int64)), .second, .val (.long (0 : Int64)), .second, .unset]) rfl ?_
    show Steps p.tables e below (s₁.setTop (mkF m 7 #[.val (.ref a1), .val (.long (0 : Int64)), .second, .val (.long (0 : Int64)), .second, .val (.long (0 : Int64)), .second, .unset] [])) _
    refine XS.iconst X0.here hx rfl (hb hby d7_7) ?_
    show Steps p.tables e below (s₁.setTop (mkF m 8 #[.val (.ref a1), .val (.long (0 : Int64)), .second, .val (.long (0 : Int64)), .second, .val (.long (0 : Int64)), .second, .unset] [(.int (0 : Int32))])) _
    refine XS.istore X0.here hx rfl (hb hby d7_8) rfl (l' := #[.val (.ref a1), .val (.long (0 : Int64)), .second, .val (.long (0 : Int64)), .second, .val (.long (0 : Int64)), .second, .val (.int (0 : Int32))]) rfl ?_
    show Steps p.tables e below (s₁.setTop (mkF m 10 #[.val (.ref a1), .val (.long (0 : Int64)), .second, .val (.long (0 : Int64)), .second, .val (.long (0 : Int64)), .second, .val (.int (0 : Int32))] [])) _
    refine st1 _ ?_
    refine st2 _ ?_
    exact retOut X2 hx Bd.returns rfl (Or.inr (Or.inl ⟨rfl, rfl, _, rfl⟩)) (hb hby d7_71) hr
  · show Q7 Z a1 xs h0 n0 _ T2.heap _
    rw [e2]
    exact ⟨rfl, N0, rfl⟩
theorem own_cc (x : Int32) : ∃ mn : Nat, own_max 2 (x &&& (7 : Int32)) = Int32.ofNat mn ∧ 2 ≤ mn ∧ mn ≤ 7 := by
  have h := c_mask x 7 3 (by decide) (by decide)
  have k2 : (2 : Int32).toInt = 2 := by decide
  unfold own_max
  by_cases q : (2 : Int32) < (x &&& (7 : Int32))
  · rw [if_pos q]
    rw [Int32.lt_iff_toInt_lt, k2] at q
    refine ⟨(x &&& (7 : Int32)).toInt.toNat, ?_, by omega, by omega⟩
    apply Int32.toInt_inj.mp
    rw [own_n32 (by omega)]; omega
  · rw [if_neg q]
    exact ⟨2, rfl, by omega, by omega⟩
theorem own_and3 (x : Int32) : (x &&& (3 : Int32)) = 0 ∨ (x &&& (3 : Int32)) = 1 ∨ (x &&& (3 : Int32)) = 2 ∨ (x &&& (3 : Int32)) = 3 := by
  have h := c_mask x 3 2 (by decide) (by decide)
  have k0 : (0 : Int32).toInt = 0 := by decide
  have k1 : (1 : Int32).toInt = 1 := by decide
  have k2 : (2 : Int32).toInt = 2 := by decide
  have k3 : (3 : Int32).toInt = 3 := by decide
  simp only [← Int32.toInt_inj, k0, k1, k2, k3]
  omega

set_option maxRecDepth 65536 in
set_option maxHeartbeats 40000000 in
theorem own_at {p : Program} {l : Launch} {e : Env} {s : State} {m : MethodId} {args : Array Value} {below : List Frame} {meth : Method} {c : Code} {T0 : State} {locs : List Loc} {Z : State} {a0 : Array Value} {h0 : Heap} {n0 : Nat} (p1 : Int64) (p2 : Int64) (p3 : Int64) (sl : Int32)
    (X0 : Stand p l e room_1 s m args below meth c T0 locs 0 0) (hx : p.tables.exec = Jvm.exec) (hZ : Z.Warmed39 s.vm) (hw : ∀ d ∈ tables_1, d.before a0 Z = true) (hby : c.code = code) (hml : c.maxLocals = 25) (hown : s.vm.findClass "com/example/fast_tangle/fasttangle/GroupsPairsPinLaw" = some m.cls) (e0 : T0.heap = h0) (Z0 : n0 ≤ h0.size) (N0 : Fr n0 locs) (hc12 : ((sl >>> ((2 : Int32) &&& 31)) &&& (1 : Int32)) = (0 : Int32)) :
    ∃ (T' : State) (locs' : List Loc) (cl : Int32), Stand p l e room_1 s m args below meth c T' locs' 0 0 ∧ Fr n0 locs' ∧ T'.heap = h0 ∧
      ∀ target, Steps p.tables e below (T'.setTop (mkF m 22 #[.val (.long p1), .second, .val (.long p2), .second, .val (.long p3), .second, .val (.int sl), .val (.int (sl &&& (3 : Int32))), .val (.int cl), .unset, .unset, .unset, .unset, .unset, .unset, .unset, .unset, .unset, .unset, .unset, .unset, .unset, .unset, .unset, .unset] [])) target → Steps p.tables e below (T0.setTop (mkF m 0 #[.val (.long p1), .second, .val (.long p2), .second, .val (.long p3), .second, .val (.int sl), .unset, .unset, .unset, .unset, .unset, .unset, .unset, .unset, .unset, .unset, .unset, .unset, .unset, .unset, .unset, .unset, .unset, .unset] [])) target := by

  refine ⟨T0, _, (0 : Int32), X0, N0, e0, fun target kt => ?_⟩
  show Steps p.tables e below (T0.setTop (mkF m 0 #[.val (.long p1), .second, .val (.long p2), .second, .val (.long p3), .second, .val (.int sl), .unset, .unset, .unset, .unset, .unset, .unset, .unset, .unset, .unset, .unset, .unset, .unset, .unset, .unset, .unset, .unset, .unset, .unset] [])) _
  refine XS.iload X0.here hx rfl (hb hby at_0) rfl ?_
  show Steps p.tables e below (T0.setTop (mkF m 2 #[.val (.long p1), .second, .val (.long p2), .second, .val (.long p3), .second, .val (.int sl), .unset, .unset, .unset, .unset, .unset, .unset, .unset, .unset, .unset, .unset, .unset, .unset, .unset, .unset, .unset, .unset, .unset, .unset] [(.int sl)])) _
  refine XS.iconst X0.here hx rfl (hb hby at_2) ?_
  show Steps p.tables e below (T0.setTop (mkF m 3 #[.val (.long p1), .second, .val (.long p2), .second, .val (.long p3), .second, .val (.int sl), .unset, .unset, .unset, .unset, .unset, .unset, .unset, .unset, .unset, .unset, .unset, .unset, .unset, .unset, .unset, .unset, .unset, .unset] [(.int (3 : Int32)), (.int sl)])) _
  refine XS.iand X0.here hx rfl (hb hby at_3) rfl ?_
  show Steps p.tables e below (T0.setTop (mkF m 4 #[.val (.long p1), .second, .val (.long p2), .second, .val (.long p3), .second, .val (.int sl), .unset, .unset, .unset, .unset, .unset, .unset, .unset, .unset, .unset, .unset, .unset, .unset, .unset, .unset, .unset, .unset, .unset, .unset] [(.int (sl &&& (3 : Int32)))])) _
  refine XS.istore X0.here hx rfl (hb hby at_4) rfl (l' := #[.val (.long p1), .second, .val (.long p2), .second, .val (.long p3), .second, .val (.int sl), .val (.int (sl &&& (3 : Int32))), .unset, .unset, .unset, .unset, .unset, .unset, .unset, .unset, .unset, .unset, .unset, .unset, .unset, .unset, .unset, .unset, .unset]) rfl ?_
  show Steps p.tables e below (T0.setTop (mkF m 6 #[.val (.long p1), .second, .val (.long p2), .second, .val (.long p3), .second, .val (.int sl), .val (.int (sl &&& (3 : Int32))), .unset, .unset, .unset, .unset, .unset, .unset, .unset, .unset, .unset, .unset, .unset, .unset, .unset, .unset, .unset, .unset, .unset] [])) _
  refine XS.iload X0.here hx rfl (hb hby at_6) rfl ?_
  show Steps p.tables e below (T0.setTop (mkF m 8 #[.val (.long p1), .second, .val (.long p2), .second, .val (.long p3), .second, .val (.int sl), .val (.int (sl &&& (3 : Int32))), .unset, .unset, .unset, .unset, .unset, .unset, .unset, .unset, .unset, .unset, .unset, .unset, .unset, .unset, .unset, .unset, .unset] [(.int sl)])) _
  refine XS.iconst X0.here hx rfl (hb hby at_8) ?_
  show Steps p.tables e below (T0.setTop (mkF m 9 #[.val (.long p1), .second, .val (.long p2), .second, .val (.long p3), .second, .val (.int sl), .val (.int (sl &&& (3 : Int32))), .unset, .unset, .unset, .unset, .unset, .unset, .unset, .unset, .unset, .unset, .unset, .unset, .unset, .unset, .unset, .unset, .unset] [(.int (2 : Int32)), (.int sl)])) _
  refine XS.ishr X0.here hx rfl (hb hby at_9) rfl ?_
  show Steps p.tables e below (T0.setTop (mkF m 10 #[.val (.long p1), .second, .val (.long p2), .second, .val (.long p3), .second, .val (.int sl), .val (.int (sl &&& (3 : Int32))), .unset, .unset, .unset, .unset, .unset, .unset, .unset, .unset, .unset, .unset, .unset, .unset, .unset, .unset, .unset, .unset, .unset] [(.int (sl >>> ((2 : Int32) &&& 31)))])) _
  refine XS.iconst X0.here hx rfl (hb hby at_10) ?_
  show Steps p.tables e below (T0.setTop (mkF m 11 #[.val (.long p1), .second, .val (.long p2), .second, .val (.long p3), .second, .val (.int sl), .val (.int (sl &&& (3 : Int32))), .unset, .unset, .unset, .unset, .unset, .unset, .unset, .unset, .unset, .unset, .unset, .unset, .unset, .unset, .unset, .unset, .unset] [(.int (1 : Int32)), (.int (sl >>> ((2 : Int32) &&& 31)))])) _
  refine XS.iand X0.here hx rfl (hb hby at_11) rfl ?_
  show Steps p.tables e below (T0.setTop (mkF m 12 #[.val (.long p1), .second, .val (.long p2), .second, .val (.long p3), .second, .val (.int sl), .val (.int (sl &&& (3 : Int32))), .unset, .unset, .unset, .unset, .unset, .unset, .unset, .unset, .unset, .unset, .unset, .unset, .unset, .unset, .unset, .unset, .unset] [(.int ((sl >>> ((2 : Int32) &&& 31)) &&& (1 : Int32)))])) _
  refine XS.ifYes X0.here hx rfl (pc0 := 12) (pc' := 19) rfl (hb hby at_12) rfl ((if0 _ _).trans (teq hc12).1) (by decide) (by decide) ?_
  show Steps p.tables e below (T0.setTop (mkF m 19 #[.val (.long p1), .second, .val (.long p2), .second, .val (.long p3), .second, .val (.int sl), .val (.int (sl &&& (3 : Int32))), .unset, .unset, .unset, .unset, .unset, .unset, .unset, .unset, .unset, .unset, .unset, .unset, .unset, .unset, .unset, .unset, .unset] [])) _
  refine XS.iconst X0.here hx rfl (hb hby at_19) ?_
  show Steps p.tables e below (T0.setTop (mkF m 20 #[.val (.long p1), .second, .val (.long p2), .second, .val (.long p3), .second, .val (.int sl), .val (.int (sl &&& (3 : Int32))), .unset, .unset, .unset, .unset, .unset, .unset, .unset, .unset, .unset, .unset, .unset, .unset, .unset, .unset, .unset, .unset, .unset] [(.int (0 : Int32))])) _
  refine XS.istore X0.here hx rfl (hb hby at_20) rfl (l' := #[.val (.long p1), .second, .val (.long p2), .second, .val (.long p3), .second, .val (.int sl), .val (.int (sl &&& (3 : Int32))), .val (.int (0 : Int32)), .unset, .unset, .unset, .unset, .unset, .unset, .unset, .unset, .unset, .unset, .unset, .unset, .unset, .unset, .unset, .unset]) rfl ?_
  exact kt

set_option maxRecDepth 65536 in
set_option maxHeartbeats 40000000 in
theorem own_af {p : Program} {l : Launch} {e : Env} {s : State} {m : MethodId} {args : Array Value} {below : List Frame} {meth : Method} {c : Code} {T0 : State} {locs : List Loc} {Z : State} {a0 : Array Value} {h0 : Heap} {n0 : Nat} (p1 : Int64) (p2 : Int64) (p3 : Int64) (sl : Int32)
    (X0 : Stand p l e room_1 s m args below meth c T0 locs 0 0) (hx : p.tables.exec = Jvm.exec) (hZ : Z.Warmed39 s.vm) (hw : ∀ d ∈ tables_1, d.before a0 Z = true) (hby : c.code = code) (hml : c.maxLocals = 25) (hown : s.vm.findClass "com/example/fast_tangle/fasttangle/GroupsPairsPinLaw" = some m.cls) (e0 : T0.heap = h0) (Z0 : n0 ≤ h0.size) (N0 : Fr n0 locs) (hc12 : ¬ (((sl >>> ((2 : Int32) &&& 31)) &&& (1 : Int32)) = (0 : Int32))) :
    ∃ (T' : State) (locs' : List Loc) (cl : Int32), Stand p l e room_1 s m args below meth c T' locs' 0 0 ∧ Fr n0 locs' ∧ T'.heap = h0 ∧
      ∀ target, Steps p.tables e below (T'.setTop (mkF m 22 #[.val (.long p1), .second, .val (.long p2), .second, .val (.long p3), .second, .val (.int sl), .val (.int (sl &&& (3 : Int32))), .val (.int cl), .unset, .unset, .unset, .unset, .unset, .unset, .unset, .unset, .unset, .unset, .unset, .unset, .unset, .unset, .unset, .unset] [])) target → Steps p.tables e below (T0.setTop (mkF m 0 #[.val (.long p1), .second, .val (.long p2), .second, .val (.long p3), .second, .val (.int sl), .unset, .unset, .unset, .unset, .unset, .unset, .unset, .unset, .unset, .unset, .unset, .unset, .unset, .unset, .unset, .unset, .unset, .unset] [])) target := by

  refine ⟨T0, _, (1 : Int32), X0, N0, e0, fun target kt => ?_⟩
  show Steps p.tables e below (T0.setTop (mkF m 0 #[.val (.long p1), .second, .val (.long p2), .second, .val (.long p3), .second, .val (.int sl), .unset, .unset, .unset, .unset, .unset, .unset, .unset, .unset, .unset, .unset, .unset, .unset, .unset, .unset, .unset, .unset, .unset, .unset] [])) _
  refine XS.iload X0.here hx rfl (hb hby at_0) rfl ?_
  show Steps p.tables e below (T0.setTop (mkF m 2 #[.val (.long p1), .second, .val (.long p2), .second, .val (.long p3), .second, .val (.int sl), .unset, .unset, .unset, .unset, .unset, .unset, .unset, .unset, .unset, .unset, .unset, .unset, .unset, .unset, .unset, .unset, .unset, .unset] [(.int sl)])) _
  refine XS.iconst X0.here hx rfl (hb hby at_2) ?_
  show Steps p.tables e below (T0.setTop (mkF m 3 #[.val (.long p1), .second, .val (.long p2), .second, .val (.long p3), .second, .val (.int sl), .unset, .unset, .unset, .unset, .unset, .unset, .unset, .unset, .unset, .unset, .unset, .unset, .unset, .unset, .unset, .unset, .unset, .unset] [(.int (3 : Int32)), (.int sl)])) _
  refine XS.iand X0.here hx rfl (hb hby at_3) rfl ?_
  show Steps p.tables e below (T0.setTop (mkF m 4 #[.val (.long p1), .second, .val (.long p2), .second, .val (.long p3), .second, .val (.int sl), .unset, .unset, .unset, .unset, .unset, .unset, .unset, .unset, .unset, .unset, .unset, .unset, .unset, .unset, .unset, .unset, .unset, .unset] [(.int (sl &&& (3 : Int32)))])) _
  refine XS.istore X0.here hx rfl (hb hby at_4) rfl (l' := #[.val (.long p1), .second, .val (.long p2), .second, .val (.long p3), .second, .val (.int sl), .val (.int (sl &&& (3 : Int32))), .unset, .unset, .unset, .unset, .unset, .unset, .unset, .unset, .unset, .unset, .unset, .unset, .unset, .unset, .unset, .unset, .unset]) rfl ?_
  show Steps p.tables e below (T0.setTop (mkF m 6 #[.val (.long p1), .second, .val (.long p2), .second, .val (.long p3), .second, .val (.int sl), .val (.int (sl &&& (3 : Int32))), .unset, .unset, .unset, .unset, .unset, .unset, .unset, .unset, .unset, .unset, .unset, .unset, .unset, .unset, .unset, .unset, .unset] [])) _
  refine XS.iload X0.here hx rfl (hb hby at_6) rfl ?_
  show Steps p.tables e below (T0.setTop (mkF m 8 #[.val (.long p1), .second, .val (.long p2), .second, .val (.long p3), .second, .val (.int sl), .val (.int (sl &&& (3 : Int32))), .unset, .unset, .unset, .unset, .unset, .unset, .unset, .unset, .unset, .unset, .unset, .unset, .unset, .unset, .unset, .unset, .unset] [(.int sl)])) _
  refine XS.iconst X0.here hx rfl (hb hby at_8) ?_
  show Steps p.tables e below (T0.setTop (mkF m 9 #[.val (.long p1), .second, .val (.long p2), .second, .val (.long p3), .second, .val (.int sl), .val (.int (sl &&& (3 : Int32))), .unset, .unset, .unset, .unset, .unset, .unset, .unset, .unset, .unset, .unset, .unset, .unset, .unset, .unset, .unset, .unset, .unset] [(.int (2 : Int32)), (.int sl)])) _
  refine XS.ishr X0.here hx rfl (hb hby at_9) rfl ?_
  show Steps p.tables e below (T0.setTop (mkF m 10 #[.val (.long p1), .second, .val (.long p2), .second, .val (.long p3), .second, .val (.int sl), .val (.int (sl &&& (3 : Int32))), .unset, .unset, .unset, .unset, .unset, .unset, .unset, .unset, .unset, .unset, .unset, .unset, .unset, .unset, .unset, .unset, .unset] [(.int (sl >>> ((2 : Int32) &&& 31)))])) _
  refine XS.iconst X0.here hx rfl (hb hby at_10) ?_
  show Steps p.tables e below (T0.setTop (mkF m 11 #[.val (.long p1), .second, .val (.long p2), .second, .val (.long p3), .second, .val (.int sl), .val (.int (sl &&& (3 : Int32))), .unset, .unset, .unset, .unset, .unset, .unset, .unset, .unset, .unset, .unset, .unset, .unset, .unset, .unset, .unset, .unset, .unset] [(.int (1 : Int32)), (.int (sl >>> ((2 : Int32) &&& 31)))])) _
  refine XS.iand X0.here hx rfl (hb hby at_11) rfl ?_
  show Steps p.tables e below (T0.setTop (mkF m 12 #[.val (.long p1), .second, .val (.long p2), .second, .val (.long p3), .second, .val (.int sl), .val (.int (sl &&& (3 : Int32))), .unset, .unset, .unset, .unset, .unset, .unset, .unset, .unset, .unset, .unset, .unset, .unset, .unset, .unset, .unset, .unset, .unset] [(.int ((sl >>> ((2 : Int32) &&& 31)) &&& (1 : Int32)))])) _
  refine XS.ifNo X0.here hx rfl (hb hby at_12) rfl ((if0 _ _).trans (feq hc12).1) ?_
  show Steps p.tables e below (T0.setTop (mkF m 15 #[.val (.long p1), .second, .val (.long p2), .second, .val (.long p3), .second, .val (.int sl), .val (.int (sl &&& (3 : Int32))), .unset, .unset, .unset, .unset, .unset, .unset, .unset, .unset, .unset, .unset, .unset, .unset, .unset, .unset, .unset, .unset, .unset] [])) _
  refine XS.iconst X0.here hx rfl (hb hby at_15) ?_
  show Steps p.tables e below (T0.setTop (mkF m 16 #[.val (.long p1), .second, .val (.long p2), .second, .val (.long p3), .second, .val (.int sl), .val (.int (sl &&& (3 : Int32))), .unset, .unset, .unset, .unset, .unset, .unset, .unset, .unset, .unset, .unset, .unset, .unset, .unset, .unset, .unset, .unset, .unset] [(.int (1 : Int32))])) _
  refine XS.goto X0.here hx rfl (pc0 := 16) (pc' := 20) rfl (hb hby at_16) (by decide) (by decide) ?_
  show Steps p.tables e below (T0.setTop (mkF m 20 #[.val (.long p1), .second, .val (.long p2), .second, .val (.long p3), .second, .val (.int sl), .val (.int (sl &&& (3 : Int32))), .unset, .unset, .unset, .unset, .unset, .unset, .unset, .unset, .unset, .unset, .unset, .unset, .unset, .unset, .unset, .unset, .unset] [(.int (1 : Int32))])) _
  refine XS.istore X0.here hx rfl (hb hby at_20) rfl (l' := #[.val (.long p1), .second, .val (.long p2), .second, .val (.long p3), .second, .val (.int sl), .val (.int (sl &&& (3 : Int32))), .val (.int (1 : Int32)), .unset, .unset, .unset, .unset, .unset, .unset, .unset, .unset, .unset, .unset, .unset, .unset, .unset, .unset, .unset, .unset]) rfl ?_
  exact kt
theorem own_a {p : Program} {l : Launch} {e : Env} {s : State} {m : MethodId} {args : Array Value} {below : List Frame} {meth : Method} {c : Code} {T0 : State} {locs : List Loc} {Z : State} {a0 : Array Value} {h0 : Heap} {n0 : Nat} (p1 : Int64) (p2 : Int64) (p3 : Int64) (sl : Int32)
    (X0 : Stand p l e room_1 s m args below meth c T0 locs 0 0) (hx : p.tables.exec = Jvm.exec) (hZ : Z.Warmed39 s.vm) (hw : ∀ d ∈ tables_1, d.before a0 Z = true) (hby : c.code = code) (hml : c.maxLocals = 25) (hown : s.vm.findClass "com/example/fast_tangle/fasttangle/GroupsPairsPinLaw" = some m.cls) (e0 : T0.heap = h0) (Z0 : n0 ≤ h0.size) (N0 : Fr n0 locs) :
    ∃ (T' : State) (locs' : List Loc) (cl : Int32), Stand p l e room_1 s m args below meth c T' locs' 0 0 ∧ Fr n0 locs' ∧ T'.heap = h0 ∧
      ∀ target, Steps p.tables e below (T'.setTop (mkF m 22 #[.val (.long p1), .second, .val (.long p2), .second, .val (.long p3), .second, .val (.int sl), .val (.int (sl &&& (3 : Int32))), .val (.int cl), .unset, .unset, .unset, .unset, .unset, .unset, .unset, .unset, .unset, .unset, .unset, .unset, .unset, .unset, .unset, .unset] [])) target → Steps p.tables e below (T0.setTop (mkF m 0 #[.val (.long p1), .second, .val (.long p2), .second, .val (.long p3), .second, .val (.int sl), .unset, .unset, .unset, .unset, .unset, .unset, .unset, .unset, .unset, .unset, .unset, .unset, .unset, .unset, .unset, .unset, .unset, .unset] [])) target := by
  by_cases q : ((sl >>> ((2 : Int32) &&& 31)) &&& (1 : Int32)) = (0 : Int32)
  · exact own_at p1 p2 p3 sl X0 hx hZ hw hby hml hown e0 Z0 N0 q
  · exact own_af p1 p2 p3 sl X0 hx hZ hw hby hml hown e0 Z0 N0 q
theorem pd_0_0 : parseMethodDescriptor "(I)V" = some ⟨[.int], none⟩ := by decide +kernel
set_option maxRecDepth 65536 in
set_option maxHeartbeats 40000000 in
theorem own_b {p : Program} {l : Launch} {e : Env} {s : State} {m : MethodId} {args : Array Value} {below : List Frame} {meth : Method} {c : Code} {T0 : State} {locs : List Loc} {Z : State} {a0 : Array Value} {h0 : Heap} {n0 : Nat} (p1 : Int64) (p2 : Int64) (p3 : Int64) (sl : Int32) (ct : Int32) (cl : Int32)
    (X0 : Stand p l e room_1 s m args below meth c T0 locs 0 0) (hx : p.tables.exec = Jvm.exec) (hZ : Z.Warmed39 s.vm) (hw : ∀ d ∈ tables_1, d.before a0 Z = true) (hby : c.code = code) (hml : c.maxLocals = 25) (hown : s.vm.findClass "com/example/fast_tangle/fasttangle/GroupsPairsPinLaw" = some m.cls) (e0 : T0.heap = h0) (Z0 : n0 ≤ h0.size) (N0 : Fr n0 locs) :
    ∃ (T' : State) (locs' : List Loc) (g : Addr) (len : Nat), Stand p l e room_1 s m args below meth c T' locs' 4 25 ∧ Fr n0 locs' ∧ (n0 ≤ T'.heap.size ∧ n0 ≤ g ∧ 2 ≤ len ∧ len ≤ 7 ∧ Gr Z T'.heap g n0 len []) ∧
      ∀ target, Steps p.tables e below (T'.setTop (mkF m 42 #[.val (.long p1), .second, .val (.long p2), .second, .val (.long p3), .second, .val (.int sl), .val (.int ct), .val (.int cl), .val (.int (((sl.toUInt32 >>> ((3 : Int32) &&& 31).toUInt32).toInt32) &&& (7 : Int32))), .val (.ref g), .unset, .unset, .unset, .unset, .unset, .unset, .unset, .unset, .unset, .unset, .unset, .unset, .unset, .unset] [])) target → Steps p.tables e below (T0.setTop (mkF m 22 #[.val (.long p1), .second, .val (.long p2), .second, .val (.long p3), .second, .val (.int sl), .val (.int ct), .val (.int cl), .unset, .unset, .unset, .unset, .unset, .unset, .unset, .unset, .unset, .unset, .unset, .unset, .unset, .unset, .unset, .unset] [])) target := by
  obtain ⟨mn, hm, hm2, hmn⟩ := own_cc ((sl.toUInt32 >>> ((3 : Int32) &&& 31).toUInt32).toInt32)
  obtain ⟨T5, h5, X5, e5, E5, A5, D5, -, st5⟩ := newO X0 hx hZ hown (hw _ (List.mem_of_getElem? (i := 0) rfl)) (hw _ (List.mem_of_getElem? (i := 1) rfl)) (hw _ (List.mem_of_getElem? (i := 2) rfl)) e0 (g := (mkF m 31 #[.val (.long p1), .second, .val (.long p2), .second, .val (.long p3), .second, .val (.int sl), .val (.int ct), .val (.int cl), .val (.int (((sl.toUInt32 >>> ((3 : Int32) &&& 31).toUInt32).toInt32) &&& (7 : Int32))), .unset, .unset, .unset, .unset, .unset, .unset, .unset, .unset, .unset, .unset, .unset, .unset, .unset, .unset, .unset] [])) rfl (hb hby at_31) (by decide) (by decide)
  obtain ⟨b5, g5⟩ : ∃ z, z = h0.size := ⟨_, rfl⟩
  rw [← g5] at A5 D5 st5
  have F_ranks_b5 : Fld Z h5 b5 "com/example/fast_tangle/fasttangle/PartingPairs$Groups" "ranks" "[I" .null := D5 (Or.inl (hw _ (List.mem_of_getElem? (i := 15) rfl))) (ty := (.array .int)) (by decide)
  have F_upper_b5 : Fld Z h5 b5 "com/example/fast_tangle/fasttangle/PartingPairs$Groups" "upper" "[J" .null := D5 (Or.inl (hw _ (List.mem_of_getElem? (i := 18) rfl))) (ty := (.array .long)) (by decide)
  have F_lower_b5 : Fld Z h5 b5 "com/example/fast_tangle/fasttangle/PartingPairs$Groups" "lower" "[J" .null := D5 (Or.inl (hw _ (List.mem_of_getElem? (i := 20) rfl))) (ty := (.array .long)) (by decide)
  have F_size_b5 : Fld Z h5 b5 "com/example/fast_tangle/fasttangle/PartingPairs$Groups" "size" "I" (.int (0 : Int32)) := D5 (Or.inl (hw _ (List.mem_of_getElem? (i := 34) rfl))) (ty := .int) (by decide)
  have E_b5 := A5
  have g_b5 : n0 ≤ b5 := Nat.le_trans Z0 (Nat.le_of_eq g5.symm)
  have sz_b5 : h0.size ≤ b5 := (Nat.le_trans (Keep.refl h0 []).1 (Nat.le_of_eq g5.symm))
  have K5 : Keep h0 h5 [] := (Keep.refl h0 []).ext E5
  obtain ⟨_, _, ⟨T6, L6, k6, n6⟩, -, X6, ⟨Lc6, hQ6, l6, y6, z6⟩, st6⟩ := X5.specialBack hx (y := (⟨"com/example/fast_tangle/fasttangle/PartingPairs$Groups", "<init>", "(I)V"⟩ : MethodName)) rfl hown (mvT hZ (hw _ (List.mem_of_getElem? (i := 3) rfl))) (mvT hZ (hw _ (List.mem_of_getElem? (i := 4) rfl))) (mvT hZ (hw _ (List.mem_of_getElem? (i := 5) rfl))) (by decide) (backOf (W := 1) (rm1 l Z a0 hw [] b5 (((sl.toUInt32 >>> ((3 : Int32) &&& 31).toUInt32).toInt32) &&& (7 : Int32)) .null .null .null mn h5 n0 (Nat.le_trans Z0 E5.1) hm hmn E_b5 F_ranks_b5 g_b5 F_upper_b5 F_lower_b5 F_size_b5) hZ (hw _ (List.mem_of_getElem? (i := 5) rfl)) (hw _ (List.mem_of_getElem? (i := 2) rfl)) (by decide) (by decide)) (g := (mkF m 37 #[.val (.long p1), .second, .val (.long p2), .second, .val (.long p3), .second, .val (.int sl), .val (.int ct), .val (.int cl), .val (.int (((sl.toUInt32 >>> ((3 : Int32) &&& 31).toUInt32).toInt32) &&& (7 : Int32))), .unset, .unset, .unset, .unset, .unset, .unset, .unset, .unset, .unset, .unset, .unset, .unset, .unset, .unset, .unset] [(.int (((sl.toUInt32 >>> ((3 : Int32) &&& 31).toUInt32).toInt32) &&& (7 : Int32))), (.ref b5), (.ref b5)])) rfl (by rw [hml]; rfl) (Steps.refl _) (a := b5) (argsL := [(.int (((sl.toUInt32 >>> ((3 : Int32) &&& 31).toUInt32).toInt32) &&& (7 : Int32)))]) (rest := [(.ref b5)]) (lenOf pd_0_0 rfl) rfl (by show 2 * 0 + _ ≤ _; exact Nat.le_of_eq rfl) (hb hby at_37) (fun _ _ => ⟨rfl, e5, (Nat.le_of_ble_eq_true rfl), (Nat.le_of_ble_eq_true rfl)⟩)
  dsimp only [Pt.U, Pt.locs, Pt.cells, Pt.slots] at X6 l6 y6 z6 st6 hQ6
  subst l6 y6 z6
  obtain ⟨rfl, N6q, Zq, GG⟩ := hQ6
  have N6 := Fr.app N0 N6q
  refine ⟨T6, _, b5, mn, X6, N6, ⟨Zq, g_b5, hm2, hmn, GG⟩, fun target kt => ?_⟩
  show Steps p.tables e below (T0.setTop (mkF m 22 #[.val (.long p1), .second, .val (.long p2), .second, .val (.long p3), .second, .val (.int sl), .val (.int ct), .val (.int cl), .unset, .unset, .unset, .unset, .unset, .unset, .unset, .unset, .unset, .unset, .unset, .unset, .unset, .unset, .unset, .unset] [])) _
  refine XS.iload X0.here hx rfl (hb hby at_22) rfl ?_
  show Steps p.tables e below (T0.setTop (mkF m 24 #[.val (.long p1), .second, .val (.long p2), .second, .val (.long p3), .second, .val (.int sl), .val (.int ct), .val (.int cl), .unset, .unset, .unset, .unset, .unset, .unset, .unset, .unset, .unset, .unset, .unset, .unset, .unset, .unset, .unset, .unset] [(.int sl)])) _
  refine XS.iconst X0.here hx rfl (hb hby at_24) ?_
  show Steps p.tables e below (T0.setTop (mkF m 25 #[.val (.long p1), .second, .val (.long p2), .second, .val (.long p3), .second, .val (.int sl), .val (.int ct), .val (.int cl), .unset, .unset, .unset, .unset, .unset, .unset, .unset, .unset, .unset, .unset, .unset, .unset, .unset, .unset, .unset, .unset] [(.int (3 : Int32)), (.int sl)])) _
  refine XS.iushr X0.here hx rfl (hb hby at_25) rfl ?_
  show Steps p.tables e below (T0.setTop (mkF m 26 #[.val (.long p1), .second, .val (.long p2), .second, .val (.long p3), .second, .val (.int sl), .val (.int ct), .val (.int cl), .unset, .unset, .unset, .unset, .unset, .unset, .unset, .unset, .unset, .unset, .unset, .unset, .unset, .unset, .unset, .unset] [(.int ((sl.toUInt32 >>> ((3 : Int32) &&& 31).toUInt32).toInt32))])) _
  refine XS.bipush X0.here hx rfl (hb hby at_26) ?_
  show Steps p.tables e below (T0.setTop (mkF m 28 #[.val (.long p1), .second, .val (.long p2), .second, .val (.long p3), .second, .val (.int sl), .val (.int ct), .val (.int cl), .unset, .unset, .unset, .unset, .unset, .unset, .unset, .unset, .unset, .unset, .unset, .unset, .unset, .unset, .unset, .unset] [(.int (7 : Int32)), (.int ((sl.toUInt32 >>> ((3 : Int32) &&& 31).toUInt32).toInt32))])) _
  refine XS.iand X0.here hx rfl (hb hby at_28) rfl ?_
  show Steps p.tables e below (T0.setTop (mkF m 29 #[.val (.long p1), .second, .val (.long p2), .second, .val (.long p3), .second, .val (.int sl), .val (.int ct), .val (.int cl), .unset, .unset, .unset, .unset, .unset, .unset, .unset, .unset, .unset, .unset, .unset, .unset, .unset, .unset, .unset, .unset] [(.int (((sl.toUInt32 >>> ((3 : Int32) &&& 31).toUInt32).toInt32) &&& (7 : Int32)))])) _
  refine XS.istore X0.here hx rfl (hb hby at_29) rfl (l' := #[.val (.long p1), .second, .val (.long p2), .second, .val (.long p3), .second, .val (.int sl), .val (.int ct), .val (.int cl), .val (.int (((sl.toUInt32 >>> ((3 : Int32) &&& 31).toUInt32).toInt32) &&& (7 : Int32))), .unset, .unset, .unset, .unset, .unset, .unset, .unset, .unset, .unset, .unset, .unset, .unset, .unset, .unset, .unset]) rfl ?_
  show Steps p.tables e below (T0.setTop (mkF m 31 #[.val (.long p1), .second, .val (.long p2), .second, .val (.long p3), .second, .val (.int sl), .val (.int ct), .val (.int cl), .val (.int (((sl.toUInt32 >>> ((3 : Int32) &&& 31).toUInt32).toInt32) &&& (7 : Int32))), .unset, .unset, .unset, .unset, .unset, .unset, .unset, .unset, .unset, .unset, .unset, .unset, .unset, .unset, .unset] [])) _
  refine st5 _ ?_
  show Steps p.tables e below (T5.setTop (mkF m 34 #[.val (.long p1), .second, .val (.long p2), .second, .val (.long p3), .second, .val (.int sl), .val (.int ct), .val (.int cl), .val (.int (((sl.toUInt32 >>> ((3 : Int32) &&& 31).toUInt32).toInt32) &&& (7 : Int32))), .unset, .unset, .unset, .unset, .unset, .unset, .unset, .unset, .unset, .unset, .unset, .unset, .unset, .unset, .unset] [(.ref b5)])) _
  refine XS.dup X5.here hx rfl (hb hby at_34) rfl rfl ?_
  show Steps p.tables e below (T5.setTop (mkF m 35 #[.val (.long p1), .second, .val (.long p2), .second, .val (.long p3), .second, .val (.int sl), .val (.int ct), .val (.int cl), .val (.int (((sl.toUInt32 >>> ((3 : Int32) &&& 31).toUInt32).toInt32) &&& (7 : Int32))), .unset, .unset, .unset, .unset, .unset, .unset, .unset, .unset, .unset, .unset, .unset, .unset, .unset, .unset, .unset] [(.ref b5), (.ref b5)])) _
  refine XS.iload X5.here hx rfl (hb hby at_35) rfl ?_
  show Steps p.tables e below (T5.setTop (mkF m 37 #[.val (.long p1), .second, .val (.long p2), .second, .val (.long p3), .second, .val (.int sl), .val (.int ct), .val (.int cl), .val (.int (((sl.toUInt32 >>> ((3 : Int32) &&& 31).toUInt32).toInt32) &&& (7 : Int32))), .unset, .unset, .unset, .unset, .unset, .unset, .unset, .unset, .unset, .unset, .unset, .unset, .unset, .unset, .unset] [(.int (((sl.toUInt32 >>> ((3 : Int32) &&& 31).toUInt32).toInt32) &&& (7 : Int32))), (.ref b5), (.ref b5)])) _
  refine st6.trans ?_
  show Steps p.tables e below (T6.setTop (mkF m 40 #[.val (.long p1), .second, .val (.long p2), .second, .val (.long p3), .second, .val (.int sl), .val (.int ct), .val (.int cl), .val (.int (((sl.toUInt32 >>> ((3 : Int32) &&& 31).toUInt32).toInt32) &&& (7 : Int32))), .unset, .unset, .unset, .unset, .unset, .unset, .unset, .unset, .unset, .unset, .unset, .unset, .unset, .unset, .unset] [(.ref b5)])) _
  refine XS.astore X6.here hx rfl (hb hby at_40) rfl rfl (l' := #[.val (.long p1), .second, .val (.long p2), .second, .val (.long p3), .second, .val (.int sl), .val (.int ct), .val (.int cl), .val (.int (((sl.toUInt32 >>> ((3 : Int32) &&& 31).toUInt32).toInt32) &&& (7 : Int32))), .val (.ref b5), .unset, .unset, .unset, .unset, .unset, .unset, .unset, .unset, .unset, .unset, .unset, .unset, .unset, .unset]) rfl ?_
  exact kt

set_option maxRecDepth 65536 in
set_option maxHeartbeats 40000000 in
theorem own_ct {p : Program} {l : Launch} {e : Env} {s : State} {m : MethodId} {args : Array Value} {below : List Frame} {meth : Method} {c : Code} {T0 : State} {locs : List Loc} {Z : State} {a0 : Array Value} {h0 : Heap} {n0 : Nat} (p1 : Int64) (p2 : Int64) (p3 : Int64) (sl : Int32) (ct : Int32) (cl : Int32) (cc : Int32) (g : Addr)
    (X0 : Stand p l e room_1 s m args below meth c T0 locs 4 25) (hx : p.tables.exec = Jvm.exec) (hZ : Z.Warmed39 s.vm) (hw : ∀ d ∈ tables_1, d.before a0 Z = true) (hby : c.code = code) (hml : c.maxLocals = 25) (hown : s.vm.findClass "com/example/fast_tangle/fasttangle/GroupsPairsPinLaw" = some m.cls) (e0 : T0.heap = h0) (Z0 : n0 ≤ h0.size) (N0 : Fr n0 locs) (hc44 : cl = (0 : Int32)) :
    ∃ (T' : State) (locs' : List Loc), Stand p l e room_1 s m args below meth c T' locs' 4 25 ∧ Fr n0 locs' ∧ T'.heap = h0 ∧
      ∀ target, Steps p.tables e below (T'.setTop (mkF m 82 #[.val (.long p1), .second, .val (.long p2), .second, .val (.long p3), .second, .val (.int sl), .val (.int ct), .val (.int cl), .val (.int cc), .val (.ref g), .unset, .unset, .unset, .unset, .unset, .unset, .unset, .unset, .unset, .unset, .unset, .unset, .unset, .unset] [])) target → Steps p.tables e below (T0.setTop (mkF m 42 #[.val (.long p1), .second, .val (.long p2), .second, .val (.long p3), .second, .val (.int sl), .val (.int ct), .val (.int cl), .val (.int cc), .val (.ref g), .unset, .unset, .unset, .unset, .unset, .unset, .unset, .unset, .unset, .unset, .unset, .unset, .unset, .unset] [])) target := by

  refine ⟨T0, _, X0, N0, e0, fun target kt => ?_⟩
  show Steps p.tables e below (T0.setTop (mkF m 42 #[.val (.long p1), .second, .val (.long p2), .second, .val (.long p3), .second, .val (.int sl), .val (.int ct), .val (.int cl), .val (.int cc), .val (.ref g), .unset, .unset, .unset, .unset, .unset, .unset, .unset, .unset, .unset, .unset, .unset, .unset, .unset, .unset] [])) _
  refine XS.iload X0.here hx rfl (hb hby at_42) rfl ?_
  show Steps p.tables e below (T0.setTop (mkF m 44 #[.val (.long p1), .second, .val (.long p2), .second, .val (.long p3), .second, .val (.int sl), .val (.int ct), .val (.int cl), .val (.int cc), .val (.ref g), .unset, .unset, .unset, .unset, .unset, .unset, .unset, .unset, .unset, .unset, .unset, .unset, .unset, .unset] [(.int cl)])) _
  refine XS.ifYes X0.here hx rfl (pc0 := 44) (pc' := 82) rfl (hb hby at_44) rfl ((if0 _ _).trans (teq hc44).1) (by decide) (by decide) ?_
  exact kt
theorem pd_0_3 : parseMethodDescriptor "(J)J" = some ⟨[.long], some .long⟩ := by decide +kernel
theorem pd_0_4 : parseMethodDescriptor "(IJJ)V" = some ⟨[.int, .long, .long], none⟩ := by decide +kernel
theorem pd_0_1 : parseMethodDescriptor "()V" = some ⟨[], none⟩ := by decide +kernel
set_option maxRecDepth 65536 in
set_option maxHeartbeats 40000000 in
theorem own_cf {p : Program} {l : Launch} {e : Env} {s : State} {m : MethodId} {args : Array Value} {below : List Frame} {meth : Method} {c : Code} {T0 : State} {locs : List Loc} {Z : State} {a0 : Array Value} {h0 : Heap} {n0 : Nat} (p1 : Int64) (p2 : Int64) (p3 : Int64) (sl : Int32) (ct : Int32) (cl : Int32) (cc : Int32) (g : Addr)
    (X0 : Stand p l e room_1 s m args below meth c T0 locs 4 25) (hx : p.tables.exec = Jvm.exec) (hZ : Z.Warmed39 s.vm) (hw : ∀ d ∈ tables_1, d.before a0 Z = true) (hby : c.code = code) (hml : c.maxLocals = 25) (hown : s.vm.findClass "com/example/fast_tangle/fasttangle/GroupsPairsPinLaw" = some m.cls) (e0 : T0.heap = h0) (Z0 : n0 ≤ h0.size) (N0 : Fr n0 locs) (hc44 : ¬ (cl = (0 : Int32))) (len : Nat) (g_g : n0 ≤ g) (G : Gr Z h0 g n0 len []) (l2 : 2 ≤ len) (l7 : len ≤ 7) :
    ∃ (T' : State) (locs' : List Loc) (len' : Nat), Stand p l e room_1 s m args below meth c T' locs' 10 49 ∧ Fr n0 locs' ∧ (n0 ≤ T'.heap.size ∧ 2 ≤ len' ∧ len' ≤ 7 ∧ Gr Z T'.heap g n0 len' []) ∧
      ∀ target, Steps p.tables e below (T'.setTop (mkF m 82 #[.val (.long p1), .second, .val (.long p2), .second, .val (.long p3), .second, .val (.int sl), .val (.int ct), .val (.int cl), .val (.int cc), .val (.ref g), .unset, .unset, .unset, .unset, .unset, .unset, .unset, .unset, .unset, .unset, .unset, .unset, .unset, .unset] [])) target → Steps p.tables e below (T0.setTop (mkF m 42 #[.val (.long p1), .second, .val (.long p2), .second, .val (.long p3), .second, .val (.int sl), .val (.int ct), .val (.int cl), .val (.int cc), .val (.ref g), .unset, .unset, .unset, .unset, .unset, .unset, .unset, .unset, .unset, .unset, .unset, .unset, .unset, .unset] [])) target := by
  obtain ⟨_, _, ⟨T5, L5, k5, n5⟩, -, X5, ⟨Lc5, hQ5, l5, y5, z5⟩, st5⟩ := Jvm.LawKit.callS X0 hx (y := (⟨"com/example/fast_tangle/fasttangle/GroupsPairsPinLaw", "hi", "(J)J"⟩ : MethodName)) hown (mvT hZ (hw _ (List.mem_of_getElem? (i := 21) rfl))) (mvT hZ (hw _ (List.mem_of_getElem? (i := 22) rfl))) (mvT hZ (hw _ (List.mem_of_getElem? (i := 23) rfl))) (mvT hZ (hw _ (List.mem_of_getElem? (i := 24) rfl))) (by decide) (backOf (W := 2) (rm4 l Z a0 hw [] p2 h0 n0 Z0) hZ (hw _ (List.mem_of_getElem? (i := 24) rfl)) (hw _ (List.mem_of_getElem? (i := 23) rfl)) (by decide) (by decide)) (g := (mkF m 51 #[.val (.long p1), .second, .val (.long p2), .second, .val (.long p3), .second, .val (.int sl), .val (.int ct), .val (.int cl), .val (.int cc), .val (.ref g), .unset, .unset, .unset, .unset, .unset, .unset, .unset, .unset, .unset, .unset, .unset, .unset, .unset, .unset] [(.long p2), (.int (0 : Int32)), (.ref g)])) rfl (by rw [hml]; rfl) (argsL := [(.long p2)]) (rest := [(.int (0 : Int32)), (.ref g)]) (lenOf pd_0_3 rfl) rfl (by show 2 * 0 + _ ≤ _; exact Nat.le_of_eq rfl) (hb hby at_51) (fun _ _ => ⟨rfl, e0, (Nat.le_of_ble_eq_true rfl), (Nat.le_of_ble_eq_true rfl)⟩)
  dsimp only [Pt.U, Pt.locs, Pt.cells, Pt.slots] at X5 l5 y5 z5 st5 hQ5
  subst l5 y5 z5
  obtain ⟨rfl, N5q, e5q⟩ := hQ5
  have N5 := Fr.app N0 N5q
  have Z5 : n0 ≤ T5.heap.size := by rw [e5q]; exact Z0
  have G5 : Gr Z T5.heap g n0 len ([] : List (Int64 × Int64)) := by rw [e5q]; exact G
  obtain ⟨_, _, ⟨T6, L6, k6, n6⟩, -, X6, ⟨Lc6, hQ6, l6, y6, z6⟩, st6⟩ := Jvm.LawKit.callS X5 hx (y := (⟨"com/example/fast_tangle/fasttangle/GroupsPairsPinLaw", "lo", "(J)J"⟩ : MethodName)) hown (mvT hZ (hw _ (List.mem_of_getElem? (i := 25) rfl))) (mvT hZ (hw _ (List.mem_of_getElem? (i := 26) rfl))) (mvT hZ (hw _ (List.mem_of_getElem? (i := 23) rfl))) (mvT hZ (hw _ (List.mem_of_getElem? (i := 27) rfl))) (by decide) (backOf (W := 4) (rm5 l Z a0 hw [] p2 T5.heap n0 Z5) hZ (hw _ (List.mem_of_getElem? (i := 27) rfl)) (hw _ (List.mem_of_getElem? (i := 23) rfl)) (by decide) (by decide)) (g := (mkF m 55 #[.val (.long p1), .second, .val (.long p2), .second, .val (.long p3), .second, .val (.int sl), .val (.int ct), .val (.int cl), .val (.int cc), .val (.ref g), .unset, .unset, .unset, .unset, .unset, .unset, .unset, .unset, .unset, .unset, .unset, .unset, .unset, .unset] [(.long p2), (.long (own_hi p2)), (.int (0 : Int32)), (.ref g)])) rfl (by rw [hml]; rfl) (argsL := [(.long p2)]) (rest := [(.long (own_hi p2)), (.int (0 : Int32)), (.ref g)]) (lenOf pd_0_3 rfl) rfl (by show 2 * 0 + _ ≤ _; exact Nat.le_of_eq rfl) (hb hby at_55) (fun _ _ => ⟨rfl, rfl, (Nat.le_of_ble_eq_true rfl), (Nat.le_of_ble_eq_true rfl)⟩)
  dsimp only [Pt.U, Pt.locs, Pt.cells, Pt.slots] at X6 l6 y6 z6 st6 hQ6
  subst l6 y6 z6
  obtain ⟨rfl, N6q, e6q⟩ := hQ6
  have N6 := Fr.app N5 N6q
  have Z6 : n0 ≤ T6.heap.size := by rw [e6q]; exact Z5
  have G6 : Gr Z T6.heap g n0 len ([] : List (Int64 × Int64)) := by rw [e6q]; exact G5
  obtain ⟨cq7, kq7, q7a, q7b, q7c⟩ := isOf hZ rfl G6.1
  obtain ⟨_, _, ⟨T7, L7, k7, n7⟩, -, X7, ⟨Lc7, hQ7, l7, y7, z7⟩, st7⟩ := X6.virtualBack hx (y := (⟨"com/example/fast_tangle/fasttangle/PartingPairs$Groups", "add", "(IJJ)V"⟩ : MethodName)) (z := (⟨"com/example/fast_tangle/fasttangle/PartingPairs$Groups", "add", "(IJJ)V"⟩ : MethodName)) hown (mvT hZ (hw _ (List.mem_of_getElem? (i := 28) rfl))) (mvT hZ (hw _ (List.mem_of_getElem? (i := 29) rfl))) (notFace_of_selects (args := #[]) (mvT hZ (hw _ (List.mem_of_getElem? (i := 31) rfl)))) (mvT hZ (hw _ (List.mem_of_getElem? (i := 31) rfl))) (mvT hZ (hw _ (List.mem_of_getElem? (i := 30) rfl))) (by decide) (backOf (W := 0) (rm6 l Z a0 hw [] g (0 : Int32) (own_hi p2) (own_lo p2) len ([] : List (Int64 × Int64)) T6.heap n0 Z6 g_g G6 l2 l7 (Nat.le_of_ble_eq_true rfl)) hZ (hw _ (List.mem_of_getElem? (i := 32) rfl)) (hw _ (List.mem_of_getElem? (i := 2) rfl)) (by decide) (by decide)) q7a q7c (g := (mkF m 58 #[.val (.long p1), .second, .val (.long p2), .second, .val (.long p3), .second, .val (.int sl), .val (.int ct), .val (.int cl), .val (.int cc), .val (.ref g), .unset, .unset, .unset, .unset, .unset, .unset, .unset, .unset, .unset, .unset, .unset, .unset, .unset, .unset] [(.long (own_lo p2)), (.long (own_hi p2)), (.int (0 : Int32)), (.ref g)])) rfl (by rw [hml]; rfl) (Steps.refl _) (argsL := [(.int (0 : Int32)), (.long (own_hi p2)), (.long (own_lo p2))]) (rest := []) (lenOf pd_0_4 rfl) rfl (by show 2 * 0 + _ ≤ _; exact Nat.le_of_eq rfl) (hb hby at_58) (fun _ _ => ⟨rfl, rfl, (Nat.le_of_ble_eq_true rfl), (Nat.le_of_ble_eq_true rfl)⟩)
  dsimp only [Pt.U, Pt.locs, Pt.cells, Pt.slots] at X7 l7 y7 z7 st7 hQ7
  subst l7 y7 z7
  obtain ⟨rfl, N7q, Z7, len7, l2_7, l7_7, lx_7, G7⟩ := hQ7
  have N7 := Fr.app N6 N7q
  obtain ⟨_, _, ⟨T8, L8, k8, n8⟩, -, X8, ⟨Lc8, hQ8, l8, y8, z8⟩, st8⟩ := Jvm.LawKit.callS X7 hx (y := (⟨"com/example/fast_tangle/fasttangle/GroupsPairsPinLaw", "hi", "(J)J"⟩ : MethodName)) hown (mvT hZ (hw _ (List.mem_of_getElem? (i := 21) rfl))) (mvT hZ (hw _ (List.mem_of_getElem? (i := 22) rfl))) (mvT hZ (hw _ (List.mem_of_getElem? (i := 23) rfl))) (mvT hZ (hw _ (List.mem_of_getElem? (i := 24) rfl))) (by decide) (backOf (W := 2) (rm4 l Z a0 hw [] p3 T7.heap n0 Z7) hZ (hw _ (List.mem_of_getElem? (i := 24) rfl)) (hw _ (List.mem_of_getElem? (i := 23) rfl)) (by decide) (by decide)) (g := (mkF m 66 #[.val (.long p1), .second, .val (.long p2), .second, .val (.long p3), .second, .val (.int sl), .val (.int ct), .val (.int cl), .val (.int cc), .val (.ref g), .unset, .unset, .unset, .unset, .unset, .unset, .unset, .unset, .unset, .unset, .unset, .unset, .unset, .unset] [(.long p3), (.int (1 : Int32)), (.ref g)])) rfl (by rw [hml]; rfl) (argsL := [(.long p3)]) (rest := [(.int (1 : Int32)), (.ref g)]) (lenOf pd_0_3 rfl) rfl (by show 2 * 0 + _ ≤ _; exact Nat.le_of_eq rfl) (hb hby at_66) (fun _ _ => ⟨rfl, rfl, (Nat.le_of_ble_eq_true rfl), (Nat.le_of_ble_eq_true rfl)⟩)
  dsimp only [Pt.U, Pt.locs, Pt.cells, Pt.slots] at X8 l8 y8 z8 st8 hQ8
  subst l8 y8 z8
  obtain ⟨rfl, N8q, e8q⟩ := hQ8
  have N8 := Fr.app N7 N8q
  have Z8 : n0 ≤ T8.heap.size := by rw [e8q]; exact Z7
  have G8 : Gr Z T8.heap g n0 len7 (([] : List (Int64 × Int64)) ++ [((own_hi p2), (own_lo p2) - (own_hi p2))]) := by rw [e8q]; exact G7
  obtain ⟨_, _, ⟨T9, L9, k9, n9⟩, -, X9, ⟨Lc9, hQ9, l9, y9, z9⟩, st9⟩ := Jvm.LawKit.callS X8 hx (y := (⟨"com/example/fast_tangle/fasttangle/GroupsPairsPinLaw", "lo", "(J)J"⟩ : MethodName)) hown (mvT hZ (hw _ (List.mem_of_getElem? (i := 25) rfl))) (mvT hZ (hw _ (List.mem_of_getElem? (i := 26) rfl))) (mvT hZ (hw _ (List.mem_of_getElem? (i := 23) rfl))) (mvT hZ (hw _ (List.mem_of_getElem? (i := 27) rfl))) (by decide) (backOf (W := 4) (rm5 l Z a0 hw [] p3 T8.heap n0 Z8) hZ (hw _ (List.mem_of_getElem? (i := 27) rfl)) (hw _ (List.mem_of_getElem? (i := 23) rfl)) (by decide) (by decide)) (g := (mkF m 71 #[.val (.long p1), .second, .val (.long p2), .second, .val (.long p3), .second, .val (.int sl), .val (.int ct), .val (.int cl), .val (.int cc), .val (.ref g), .unset, .unset, .unset, .unset, .unset, .unset, .unset, .unset, .unset, .unset, .unset, .unset, .unset, .unset] [(.long p3), (.long (own_hi p3)), (.int (1 : Int32)), (.ref g)])) rfl (by rw [hml]; rfl) (argsL := [(.long p3)]) (rest := [(.long (own_hi p3)), (.int (1 : Int32)), (.ref g)]) (lenOf pd_0_3 rfl) rfl (by show 2 * 0 + _ ≤ _; exact Nat.le_of_eq rfl) (hb hby at_71) (fun _ _ => ⟨rfl, rfl, (Nat.le_of_ble_eq_true rfl), (Nat.le_of_ble_eq_true rfl)⟩)
  dsimp only [Pt.U, Pt.locs, Pt.cells, Pt.slots] at X9 l9 y9 z9 st9 hQ9
  subst l9 y9 z9
  obtain ⟨rfl, N9q, e9q⟩ := hQ9
  have N9 := Fr.app N8 N9q
  have Z9 : n0 ≤ T9.heap.size := by rw [e9q]; exact Z8
  have G9 : Gr Z T9.heap g n0 len7 (([] : List (Int64 × Int64)) ++ [((own_hi p2), (own_lo p2) - (own_hi p2))]) := by rw [e9q]; exact G8
  obtain ⟨cq10, kq10, q10a, q10b, q10c⟩ := isOf hZ rfl G9.1
  obtain ⟨_, _, ⟨T10, L10, k10, n10⟩, -, X10, ⟨Lc10, hQ10, l10, y10, z10⟩, st10⟩ := X9.virtualBack hx (y := (⟨"com/example/fast_tangle/fasttangle/PartingPairs$Groups", "add", "(IJJ)V"⟩ : MethodName)) (z := (⟨"com/example/fast_tangle/fasttangle/PartingPairs$Groups", "add", "(IJJ)V"⟩ : MethodName)) hown (mvT hZ (hw _ (List.mem_of_getElem? (i := 28) rfl))) (mvT hZ (hw _ (List.mem_of_getElem? (i := 29) rfl))) (notFace_of_selects (args := #[]) (mvT hZ (hw _ (List.mem_of_getElem? (i := 31) rfl)))) (mvT hZ (hw _ (List.mem_of_getElem? (i := 31) rfl))) (mvT hZ (hw _ (List.mem_of_getElem? (i := 30) rfl))) (by decide) (backOf (W := 0) (rm6 l Z a0 hw [] g (1 : Int32) (own_hi p3) (own_lo p3) len7 (([] : List (Int64 × Int64)) ++ [((own_hi p2), (own_lo p2) - (own_hi p2))]) T9.heap n0 Z9 g_g G9 l2_7 l7_7 (Nat.le_of_ble_eq_true rfl)) hZ (hw _ (List.mem_of_getElem? (i := 32) rfl)) (hw _ (List.mem_of_getElem? (i := 2) rfl)) (by decide) (by decide)) q10a q10c (g := (mkF m 74 #[.val (.long p1), .second, .val (.long p2), .second, .val (.long p3), .second, .val (.int sl), .val (.int ct), .val (.int cl), .val (.int cc), .val (.ref g), .unset, .unset, .unset, .unset, .unset, .unset, .unset, .unset, .unset, .unset, .unset, .unset, .unset, .unset] [(.long (own_lo p3)), (.long (own_hi p3)), (.int (1 : Int32)), (.ref g)])) rfl (by rw [hml]; rfl) (Steps.refl _) (argsL := [(.int (1 : Int32)), (.long (own_hi p3)), (.long (own_lo p3))]) (rest := []) (lenOf pd_0_4 rfl) rfl (by show 2 * 0 + _ ≤ _; exact Nat.le_of_eq rfl) (hb hby at_74) (fun _ _ => ⟨rfl, rfl, (Nat.le_of_ble_eq_true rfl), (Nat.le_of_ble_eq_true rfl)⟩)
  dsimp only [Pt.U, Pt.locs, Pt.cells, Pt.slots] at X10 l10 y10 z10 st10 hQ10
  subst l10 y10 z10
  obtain ⟨rfl, N10q, Z10, len10, l2_10, l7_10, lx_10, G10⟩ := hQ10
  have N10 := Fr.app N9 N10q
  obtain ⟨cq11, kq11, q11a, q11b, q11c⟩ := isOf hZ rfl G10.1
  obtain ⟨_, _, ⟨T11, L11, k11, n11⟩, -, X11, ⟨Lc11, hQ11, l11, y11, z11⟩, st11⟩ := X10.virtualBack hx (y := (⟨"com/example/fast_tangle/fasttangle/PartingPairs$Groups", "clear", "()V"⟩ : MethodName)) (z := (⟨"com/example/fast_tangle/fasttangle/PartingPairs$Groups", "clear", "()V"⟩ : MethodName)) hown (mvT hZ (hw _ (List.mem_of_getElem? (i := 45) rfl))) (mvT hZ (hw _ (List.mem_of_getElem? (i := 46) rfl))) (notFace_of_selects (args := #[]) (mvT hZ (hw _ (List.mem_of_getElem? (i := 48) rfl)))) (mvT hZ (hw _ (List.mem_of_getElem? (i := 48) rfl))) (mvT hZ (hw _ (List.mem_of_getElem? (i := 47) rfl))) (by decide) (backOf (W := 0) (rm9 l Z a0 hw [] g len10 ((([] : List (Int64 × Int64)) ++ [((own_hi p2), (own_lo p2) - (own_hi p2))]) ++ [((own_hi p3), (own_lo p3) - (own_hi p3))]) T10.heap n0 Z10 g_g G10) hZ (hw _ (List.mem_of_getElem? (i := 49) rfl)) (hw _ (List.mem_of_getElem? (i := 2) rfl)) (by decide) (by decide)) q11a q11c (g := (mkF m 79 #[.val (.long p1), .second, .val (.long p2), .second, .val (.long p3), .second, .val (.int sl), .val (.int ct), .val (.int cl), .val (.int cc), .val (.ref g), .unset, .unset, .unset, .unset, .unset, .unset, .unset, .unset, .unset, .unset, .unset, .unset, .unset, .unset] [(.ref g)])) rfl (by rw [hml]; rfl) (Steps.refl _) (argsL := []) (rest := []) (lenOf pd_0_1 rfl) rfl (by show 2 * 0 + _ ≤ _; exact Nat.le_of_eq rfl) (hb hby at_79) (fun _ _ => ⟨rfl, rfl, (Nat.le_of_ble_eq_true rfl), (Nat.le_of_ble_eq_true rfl)⟩)
  dsimp only [Pt.U, Pt.locs, Pt.cells, Pt.slots] at X11 l11 y11 z11 st11 hQ11
  subst l11 y11 z11
  obtain ⟨rfl, N11q, Z11, G11⟩ := hQ11
  have N11 := Fr.app N10 N11q
  refine ⟨T11, _, len10, X11, N11, ⟨Z11, l2_10, l7_10, G11⟩, fun target kt => ?_⟩
  show Steps p.tables e below (T0.setTop (mkF m 42 #[.val (.long p1), .second, .val (.long p2), .second, .val (.long p3), .second, .val (.int sl), .val (.int ct), .val (.int cl), .val (.int cc), .val (.ref g), .unset, .unset, .unset, .unset, .unset, .unset, .unset, .unset, .unset, .unset, .unset, .unset, .unset, .unset] [])) _
  refine XS.iload X0.here hx rfl (hb hby at_42) rfl ?_
  show Steps p.tables e below (T0.setTop (mkF m 44 #[.val (.long p1), .second, .val (.long p2), .second, .val (.long p3), .second, .val (.int sl), .val (.int ct), .val (.int cl), .val (.int cc), .val (.ref g), .unset, .unset, .unset, .unset, .unset, .unset, .unset, .unset, .unset, .unset, .unset, .unset, .unset, .unset] [(.int cl)])) _
  refine XS.ifNo X0.here hx rfl (hb hby at_44) rfl ((if0 _ _).trans (feq hc44).1) ?_
  show Steps p.tables e below (T0.setTop (mkF m 47 #[.val (.long p1), .second, .val (.long p2), .second, .val (.long p3), .second, .val (.int sl), .val (.int ct), .val (.int cl), .val (.int cc), .val (.ref g), .unset, .unset, .unset, .unset, .unset, .unset, .unset, .unset, .unset, .unset, .unset, .unset, .unset, .unset] [])) _
  refine XS.aload X0.here hx rfl (hb hby at_47) rfl rfl ?_
  show Steps p.tables e below (T0.setTop (mkF m 49 #[.val (.long p1), .second, .val (.long p2), .second, .val (.long p3), .second, .val (.int sl), .val (.int ct), .val (.int cl), .val (.int cc), .val (.ref g), .unset, .unset, .unset, .unset, .unset, .unset, .unset, .unset, .unset, .unset, .unset, .unset, .unset, .unset] [(.ref g)])) _
  refine XS.iconst X0.here hx rfl (hb hby at_49) ?_
  show Steps p.tables e below (T0.setTop (mkF m 50 #[.val (.long p1), .second, .val (.long p2), .second, .val (.long p3), .second, .val (.int sl), .val (.int ct), .val (.int cl), .val (.int cc), .val (.ref g), .unset, .unset, .unset, .unset, .unset, .unset, .unset, .unset, .unset, .unset, .unset, .unset, .unset, .unset] [(.int (0 : Int32)), (.ref g)])) _
  refine XS.lloadN X0.here hx rfl (hb hby at_50) rfl ?_
  show Steps p.tables e below (T0.setTop (mkF m 51 #[.val (.long p1), .second, .val (.long p2), .second, .val (.long p3), .second, .val (.int sl), .val (.int ct), .val (.int cl), .val (.int cc), .val (.ref g), .unset, .unset, .unset, .unset, .unset, .unset, .unset, .unset, .unset, .unset, .unset, .unset, .unset, .unset] [(.long p2), (.int (0 : Int32)), (.ref g)])) _
  refine st5 _ ?_
  show Steps p.tables e below (T5.setTop (mkF m 54 #[.val (.long p1), .second, .val (.long p2), .second, .val (.long p3), .second, .val (.int sl), .val (.int ct), .val (.int cl), .val (.int cc), .val (.ref g), .unset, .unset, .unset, .unset, .unset, .unset, .unset, .unset, .unset, .unset, .unset, .unset, .unset, .unset] [(.long (own_hi p2)), (.int (0 : Int32)), (.ref g)])) _
  refine XS.lloadN X5.here hx rfl (hb hby at_54) rfl ?_
  show Steps p.tables e below (T5.setTop (mkF m 55 #[.val (.long p1), .second, .val (.long p2), .second, .val (.long p3), .second, .val (.int sl), .val (.int ct), .val (.int cl), .val (.int cc), .val (.ref g), .unset, .unset, .unset, .unset, .unset, .unset, .unset, .unset, .unset, .unset, .unset, .unset, .unset, .unset] [(.long p2), (.long (own_hi p2)), (.int (0 : Int32)), (.ref g)])) _
  refine st6 _ ?_
  show Steps p.tables e below (T6.setTop (mkF m 58 #[.val (.long p1), .second, .val (.long p2), .second, .val (.long p3), .second, .val (.int sl), .val (.int ct), .val (.int cl), .val (.int cc), .val (.ref g), .unset, .unset, .unset, .unset, .unset, .unset, .unset, .unset, .unset, .unset, .unset, .unset, .unset, .unset] [(.long (own_lo p2)), (.long (own_hi p2)), (.int (0 : Int32)), (.ref g)])) _
  refine st7.trans ?_
  show Steps p.tables e below (T7.setTop (mkF m 61 #[.val (.long p1), .second, .val (.long p2), .second, .val (.long p3), .second, .val (.int sl), .val (.int ct), .val (.int cl), .val (.int cc), .val (.ref g), .unset, .unset, .unset, .unset, .unset, .unset, .unset, .unset, .unset, .unset, .unset, .unset, .unset, .unset] [])) _
  refine XS.aload X7.here hx rfl (hb hby at_61) rfl rfl ?_
  show Steps p.tables e below (T7.setTop (mkF m 63 #[.val (.long p1), .second, .val (.long p2), .second, .val (.long p3), .second, .val (.int sl), .val (.int ct), .val (.int cl), .val (.int cc), .val (.ref g), .unset, .unset, .unset, .unset, .unset, .unset, .unset, .unset, .unset, .unset, .unset, .unset, .unset, .unset] [(.ref g)])) _
  refine XS.iconst X7.here hx rfl (hb hby at_63) ?_
  show Steps p.tables e below (T7.setTop (mkF m 64 #[.val (.long p1), .second, .val (.long p2), .second, .val (.long p3), .second, .val (.int sl), .val (.int ct), .val (.int cl), .val (.int cc), .val (.ref g), .unset, .unset, .unset, .unset, .unset, .unset, .unset, .unset, .unset, .unset, .unset, .unset, .unset, .unset] [(.int (1 : Int32)), (.ref g)])) _
  refine XS.lload X7.here hx rfl (hb hby at_64) rfl ?_
  show Steps p.tables e below (T7.setTop (mkF m 66 #[.val (.long p1), .second, .val (.long p2), .second, .val (.long p3), .second, .val (.int sl), .val (.int ct), .val (.int cl), .val (.int cc), .val (.ref g), .unset, .unset, .unset, .unset, .unset, .unset, .unset, .unset, .unset, .unset, .unset, .unset, .unset, .unset] [(.long p3), (.int (1 : Int32)), (.ref g)])) _
  refine st8 _ ?_
  show Steps p.tables e below (T8.setTop (mkF m 69 #[.val (.long p1), .second, .val (.long p2), .second, .val (.long p3), .second, .val (.int sl), .val (.int ct), .val (.int cl), .val (.int cc), .val (.ref g), .unset, .unset, .unset, .unset, .unset, .unset, .unset, .unset, .unset, .unset, .unset, .unset, .unset, .unset] [(.long (own_hi p3)), (.int (1 : Int32)), (.ref g)])) _
  refine XS.lload X8.here hx rfl (hb hby at_69) rfl ?_
  show Steps p.tables e below (T8.setTop (mkF m 71 #[.val (.long p1), .second, .val (.long p2), .second, .val (.long p3), .second, .val (.int sl), .val (.int ct), .val (.int cl), .val (.int cc), .val (.ref g), .unset, .unset, .unset, .unset, .unset, .unset, .unset, .unset, .unset, .unset, .unset, .unset, .unset, .unset] [(.long p3), (.long (own_hi p3)), (.int (1 : Int32)), (.ref g)])) _
  refine st9 _ ?_
  show Steps p.tables e below (T9.setTop (mkF m 74 #[.val (.long p1), .second, .val (.long p2), .second, .val (.long p3), .second, .val (.int sl), .val (.int ct), .val (.int cl), .val (.int cc), .val (.ref g), .unset, .unset, .unset, .unset, .unset, .unset, .unset, .unset, .unset, .unset, .unset, .unset, .unset, .unset] [(.long (own_lo p3)), (.long (own_hi p3)), (.int (1 : Int32)), (.ref g)])) _
  refine st10.trans ?_
  show Steps p.tables e below (T10.setTop (mkF m 77 #[.val (.long p1), .second, .val (.long p2), .second, .val (.long p3), .second, .val (.int sl), .val (.int ct), .val (.int cl), .val (.int cc), .val (.ref g), .unset, .unset, .unset, .unset, .unset, .unset, .unset, .unset, .unset, .unset, .unset, .unset, .unset, .unset] [])) _
  refine XS.aload X10.here hx rfl (hb hby at_77) rfl rfl ?_
  show Steps p.tables e below (T10.setTop (mkF m 79 #[.val (.long p1), .second, .val (.long p2), .second, .val (.long p3), .second, .val (.int sl), .val (.int ct), .val (.int cl), .val (.int cc), .val (.ref g), .unset, .unset, .unset, .unset, .unset, .unset, .unset, .unset, .unset, .unset, .unset, .unset, .unset, .unset] [(.ref g)])) _
  refine st11.trans ?_
  exact kt
theorem own_c {p : Program} {l : Launch} {e : Env} {s : State} {m : MethodId} {args : Array Value} {below : List Frame} {meth : Method} {c : Code} {T0 : State} {locs : List Loc} {Z : State} {a0 : Array Value} {h0 : Heap} {n0 : Nat} (p1 : Int64) (p2 : Int64) (p3 : Int64) (sl : Int32) (ct : Int32) (cl : Int32) (cc : Int32) (g : Addr)
    (X0 : Stand p l e room_1 s m args below meth c T0 locs 4 25) (hx : p.tables.exec = Jvm.exec) (hZ : Z.Warmed39 s.vm) (hw : ∀ d ∈ tables_1, d.before a0 Z = true) (hby : c.code = code) (hml : c.maxLocals = 25) (hown : s.vm.findClass "com/example/fast_tangle/fasttangle/GroupsPairsPinLaw" = some m.cls) (e0 : T0.heap = h0) (Z0 : n0 ≤ h0.size) (N0 : Fr n0 locs) (len : Nat) (g_g : n0 ≤ g) (G : Gr Z h0 g n0 len []) (l2 : 2 ≤ len) (l7 : len ≤ 7) :
    ∃ (T' : State) (locs' : List Loc) (len' : Nat), Stand p l e room_1 s m args below meth c T' locs' 10 49 ∧ Fr n0 locs' ∧ (n0 ≤ T'.heap.size ∧ 2 ≤ len' ∧ len' ≤ 7 ∧ Gr Z T'.heap g n0 len' []) ∧
      ∀ target, Steps p.tables e below (T'.setTop (mkF m 82 #[.val (.long p1), .second, .val (.long p2), .second, .val (.long p3), .second, .val (.int sl), .val (.int ct), .val (.int cl), .val (.int cc), .val (.ref g), .unset, .unset, .unset, .unset, .unset, .unset, .unset, .unset, .unset, .unset, .unset, .unset, .unset, .unset] [])) target → Steps p.tables e below (T0.setTop (mkF m 42 #[.val (.long p1), .second, .val (.long p2), .second, .val (.long p3), .second, .val (.int sl), .val (.int ct), .val (.int cl), .val (.int cc), .val (.ref g), .unset, .unset, .unset, .unset, .unset, .unset, .unset, .unset, .unset, .unset, .unset, .unset, .unset, .unset] [])) target := by
  by_cases q : cl = (0 : Int32)
  · obtain ⟨T1, L1, X1, N1, e1, st1⟩ := own_ct p1 p2 p3 sl ct cl cc g X0 hx hZ hw hby hml hown e0 Z0 N0 q
    exact ⟨T1, L1, len, X1.more (by decide) (by decide), N1, by rw [e1]; exact ⟨Z0, l2, l7, G⟩, st1⟩
  · exact own_cf p1 p2 p3 sl ct cl cc g X0 hx hZ hw hby hml hown e0 Z0 N0 q len g_g G l2 l7
theorem pd_0_5 : parseMethodDescriptor "()J" = some ⟨[], some .long⟩ := by decide +kernel
theorem pd_0_6 : parseMethodDescriptor "()I" = some ⟨[], some .int⟩ := by decide +kernel
set_option maxRecDepth 65536 in
set_option maxHeartbeats 40000000 in
theorem own_d0 {p : Program} {l : Launch} {e : Env} {s : State} {m : MethodId} {args : Array Value} {below : List Frame} {meth : Method} {c : Code} {T0 : State} {locs : List Loc} {Z : State} {a0 : Array Value} {h0 : Heap} {n0 : Nat} (p1 : Int64) (p2 : Int64) (p3 : Int64) (sl : Int32) (ct : Int32) (cl : Int32) (cc : Int32) (g : Addr)
    (X0 : Stand p l e room_1 s m args below meth c T0 locs 10 49) (hx : p.tables.exec = Jvm.exec) (hZ : Z.Warmed39 s.vm) (hw : ∀ d ∈ tables_1, d.before a0 Z = true) (hby : c.code = code) (hml : c.maxLocals = 25) (hown : s.vm.findClass "com/example/fast_tangle/fasttangle/GroupsPairsPinLaw" = some m.cls) (e0 : T0.heap = h0) (Z0 : n0 ≤ h0.size) (N0 : Fr n0 locs) (hc103 : ct < (1 : Int32)) (hc140 : ct < (2 : Int32)) (hc177 : ct < (3 : Int32)) (hc252 : (lcmpW (own_pairs ([] : List (Int64 × Int64))) ((((0 : Int64) * ((0 : Int64) + (0 : Int64))) + ((0 : Int64) * ((0 : Int64) + (0 : Int64)))) + ((0 : Int64) * ((0 : Int64) + (0 : Int64))))) = (0 : Int32)) (hc262 : (Int32.ofNat ([] : List (Int64 × Int64)).length) = ct) (len : Nat) (g_g : n0 ≤ g) (G : Gr Z h0 g n0 len []) (l2 : 2 ≤ len) (l7 : len ≤ 7) :
    ∃ (T' : State) (locs' : List Loc), Stand p l e room_1 s m args below meth c T' locs' 10 49 ∧ Fr n0 locs' ∧ True ∧
      ∀ target, Steps p.tables e below (T'.setTop (mkF m 270 #[.val (.long p1), .second, .val (.long p2), .second, .val (.long p3), .second, .val (.int sl), .val (.int ct), .val (.int cl), .val (.int cc), .val (.ref g), .val (.long (0 : Int64)), .second, .val (.long (0 : Int64)), .second, .val (.long (0 : Int64)), .second, .val (.long (0 : Int64)), .second, .val (.long (0 : Int64)), .second, .val (.long (0 : Int64)), .second, .val (.long ((((0 : Int64) * ((0 : Int64) + (0 : Int64))) + ((0 : Int64) * ((0 : Int64) + (0 : Int64)))) + ((0 : Int64) * ((0 : Int64) + (0 : Int64))))), .second] [(.int (1 : Int32))])) target → Steps p.tables e below (T0.setTop (mkF m 82 #[.val (.long p1), .second, .val (.long p2), .second, .val (.long p3), .second, .val (.int sl), .val (.int ct), .val (.int cl), .val (.int cc), .val (.ref g), .unset, .unset, .unset, .unset, .unset, .unset, .unset, .unset, .unset, .unset, .unset, .unset, .unset, .unset] [])) target := by
  obtain ⟨cq5, kq5, q5a, q5b, q5c⟩ := isOf hZ e0 G.1
  obtain ⟨_, _, ⟨T5, L5, k5, n5⟩, -, X5, ⟨Lc5, hQ5, l5, y5, z5⟩, st5⟩ := X0.virtualBack hx (y := (⟨"com/example/fast_tangle/fasttangle/PartingPairs$Groups", "pairs", "()J"⟩ : MethodName)) (z := (⟨"com/example/fast_tangle/fasttangle/PartingPairs$Groups", "pairs", "()J"⟩ : MethodName)) hown (mvT hZ (hw _ (List.mem_of_getElem? (i := 35) rfl))) (mvT hZ (hw _ (List.mem_of_getElem? (i := 36) rfl))) (notFace_of_selects (args := #[]) (mvT hZ (hw _ (List.mem_of_getElem? (i := 38) rfl)))) (mvT hZ (hw _ (List.mem_of_getElem? (i := 38) rfl))) (mvT hZ (hw _ (List.mem_of_getElem? (i := 37) rfl))) (by decide) (backOf (W := 0) (rm7 l Z a0 hw [] g len ([] : List (Int64 × Int64)) h0 n0 Z0 G l7 (Nat.zero_le _)) hZ (hw _ (List.mem_of_getElem? (i := 39) rfl)) (hw _ (List.mem_of_getElem? (i := 2) rfl)) (by decide) (by decide)) q5a q5c (g := (mkF m 246 #[.val (.long p1), .second, .val (.long p2), .second, .val (.long p3), .second, .val (.int sl), .val (.int ct), .val (.int cl), .val (.int cc), .val (.ref g), .val (.long (0 : Int64)), .second, .val (.long (0 : Int64)), .second, .val (.long (0 : Int64)), .second, .val (.long (0 : Int64)), .second, .val (.long (0 : Int64)), .second, .val (.long (0 : Int64)), .second, .val (.long ((((0 : Int64) * ((0 : Int64) + (0 : Int64))) + ((0 : Int64) * ((0 : Int64) + (0 : Int64)))) + ((0 : Int64) * ((0 : Int64) + (0 : Int64))))), .second] [(.ref g)])) rfl (by rw [hml]; rfl) (Steps.refl _) (argsL := []) (rest := []) (lenOf pd_0_5 rfl) rfl (by show 2 * 0 + _ ≤ _; exact Nat.le_of_eq rfl) (hb hby at_246) (fun _ _ => ⟨rfl, e0, (Nat.le_of_ble_eq_true rfl), (Nat.le_of_ble_eq_true rfl)⟩)
  dsimp only [Pt.U, Pt.locs, Pt.cells, Pt.slots] at X5 l5 y5 z5 st5 hQ5
  subst l5 y5 z5
  obtain ⟨rfl, N5q, e5q⟩ := hQ5
  have N5 := Fr.app N0 N5q
  have Z5 : n0 ≤ T5.heap.size := by rw [e5q]; exact Z0
  have G5 : Gr Z T5.heap g n0 len ([] : List (Int64 × Int64)) := by rw [e5q]; exact G
  obtain ⟨cq6, kq6, q6a, q6b, q6c⟩ := isOf hZ rfl G5.1
  obtain ⟨_, _, ⟨T6, L6, k6, n6⟩, -, X6, ⟨Lc6, hQ6, l6, y6, z6⟩, st6⟩ := X5.virtualBack hx (y := (⟨"com/example/fast_tangle/fasttangle/PartingPairs$Groups", "size", "()I"⟩ : MethodName)) (z := (⟨"com/example/fast_tangle/fasttangle/PartingPairs$Groups", "size", "()I"⟩ : MethodName)) hown (mvT hZ (hw _ (List.mem_of_getElem? (i := 40) rfl))) (mvT hZ (hw _ (List.mem_of_getElem? (i := 41) rfl))) (notFace_of_selects (args := #[]) (mvT hZ (hw _ (List.mem_of_getElem? (i := 43) rfl)))) (mvT hZ (hw _ (List.mem_of_getElem? (i := 43) rfl))) (mvT hZ (hw _ (List.mem_of_getElem? (i := 42) rfl))) (by decide) (backOf (W := 0) (rm8 l Z a0 hw [] g (Int32.ofNat ([] : List (Int64 × Int64)).length) T5.heap n0 Z5 G5.2.1) hZ (hw _ (List.mem_of_getElem? (i := 44) rfl)) (hw _ (List.mem_of_getElem? (i := 2) rfl)) (by decide) (by decide)) q6a q6c (g := (mkF m 257 #[.val (.long p1), .second, .val (.long p2), .second, .val (.long p3), .second, .val (.int sl), .val (.int ct), .val (.int cl), .val (.int cc), .val (.ref g), .val (.long (0 : Int64)), .second, .val (.long (0 : Int64)), .second, .val (.long (0 : Int64)), .second, .val (.long (0 : Int64)), .second, .val (.long (0 : Int64)), .second, .val (.long (0 : Int64)), .second, .val (.long ((((0 : Int64) * ((0 : Int64) + (0 : Int64))) + ((0 : Int64) * ((0 : Int64) + (0 : Int64)))) + ((0 : Int64) * ((0 : Int64) + (0 : Int64))))), .second] [(.ref g)])) rfl (by rw [hml]; rfl) (Steps.refl _) (argsL := []) (rest := []) (lenOf pd_0_6 rfl) rfl (by show 2 * 0 + _ ≤ _; exact Nat.le_of_eq rfl) (hb hby at_257) (fun _ _ => ⟨rfl, rfl, (Nat.le_of_ble_eq_true rfl), (Nat.le_of_ble_eq_true rfl)⟩)
  dsimp only [Pt.U, Pt.locs, Pt.cells, Pt.slots] at X6 l6 y6 z6 st6 hQ6
  subst l6 y6 z6
  obtain ⟨rfl, N6q, e6q⟩ := hQ6
  have N6 := Fr.app N5 N6q
  refine ⟨T6, _, X6, N6, trivial, fun target kt => ?_⟩
  show Steps p.tables e below (T0.setTop (mkF m 82 #[.val (.long p1), .second, .val (.long p2), .second, .val (.long p3), .second, .val (.int sl), .val (.int ct), .val (.int cl), .val (.int cc), .val (.ref g), .unset, .unset, .unset, .unset, .unset, .unset, .unset, .unset, .unset, .unset, .unset, .unset, .unset, .unset] [])) _
  refine XS.lconst X0.here hx rfl (hb hby at_82) ?_
  show Steps p.tables e below (T0.setTop (mkF m 83 #[.val (.long p1), .second, .val (.long p2), .second, .val (.long p3), .second, .val (.int sl), .val (.int ct), .val (.int cl), .val (.int cc), .val (.ref g), .unset, .unset, .unset, .unset, .unset, .unset, .unset, .unset, .unset, .unset, .unset, .unset, .unset, .unset] [(.long (0 : Int64))])) _
  refine XS.lstore X0.here hx rfl (hb hby at_83) rfl (l' := #[.val (.long p1), .second, .val (.long p2), .second, .val (.long p3), .second, .val (.int sl), .val (.int ct), .val (.int cl), .val (.int cc), .val (.ref g), .val (.long (0 : Int64)), .second, .unset, .unset, .unset, .unset, .unset, .unset, .unset, .unset, .unset, .unset, .unset, .unset]) rfl ?_
  show Steps p.tables e below (T0.setTop (mkF m 85 #[.val (.long p1), .second, .val (.long p2), .second, .val (.long p3), .second, .val (.int sl), .val (.int ct), .val (.int cl), .val (.int cc), .val (.ref g), .val (.long (0 : Int64)), .second, .unset, .unset, .unset, .unset, .unset, .unset, .unset, .unset, .unset, .unset, .unset, .unset] [])) _
  refine XS.lconst X0.here hx rfl (hb hby at_85) ?_
  show Steps p.tables e below (T0.setTop (mkF m 86 #[.val (.long p1), .second, .val (.long p2), .second, .val (.long p3), .second, .val (.int sl), .val (.int ct), .val (.int cl), .val (.int cc), .val (.ref g), .val (.long (0 : Int64)), .second, .unset, .unset, .unset, .unset, .unset, .unset, .unset, .unset, .unset, .unset, .unset, .unset] [(.long (0 : Int64))])) _
  refine XS.lstore X0.here hx rfl (hb hby at_86) rfl (l' := #[.val (.long p1), .second, .val (.long p2), .second, .val (.long p3), .second, .val (.int sl), .val (.int ct), .val (.int cl), .val (.int cc), .val (.ref g), .val (.long (0 : Int64)), .second, .val (.long (0 : Int64)), .second, .unset, .unset, .unset, .unset, .unset, .unset, .unset, .unset, .unset, .unset]) rfl ?_
  show Steps p.tables e below (T0.setTop (mkF m 88 #[.val (.long p1), .second, .val (.long p2), .second, .val (.long p3), .second, .val (.int sl), .val (.int ct), .val (.int cl), .val (.int cc), .val (.ref g), .val (.long (0 : Int64)), .second, .val (.long (0 : Int64)), .second, .unset, .unset, .unset, .unset, .unset, .unset, .unset, .unset, .unset, .unset] [])) _
  refine XS.lconst X0.here hx rfl (hb hby at_88) ?_
  show Steps p.tables e below (T0.setTop (mkF m 89 #[.val (.long p1), .second, .val (.long p2), .second, .val (.long p3), .second, .val (.int sl), .val (.int ct), .val (.int cl), .val (.int cc), .val (.ref g), .val (.long (0 : Int64)), .second, .val (.long (0 : Int64)), .second, .unset, .unset, .unset, .unset, .unset, .unset, .unset, .unset, .unset, .unset] [(.long (0 : Int64))])) _
  refine XS.lstore X0.here hx rfl (hb hby at_89) rfl (l' := #[.val (.long p1), .second, .val (.long p2), .second, .val (.long p3), .second, .val (.int sl), .val (.int ct), .val (.int cl), .val (.int cc), .val (.ref g), .val (.long (0 : Int64)), .second, .val (.long (0 : Int64)), .second, .val (.long (0 : Int64)), .second, .unset, .unset, .unset, .unset, .unset, .unset, .unset, .unset]) rfl ?_
  show Steps p.tables e below (T0.setTop (mkF m 91 #[.val (.long p1), .second, .val (.long p2), .second, .val (.long p3), .second, .val (.int sl), .val (.int ct), .val (.int cl), .val (.int cc), .val (.ref g), .val (.long (0 : Int64)), .second, .val (.long (0 : Int64)), .second, .val (.long (0 : Int64)), .second, .unset, .unset, .unset, .unset, .unset, .unset, .unset, .unset] [])) _
  refine XS.lconst X0.here hx rfl (hb hby at_91) ?_
  show Steps p.tables e below (T0.setTop (mkF m 92 #[.val (.long p1), .second, .val (.long p2), .second, .val (.long p3), .second, .val (.int sl), .val (.int ct), .val (.int cl), .val (.int cc), .val (.ref g), .val (.long (0 : Int64)), .second, .val (.long (0 : Int64)), .second, .val (.long (0 : Int64)), .second, .unset, .unset, .unset, .unset, .unset, .unset, .unset, .unset] [(.long (0 : Int64))])) _
  refine XS.lstore X0.here hx rfl (hb hby at_92) rfl (l' := #[.val (.long p1), .second, .val (.long p2), .second, .val (.long p3), .second, .val (.int sl), .val (.int ct), .val (.int cl), .val (.int cc), .val (.ref g), .val (.long (0 : Int64)), .second, .val (.long (0 : Int64)), .second, .val (.long (0 : Int64)), .second, .val (.long (0 : Int64)), .second, .unset, .unset, .unset, .unset, .unset, .unset]) rfl ?_
  show Steps p.tables e below (T0.setTop (mkF m 94 #[.val (.long p1), .second, .val (.long p2), .second, .val (.long p3), .second, .val (.int sl), .val (.int ct), .val (.int cl), .val (.int cc), .val (.ref g), .val (.long (0 : Int64)), .second, .val (.long (0 : Int64)), .second, .val (.long (0 : Int64)), .second, .val (.long (0 : Int64)), .second, .unset, .unset, .unset, .unset, .unset, .unset] [])) _
  refine XS.lconst X0.here hx rfl (hb hby at_94) ?_
  show Steps p.tables e below (T0.setTop (mkF m 95 #[.val (.long p1), .second, .val (.long p2), .second, .val (.long p3), .second, .val (.int sl), .val (.int ct), .val (.int cl), .val (.int cc), .val (.ref g), .val (.long (0 : Int64)), .second, .val (.long (0 : Int64)), .second, .val (.long (0 : Int64)), .second, .val (.long (0 : Int64)), .second, .unset, .unset, .unset, .unset, .unset, .unset] [(.long (0 : Int64))])) _
  refine XS.lstore X0.here hx rfl (hb hby at_95) rfl (l' := #[.val (.long p1), .second, .val (.long p2), .second, .val (.long p3), .second, .val (.int sl), .val (.int ct), .val (.int cl), .val (.int cc), .val (.ref g), .val (.long (0 : Int64)), .second, .val (.long (0 : Int64)), .second, .val (.long (0 : Int64)), .second, .val (.long (0 : Int64)), .second, .val (.long (0 : Int64)), .second, .unset, .unset, .unset, .unset]) rfl ?_
  show Steps p.tables e below (T0.setTop (mkF m 97 #[.val (.long p1), .second, .val (.long p2), .second, .val (.long p3), .second, .val (.int sl), .val (.int ct), .val (.int cl), .val (.int cc), .val (.ref g), .val (.long (0 : Int64)), .second, .val (.long (0 : Int64)), .second, .val (.long (0 : Int64)), .second, .val (.long (0 : Int64)), .second, .val (.long (0 : Int64)), .second, .unset, .unset, .unset, .unset] [])) _
  refine XS.lconst X0.here hx rfl (hb hby at_97) ?_
  show Steps p.tables e below (T0.setTop (mkF m 98 #[.val (.long p1), .second, .val (.long p2), .second, .val (.long p3), .second, .val (.int sl), .val (.int ct), .val (.int cl), .val (.int cc), .val (.ref g), .val (.long (0 : Int64)), .second, .val (.long (0 : Int64)), .second, .val (.long (0 : Int64)), .second, .val (.long (0 : Int64)), .second, .val (.long (0 : Int64)), .second, .unset, .unset, .unset, .unset] [(.long (0 : Int64))])) _
  refine XS.lstore X0.here hx rfl (hb hby at_98) rfl (l' := #[.val (.long p1), .second, .val (.long p2), .second, .val (.long p3), .second, .val (.int sl), .val (.int ct), .val (.int cl), .val (.int cc), .val (.ref g), .val (.long (0 : Int64)), .second, .val (.long (0 : Int64)), .second, .val (.long (0 : Int64)), .second, .val (.long (0 : Int64)), .second, .val (.long (0 : Int64)), .second, .val (.long (0 : Int64)), .second, .unset, .unset]) rfl ?_
  show Steps p.tables e below (T0.setTop (mkF m 100 #[.val (.long p1), .second, .val (.long p2), .second, .val (.long p3), .second, .val (.int sl), .val (.int ct), .val (.int cl), .val (.int cc), .val (.ref g), .val (.long (0 : Int64)), .second, .val (.long (0 : Int64)), .second, .val (.long (0 : Int64)), .second, .val (.long (0 : Int64)), .second, .val (.long (0 : Int64)), .second, .val (.long (0 : Int64)), .second, .unset, .unset] [])) _
  refine XS.iload X0.here hx rfl (hb hby at_100) rfl ?_
  show Steps p.tables e below (T0.setTop (mkF m 102 #[.val (.long p1), .second, .val (.long p2), .second, .val (.long p3), .second, .val (.int sl), .val (.int ct), .val (.int cl), .val (.int cc), .val (.ref g), .val (.long (0 : Int64)), .second, .val (.long (0 : Int64)), .second, .val (.long (0 : Int64)), .second, .val (.long (0 : Int64)), .second, .val (.long (0 : Int64)), .second, .val (.long (0 : Int64)), .second, .unset, .unset] [(.int ct)])) _
  refine XS.iconst X0.here hx rfl (hb hby at_102) ?_
  show Steps p.tables e below (T0.setTop (mkF m 103 #[.val (.long p1), .second, .val (.long p2), .second, .val (.long p3), .second, .val (.int sl), .val (.int ct), .val (.int cl), .val (.int cc), .val (.ref g), .val (.long (0 : Int64)), .second, .val (.long (0 : Int64)), .second, .val (.long (0 : Int64)), .second, .val (.long (0 : Int64)), .second, .val (.long (0 : Int64)), .second, .val (.long (0 : Int64)), .second, .unset, .unset] [(.int (1 : Int32)), (.int ct)])) _
  refine XS.icmpYes X0.here hx rfl (pc0 := 103) (pc' := 137) rfl (hb hby at_103) rfl (tlt hc103).1 (by decide) (by decide) ?_
  show Steps p.tables e below (T0.setTop (mkF m 137 #[.val (.long p1), .second, .val (.long p2), .second, .val (.long p3), .second, .val (.int sl), .val (.int ct), .val (.int cl), .val (.int cc), .val (.ref g), .val (.long (0 : Int64)), .second, .val (.long (0 : Int64)), .second, .val (.long (0 : Int64)), .second, .val (.long (0 : Int64)), .second, .val (.long (0 : Int64)), .second, .val (.long (0 : Int64)), .second, .unset, .unset] [])) _
  refine XS.iload X0.here hx rfl (hb hby at_137) rfl ?_
  show Steps p.tables e below (T0.setTop (mkF m 139 #[.val (.long p1), .second, .val (.long p2), .second, .val (.long p3), .second, .val (.int sl), .val (.int ct), .val (.int cl), .val (.int cc), .val (.ref g), .val (.long (0 : Int64)), .second, .val (.long (0 : Int64)), .second, .val (.long (0 : Int64)), .second, .val (.long (0 : Int64)), .second, .val (.long (0 : Int64)), .second, .val (.long (0 : Int64)), .second, .unset, .unset] [(.int ct)])) _
  refine XS.iconst X0.here hx rfl (hb hby at_139) ?_
  show Steps p.tables e below (T0.setTop (mkF m 140 #[.val (.long p1), .second, .val (.long p2), .second, .val (.long p3), .second, .val (.int sl), .val (.int ct), .val (.int cl), .val (.int cc), .val (.ref g), .val (.long (0 : Int64)), .second, .val (.long (0 : Int64)), .second, .val (.long (0 : Int64)), .second, .val (.long (0 : Int64)), .second, .val (.long (0 : Int64)), .second, .val (.long (0 : Int64)), .second, .unset, .unset] [(.int (2 : Int32)), (.int ct)])) _
  refine XS.icmpYes X0.here hx rfl (pc0 := 140) (pc' := 174) rfl (hb hby at_140) rfl (tlt hc140).1 (by decide) (by decide) ?_
  show Steps p.tables e below (T0.setTop (mkF m 174 #[.val (.long p1), .second, .val (.long p2), .second, .val (.long p3), .second, .val (.int sl), .val (.int ct), .val (.int cl), .val (.int cc), .val (.ref g), .val (.long (0 : Int64)), .second, .val (.long (0 : Int64)), .second, .val (.long (0 : Int64)), .second, .val (.long (0 : Int64)), .second, .val (.long (0 : Int64)), .second, .val (.long (0 : Int64)), .second, .unset, .unset] [])) _
  refine XS.iload X0.here hx rfl (hb hby at_174) rfl ?_
  show Steps p.tables e below (T0.setTop (mkF m 176 #[.val (.long p1), .second, .val (.long p2), .second, .val (.long p3), .second, .val (.int sl), .val (.int ct), .val (.int cl), .val (.int cc), .val (.ref g), .val (.long (0 : Int64)), .second, .val (.long (0 : Int64)), .second, .val (.long (0 : Int64)), .second, .val (.long (0 : Int64)), .second, .val (.long (0 : Int64)), .second, .val (.long (0 : Int64)), .second, .unset, .unset] [(.int ct)])) _
  refine XS.iconst X0.here hx rfl (hb hby at_176) ?_
  show Steps p.tables e below (T0.setTop (mkF m 177 #[.val (.long p1), .second, .val (.long p2), .second, .val (.long p3), .second, .val (.int sl), .val (.int ct), .val (.int cl), .val (.int cc), .val (.ref g), .val (.long (0 : Int64)), .second, .val (.long (0 : Int64)), .second, .val (.long (0 : Int64)), .second, .val (.long (0 : Int64)), .second, .val (.long (0 : Int64)), .second, .val (.long (0 : Int64)), .second, .unset, .unset] [(.int (3 : Int32)), (.int ct)])) _
  refine XS.icmpYes X0.here hx rfl (pc0 := 177) (pc' := 216) rfl (hb hby at_177) rfl (tlt hc177).1 (by decide) (by decide) ?_
  show Steps p.tables e below (T0.setTop (mkF m 216 #[.val (.long p1), .second, .val (.long p2), .second, .val (.long p3), .second, .val (.int sl), .val (.int ct), .val (.int cl), .val (.int cc), .val (.ref g), .val (.long (0 : Int64)), .second, .val (.long (0 : Int64)), .second, .val (.long (0 : Int64)), .second, .val (.long (0 : Int64)), .second, .val (.long (0 : Int64)), .second, .val (.long (0 : Int64)), .second, .unset, .unset] [])) _
  refine XS.lload X0.here hx rfl (hb hby at_216) rfl ?_
  show Steps p.tables e below (T0.setTop (mkF m 218 #[.val (.long p1), .second, .val (.long p2), .second, .val (.long p3), .second, .val (.int sl), .val (.int ct), .val (.int cl), .val (.int cc), .val (.ref g), .val (.long (0 : Int64)), .second, .val (.long (0 : Int64)), .second, .val (.long (0 : Int64)), .second, .val (.long (0 : Int64)), .second, .val (.long (0 : Int64)), .second, .val (.long (0 : Int64)), .second, .unset, .unset] [(.long (0 : Int64))])) _
  refine XS.lload X0.here hx rfl (hb hby at_218) rfl ?_
  show Steps p.tables e below (T0.setTop (mkF m 220 #[.val (.long p1), .second, .val (.long p2), .second, .val (.long p3), .second, .val (.int sl), .val (.int ct), .val (.int cl), .val (.int cc), .val (.ref g), .val (.long (0 : Int64)), .second, .val (.long (0 : Int64)), .second, .val (.long (0 : Int64)), .second, .val (.long (0 : Int64)), .second, .val (.long (0 : Int64)), .second, .val (.long (0 : Int64)), .second, .unset, .unset] [(.long (0 : Int64)), (.long (0 : Int64))])) _
  refine XS.lload X0.here hx rfl (hb hby at_220) rfl ?_
  show Steps p.tables e below (T0.setTop (mkF m 222 #[.val (.long p1), .second, .val (.long p2), .second, .val (.long p3), .second, .val (.int sl), .val (.int ct), .val (.int cl), .val (.int cc), .val (.ref g), .val (.long (0 : Int64)), .second, .val (.long (0 : Int64)), .second, .val (.long (0 : Int64)), .second, .val (.long (0 : Int64)), .second, .val (.long (0 : Int64)), .second, .val (.long (0 : Int64)), .second, .unset, .unset] [(.long (0 : Int64)), (.long (0 : Int64)), (.long (0 : Int64))])) _
  refine XS.ladd X0.here hx rfl (hb hby at_222) rfl ?_
  show Steps p.tables e below (T0.setTop (mkF m 223 #[.val (.long p1), .second, .val (.long p2), .second, .val (.long p3), .second, .val (.int sl), .val (.int ct), .val (.int cl), .val (.int cc), .val (.ref g), .val (.long (0 : Int64)), .second, .val (.long (0 : Int64)), .second, .val (.long (0 : Int64)), .second, .val (.long (0 : Int64)), .second, .val (.long (0 : Int64)), .second, .val (.long (0 : Int64)), .second, .unset, .unset] [(.long ((0 : Int64) + (0 : Int64))), (.long (0 : Int64))])) _
  refine XS.lmul X0.here hx rfl (hb hby at_223) rfl ?_
  show Steps p.tables e below (T0.setTop (mkF m 224 #[.val (.long p1), .second, .val (.long p2), .second, .val (.long p3), .second, .val (.int sl), .val (.int ct), .val (.int cl), .val (.int cc), .val (.ref g), .val (.long (0 : Int64)), .second, .val (.long (0 : Int64)), .second, .val (.long (0 : Int64)), .second, .val (.long (0 : Int64)), .second, .val (.long (0 : Int64)), .second, .val (.long (0 : Int64)), .second, .unset, .unset] [(.long ((0 : Int64) * ((0 : Int64) + (0 : Int64))))])) _
  refine XS.lload X0.here hx rfl (hb hby at_224) rfl ?_
  show Steps p.tables e below (T0.setTop (mkF m 226 #[.val (.long p1), .second, .val (.long p2), .second, .val (.long p3), .second, .val (.int sl), .val (.int ct), .val (.int cl), .val (.int cc), .val (.ref g), .val (.long (0 : Int64)), .second, .val (.long (0 : Int64)), .second, .val (.long (0 : Int64)), .second, .val (.long (0 : Int64)), .second, .val (.long (0 : Int64)), .second, .val (.long (0 : Int64)), .second, .unset, .unset] [(.long (0 : Int64)), (.long ((0 : Int64) * ((0 : Int64) + (0 : Int64))))])) _
  refine XS.lload X0.here hx rfl (hb hby at_226) rfl ?_
  show Steps p.tables e below (T0.setTop (mkF m 228 #[.val (.long p1), .second, .val (.long p2), .second, .val (.long p3), .second, .val (.int sl), .val (.int ct), .val (.int cl), .val (.int cc), .val (.ref g), .val (.long (0 : Int64)), .second, .val (.long (0 : Int64)), .second, .val (.long (0 : Int64)), .second, .val (.long (0 : Int64)), .second, .val (.long (0 : Int64)), .second, .val (.long (0 : Int64)), .second, .unset, .unset] [(.long (0 : Int64)), (.long (0 : Int64)), (.long ((0 : Int64) * ((0 : Int64) + (0 : Int64))))])) _
  refine XS.lload X0.here hx rfl (hb hby at_228) rfl ?_
  show Steps p.tables e below (T0.setTop (mkF m 230 #[.val (.long p1), .second, .val (.long p2), .second, .val (.long p3), .second, .val (.int sl), .val (.int ct), .val (.int cl), .val (.int cc), .val (.ref g), .val (.long (0 : Int64)), .second, .val (.long (0 : Int64)), .second, .val (.long (0 : Int64)), .second, .val (.long (0 : Int64)), .second, .val (.long (0 : Int64)), .second, .val (.long (0 : Int64)), .second, .unset, .unset] [(.long (0 : Int64)), (.long (0 : Int64)), (.long (0 : Int64)), (.long ((0 : Int64) * ((0 : Int64) + (0 : Int64))))])) _
  refine XS.ladd X0.here hx rfl (hb hby at_230) rfl ?_
  show Steps p.tables e below (T0.setTop (mkF m 231 #[.val (.long p1), .second, .val (.long p2), .second, .val (.long p3), .second, .val (.int sl), .val (.int ct), .val (.int cl), .val (.int cc), .val (.ref g), .val (.long (0 : Int64)), .second, .val (.long (0 : Int64)), .second, .val (.long (0 : Int64)), .second, .val (.long (0 : Int64)), .second, .val (.long (0 : Int64)), .second, .val (.long (0 : Int64)), .second, .unset, .unset] [(.long ((0 : Int64) + (0 : Int64))), (.long (0 : Int64)), (.long ((0 : Int64) * ((0 : Int64) + (0 : Int64))))])) _
  refine XS.lmul X0.here hx rfl (hb hby at_231) rfl ?_
  show Steps p.tables e below (T0.setTop (mkF m 232 #[.val (.long p1), .second, .val (.long p2), .second, .val (.long p3), .second, .val (.int sl), .val (.int ct), .val (.int cl), .val (.int cc), .val (.ref g), .val (.long (0 : Int64)), .second, .val (.long (0 : Int64)), .second, .val (.long (0 : Int64)), .second, .val (.long (0 : Int64)), .second, .val (.long (0 : Int64)), .second, .val (.long (0 : Int64)), .second, .unset, .unset] [(.long ((0 : Int64) * ((0 : Int64) + (0 : Int64)))), (.long ((0 : Int64) * ((0 : Int64) + (0 : Int64))))])) _
  refine XS.ladd X0.here hx rfl (hb hby at_232) rfl ?_
  show Steps p.tables e below (T0.setTop (mkF m 233 #[.val (.long p1), .second, .val (.long p2), .second, .val (.long p3), .second, .val (.int sl), .val (.int ct), .val (.int cl), .val (.int cc), .val (.ref g), .val (.long (0 : Int64)), .second, .val (.long (0 : Int64)), .second, .val (.long (0 : Int64)), .second, .val (.long (0 : Int64)), .second, .val (.long (0 : Int64)), .second, .val (.long (0 : Int64)), .second, .unset, .unset] [(.long (((0 : Int64) * ((0 : Int64) + (0 : Int64))) + ((0 : Int64) * ((0 : Int64) + (0 : Int64)))))])) _
  refine XS.lload X0.here hx rfl (hb hby at_233) rfl ?_
  show Steps p.tables e below (T0.setTop (mkF m 235 #[.val (.long p1), .second, .val (.long p2), .second, .val (.long p3), .second, .val (.int sl), .val (.int ct), .val (.int cl), .val (.int cc), .val (.ref g), .val (.long (0 : Int64)), .second, .val (.long (0 : Int64)), .second, .val (.long (0 : Int64)), .second, .val (.long (0 : Int64)), .second, .val (.long (0 : Int64)), .second, .val (.long (0 : Int64)), .second, .unset, .unset] [(.long (0 : Int64)), (.long (((0 : Int64) * ((0 : Int64) + (0 : Int64))) + ((0 : Int64) * ((0 : Int64) + (0 : Int64)))))])) _
  refine XS.lload X0.here hx rfl (hb hby at_235) rfl ?_
  show Steps p.tables e below (T0.setTop (mkF m 237 #[.val (.long p1), .second, .val (.long p2), .second, .val (.long p3), .second, .val (.int sl), .val (.int ct), .val (.int cl), .val (.int cc), .val (.ref g), .val (.long (0 : Int64)), .second, .val (.long (0 : Int64)), .second, .val (.long (0 : Int64)), .second, .val (.long (0 : Int64)), .second, .val (.long (0 : Int64)), .second, .val (.long (0 : Int64)), .second, .unset, .unset] [(.long (0 : Int64)), (.long (0 : Int64)), (.long (((0 : Int64) * ((0 : Int64) + (0 : Int64))) + ((0 : Int64) * ((0 : Int64) + (0 : Int64)))))])) _
  refine XS.lload X0.here hx rfl (hb hby at_237) rfl ?_
  show Steps p.tables e below (T0.setTop (mkF m 239 #[.val (.long p1), .second, .val (.long p2), .second, .val (.long p3), .second, .val (.int sl), .val (.int ct), .val (.int cl), .val (.int cc), .val (.ref g), .val (.long (0 : Int64)), .second, .val (.long (0 : Int64)), .second, .val (.long (0 : Int64)), .second, .val (.long (0 : Int64)), .second, .val (.long (0 : Int64)), .second, .val (.long (0 : Int64)), .second, .unset, .unset] [(.long (0 : Int64)), (.long (0 : Int64)), (.long (0 : Int64)), (.long (((0 : Int64) * ((0 : Int64) + (0 : Int64))) + ((0 : Int64) * ((0 : Int64) + (0 : Int64)))))])) _
  refine XS.ladd X0.here hx rfl (hb hby at_239) rfl ?_
  show Steps p.tables e below (T0.setTop (mkF m 240 #[.val (.long p1), .second, .val (.long p2), .second, .val (.long p3), .second, .val (.int sl), .val (.int ct), .val (.int cl), .val (.int cc), .val (.ref g), .val (.long (0 : Int64)), .second, .val (.long (0 : Int64)), .second, .val (.long (0 : Int64)), .second, .val (.long (0 : Int64)), .second, .val (.long (0 : Int64)), .second, .val (.long (0 : Int64)), .second, .unset, .unset] [(.long ((0 : Int64) + (0 : Int64))), (.long (0 : Int64)), (.long (((0 : Int64) * ((0 : Int64) + (0 : Int64))) + ((0 : Int64) * ((0 : Int64) + (0 : Int64)))))])) _
  refine XS.lmul X0.here hx rfl (hb hby at_240) rfl ?_
  show Steps p.tables e below (T0.setTop (mkF m 241 #[.val (.long p1), .second, .val (.long p2), .second, .val (.long p3), .second, .val (.int sl), .val (.int ct), .val (.int cl), .val (.int cc), .val (.ref g), .val (.long (0 : Int64)), .second, .val (.long (0 : Int64)), .second, .val (.long (0 : Int64)), .second, .val (.long (0 : Int64)), .second, .val (.long (0 : Int64)), .second, .val (.long (0 : Int64)), .second, .unset, .unset] [(.long ((0 : Int64) * ((0 : Int64) + (0 : Int64)))), (.long (((0 : Int64) * ((0 : Int64) + (0 : Int64))) + ((0 : Int64) * ((0 : Int64) + (0 : Int64)))))])) _
  refine XS.ladd X0.here hx rfl (hb hby at_241) rfl ?_
  show Steps p.tables e below (T0.setTop (mkF m 242 #[.val (.long p1), .second, .val (.long p2), .second, .val (.long p3), .second, .val (.int sl), .val (.int ct), .val (.int cl), .val (.int cc), .val (.ref g), .val (.long (0 : Int64)), .second, .val (.long (0 : Int64)), .second, .val (.long (0 : Int64)), .second, .val (.long (0 : Int64)), .second, .val (.long (0 : Int64)), .second, .val (.long (0 : Int64)), .second, .unset, .unset] [(.long ((((0 : Int64) * ((0 : Int64) + (0 : Int64))) + ((0 : Int64) * ((0 : Int64) + (0 : Int64)))) + ((0 : Int64) * ((0 : Int64) + (0 : Int64)))))])) _
  refine XS.lstore X0.here hx rfl (hb hby at_242) rfl (l' := #[.val (.long p1), .second, .val (.long p2), .second, .val (.long p3), .second, .val (.int sl), .val (.int ct), .val (.int cl), .val (.int cc), .val (.ref g), .val (.long (0 : Int64)), .second, .val (.long (0 : Int64)), .second, .val (.long (0 : Int64)), .second, .val (.long (0 : Int64)), .second, .val (.long (0 : Int64)), .second, .val (.long (0 : Int64)), .second, .val (.long ((((0 : Int64) * ((0 : Int64) + (0 : Int64))) + ((0 : Int64) * ((0 : Int64) + (0 : Int64)))) + ((0 : Int64) * ((0 : Int64) + (0 : Int64))))), .second]) rfl ?_
  show Steps p.tables e below (T0.setTop (mkF m 244 #[.val (.long p1), .second, .val (.long p2), .second, .val (.long p3), .second, .val (.int sl), .val (.int ct), .val (.int cl), .val (.int cc), .val (.ref g), .val (.long (0 : Int64)), .second, .val (.long (0 : Int64)), .second, .val (.long (0 : Int64)), .second, .val (.long (0 : Int64)), .second, .val (.long (0 : Int64)), .second, .val (.long (0 : Int64)), .second, .val (.long ((((0 : Int64) * ((0 : Int64) + (0 : Int64))) + ((0 : Int64) * ((0 : Int64) + (0 : Int64)))) + ((0 : Int64) * ((0 : Int64) + (0 : Int64))))), .second] [])) _
  refine XS.aload X0.here hx rfl (hb hby at_244) rfl rfl ?_
  show Steps p.tables e below (T0.setTop (mkF m 246 #[.val (.long p1), .second, .val (.long p2), .second, .val (.long p3), .second, .val (.int sl), .val (.int ct), .val (.int cl), .val (.int cc), .val (.ref g), .val (.long (0 : Int64)), .second, .val (.long (0 : Int64)), .second, .val (.long (0 : Int64)), .second, .val (.long (0 : Int64)), .second, .val (.long (0 : Int64)), .second, .val (.long (0 : Int64)), .second, .val (.long ((((0 : Int64) * ((0 : Int64) + (0 : Int64))) + ((0 : Int64) * ((0 : Int64) + (0 : Int64)))) + ((0 : Int64) * ((0 : Int64) + (0 : Int64))))), .second] [(.ref g)])) _
  refine st5.trans ?_
  show Steps p.tables e below (T5.setTop (mkF m 249 #[.val (.long p1), .second, .val (.long p2), .second, .val (.long p3), .second, .val (.int sl), .val (.int ct), .val (.int cl), .val (.int cc), .val (.ref g), .val (.long (0 : Int64)), .second, .val (.long (0 : Int64)), .second, .val (.long (0 : Int64)), .second, .val (.long (0 : Int64)), .second, .val (.long (0 : Int64)), .second, .val (.long (0 : Int64)), .second, .val (.long ((((0 : Int64) * ((0 : Int64) + (0 : Int64))) + ((0 : Int64) * ((0 : Int64) + (0 : Int64)))) + ((0 : Int64) * ((0 : Int64) + (0 : Int64))))), .second] [(.long (own_pairs ([] : List (Int64 × Int64))))])) _
  refine XS.lload X5.here hx rfl (hb hby at_249) rfl ?_
  show Steps p.tables e below (T5.setTop (mkF m 251 #[.val (.long p1), .second, .val (.long p2), .second, .val (.long p3), .second, .val (.int sl), .val (.int ct), .val (.int cl), .val (.int cc), .val (.ref g), .val (.long (0 : Int64)), .second, .val (.long (0 : Int64)), .second, .val (.long (0 : Int64)), .second, .val (.long (0 : Int64)), .second, .val (.long (0 : Int64)), .second, .val (.long (0 : Int64)), .second, .val (.long ((((0 : Int64) * ((0 : Int64) + (0 : Int64))) + ((0 : Int64) * ((0 : Int64) + (0 : Int64)))) + ((0 : Int64) * ((0 : Int64) + (0 : Int64))))), .second] [(.long ((((0 : Int64) * ((0 : Int64) + (0 : Int64))) + ((0 : Int64) * ((0 : Int64) + (0 : Int64)))) + ((0 : Int64) * ((0 : Int64) + (0 : Int64))))), (.long (own_pairs ([] : List (Int64 × Int64))))])) _
  refine XS.lcmp X5.here hx rfl (hb hby at_251) rfl ?_
  show Steps p.tables e below (T5.setTop (mkF m 252 #[.val (.long p1), .second, .val (.long p2), .second, .val (.long p3), .second, .val (.int sl), .val (.int ct), .val (.int cl), .val (.int cc), .val (.ref g), .val (.long (0 : Int64)), .second, .val (.long (0 : Int64)), .second, .val (.long (0 : Int64)), .second, .val (.long (0 : Int64)), .second, .val (.long (0 : Int64)), .second, .val (.long (0 : Int64)), .second, .val (.long ((((0 : Int64) * ((0 : Int64) + (0 : Int64))) + ((0 : Int64) * ((0 : Int64) + (0 : Int64)))) + ((0 : Int64) * ((0 : Int64) + (0 : Int64))))), .second] [(.int (lcmpW (own_pairs ([] : List (Int64 × Int64))) ((((0 : Int64) * ((0 : Int64) + (0 : Int64))) + ((0 : Int64) * ((0 : Int64) + (0 : Int64)))) + ((0 : Int64) * ((0 : Int64) + (0 : Int64))))))])) _
  refine XS.ifNo X5.here hx rfl (hb hby at_252) rfl ((if0 _ _).trans (teq hc252).2) ?_
  show Steps p.tables e below (T5.setTop (mkF m 255 #[.val (.long p1), .second, .val (.long p2), .second, .val (.long p3), .second, .val (.int sl), .val (.int ct), .val (.int cl), .val (.int cc), .val (.ref g), .val (.long (0 : Int64)), .second, .val (.long (0 : Int64)), .second, .val (.long (0 : Int64)), .second, .val (.long (0 : Int64)), .second, .val (.long (0 : Int64)), .second, .val (.long (0 : Int64)), .second, .val (.long ((((0 : Int64) * ((0 : Int64) + (0 : Int64))) + ((0 : Int64) * ((0 : Int64) + (0 : Int64)))) + ((0 : Int64) * ((0 : Int64) + (0 : Int64))))), .second] [])) _
  refine XS.aload X5.here hx rfl (hb hby at_255) rfl rfl ?_
  show Steps p.tables e below (T5.setTop (mkF m 257 #[.val (.long p1), .second, .val (.long p2), .second, .val (.long p3), .second, .val (.int sl), .val (.int ct), .val (.int cl), .val (.int cc), .val (.ref g), .val (.long (0 : Int64)), .second, .val (.long (0 : Int64)), .second, .val (.long (0 : Int64)), .second, .val (.long (0 : Int64)), .second, .val (.long (0 : Int64)), .second, .val (.long (0 : Int64)), .second, .val (.long ((((0 : Int64) * ((0 : Int64) + (0 : Int64))) + ((0 : Int64) * ((0 : Int64) + (0 : Int64)))) + ((0 : Int64) * ((0 : Int64) + (0 : Int64))))), .second] [(.ref g)])) _
  refine st6.trans ?_
  show Steps p.tables e below (T6.setTop (mkF m 260 #[.val (.long p1), .second, .val (.long p2), .second, .val (.long p3), .second, .val (.int sl), .val (.int ct), .val (.int cl), .val (.int cc), .val (.ref g), .val (.long (0 : Int64)), .second, .val (.long (0 : Int64)), .second, .val (.long (0 : Int64)), .second, .val (.long (0 : Int64)), .second, .val (.long (0 : Int64)), .second, .val (.long (0 : Int64)), .second, .val (.long ((((0 : Int64) * ((0 : Int64) + (0 : Int64))) + ((0 : Int64) * ((0 : Int64) + (0 : Int64)))) + ((0 : Int64) * ((0 : Int64) + (0 : Int64))))), .second] [(.int (Int32.ofNat ([] : List (Int64 × Int64)).length))])) _
  refine XS.iload X6.here hx rfl (hb hby at_260) rfl ?_
  show Steps p.tables e below (T6.setTop (mkF m 262 #[.val (.long p1), .second, .val (.long p2), .second, .val (.long p3), .second, .val (.int sl), .val (.int ct), .val (.int cl), .val (.int cc), .val (.ref g), .val (.long (0 : Int64)), .second, .val (.long (0 : Int64)), .second, .val (.long (0 : Int64)), .second, .val (.long (0 : Int64)), .second, .val (.long (0 : Int64)), .second, .val (.long (0 : Int64)), .second, .val (.long ((((0 : Int64) * ((0 : Int64) + (0 : Int64))) + ((0 : Int64) * ((0 : Int64) + (0 : Int64)))) + ((0 : Int64) * ((0 : Int64) + (0 : Int64))))), .second] [(.int ct), (.int (Int32.ofNat ([] : List (Int64 × Int64)).length))])) _
  refine XS.icmpNo X6.here hx rfl (hb hby at_262) rfl (teq hc262).2 ?_
  show Steps p.tables e below (T6.setTop (mkF m 265 #[.val (.long p1), .second, .val (.long p2), .second, .val (.long p3), .second, .val (.int sl), .val (.int ct), .val (.int cl), .val (.int cc), .val (.ref g), .val (.long (0 : Int64)), .second, .val (.long (0 : Int64)), .second, .val (.long (0 : Int64)), .second, .val (.long (0 : Int64)), .second, .val (.long (0 : Int64)), .second, .val (.long (0 : Int64)), .second, .val (.long ((((0 : Int64) * ((0 : Int64) + (0 : Int64))) + ((0 : Int64) * ((0 : Int64) + (0 : Int64)))) + ((0 : Int64) * ((0 : Int64) + (0 : Int64))))), .second] [])) _
  refine XS.iconst X6.here hx rfl (hb hby at_265) ?_
  show Steps p.tables e below (T6.setTop (mkF m 266 #[.val (.long p1), .second, .val (.long p2), .second, .val (.long p3), .second, .val (.int sl), .val (.int ct), .val (.int cl), .val (.int cc), .val (.ref g), .val (.long (0 : Int64)), .second, .val (.long (0 : Int64)), .second, .val (.long (0 : Int64)), .second, .val (.long (0 : Int64)), .second, .val (.long (0 : Int64)), .second, .val (.long (0 : Int64)), .second, .val (.long ((((0 : Int64) * ((0 : Int64) + (0 : Int64))) + ((0 : Int64) * ((0 : Int64) + (0 : Int64)))) + ((0 : Int64) * ((0 : Int64) + (0 : Int64))))), .second] [(.int (1 : Int32))])) _
  refine XS.goto X6.here hx rfl (pc0 := 266) (pc' := 270) rfl (hb hby at_266) (by decide) (by decide) ?_
  exact kt

set_option maxRecDepth 65536 in
set_option maxHeartbeats 40000000 in
theorem own_d1 {p : Program} {l : Launch} {e : Env} {s : State} {m : MethodId} {args : Array Value} {below : List Frame} {meth : Method} {c : Code} {T0 : State} {locs : List Loc} {Z : State} {a0 : Array Value} {h0 : Heap} {n0 : Nat} (p1 : Int64) (p2 : Int64) (p3 : Int64) (sl : Int32) (ct : Int32) (cl : Int32) (cc : Int32) (g : Addr)
    (X0 : Stand p l e room_1 s m args below meth c T0 locs 10 49) (hx : p.tables.exec = Jvm.exec) (hZ : Z.Warmed39 s.vm) (hw : ∀ d ∈ tables_1, d.before a0 Z = true) (hby : c.code = code) (hml : c.maxLocals = 25) (hown : s.vm.findClass "com/example/fast_tangle/fasttangle/GroupsPairsPinLaw" = some m.cls) (e0 : T0.heap = h0) (Z0 : n0 ≤ h0.size) (N0 : Fr n0 locs) (hc103 : ¬ (ct < (1 : Int32))) (hc140 : ct < (2 : Int32)) (hc177 : ct < (3 : Int32)) (hc252 : (lcmpW (own_pairs (([] : List (Int64 × Int64)) ++ [((own_hi p1), (own_lo p1) - (own_hi p1))])) ((((own_hi p1) * ((0 : Int64) + (0 : Int64))) + ((0 : Int64) * (((own_lo p1) - (own_hi p1)) + (0 : Int64)))) + ((0 : Int64) * (((own_lo p1) - (own_hi p1)) + (0 : Int64))))) = (0 : Int32)) (hc262 : (Int32.ofNat (([] : List (Int64 × Int64)) ++ [((own_hi p1), (own_lo p1) - (own_hi p1))]).length) = ct) (len : Nat) (g_g : n0 ≤ g) (G : Gr Z h0 g n0 len []) (l2 : 2 ≤ len) (l7 : len ≤ 7) :
    ∃ (T' : State) (locs' : List Loc), Stand p l e room_1 s m args below meth c T' locs' 13 61 ∧ Fr n0 locs' ∧ True ∧
      ∀ target, Steps p.tables e below (T'.setTop (mkF m 270 #[.val (.long p1), .second, .val (.long p2), .second, .val (.long p3), .second, .val (.int sl), .val (.int ct), .val (.int cl), .val (.int cc), .val (.ref g), .val (.long (own_hi p1)), .second, .val (.long ((own_lo p1) - (own_hi p1))), .second, .val (.long (0 : Int64)), .second, .val (.long (0 : Int64)), .second, .val (.long (0 : Int64)), .second, .val (.long (0 : Int64)), .second, .val (.long ((((own_hi p1) * ((0 : Int64) + (0 : Int64))) + ((0 : Int64) * (((own_lo p1) - (own_hi p1)) + (0 : Int64)))) + ((0 : Int64) * (((own_lo p1) - (own_hi p1)) + (0 : Int64))))), .second] [(.int (1 : Int32))])) target → Steps p.tables e below (T0.setTop (mkF m 82 #[.val (.long p1), .second, .val (.long p2), .second, .val (.long p3), .second, .val (.int sl), .val (.int ct), .val (.int cl), .val (.int cc), .val (.ref g), .unset, .unset, .unset, .unset, .unset, .unset, .unset, .unset, .unset, .unset, .unset, .unset, .unset, .unset] [])) target := by
  obtain ⟨_, _, ⟨T5, L5, k5, n5⟩, -, X5, ⟨Lc5, hQ5, l5, y5, z5⟩, st5⟩ := Jvm.LawKit.callS X0 hx (y := (⟨"com/example/fast_tangle/fasttangle/GroupsPairsPinLaw", "hi", "(J)J"⟩ : MethodName)) hown (mvT hZ (hw _ (List.mem_of_getElem? (i := 21) rfl))) (mvT hZ (hw _ (List.mem_of_getElem? (i := 22) rfl))) (mvT hZ (hw _ (List.mem_of_getElem? (i := 23) rfl))) (mvT hZ (hw _ (List.mem_of_getElem? (i := 24) rfl))) (by decide) (backOf (W := 2) (rm4 l Z a0 hw [] p1 h0 n0 Z0) hZ (hw _ (List.mem_of_getElem? (i := 24) rfl)) (hw _ (List.mem_of_getElem? (i := 23) rfl)) (by decide) (by decide)) (g := (mkF m 110 #[.val (.long p1), .second, .val (.long p2), .second, .val (.long p3), .second, .val (.int sl), .val (.int ct), .val (.int cl), .val (.int cc), .val (.ref g), .val (.long (0 : Int64)), .second, .val (.long (0 : Int64)), .second, .val (.long (0 : Int64)), .second, .val (.long (0 : Int64)), .second, .val (.long (0 : Int64)), .second, .val (.long (0 : Int64)), .second, .unset, .unset] [(.long p1), (.int (0 : Int32)), (.ref g)])) rfl (by rw [hml]; rfl) (argsL := [(.long p1)]) (rest := [(.int (0 : Int32)), (.ref g)]) (lenOf pd_0_3 rfl) rfl (by show 2 * 0 + _ ≤ _; exact Nat.le_of_eq rfl) (hb hby at_110) (fun _ _ => ⟨rfl, e0, (Nat.le_of_ble_eq_true rfl), (Nat.le_of_ble_eq_true rfl)⟩)
  dsimp only [Pt.U, Pt.locs, Pt.cells, Pt.slots] at X5 l5 y5 z5 st5 hQ5
  subst l5 y5 z5
  obtain ⟨rfl, N5q, e5q⟩ := hQ5
  have N5 := Fr.app N0 N5q
  have Z5 : n0 ≤ T5.heap.size := by rw [e5q]; exact Z0
  have G5 : Gr Z T5.heap g n0 len ([] : List (Int64 × Int64)) := by rw [e5q]; exact G
  obtain ⟨_, _, ⟨T6, L6, k6, n6⟩, -, X6, ⟨Lc6, hQ6, l6, y6, z6⟩, st6⟩ := Jvm.LawKit.callS X5 hx (y := (⟨"com/example/fast_tangle/fasttangle/GroupsPairsPinLaw", "lo", "(J)J"⟩ : MethodName)) hown (mvT hZ (hw _ (List.mem_of_getElem? (i := 25) rfl))) (mvT hZ (hw _ (List.mem_of_getElem? (i := 26) rfl))) (mvT hZ (hw _ (List.mem_of_getElem? (i := 23) rfl))) (mvT hZ (hw _ (List.mem_of_getElem? (i := 27) rfl))) (by decide) (backOf (W := 4) (rm5 l Z a0 hw [] p1 T5.heap n0 Z5) hZ (hw _ (List.mem_of_getElem? (i := 27) rfl)) (hw _ (List.mem_of_getElem? (i := 23) rfl)) (by decide) (by decide)) (g := (mkF m 114 #[.val (.long p1), .second, .val (.long p2), .second, .val (.long p3), .second, .val (.int sl), .val (.int ct), .val (.int cl), .val (.int cc), .val (.ref g), .val (.long (0 : Int64)), .second, .val (.long (0 : Int64)), .second, .val (.long (0 : Int64)), .second, .val (.long (0 : Int64)), .second, .val (.long (0 : Int64)), .second, .val (.long (0 : Int64)), .second, .unset, .unset] [(.long p1), (.long (own_hi p1)), (.int (0 : Int32)), (.ref g)])) rfl (by rw [hml]; rfl) (argsL := [(.long p1)]) (rest := [(.long (own_hi p1)), (.int (0 : Int32)), (.ref g)]) (lenOf pd_0_3 rfl) rfl (by show 2 * 0 + _ ≤ _; exact Nat.le_of_eq rfl) (hb hby at_114) (fun _ _ => ⟨rfl, rfl, (Nat.le_of_ble_eq_true rfl), (Nat.le_of_ble_eq_true rfl)⟩)
  dsimp only [Pt.U, Pt.locs, Pt.cells, Pt.slots] at X6 l6 y6 z6 st6 hQ6
  subst l6 y6 z6
  obtain ⟨rfl, N6q, e6q⟩ := hQ6
  have N6 := Fr.app N5 N6q
  have Z6 : n0 ≤ T6.heap.size := by rw [e6q]; exact Z5
  have G6 : Gr Z T6.heap g n0 len ([] : List (Int64 × Int64)) := by rw [e6q]; exact G5
  obtain ⟨cq7, kq7, q7a, q7b, q7c⟩ := isOf hZ rfl G6.1
  obtain ⟨_, _, ⟨T7, L7, k7, n7⟩, -, X7, ⟨Lc7, hQ7, l7, y7, z7⟩, st7⟩ := X6.virtualBack hx (y := (⟨"com/example/fast_tangle/fasttangle/PartingPairs$Groups", "add", "(IJJ)V"⟩ : MethodName)) (z := (⟨"com/example/fast_tangle/fasttangle/PartingPairs$Groups", "add", "(IJJ)V"⟩ : MethodName)) hown (mvT hZ (hw _ (List.mem_of_getElem? (i := 28) rfl))) (mvT hZ (hw _ (List.mem_of_getElem? (i := 29) rfl))) (notFace_of_selects (args := #[]) (mvT hZ (hw _ (List.mem_of_getElem? (i := 31) rfl)))) (mvT hZ (hw _ (List.mem_of_getElem? (i := 31) rfl))) (mvT hZ (hw _ (List.mem_of_getElem? (i := 30) rfl))) (by decide) (backOf (W := 0) (rm6 l Z a0 hw [] g (0 : Int32) (own_hi p1) (own_lo p1) len ([] : List (Int64 × Int64)) T6.heap n0 Z6 g_g G6 l2 l7 (Nat.le_of_ble_eq_true rfl)) hZ (hw _ (List.mem_of_getElem? (i := 32) rfl)) (hw _ (List.mem_of_getElem? (i := 2) rfl)) (by decide) (by decide)) q7a q7c (g := (mkF m 117 #[.val (.long p1), .second, .val (.long p2), .second, .val (.long p3), .second, .val (.int sl), .val (.int ct), .val (.int cl), .val (.int cc), .val (.ref g), .val (.long (0 : Int64)), .second, .val (.long (0 : Int64)), .second, .val (.long (0 : Int64)), .second, .val (.long (0 : Int64)), .second, .val (.long (0 : Int64)), .second, .val (.long (0 : Int64)), .second, .unset, .unset] [(.long (own_lo p1)), (.long (own_hi p1)), (.int (0 : Int32)), (.ref g)])) rfl (by rw [hml]; rfl) (Steps.refl _) (argsL := [(.int (0 : Int32)), (.long (own_hi p1)), (.long (own_lo p1))]) (rest := []) (lenOf pd_0_4 rfl) rfl (by show 2 * 0 + _ ≤ _; exact Nat.le_of_eq rfl) (hb hby at_117) (fun _ _ => ⟨rfl, rfl, (Nat.le_of_ble_eq_true rfl), (Nat.le_of_ble_eq_true rfl)⟩)
  dsimp only [Pt.U, Pt.locs, Pt.cells, Pt.slots] at X7 l7 y7 z7 st7 hQ7
  subst l7 y7 z7
  obtain ⟨rfl, N7q, Z7, len7, l2_7, l7_7, lx_7, G7⟩ := hQ7
  have N7 := Fr.app N6 N7q
  obtain ⟨_, _, ⟨T8, L8, k8, n8⟩, -, X8, ⟨Lc8, hQ8, l8, y8, z8⟩, st8⟩ := Jvm.LawKit.callS X7 hx (y := (⟨"com/example/fast_tangle/fasttangle/GroupsPairsPinLaw", "hi", "(J)J"⟩ : MethodName)) hown (mvT hZ (hw _ (List.mem_of_getElem? (i := 21) rfl))) (mvT hZ (hw _ (List.mem_of_getElem? (i := 22) rfl))) (mvT hZ (hw _ (List.mem_of_getElem? (i := 23) rfl))) (mvT hZ (hw _ (List.mem_of_getElem? (i := 24) rfl))) (by decide) (backOf (W := 0) (rm4 l Z a0 hw [] p1 T7.heap n0 Z7) hZ (hw _ (List.mem_of_getElem? (i := 24) rfl)) (hw _ (List.mem_of_getElem? (i := 23) rfl)) (by decide) (by decide)) (g := (mkF m 121 #[.val (.long p1), .second, .val (.long p2), .second, .val (.long p3), .second, .val (.int sl), .val (.int ct), .val (.int cl), .val (.int cc), .val (.ref g), .val (.long (0 : Int64)), .second, .val (.long (0 : Int64)), .second, .val (.long (0 : Int64)), .second, .val (.long (0 : Int64)), .second, .val (.long (0 : Int64)), .second, .val (.long (0 : Int64)), .second, .unset, .unset] [(.long p1)])) rfl (by rw [hml]; rfl) (argsL := [(.long p1)]) (rest := []) (lenOf pd_0_3 rfl) rfl (by show 2 * 0 + _ ≤ _; exact Nat.le_of_eq rfl) (hb hby at_121) (fun _ _ => ⟨rfl, rfl, (Nat.le_of_ble_eq_true rfl), (Nat.le_of_ble_eq_true rfl)⟩)
  dsimp only [Pt.U, Pt.locs, Pt.cells, Pt.slots] at X8 l8 y8 z8 st8 hQ8
  subst l8 y8 z8
  obtain ⟨rfl, N8q, e8q⟩ := hQ8
  have N8 := Fr.app N7 N8q
  have Z8 : n0 ≤ T8.heap.size := by rw [e8q]; exact Z7
  have G8 : Gr Z T8.heap g n0 len7 (([] : List (Int64 × Int64)) ++ [((own_hi p1), (own_lo p1) - (own_hi p1))]) := by rw [e8q]; exact G7
  obtain ⟨_, _, ⟨T9, L9, k9, n9⟩, -, X9, ⟨Lc9, hQ9, l9, y9, z9⟩, st9⟩ := Jvm.LawKit.callS X8 hx (y := (⟨"com/example/fast_tangle/fasttangle/GroupsPairsPinLaw", "lo", "(J)J"⟩ : MethodName)) hown (mvT hZ (hw _ (List.mem_of_getElem? (i := 25) rfl))) (mvT hZ (hw _ (List.mem_of_getElem? (i := 26) rfl))) (mvT hZ (hw _ (List.mem_of_getElem? (i := 23) rfl))) (mvT hZ (hw _ (List.mem_of_getElem? (i := 27) rfl))) (by decide) (backOf (W := 0) (rm5 l Z a0 hw [] p1 T8.heap n0 Z8) hZ (hw _ (List.mem_of_getElem? (i := 27) rfl)) (hw _ (List.mem_of_getElem? (i := 23) rfl)) (by decide) (by decide)) (g := (mkF m 127 #[.val (.long p1), .second, .val (.long p2), .second, .val (.long p3), .second, .val (.int sl), .val (.int ct), .val (.int cl), .val (.int cc), .val (.ref g), .val (.long (own_hi p1)), .second, .val (.long (0 : Int64)), .second, .val (.long (0 : Int64)), .second, .val (.long (0 : Int64)), .second, .val (.long (0 : Int64)), .second, .val (.long (0 : Int64)), .second, .unset, .unset] [(.long p1)])) rfl (by rw [hml]; rfl) (argsL := [(.long p1)]) (rest := []) (lenOf pd_0_3 rfl) rfl (by show 2 * 0 + _ ≤ _; exact Nat.le_of_eq rfl) (hb hby at_127) (fun _ _ => ⟨rfl, rfl, (Nat.le_of_ble_eq_true rfl), (Nat.le_of_ble_eq_true rfl)⟩)
  dsimp only [Pt.U, Pt.locs, Pt.cells, Pt.slots] at X9 l9 y9 z9 st9 hQ9
  subst l9 y9 z9
  obtain ⟨rfl, N9q, e9q⟩ := hQ9
  have N9 := Fr.app N8 N9q
  have Z9 : n0 ≤ T9.heap.size := by rw [e9q]; exact Z8
  have G9 : Gr Z T9.heap g n0 len7 (([] : List (Int64 × Int64)) ++ [((own_hi p1), (own_lo p1) - (own_hi p1))]) := by rw [e9q]; exact G8
  obtain ⟨_, _, ⟨T10, L10, k10, n10⟩, -, X10, ⟨Lc10, hQ10, l10, y10, z10⟩, st10⟩ := Jvm.LawKit.callS X9 hx (y := (⟨"com/example/fast_tangle/fasttangle/GroupsPairsPinLaw", "hi", "(J)J"⟩ : MethodName)) hown (mvT hZ (hw _ (List.mem_of_getElem? (i := 21) rfl))) (mvT hZ (hw _ (List.mem_of_getElem? (i := 22) rfl))) (mvT hZ (hw _ (List.mem_of_getElem? (i := 23) rfl))) (mvT hZ (hw _ (List.mem_of_getElem? (i := 24) rfl))) (by decide) (backOf (W := 2) (rm4 l Z a0 hw [] p1 T9.heap n0 Z9) hZ (hw _ (List.mem_of_getElem? (i := 24) rfl)) (hw _ (List.mem_of_getElem? (i := 23) rfl)) (by decide) (by decide)) (g := (mkF m 131 #[.val (.long p1), .second, .val (.long p2), .second, .val (.long p3), .second, .val (.int sl), .val (.int ct), .val (.int cl), .val (.int cc), .val (.ref g), .val (.long (own_hi p1)), .second, .val (.long (0 : Int64)), .second, .val (.long (0 : Int64)), .second, .val (.long (0 : Int64)), .second, .val (.long (0 : Int64)), .second, .val (.long (0 : Int64)), .second, .unset, .unset] [(.long p1), (.long (own_lo p1))])) rfl (by rw [hml]; rfl) (argsL := [(.long p1)]) (rest := [(.long (own_lo p1))]) (lenOf pd_0_3 rfl) rfl (by show 2 * 0 + _ ≤ _; exact Nat.le_of_eq rfl) (hb hby at_131) (fun _ _ => ⟨rfl, rfl, (Nat.le_of_ble_eq_true rfl), (Nat.le_of_ble_eq_true rfl)⟩)
  dsimp only [Pt.U, Pt.locs, Pt.cells, Pt.slots] at X10 l10 y10 z10 st10 hQ10
  subst l10 y10 z10
  obtain ⟨rfl, N10q, e10q⟩ := hQ10
  have N10 := Fr.app N9 N10q
  have Z10 : n0 ≤ T10.heap.size := by rw [e10q]; exact Z9
  have G10 : Gr Z T10.heap g n0 len7 (([] : List (Int64 × Int64)) ++ [((own_hi p1), (own_lo p1) - (own_hi p1))]) := by rw [e10q]; exact G9
  obtain ⟨cq11, kq11, q11a, q11b, q11c⟩ := isOf hZ rfl G10.1
  obtain ⟨_, _, ⟨T11, L11, k11, n11⟩, -, X11, ⟨Lc11, hQ11, l11, y11, z11⟩, st11⟩ := X10.virtualBack hx (y := (⟨"com/example/fast_tangle/fasttangle/PartingPairs$Groups", "pairs", "()J"⟩ : MethodName)) (z := (⟨"com/example/fast_tangle/fasttangle/PartingPairs$Groups", "pairs", "()J"⟩ : MethodName)) hown (mvT hZ (hw _ (List.mem_of_getElem? (i := 35) rfl))) (mvT hZ (hw _ (List.mem_of_getElem? (i := 36) rfl))) (notFace_of_selects (args := #[]) (mvT hZ (hw _ (List.mem_of_getElem? (i := 38) rfl)))) (mvT hZ (hw _ (List.mem_of_getElem? (i := 38) rfl))) (mvT hZ (hw _ (List.mem_of_getElem? (i := 37) rfl))) (by decide) (backOf (W := 0) (rm7 l Z a0 hw [] g len7 (([] : List (Int64 × Int64)) ++ [((own_hi p1), (own_lo p1) - (own_hi p1))]) T10.heap n0 Z10 G10 l7_7 lx_7) hZ (hw _ (List.mem_of_getElem? (i := 39) rfl)) (hw _ (List.mem_of_getElem? (i := 2) rfl)) (by decide) (by decide)) q11a q11c (g := (mkF m 246 #[.val (.long p1), .second, .val (.long p2), .second, .val (.long p3), .second, .val (.int sl), .val (.int ct), .val (.int cl), .val (.int cc), .val (.ref g), .val (.long (own_hi p1)), .second, .val (.long ((own_lo p1) - (own_hi p1))), .second, .val (.long (0 : Int64)), .second, .val (.long (0 : Int64)), .second, .val (.long (0 : Int64)), .second, .val (.long (0 : Int64)), .second, .val (.long ((((own_hi p1) * ((0 : Int64) + (0 : Int64))) + ((0 : Int64) * (((own_lo p1) - (own_hi p1)) + (0 : Int64)))) + ((0 : Int64) * (((own_lo p1) - (own_hi p1)) + (0 : Int64))))), .second] [(.ref g)])) rfl (by rw [hml]; rfl) (Steps.refl _) (argsL := []) (rest := []) (lenOf pd_0_5 rfl) rfl (by show 2 * 0 + _ ≤ _; exact Nat.le_of_eq rfl) (hb hby at_246) (fun _ _ => ⟨rfl, rfl, (Nat.le_of_ble_eq_true rfl), (Nat.le_of_ble_eq_true rfl)⟩)
  dsimp only [Pt.U, Pt.locs, Pt.cells, Pt.slots] at X11 l11 y11 z11 st11 hQ11
  subst l11 y11 z11
  obtain ⟨rfl, N11q, e11q⟩ := hQ11
  have N11 := Fr.app N10 N11q
  have Z11 : n0 ≤ T11.heap.size := by rw [e11q]; exact Z10
  have G11 : Gr Z T11.heap g n0 len7 (([] : List (Int64 × Int64)) ++ [((own_hi p1), (own_lo p1) - (own_hi p1))]) := by rw [e11q]; exact G10
  obtain ⟨cq12, kq12, q12a, q12b, q12c⟩ := isOf hZ rfl G11.1
  obtain ⟨_, _, ⟨T12, L12, k12, n12⟩, -, X12, ⟨Lc12, hQ12, l12, y12, z12⟩, st12⟩ := X11.virtualBack hx (y := (⟨"com/example/fast_tangle/fasttangle/PartingPairs$Groups", "size", "()I"⟩ : MethodName)) (z := (⟨"com/example/fast_tangle/fasttangle/PartingPairs$Groups", "size", "()I"⟩ : MethodName)) hown (mvT hZ (hw _ (List.mem_of_getElem? (i := 40) rfl))) (mvT hZ (hw _ (List.mem_of_getElem? (i := 41) rfl))) (notFace_of_selects (args := #[]) (mvT hZ (hw _ (List.mem_of_getElem? (i := 43) rfl)))) (mvT hZ (hw _ (List.mem_of_getElem? (i := 43) rfl))) (mvT hZ (hw _ (List.mem_of_getElem? (i := 42) rfl))) (by decide) (backOf (W := 0) (rm8 l Z a0 hw [] g (Int32.ofNat (([] : List (Int64 × Int64)) ++ [((own_hi p1), (own_lo p1) - (own_hi p1))]).length) T11.heap n0 Z11 G11.2.1) hZ (hw _ (List.mem_of_getElem? (i := 44) rfl)) (hw _ (List.mem_of_getElem? (i := 2) rfl)) (by decide) (by decide)) q12a q12c (g := (mkF m 257 #[.val (.long p1), .second, .val (.long p2), .second, .val (.long p3), .second, .val (.int sl), .val (.int ct), .val (.int cl), .val (.int cc), .val (.ref g), .val (.long (own_hi p1)), .second, .val (.long ((own_lo p1) - (own_hi p1))), .second, .val (.long (0 : Int64)), .second, .val (.long (0 : Int64)), .second, .val (.long (0 : Int64)), .second, .val (.long (0 : Int64)), .second, .val (.long ((((own_hi p1) * ((0 : Int64) + (0 : Int64))) + ((0 : Int64) * (((own_lo p1) - (own_hi p1)) + (0 : Int64)))) + ((0 : Int64) * (((own_lo p1) - (own_hi p1)) + (0 : Int64))))), .second] [(.ref g)])) rfl (by rw [hml]; rfl) (Steps.refl _) (argsL := []) (rest := []) (lenOf pd_0_6 rfl) rfl (by show 2 * 0 + _ ≤ _; exact Nat.le_of_eq rfl) (hb hby at_257) (fun _ _ => ⟨rfl, rfl, (Nat.le_of_ble_eq_true rfl), (Nat.le_of_ble_eq_true rfl)⟩)
  dsimp only [Pt.U, Pt.locs, Pt.cells, Pt.slots] at X12 l12 y12 z12 st12 hQ12
  subst l12 y12 z12
  obtain ⟨rfl, N12q, e12q⟩ := hQ12
  have N12 := Fr.app N11 N12q
  refine ⟨T12, _, X12, N12, trivial, fun target kt => ?_⟩
  show Steps p.tables e below (T0.setTop (mkF m 82 #[.val (.long p1), .second, .val (.long p2), .second, .val (.long p3), .second, .val (.int sl), .val (.int ct), .val (.int cl), .val (.int cc), .val (.ref g), .unset, .unset, .unset, .unset, .unset, .unset, .unset, .unset, .unset, .unset, .unset, .unset, .unset, .unset] [])) _
  refine XS.lconst X0.here hx rfl (hb hby at_82) ?_
  show Steps p.tables e below (T0.setTop (mkF m 83 #[.val (.long p1), .second, .val (.long p2), .second, .val (.long p3), .second, .val (.int sl), .val (.int ct), .val (.int cl), .val (.int cc), .val (.ref g), .unset, .unset, .unset, .unset, .unset, .unset, .unset, .unset, .unset, .unset, .unset, .unset, .unset, .unset] [(.long (0 : Int64))])) _
  refine XS.lstore X0.here hx rfl (hb hby at_83) rfl (l' := #[.val (.long p1), .second, .val (.long p2), .second, .val (.long p3), .second, .val (.int sl), .val (.int ct), .val (.int cl), .val (.int cc), .val (.ref g), .val (.long (0 : Int64)), .second, .unset, .unset, .unset, .unset, .unset, .unset, .unset, .unset, .unset, .unset, .unset, .unset]) rfl ?_
  show Steps p.tables e below (T0.setTop (mkF m 85 #[.val (.long p1), .second, .val (.long p2), .second, .val (.long p3), .second, .val (.int sl), .val (.int ct), .val (.int cl), .val (.int cc), .val (.ref g), .val (.long (0 : Int64)), .second, .unset, .unset, .unset, .unset, .unset, .unset, .unset, .unset, .unset, .unset, .unset, .unset] [])) _
  refine XS.lconst X0.here hx rfl (hb hby at_85) ?_
  show Steps p.tables e below (T0.setTop (mkF m 86 #[.val (.long p1), .second, .val (.long p2), .second, .val (.long p3), .second, .val (.int sl), .val (.int ct), .val (.int cl), .val (.int cc), .val (.ref g), .val (.long (0 : Int64)), .second, .unset, .unset, .unset, .unset, .unset, .unset, .unset, .unset, .unset, .unset, .unset, .unset] [(.long (0 : Int64))])) _
  refine XS.lstore X0.here hx rfl (hb hby at_86) rfl (l' := #[.val (.long p1), .second, .val (.long p2), .second, .val (.long p3), .second, .val (.int sl), .val (.int ct), .val (.int cl), .val (.int cc), .val (.ref g), .val (.long (0 : Int64)), .second, .val (.long (0 : Int64)), .second, .unset, .unset, .unset, .unset, .unset, .unset, .unset, .unset, .unset, .unset]) rfl ?_
  show Steps p.tables e below (T0.setTop (mkF m 88 #[.val (.long p1), .second, .val (.long p2), .second, .val (.long p3), .second, .val (.int sl), .val (.int ct), .val (.int cl), .val (.int cc), .val (.ref g), .val (.long (0 : Int64)), .second, .val (.long (0 : Int64)), .second, .unset, .unset, .unset, .unset, .unset, .unset, .unset, .unset, .unset, .unset] [])) _
  refine XS.lconst X0.here hx rfl (hb hby at_88) ?_
  show Steps p.tables e below (T0.setTop (mkF m 89 #[.val (.long p1), .second, .val (.long p2), .second, .val (.long p3), .second, .val (.int sl), .val (.int ct), .val (.int cl), .val (.int cc), .val (.ref g), .val (.long (0 : Int64)), .second, .val (.long (0 : Int64)), .second, .unset, .unset, .unset, .unset, .unset, .unset, .unset, .unset, .unset, .unset] [(.long (0 : Int64))])) _
  refine XS.lstore X0.here hx rfl (hb hby at_89) rfl (l' := #[.val (.long p1), .second, .val (.long p2), .second, .val (.long p3), .second, .val (.int sl), .val (.int ct), .val (.int cl), .val (.int cc), .val (.ref g), .val (.long (0 : Int64)), .second, .val (.long (0 : Int64)), .second, .val (.long (0 : Int64)), .second, .unset, .unset, .unset, .unset, .unset, .unset, .unset, .unset]) rfl ?_
  show Steps p.tables e below (T0.setTop (mkF m 91 #[.val (.long p1), .second, .val (.long p2), .second, .val (.long p3), .second, .val (.int sl), .val (.int ct), .val (.int cl), .val (.int cc), .val (.ref g), .val (.long (0 : Int64)), .second, .val (.long (0 : Int64)), .second, .val (.long (0 : Int64)), .second, .unset, .unset, .unset, .unset, .unset, .unset, .unset, .unset] [])) _
  refine XS.lconst X0.here hx rfl (hb hby at_91) ?_
  show Steps p.tables e below (T0.setTop (mkF m 92 #[.val (.long p1), .second, .val (.long p2), .second, .val (.long p3), .second, .val (.int sl), .val (.int ct), .val (.int cl), .val (.int cc), .val (.ref g), .val (.long (0 : Int64)), .second, .val (.long (0 : Int64)), .second, .val (.long (0 : Int64)), .second, .unset, .unset, .unset, .unset, .unset, .unset, .unset, .unset] [(.long (0 : Int64))])) _
  refine XS.lstore X0.here hx rfl (hb hby at_92) rfl (l' := #[.val (.long p1), .second, .val (.long p2), .second, .val (.long p3), .second, .val (.int sl), .val (.int ct), .val (.int cl), .val (.int cc), .val (.ref g), .val (.long (0 : Int64)), .second, .val (.long (0 : Int64)), .second, .val (.long (0 : Int64)), .second, .val (.long (0 : Int64)), .second, .unset, .unset, .unset, .unset, .unset, .unset]) rfl ?_
  show Steps p.tables e below (T0.setTop (mkF m 94 #[.val (.long p1), .second, .val (.long p2), .second, .val (.long p3), .second, .val (.int sl), .val (.int ct), .val (.int cl), .val (.int cc), .val (.ref g), .val (.long (0 : Int64)), .second, .val (.long (0 : Int64)), .second, .val (.long (0 : Int64)), .second, .val (.long (0 : Int64)), .second, .unset, .unset, .unset, .unset, .unset, .unset] [])) _
  refine XS.lconst X0.here hx rfl (hb hby at_94) ?_
  show Steps p.tables e below (T0.setTop (mkF m 95 #[.val (.long p1), .second, .val (.long p2), .second, .val (.long p3), .second, .val (.int sl), .val (.int ct), .val (.int cl), .val (.int cc), .val (.ref g), .val (.long (0 : Int64)), .second, .val (.long (0 : Int64)), .second, .val (.long (0 : Int64)), .second, .val (.long (0 : Int64)), .second, .unset, .unset, .unset, .unset, .unset, .unset] [(.long (0 : Int64))])) _
  refine XS.lstore X0.here hx rfl (hb hby at_95) rfl (l' := #[.val (.long p1), .second, .val (.long p2), .second, .val (.long p3), .second, .val (.int sl), .val (.int ct), .val (.int cl), .val (.int cc), .val (.ref g), .val (.long (0 : Int64)), .second, .val (.long (0 : Int64)), .second, .val (.long (0 : Int64)), .second, .val (.long (0 : Int64)), .second, .val (.long (0 : Int64)), .second, .unset, .unset, .unset, .unset]) rfl ?_
  show Steps p.tables e below (T0.setTop (mkF m 97 #[.val (.long p1), .second, .val (.long p2), .second, .val (.long p3), .second, .val (.int sl), .val (.int ct), .val (.int cl), .val (.int cc), .val (.ref g), .val (.long (0 : Int64)), .second, .val (.long (0 : Int64)), .second, .val (.long (0 : Int64)), .second, .val (.long (0 : Int64)), .second, .val (.long (0 : Int64)), .second, .unset, .unset, .unset, .unset] [])) _
  refine XS.lconst X0.here hx rfl (hb hby at_97) ?_
  show Steps p.tables e below (T0.setTop (mkF m 98 #[.val (.long p1), .second, .val (.long p2), .second, .val (.long p3), .second, .val (.int sl), .val (.int ct), .val (.int cl), .val (.int cc), .val (.ref g), .val (.long (0 : Int64)), .second, .val (.long (0 : Int64)), .second, .val (.long (0 : Int64)), .second, .val (.long (0 : Int64)), .second, .val (.long (0 : Int64)), .second, .unset, .unset, .unset, .unset] [(.long (0 : Int64))])) _
  refine XS.lstore X0.here hx rfl (hb hby at_98) rfl (l' := #[.val (.long p1), .second, .val (.long p2), .second, .val (.long p3), .second, .val (.int sl), .val (.int ct), .val (.int cl), .val (.int cc), .val (.ref g), .val (.long (0 : Int64)), .second, .val (.long (0 : Int64)), .second, .val (.long (0 : Int64)), .second, .val (.long (0 : Int64)), .second, .val (.long (0 : Int64)), .second, .val (.long (0 : Int64)), .second, .unset, .unset]) rfl ?_
  show Steps p.tables e below (T0.setTop (mkF m 100 #[.val (.long p1), .second, .val (.long p2), .second, .val (.long p3), .second, .val (.int sl), .val (.int ct), .val (.int cl), .val (.int cc), .val (.ref g), .val (.long (0 : Int64)), .second, .val (.long (0 : Int64)), .second, .val (.long (0 : Int64)), .second, .val (.long (0 : Int64)), .second, .val (.long (0 : Int64)), .second, .val (.long (0 : Int64)), .second, .unset, .unset] [])) _
  refine XS.iload X0.here hx rfl (hb hby at_100) rfl ?_
  show Steps p.tables e below (T0.setTop (mkF m 102 #[.val (.long p1), .second, .val (.long p2), .second, .val (.long p3), .second, .val (.int sl), .val (.int ct), .val (.int cl), .val (.int cc), .val (.ref g), .val (.long (0 : Int64)), .second, .val (.long (0 : Int64)), .second, .val (.long (0 : Int64)), .second, .val (.long (0 : Int64)), .second, .val (.long (0 : Int64)), .second, .val (.long (0 : Int64)), .second, .unset, .unset] [(.int ct)])) _
  refine XS.iconst X0.here hx rfl (hb hby at_102) ?_
  show Steps p.tables e below (T0.setTop (mkF m 103 #[.val (.long p1), .second, .val (.long p2), .second, .val (.long p3), .second, .val (.int sl), .val (.int ct), .val (.int cl), .val (.int cc), .val (.ref g), .val (.long (0 : Int64)), .second, .val (.long (0 : Int64)), .second, .val (.long (0 : Int64)), .second, .val (.long (0 : Int64)), .second, .val (.long (0 : Int64)), .second, .val (.long (0 : Int64)), .second, .unset, .unset] [(.int (1 : Int32)), (.int ct)])) _
  refine XS.icmpNo X0.here hx rfl (hb hby at_103) rfl (flt hc103).1 ?_
  show Steps p.tables e below (T0.setTop (mkF m 106 #[.val (.long p1), .second, .val (.long p2), .second, .val (.long p3), .second, .val (.int sl), .val (.int ct), .val (.int cl), .val (.int cc), .val (.ref g), .val (.long (0 : Int64)), .second, .val (.long (0 : Int64)), .second, .val (.long (0 : Int64)), .second, .val (.long (0 : Int64)), .second, .val (.long (0 : Int64)), .second, .val (.long (0 : Int64)), .second, .unset, .unset] [])) _
  refine XS.aload X0.here hx rfl (hb hby at_106) rfl rfl ?_
  show Steps p.tables e below (T0.setTop (mkF m 108 #[.val (.long p1), .second, .val (.long p2), .second, .val (.long p3), .second, .val (.int sl), .val (.int ct), .val (.int cl), .val (.int cc), .val (.ref g), .val (.long (0 : Int64)), .second, .val (.long (0 : Int64)), .second, .val (.long (0 : Int64)), .second, .val (.long (0 : Int64)), .second, .val (.long (0 : Int64)), .second, .val (.long (0 : Int64)), .second, .unset, .unset] [(.ref g)])) _
  refine XS.iconst X0.here hx rfl (hb hby at_108) ?_
  show Steps p.tables e below (T0.setTop (mkF m 109 #[.val (.long p1), .second, .val (.long p2), .second, .val (.long p3), .second, .val (.int sl), .val (.int ct), .val (.int cl), .val (.int cc), .val (.ref g), .val (.long (0 : Int64)), .second, .val (.long (0 : Int64)), .second, .val (.long (0 : Int64)), .second, .val (.long (0 : Int64)), .second, .val (.long (0 : Int64)), .second, .val (.long (0 : Int64)), .second, .unset, .unset] [(.int (0 : Int32)), (.ref g)])) _
  refine XS.lloadN X0.here hx rfl (hb hby at_109) rfl ?_
  show Steps p.tables e below (T0.setTop (mkF m 110 #[.val (.long p1), .second, .val (.long p2), .second, .val (.long p3), .second, .val (.int sl), .val (.int ct), .val (.int cl), .val (.int cc), .val (.ref g), .val (.long (0 : Int64)), .second, .val (.long (0 : Int64)), .second, .val (.long (0 : Int64)), .second, .val (.long (0 : Int64)), .second, .val (.long (0 : Int64)), .second, .val (.long (0 : Int64)), .second, .unset, .unset] [(.long p1), (.int (0 : Int32)), (.ref g)])) _
  refine st5 _ ?_
  show Steps p.tables e below (T5.setTop (mkF m 113 #[.val (.long p1), .second, .val (.long p2), .second, .val (.long p3), .second, .val (.int sl), .val (.int ct), .val (.int cl), .val (.int cc), .val (.ref g), .val (.long (0 : Int64)), .second, .val (.long (0 : Int64)), .second, .val (.long (0 : Int64)), .second, .val (.long (0 : Int64)), .second, .val (.long (0 : Int64)), .second, .val (.long (0 : Int64)), .second, .unset, .unset] [(.long (own_hi p1)), (.int (0 : Int32)), (.ref g)])) _
  refine XS.lloadN X5.here hx rfl (hb hby at_113) rfl ?_
  show Steps p.tables e below (T5.setTop (mkF m 114 #[.val (.long p1), .second, .val (.long p2), .second, .val (.long p3), .second, .val (.int sl), .val (.int ct), .val (.int cl), .val (.int cc), .val (.ref g), .val (.long (0 : Int64)), .second, .val (.long (0 : Int64)), .second, .val (.long (0 : Int64)), .second, .val (.long (0 : Int64)), .second, .val (.long (0 : Int64)), .second, .val (.long (0 : Int64)), .second, .unset, .unset] [(.long p1), (.long (own_hi p1)), (.int (0 : Int32)), (.ref g)])) _
  refine st6 _ ?_
  show Steps p.tables e below (T6.setTop (mkF m 117 #[.val (.long p1), .second, .val (.long p2), .second, .val (.long p3), .second, .val (.int sl), .val (.int ct), .val (.int cl), .val (.int cc), .val (.ref g), .val (.long (0 : Int64)), .second, .val (.long (0 : Int64)), .second, .val (.long (0 : Int64)), .second, .val (.long (0 : Int64)), .second, .val (.long (0 : Int64)), .second, .val (.long (0 : Int64)), .second, .unset, .unset] [(.long (own_lo p1)), (.long (own_hi p1)), (.int (0 : Int32)), (.ref g)])) _
  refine st7.trans ?_
  show Steps p.tables e below (T7.setTop (mkF m 120 #[.val (.long p1), .second, .val (.long p2), .second, .val (.long p3), .second, .val (.int sl), .val (.int ct), .val (.int cl), .val (.int cc), .val (.ref g), .val (.long (0 : Int64)), .second, .val (.long (0 : Int64)), .second, .val (.long (0 : Int64)), .second, .val (.long (0 : Int64)), .second, .val (.long (0 : Int64)), .second, .val (.long (0 : Int64)), .second, .unset, .unset] [])) _
  refine XS.lloadN X7.here hx rfl (hb hby at_120) rfl ?_
  show Steps p.tables e below (T7.setTop (mkF m 121 #[.val (.long p1), .second, .val (.long p2), .second, .val (.long p3), .second, .val (.int sl), .val (.int ct), .val (.int cl), .val (.int cc), .val (.ref g), .val (.long (0 : Int64)), .second, .val (.long (0 : Int64)), .second, .val (.long (0 : Int64)), .second, .val (.long (0 : Int64)), .second, .val (.long (0 : Int64)), .second, .val (.long (0 : Int64)), .second, .unset, .unset] [(.long p1)])) _
  refine st8 _ ?_
  show Steps p.tables e below (T8.setTop (mkF m 124 #[.val (.long p1), .second, .val (.long p2), .second, .val (.long p3), .second, .val (.int sl), .val (.int ct), .val (.int cl), .val (.int cc), .val (.ref g), .val (.long (0 : Int64)), .second, .val (.long (0 : Int64)), .second, .val (.long (0 : Int64)), .second, .val (.long (0 : Int64)), .second, .val (.long (0 : Int64)), .second, .val (.long (0 : Int64)), .second, .unset, .unset] [(.long (own_hi p1))])) _
  refine XS.lstore X8.here hx rfl (hb hby at_124) rfl (l' := #[.val (.long p1), .second, .val (.long p2), .second, .val (.long p3), .second, .val (.int sl), .val (.int ct), .val (.int cl), .val (.int cc), .val (.ref g), .val (.long (own_hi p1)), .second, .val (.long (0 : Int64)), .second, .val (.long (0 : Int64)), .second, .val (.long (0 : Int64)), .second, .val (.long (0 : Int64)), .second, .val (.long (0 : Int64)), .second, .unset, .unset]) rfl ?_
  show Steps p.tables e below (T8.setTop (mkF m 126 #[.val (.long p1), .second, .val (.long p2), .second, .val (.long p3), .second, .val (.int sl), .val (.int ct), .val (.int cl), .val (.int cc), .val (.ref g), .val (.long (own_hi p1)), .second, .val (.long (0 : Int64)), .second, .val (.long (0 : Int64)), .second, .val (.long (0 : Int64)), .second, .val (.long (0 : Int64)), .second, .val (.long (0 : Int64)), .second, .unset, .unset] [])) _
  refine XS.lloadN X8.here hx rfl (hb hby at_126) rfl ?_
  show Steps p.tables e below (T8.setTop (mkF m 127 #[.val (.long p1), .second, .val (.long p2), .second, .val (.long p3), .second, .val (.int sl), .val (.int ct), .val (.int cl), .val (.int cc), .val (.ref g), .val (.long (own_hi p1)), .second, .val (.long (0 : Int64)), .second, .val (.long (0 : Int64)), .second, .val (.long (0 : Int64)), .second, .val (.long (0 : Int64)), .second, .val (.long (0 : Int64)), .second, .unset, .unset] [(.long p1)])) _
  refine st9 _ ?_
  show Steps p.tables e below (T9.setTop (mkF m 130 #[.val (.long p1), .second, .val (.long p2), .second, .val (.long p3), .second, .val (.int sl), .val (.int ct), .val (.int cl), .val (.int cc), .val (.ref g), .val (.long (own_hi p1)), .second, .val (.long (0 : Int64)), .second, .val (.long (0 : Int64)), .second, .val (.long (0 : Int64)), .second, .val (.long (0 : Int64)), .second, .val (.long (0 : Int64)), .second, .unset, .unset] [(.long (own_lo p1))])) _
  refine XS.lloadN X9.here hx rfl (hb hby at_130) rfl ?_
  show Steps p.tables e below (T9.setTop (mkF m 131 #[.val (.long p1), .second, .val (.long p2), .second, .val (.long p3), .second, .val (.int sl), .val (.int ct), .val (.int cl), .val (.int cc), .val (.ref g), .val (.long (own_hi p1)), .second, .val (.long (0 : Int64)), .second, .val (.long (0 : Int64)), .second, .val (.long (0 : Int64)), .second, .val (.long (0 : Int64)), .second, .val (.long (0 : Int64)), .second, .unset, .unset] [(.long p1), (.long (own_lo p1))])) _
  refine st10 _ ?_
  show Steps p.tables e below (T10.setTop (mkF m 134 #[.val (.long p1), .second, .val (.long p2), .second, .val (.long p3), .second, .val (.int sl), .val (.int ct), .val (.int cl), .val (.int cc), .val (.ref g), .val (.long (own_hi p1)), .second, .val (.long (0 : Int64)), .second, .val (.long (0 : Int64)), .second, .val (.long (0 : Int64)), .second, .val (.long (0 : Int64)), .second, .val (.long (0 : Int64)), .second, .unset, .unset] [(.long (own_hi p1)), (.long (own_lo p1))])) _
  refine XS.lsub X10.here hx rfl (hb hby at_134) rfl ?_
  show Steps p.tables e below (T10.setTop (mkF m 135 #[.val (.long p1), .second, .val (.long p2), .second, .val (.long p3), .second, .val (.int sl), .val (.int ct), .val (.int cl), .val (.int cc), .val (.ref g), .val (.long (own_hi p1)), .second, .val (.long (0 : Int64)), .second, .val (.long (0 : Int64)), .second, .val (.long (0 : Int64)), .second, .val (.long (0 : Int64)), .second, .val (.long (0 : Int64)), .second, .unset, .unset] [(.long ((own_lo p1) - (own_hi p1)))])) _
  refine XS.lstore X10.here hx rfl (hb hby at_135) rfl (l' := #[.val (.long p1), .second, .val (.long p2), .second, .val (.long p3), .second, .val (.int sl), .val (.int ct), .val (.int cl), .val (.int cc), .val (.ref g), .val (.long (own_hi p1)), .second, .val (.long ((own_lo p1) - (own_hi p1))), .second, .val (.long (0 : Int64)), .second, .val (.long (0 : Int64)), .second, .val (.long (0 : Int64)), .second, .val (.long (0 : Int64)), .second, .unset, .unset]) rfl ?_
  show Steps p.tables e below (T10.setTop (mkF m 137 #[.val (.long p1), .second, .val (.long p2), .second, .val (.long p3), .second, .val (.int sl), .val (.int ct), .val (.int cl), .val (.int cc), .val (.ref g), .val (.long (own_hi p1)), .second, .val (.long ((own_lo p1) - (own_hi p1))), .second, .val (.long (0 : Int64)), .second, .val (.long (0 : Int64)), .second, .val (.long (0 : Int64)), .second, .val (.long (0 : Int64)), .second, .unset, .unset] [])) _
  refine XS.iload X10.here hx rfl (hb hby at_137) rfl ?_
  show Steps p.tables e below (T10.setTop (mkF m 139 #[.val (.long p1), .second, .val (.long p2), .second, .val (.long p3), .second, .val (.int sl), .val (.int ct), .val (.int cl), .val (.int cc), .val (.ref g), .val (.long (own_hi p1)), .second, .val (.long ((own_lo p1) - (own_hi p1))), .second, .val (.long (0 : Int64)), .second, .val (.long (0 : Int64)), .second, .val (.long (0 : Int64)), .second, .val (.long (0 : Int64)), .second, .unset, .unset] [(.int ct)])) _
  refine XS.iconst X10.here hx rfl (hb hby at_139) ?_
  show Steps p.tables e below (T10.setTop (mkF m 140 #[.val (.long p1), .second, .val (.long p2), .second, .val (.long p3), .second, .val (.int sl), .val (.int ct), .val (.int cl), .val (.int cc), .val (.ref g), .val (.long (own_hi p1)), .second, .val (.long ((own_lo p1) - (own_hi p1))), .second, .val (.long (0 : Int64)), .second, .val (.long (0 : Int64)), .second, .val (.long (0 : Int64)), .second, .val (.long (0 : Int64)), .second, .unset, .unset] [(.int (2 : Int32)), (.int ct)])) _
  refine XS.icmpYes X10.here hx rfl (pc0 := 140) (pc' := 174) rfl (hb hby at_140) rfl (tlt hc140).1 (by decide) (by decide) ?_
  show Steps p.tables e below (T10.setTop (mkF m 174 #[.val (.long p1), .second, .val (.long p2), .second, .val (.long p3), .second, .val (.int sl), .val (.int ct), .val (.int cl), .val (.int cc), .val (.ref g), .val (.long (own_hi p1)), .second, .val (.long ((own_lo p1) - (own_hi p1))), .second, .val (.long (0 : Int64)), .second, .val (.long (0 : Int64)), .second, .val (.long (0 : Int64)), .second, .val (.long (0 : Int64)), .second, .unset, .unset] [])) _
  refine XS.iload X10.here hx rfl (hb hby at_174) rfl ?_
  show Steps p.tables e below (T10.setTop (mkF m 176 #[.val (.long p1), .second, .val (.long p2), .second, .val (.long p3), .second, .val (.int sl), .val (.int ct), .val (.int cl), .val (.int cc), .val (.ref g), .val (.long (own_hi p1)), .second, .val (.long ((own_lo p1) - (own_hi p1))), .second, .val (.long (0 : Int64)), .second, .val (.long (0 : Int64)), .second, .val (.long (0 : Int64)), .second, .val (.long (0 : Int64)), .second, .unset, .unset] [(.int ct)])) _
  refine XS.iconst X10.here hx rfl (hb hby at_176) ?_
  show Steps p.tables e below (T10.setTop (mkF m 177 #[.val (.long p1), .second, .val (.long p2), .second, .val (.long p3), .second, .val (.int sl), .val (.int ct), .val (.int cl), .val (.int cc), .val (.ref g), .val (.long (own_hi p1)), .second, .val (.long ((own_lo p1) - (own_hi p1))), .second, .val (.long (0 : Int64)), .second, .val (.long (0 : Int64)), .second, .val (.long (0 : Int64)), .second, .val (.long (0 : Int64)), .second, .unset, .unset] [(.int (3 : Int32)), (.int ct)])) _
  refine XS.icmpYes X10.here hx rfl (pc0 := 177) (pc' := 216) rfl (hb hby at_177) rfl (tlt hc177).1 (by decide) (by decide) ?_
  show Steps p.tables e below (T10.setTop (mkF m 216 #[.val (.long p1), .second, .val (.long p2), .second, .val (.long p3), .second, .val (.int sl), .val (.int ct), .val (.int cl), .val (.int cc), .val (.ref g), .val (.long (own_hi p1)), .second, .val (.long ((own_lo p1) - (own_hi p1))), .second, .val (.long (0 : Int64)), .second, .val (.long (0 : Int64)), .second, .val (.long (0 : Int64)), .second, .val (.long (0 : Int64)), .second, .unset, .unset] [])) _
  refine XS.lload X10.here hx rfl (hb hby at_216) rfl ?_
  show Steps p.tables e below (T10.setTop (mkF m 218 #[.val (.long p1), .second, .val (.long p2), .second, .val (.long p3), .second, .val (.int sl), .val (.int ct), .val (.int cl), .val (.int cc), .val (.ref g), .val (.long (own_hi p1)), .second, .val (.long ((own_lo p1) - (own_hi p1))), .second, .val (.long (0 : Int64)), .second, .val (.long (0 : Int64)), .second, .val (.long (0 : Int64)), .second, .val (.long (0 : Int64)), .second, .unset, .unset] [(.long (own_hi p1))])) _
  refine XS.lload X10.here hx rfl (hb hby at_218) rfl ?_
  show Steps p.tables e below (T10.setTop (mkF m 220 #[.val (.long p1), .second, .val (.long p2), .second, .val (.long p3), .second, .val (.int sl), .val (.int ct), .val (.int cl), .val (.int cc), .val (.ref g), .val (.long (own_hi p1)), .second, .val (.long ((own_lo p1) - (own_hi p1))), .second, .val (.long (0 : Int64)), .second, .val (.long (0 : Int64)), .second, .val (.long (0 : Int64)), .second, .val (.long (0 : Int64)), .second, .unset, .unset] [(.long (0 : Int64)), (.long (own_hi p1))])) _
  refine XS.lload X10.here hx rfl (hb hby at_220) rfl ?_
  show Steps p.tables e below (T10.setTop (mkF m 222 #[.val (.long p1), .second, .val (.long p2), .second, .val (.long p3), .second, .val (.int sl), .val (.int ct), .val (.int cl), .val (.int cc), .val (.ref g), .val (.long (own_hi p1)), .second, .val (.long ((own_lo p1) - (own_hi p1))), .second, .val (.long (0 : Int64)), .second, .val (.long (0 : Int64)), .second, .val (.long (0 : Int64)), .second, .val (.long (0 : Int64)), .second, .unset, .unset] [(.long (0 : Int64)), (.long (0 : Int64)), (.long (own_hi p1))])) _
  refine XS.ladd X10.here hx rfl (hb hby at_222) rfl ?_
  show Steps p.tables e below (T10.setTop (mkF m 223 #[.val (.long p1), .second, .val (.long p2), .second, .val (.long p3), .second, .val (.int sl), .val (.int ct), .val (.int cl), .val (.int cc), .val (.ref g), .val (.long (own_hi p1)), .second, .val (.long ((own_lo p1) - (own_hi p1))), .second, .val (.long (0 : Int64)), .second, .val (.long (0 : Int64)), .second, .val (.long (0 : Int64)), .second, .val (.long (0 : Int64)), .second, .unset, .unset] [(.long ((0 : Int64) + (0 : Int64))), (.long (own_hi p1))])) _
  refine XS.lmul X10.here hx rfl (hb hby at_223) rfl ?_
  show Steps p.tables e below (T10.setTop (mkF m 224 #[.val (.long p1), .second, .val (.long p2), .second, .val (.long p3), .second, .val (.int sl), .val (.int ct), .val (.int cl), .val (.int cc), .val (.ref g), .val (.long (own_hi p1)), .second, .val (.long ((own_lo p1) - (own_hi p1))), .second, .val (.long (0 : Int64)), .second, .val (.long (0 : Int64)), .second, .val (.long (0 : Int64)), .second, .val (.long (0 : Int64)), .second, .unset, .unset] [(.long ((own_hi p1) * ((0 : Int64) + (0 : Int64))))])) _
  refine XS.lload X10.here hx rfl (hb hby at_224) rfl ?_
  show Steps p.tables e below (T10.setTop (mkF m 226 #[.val (.long p1), .second, .val (.long p2), .second, .val (.long p3), .second, .val (.int sl), .val (.int ct), .val (.int cl), .val (.int cc), .val (.ref g), .val (.long (own_hi p1)), .second, .val (.long ((own_lo p1) - (own_hi p1))), .second, .val (.long (0 : Int64)), .second, .val (.long (0 : Int64)), .second, .val (.long (0 : Int64)), .second, .val (.long (0 : Int64)), .second, .unset, .unset] [(.long (0 : Int64)), (.long ((own_hi p1) * ((0 : Int64) + (0 : Int64))))])) _
  refine XS.lload X10.here hx rfl (hb hby at_226) rfl ?_
  show Steps p.tables e below (T10.setTop (mkF m 228 #[.val (.long p1), .second, .val (.long p2), .second, .val (.long p3), .second, .val (.int sl), .val (.int ct), .val (.int cl), .val (.int cc), .val (.ref g), .val (.long (own_hi p1)), .second, .val (.long ((own_lo p1) - (own_hi p1))), .second, .val (.long (0 : Int64)), .second, .val (.long (0 : Int64)), .second, .val (.long (0 : Int64)), .second, .val (.long (0 : Int64)), .second, .unset, .unset] [(.long ((own_lo p1) - (own_hi p1))), (.long (0 : Int64)), (.long ((own_hi p1) * ((0 : Int64) + (0 : Int64))))])) _
  refine XS.lload X10.here hx rfl (hb hby at_228) rfl ?_
  show Steps p.tables e below (T10.setTop (mkF m 230 #[.val (.long p1), .second, .val (.long p2), .second, .val (.long p3), .second, .val (.int sl), .val (.int ct), .val (.int cl), .val (.int cc), .val (.ref g), .val (.long (own_hi p1)), .second, .val (.long ((own_lo p1) - (own_hi p1))), .second, .val (.long (0 : Int64)), .second, .val (.long (0 : Int64)), .second, .val (.long (0 : Int64)), .second, .val (.long (0 : Int64)), .second, .unset, .unset] [(.long (0 : Int64)), (.long ((own_lo p1) - (own_hi p1))), (.long (0 : Int64)), (.long ((own_hi p1) * ((0 : Int64) + (0 : Int64))))])) _
  refine XS.ladd X10.here hx rfl (hb hby at_230) rfl ?_
  show Steps p.tables e below (T10.setTop (mkF m 231 #[.val (.long p1), .second, .val (.long p2), .second, .val (.long p3), .second, .val (.int sl), .val (.int ct), .val (.int cl), .val (.int cc), .val (.ref g), .val (.long (own_hi p1)), .second, .val (.long ((own_lo p1) - (own_hi p1))), .second, .val (.long (0 : Int64)), .second, .val (.long (0 : Int64)), .second, .val (.long (0 : Int64)), .second, .val (.long (0 : Int64)), .second, .unset, .unset] [(.long (((own_lo p1) - (own_hi p1)) + (0 : Int64))), (.long (0 : Int64)), (.long ((own_hi p1) * ((0 : Int64) + (0 : Int64))))])) _
  refine XS.lmul X10.here hx rfl (hb hby at_231) rfl ?_
  show Steps p.tables e below (T10.setTop (mkF m 232 #[.val (.long p1), .second, .val (.long p2), .second, .val (.long p3), .second, .val (.int sl), .val (.int ct), .val (.int cl), .val (.int cc), .val (.ref g), .val (.long (own_hi p1)), .second, .val (.long ((own_lo p1) - (own_hi p1))), .second, .val (.long (0 : Int64)), .second, .val (.long (0 : Int64)), .second, .val (.long (0 : Int64)), .second, .val (.long (0 : Int64)), .second, .unset, .unset] [(.long ((0 : Int64) * (((own_lo p1) - (own_hi p1)) + (0 : Int64)))), (.long ((own_hi p1) * ((0 : Int64) + (0 : Int64))))])) _
  refine XS.ladd X10.here hx rfl (hb hby at_232) rfl ?_
  show Steps p.tables e below (T10.setTop (mkF m 233 #[.val (.long p1), .second, .val (.long p2), .second, .val (.long p3), .second, .val (.int sl), .val (.int ct), .val (.int cl), .val (.int cc), .val (.ref g), .val (.long (own_hi p1)), .second, .val (.long ((own_lo p1) - (own_hi p1))), .second, .val (.long (0 : Int64)), .second, .val (.long (0 : Int64)), .second, .val (.long (0 : Int64)), .second, .val (.long (0 : Int64)), .second, .unset, .unset] [(.long (((own_hi p1) * ((0 : Int64) + (0 : Int64))) + ((0 : Int64) * (((own_lo p1) - (own_hi p1)) + (0 : Int64)))))])) _
  refine XS.lload X10.here hx rfl (hb hby at_233) rfl ?_
  show Steps p.tables e below (T10.setTop (mkF m 235 #[.val (.long p1), .second, .val (.long p2), .second, .val (.long p3), .second, .val (.int sl), .val (.int ct), .val (.int cl), .val (.int cc), .val (.ref g), .val (.long (own_hi p1)), .second, .val (.long ((own_lo p1) - (own_hi p1))), .second, .val (.long (0 : Int64)), .second, .val (.long (0 : Int64)), .second, .val (.long (0 : Int64)), .second, .val (.long (0 : Int64)), .second, .unset, .unset] [(.long (0 : Int64)), (.long (((own_hi p1) * ((0 : Int64) + (0 : Int64))) + ((0 : Int64) * (((own_lo p1) - (own_hi p1)) + (0 : Int64)))))])) _
  refine XS.lload X10.here hx rfl (hb hby at_235) rfl ?_
  show Steps p.tables e below (T10.setTop (mkF m 237 #[.val (.long p1), .second, .val (.long p2), .second, .val (.long p3), .second, .val (.int sl), .val (.int ct), .val (.int cl), .val (.int cc), .val (.ref g), .val (.long (own_hi p1)), .second, .val (.long ((own_lo p1) - (own_hi p1))), .second, .val (.long (0 : Int64)), .second, .val (.long (0 : Int64)), .second, .val (.long (0 : Int64)), .second, .val (.long (0 : Int64)), .second, .unset, .unset] [(.long ((own_lo p1) - (own_hi p1))), (.long (0 : Int64)), (.long (((own_hi p1) * ((0 : Int64) + (0 : Int64))) + ((0 : Int64) * (((own_lo p1) - (own_hi p1)) + (0 : Int64)))))])) _
  refine XS.lload X10.here hx rfl (hb hby at_237) rfl ?_
  show Steps p.tables e below (T10.setTop (mkF m 239 #[.val (.long p1), .second, .val (.long p2), .second, .val (.long p3), .second, .val (.int sl), .val (.int ct), .val (.int cl), .val (.int cc), .val (.ref g), .val (.long (own_hi p1)), .second, .val (.long ((own_lo p1) - (own_hi p1))), .second, .val (.long (0 : Int64)), .second, .val (.long (0 : Int64)), .second, .val (.long (0 : Int64)), .second, .val (.long (0 : Int64)), .second, .unset, .unset] [(.long (0 : Int64)), (.long ((own_lo p1) - (own_hi p1))), (.long (0 : Int64)), (.long (((own_hi p1) * ((0 : Int64) + (0 : Int64))) + ((0 : Int64) * (((own_lo p1) - (own_hi p1)) + (0 : Int64)))))])) _
  refine XS.ladd X10.here hx rfl (hb hby at_239) rfl ?_
  show Steps p.tables e below (T10.setTop (mkF m 240 #[.val (.long p1), .second, .val (.long p2), .second, .val (.long p3), .second, .val (.int sl), .val (.int ct), .val (.int cl), .val (.int cc), .val (.ref g), .val (.long (own_hi p1)), .second, .val (.long ((own_lo p1) - (own_hi p1))), .second, .val (.long (0 : Int64)), .second, .val (.long (0 : Int64)), .second, .val (.long (0 : Int64)), .second, .val (.long (0 : Int64)), .second, .unset, .unset] [(.long (((own_lo p1) - (own_hi p1)) + (0 : Int64))), (.long (0 : Int64)), (.long (((own_hi p1) * ((0 : Int64) + (0 : Int64))) + ((0 : Int64) * (((own_lo p1) - (own_hi p1)) + (0 : Int64)))))])) _
  refine XS.lmul X10.here hx rfl (hb hby at_240) rfl ?_
  show Steps p.tables e below (T10.setTop (mkF m 241 #[.val (.long p1), .second, .val (.long p2), .second, .val (.long p3), .second, .val (.int sl), .val (.int ct), .val (.int cl), .val (.int cc), .val (.ref g), .val (.long (own_hi p1)), .second, .val (.long ((own_lo p1) - (own_hi p1))), .second, .val (.long (0 : Int64)), .second, .val (.long (0 : Int64)), .second, .val (.long (0 : Int64)), .second, .val (.long (0 : Int64)), .second, .unset, .unset] [(.long ((0 : Int64) * (((own_lo p1) - (own_hi p1)) + (0 : Int64)))), (.long (((own_hi p1) * ((0 : Int64) + (0 : Int64))) + ((0 : Int64) * (((own_lo p1) - (own_hi p1)) + (0 : Int64)))))])) _
  refine XS.ladd X10.here hx rfl (hb hby at_241) rfl ?_
  show Steps p.tables e below (T10.setTop (mkF m 242 #[.val (.long p1), .second, .val (.long p2), .second, .val (.long p3), .second, .val (.int sl), .val (.int ct), .val (.int cl), .val (.int cc), .val (.ref g), .val (.long (own_hi p1)), .second, .val (.long ((own_lo p1) - (own_hi p1))), .second, .val (.long (0 : Int64)), .second, .val (.long (0 : Int64)), .second, .val (.long (0 : Int64)), .second, .val (.long (0 : Int64)), .second, .unset, .unset] [(.long ((((own_hi p1) * ((0 : Int64) + (0 : Int64))) + ((0 : Int64) * (((own_lo p1) - (own_hi p1)) + (0 : Int64)))) + ((0 : Int64) * (((own_lo p1) - (own_hi p1)) + (0 : Int64)))))])) _
  refine XS.lstore X10.here hx rfl (hb hby at_242) rfl (l' := #[.val (.long p1), .second, .val (.long p2), .second, .val (.long p3), .second, .val (.int sl), .val (.int ct), .val (.int cl), .val (.int cc), .val (.ref g), .val (.long (own_hi p1)), .second, .val (.long ((own_lo p1) - (own_hi p1))), .second, .val (.long (0 : Int64)), .second, .val (.long (0 : Int64)), .second, .val (.long (0 : Int64)), .second, .val (.long (0 : Int64)), .second, .val (.long ((((own_hi p1) * ((0 : Int64) + (0 : Int64))) + ((0 : Int64) * (((own_lo p1) - (own_hi p1)) + (0 : Int64)))) + ((0 : Int64) * (((own_lo p1) - (own_hi p1)) + (0 : Int64))))), .second]) rfl ?_
  show Steps p.tables e below (T10.setTop (mkF m 244 #[.val (.long p1), .second, .val (.long p2), .second, .val (.long p3), .second, .val (.int sl), .val (.int ct), .val (.int cl), .val (.int cc), .val (.ref g), .val (.long (own_hi p1)), .second, .val (.long ((own_lo p1) - (own_hi p1))), .second, .val (.long (0 : Int64)), .second, .val (.long (0 : Int64)), .second, .val (.long (0 : Int64)), .second, .val (.long (0 : Int64)), .second, .val (.long ((((own_hi p1) * ((0 : Int64) + (0 : Int64))) + ((0 : Int64) * (((own_lo p1) - (own_hi p1)) + (0 : Int64)))) + ((0 : Int64) * (((own_lo p1) - (own_hi p1)) + (0 : Int64))))), .second] [])) _
  refine XS.aload X10.here hx rfl (hb hby at_244) rfl rfl ?_
  show Steps p.tables e below (T10.setTop (mkF m 246 #[.val (.long p1), .second, .val (.long p2), .second, .val (.long p3), .second, .val (.int sl), .val (.int ct), .val (.int cl), .val (.int cc), .val (.ref g), .val (.long (own_hi p1)), .second, .val (.long ((own_lo p1) - (own_hi p1))), .second, .val (.long (0 : Int64)), .second, .val (.long (0 : Int64)), .second, .val (.long (0 : Int64)), .second, .val (.long (0 : Int64)), .second, .val (.long ((((own_hi p1) * ((0 : Int64) + (0 : Int64))) + ((0 : Int64) * (((own_lo p1) - (own_hi p1)) + (0 : Int64)))) + ((0 : Int64) * (((own_lo p1) - (own_hi p1)) + (0 : Int64))))), .second] [(.ref g)])) _
  refine st11.trans ?_
  show Steps p.tables e below (T11.setTop (mkF m 249 #[.val (.long p1), .second, .val (.long p2), .second, .val (.long p3), .second, .val (.int sl), .val (.int ct), .val (.int cl), .val (.int cc), .val (.ref g), .val (.long (own_hi p1)), .second, .val (.long ((own_lo p1) - (own_hi p1))), .second, .val (.long (0 : Int64)), .second, .val (.long (0 : Int64)), .second, .val (.long (0 : Int64)), .second, .val (.long (0 : Int64)), .second, .val (.long ((((own_hi p1) * ((0 : Int64) + (0 : Int64))) + ((0 : Int64) * (((own_lo p1) - (own_hi p1)) + (0 : Int64)))) + ((0 : Int64) * (((own_lo p1) - (own_hi p1)) + (0 : Int64))))), .second] [(.long (own_pairs (([] : List (Int64 × Int64)) ++ [((own_hi p1), (own_lo p1) - (own_hi p1))])))])) _
  refine XS.lload X11.here hx rfl (hb hby at_249) rfl ?_
  show Steps p.tables e below (T11.setTop (mkF m 251 #[.val (.long p1), .second, .val (.long p2), .second, .val (.long p3), .second, .val (.int sl), .val (.int ct), .val (.int cl), .val (.int cc), .val (.ref g), .val (.long (own_hi p1)), .second, .val (.long ((own_lo p1) - (own_hi p1))), .second, .val (.long (0 : Int64)), .second, .val (.long (0 : Int64)), .second, .val (.long (0 : Int64)), .second, .val (.long (0 : Int64)), .second, .val (.long ((((own_hi p1) * ((0 : Int64) + (0 : Int64))) + ((0 : Int64) * (((own_lo p1) - (own_hi p1)) + (0 : Int64)))) + ((0 : Int64) * (((own_lo p1) - (own_hi p1)) + (0 : Int64))))), .second] [(.long ((((own_hi p1) * ((0 : Int64) + (0 : Int64))) + ((0 : Int64) * (((own_lo p1) - (own_hi p1)) + (0 : Int64)))) + ((0 : Int64) * (((own_lo p1) - (own_hi p1)) + (0 : Int64))))), (.long (own_pairs (([] : List (Int64 × Int64)) ++ [((own_hi p1), (own_lo p1) - (own_hi p1))])))])) _
  refine XS.lcmp X11.here hx rfl (hb hby at_251) rfl ?_
  show Steps p.tables e below (T11.setTop (mkF m 252 #[.val (.long p1), .second, .val (.long p2), .second, .val (.long p3), .second, .val (.int sl), .val (.int ct), .val (.int cl), .val (.int cc), .val (.ref g), .val (.long (own_hi p1)), .second, .val (.long ((own_lo p1) - (own_hi p1))), .second, .val (.long (0 : Int64)), .second, .val (.long (0 : Int64)), .second, .val (.long (0 : Int64)), .second, .val (.long (0 : Int64)), .second, .val (.long ((((own_hi p1) * ((0 : Int64) + (0 : Int64))) + ((0 : Int64) * (((own_lo p1) - (own_hi p1)) + (0 : Int64)))) + ((0 : Int64) * (((own_lo p1) - (own_hi p1)) + (0 : Int64))))), .second] [(.int (lcmpW (own_pairs (([] : List (Int64 × Int64)) ++ [((own_hi p1), (own_lo p1) - (own_hi p1))])) ((((own_hi p1) * ((0 : Int64) + (0 : Int64))) + ((0 : Int64) * (((own_lo p1) - (own_hi p1)) + (0 : Int64)))) + ((0 : Int64) * (((own_lo p1) - (own_hi p1)) + (0 : Int64))))))])) _
  refine XS.ifNo X11.here hx rfl (hb hby at_252) rfl ((if0 _ _).trans (teq hc252).2) ?_
  show Steps p.tables e below (T11.setTop (mkF m 255 #[.val (.long p1), .second, .val (.long p2), .second, .val (.long p3), .second, .val (.int sl), .val (.int ct), .val (.int cl), .val (.int cc), .val (.ref g), .val (.long (own_hi p1)), .second, .val (.long ((own_lo p1) - (own_hi p1))), .second, .val (.long (0 : Int64)), .second, .val (.long (0 : Int64)), .second, .val (.long (0 : Int64)), .second, .val (.long (0 : Int64)), .second, .val (.long ((((own_hi p1) * ((0 : Int64) + (0 : Int64))) + ((0 : Int64) * (((own_lo p1) - (own_hi p1)) + (0 : Int64)))) + ((0 : Int64) * (((own_lo p1) - (own_hi p1)) + (0 : Int64))))), .second] [])) _
  refine XS.aload X11.here hx rfl (hb hby at_255) rfl rfl ?_
  show Steps p.tables e below (T11.setTop (mkF m 257 #[.val (.long p1), .second, .val (.long p2), .second, .val (.long p3), .second, .val (.int sl), .val (.int ct), .val (.int cl), .val (.int cc), .val (.ref g), .val (.long (own_hi p1)), .second, .val (.long ((own_lo p1) - (own_hi p1))), .second, .val (.long (0 : Int64)), .second, .val (.long (0 : Int64)), .second, .val (.long (0 : Int64)), .second, .val (.long (0 : Int64)), .second, .val (.long ((((own_hi p1) * ((0 : Int64) + (0 : Int64))) + ((0 : Int64) * (((own_lo p1) - (own_hi p1)) + (0 : Int64)))) + ((0 : Int64) * (((own_lo p1) - (own_hi p1)) + (0 : Int64))))), .second] [(.ref g)])) _
  refine st12.trans ?_
  show Steps p.tables e below (T12.setTop (mkF m 260 #[.val (.long p1), .second, .val (.long p2), .second, .val (.long p3), .second, .val (.int sl), .val (.int ct), .val (.int cl), .val (.int cc), .val (.ref g), .val (.long (own_hi p1)), .second, .val (.long ((own_lo p1) - (own_hi p1))), .second, .val (.long (0 : Int64)), .second, .val (.long (0 : Int64)), .second, .val (.long (0 : Int64)), .second, .val (.long (0 : Int64)), .second, .val (.long ((((own_hi p1) * ((0 : Int64) + (0 : Int64))) + ((0 : Int64) * (((own_lo p1) - (own_hi p1)) + (0 : Int64)))) + ((0 : Int64) * (((own_lo p1) - (own_hi p1)) + (0 : Int64))))), .second] [(.int (Int32.ofNat (([] : List (Int64 × Int64)) ++ [((own_hi p1), (own_lo p1) - (own_hi p1))]).length))])) _
  refine XS.iload X12.here hx rfl (hb hby at_260) rfl ?_
  show Steps p.tables e below (T12.setTop (mkF m 262 #[.val (.long p1), .second, .val (.long p2), .second, .val (.long p3), .second, .val (.int sl), .val (.int ct), .val (.int cl), .val (.int cc), .val (.ref g), .val (.long (own_hi p1)), .second, .val (.long ((own_lo p1) - (own_hi p1))), .second, .val (.long (0 : Int64)), .second, .val (.long (0 : Int64)), .second, .val (.long (0 : Int64)), .second, .val (.long (0 : Int64)), .second, .val (.long ((((own_hi p1) * ((0 : Int64) + (0 : Int64))) + ((0 : Int64) * (((own_lo p1) - (own_hi p1)) + (0 : Int64)))) + ((0 : Int64) * (((own_lo p1) - (own_hi p1)) + (0 : Int64))))), .second] [(.int ct), (.int (Int32.ofNat (([] : List (Int64 × Int64)) ++ [((own_hi p1), (own_lo p1) - (own_hi p1))]).length))])) _
  refine XS.icmpNo X12.here hx rfl (hb hby at_262) rfl (teq hc262).2 ?_
  show Steps p.tables e below (T12.setTop (mkF m 265 #[.val (.long p1), .second, .val (.long p2), .second, .val (.long p3), .second, .val (.int sl), .val (.int ct), .val (.int cl), .val (.int cc), .val (.ref g), .val (.long (own_hi p1)), .second, .val (.long ((own_lo p1) - (own_hi p1))), .second, .val (.long (0 : Int64)), .second, .val (.long (0 : Int64)), .second, .val (.long (0 : Int64)), .second, .val (.long (0 : Int64)), .second, .val (.long ((((own_hi p1) * ((0 : Int64) + (0 : Int64))) + ((0 : Int64) * (((own_lo p1) - (own_hi p1)) + (0 : Int64)))) + ((0 : Int64) * (((own_lo p1) - (own_hi p1)) + (0 : Int64))))), .second] [])) _
  refine XS.iconst X12.here hx rfl (hb hby at_265) ?_
  show Steps p.tables e below (T12.setTop (mkF m 266 #[.val (.long p1), .second, .val (.long p2), .second, .val (.long p3), .second, .val (.int sl), .val (.int ct), .val (.int cl), .val (.int cc), .val (.ref g), .val (.long (own_hi p1)), .second, .val (.long ((own_lo p1) - (own_hi p1))), .second, .val (.long (0 : Int64)), .second, .val (.long (0 : Int64)), .second, .val (.long (0 : Int64)), .second, .val (.long (0 : Int64)), .second, .val (.long ((((own_hi p1) * ((0 : Int64) + (0 : Int64))) + ((0 : Int64) * (((own_lo p1) - (own_hi p1)) + (0 : Int64)))) + ((0 : Int64) * (((own_lo p1) - (own_hi p1)) + (0 : Int64))))), .second] [(.int (1 : Int32))])) _
  refine XS.goto X12.here hx rfl (pc0 := 266) (pc' := 270) rfl (hb hby at_266) (by decide) (by decide) ?_
  exact kt

set_option maxRecDepth 65536 in
set_option maxHeartbeats 40000000 in
theorem own_d2 {p : Program} {l : Launch} {e : Env} {s : State} {m : MethodId} {args : Array Value} {below : List Frame} {meth : Method} {c : Code} {T0 : State} {locs : List Loc} {Z : State} {a0 : Array Value} {h0 : Heap} {n0 : Nat} (p1 : Int64) (p2 : Int64) (p3 : Int64) (sl : Int32) (ct : Int32) (cl : Int32) (cc : Int32) (g : Addr)
    (X0 : Stand p l e room_1 s m args below meth c T0 locs 10 49) (hx : p.tables.exec = Jvm.exec) (hZ : Z.Warmed39 s.vm) (hw : ∀ d ∈ tables_1, d.before a0 Z = true) (hby : c.code = code) (hml : c.maxLocals = 25) (hown : s.vm.findClass "com/example/fast_tangle/fasttangle/GroupsPairsPinLaw" = some m.cls) (e0 : T0.heap = h0) (Z0 : n0 ≤ h0.size) (N0 : Fr n0 locs) (hc103 : ¬ (ct < (1 : Int32))) (hc140 : ¬ (ct < (2 : Int32))) (hc177 : ct < (3 : Int32)) (hc252 : (lcmpW (own_pairs ((([] : List (Int64 × Int64)) ++ [((own_hi p1), (own_lo p1) - (own_hi p1))]) ++ [((own_hi p2), (own_lo p2) - (own_hi p2))])) ((((own_hi p1) * (((own_lo p2) - (own_hi p2)) + (0 : Int64))) + ((own_hi p2) * (((own_lo p1) - (own_hi p1)) + (0 : Int64)))) + ((0 : Int64) * (((own_lo p1) - (own_hi p1)) + ((own_lo p2) - (own_hi p2)))))) = (0 : Int32)) (hc262 : (Int32.ofNat ((([] : List (Int64 × Int64)) ++ [((own_hi p1), (own_lo p1) - (own_hi p1))]) ++ [((own_hi p2), (own_lo p2) - (own_hi p2))]).length) = ct) (len : Nat) (g_g : n0 ≤ g) (G : Gr Z h0 g n0 len []) (l2 : 2 ≤ len) (l7 : len ≤ 7) :
    ∃ (T' : State) (locs' : List Loc), Stand p l e room_1 s m args below meth c T' locs' 16 73 ∧ Fr n0 locs' ∧ True ∧
      ∀ target, Steps p.tables e below (T'.setTop (mkF m 270 #[.val (.long p1), .second, .val (.long p2), .second, .val (.long p3), .second, .val (.int sl), .val (.int ct), .val (.int cl), .val (.int cc), .val (.ref g), .val (.long (own_hi p1)), .second, .val (.long ((own_lo p1) - (own_hi p1))), .second, .val (.long (own_hi p2)), .second, .val (.long ((own_lo p2) - (own_hi p2))), .second, .val (.long (0 : Int64)), .second, .val (.long (0 : Int64)), .second, .val (.long ((((own_hi p1) * (((own_lo p2) - (own_hi p2)) + (0 : Int64))) + ((own_hi p2) * (((own_lo p1) - (own_hi p1)) + (0 : Int64)))) + ((0 : Int64) * (((own_lo p1) - (own_hi p1)) + ((own_lo p2) - (own_hi p2)))))), .second] [(.int (1 : Int32))])) target → Steps p.tables e below (T0.setTop (mkF m 82 #[.val (.long p1), .second, .val (.long p2), .second, .val (.long p3), .second, .val (.int sl), .val (.int ct), .val (.int cl), .val (.int cc), .val (.ref g), .unset, .unset, .unset, .unset, .unset, .unset, .unset, .unset, .unset, .unset, .unset, .unset, .unset, .unset] [])) target := by
  obtain ⟨_, _, ⟨T5, L5, k5, n5⟩, -, X5, ⟨Lc5, hQ5, l5, y5, z5⟩, st5⟩ := Jvm.LawKit.callS X0 hx (y := (⟨"com/example/fast_tangle/fasttangle/GroupsPairsPinLaw", "hi", "(J)J"⟩ : MethodName)) hown (mvT hZ (hw _ (List.mem_of_getElem? (i := 21) rfl))) (mvT hZ (hw _ (List.mem_of_getElem? (i := 22) rfl))) (mvT hZ (hw _ (List.mem_of_getElem? (i := 23) rfl))) (mvT hZ (hw _ (List.mem_of_getElem? (i := 24) rfl))) (by decide) (backOf (W := 2) (rm4 l Z a0 hw [] p1 h0 n0 Z0) hZ (hw _ (List.mem_of_getElem? (i := 24) rfl)) (hw _ (List.mem_of_getElem? (i := 23) rfl)) (by decide) (by decide)) (g := (mkF m 110 #[.val (.long p1), .second, .val (.long p2), .second, .val (.long p3), .second, .val (.int sl), .val (.int ct), .val (.int cl), .val (.int cc), .val (.ref g), .val (.long (0 : Int64)), .second, .val (.long (0 : Int64)), .second, .val (.long (0 : Int64)), .second, .val (.long (0 : Int64)), .second, .val (.long (0 : Int64)), .second, .val (.long (0 : Int64)), .second, .unset, .unset] [(.long p1), (.int (0 : Int32)), (.ref g)])) rfl (by rw [hml]; rfl) (argsL := [(.long p1)]) (rest := [(.int (0 : Int32)), (.ref g)]) (lenOf pd_0_3 rfl) rfl (by show 2 * 0 + _ ≤ _; exact Nat.le_of_eq rfl) (hb hby at_110) (fun _ _ => ⟨rfl, e0, (Nat.le_of_ble_eq_true rfl), (Nat.le_of_ble_eq_true rfl)⟩)
  dsimp only [Pt.U, Pt.locs, Pt.cells, Pt.slots] at X5 l5 y5 z5 st5 hQ5
  subst l5 y5 z5
  obtain ⟨rfl, N5q, e5q⟩ := hQ5
  have N5 := Fr.app N0 N5q
  have Z5 : n0 ≤ T5.heap.size := by rw [e5q]; exact Z0
  have G5 : Gr Z T5.heap g n0 len ([] : List (Int64 × Int64)) := by rw [e5q]; exact G
  obtain ⟨_, _, ⟨T6, L6, k6, n6⟩, -, X6, ⟨Lc6, hQ6, l6, y6, z6⟩, st6⟩ := Jvm.LawKit.callS X5 hx (y := (⟨"com/example/fast_tangle/fasttangle/GroupsPairsPinLaw", "lo", "(J)J"⟩ : MethodName)) hown (mvT hZ (hw _ (List.mem_of_getElem? (i := 25) rfl))) (mvT hZ (hw _ (List.mem_of_getElem? (i := 26) rfl))) (mvT hZ (hw _ (List.mem_of_getElem? (i := 23) rfl))) (mvT hZ (hw _ (List.mem_of_getElem? (i := 27) rfl))) (by decide) (backOf (W := 4) (rm5 l Z a0 hw [] p1 T5.heap n0 Z5) hZ (hw _ (List.mem_of_getElem? (i := 27) rfl)) (hw _ (List.mem_of_getElem? (i := 23) rfl)) (by decide) (by decide)) (g := (mkF m 114 #[.val (.long p1), .second, .val (.long p2), .second, .val (.long p3), .second, .val (.int sl), .val (.int ct), .val (.int cl), .val (.int cc), .val (.ref g), .val (.long (0 : Int64)), .second, .val (.long (0 : Int64)), .second, .val (.long (0 : Int64)), .second, .val (.long (0 : Int64)), .second, .val (.long (0 : Int64)), .second, .val (.long (0 : Int64)), .second, .unset, .unset] [(.long p1), (.long (own_hi p1)), (.int (0 : Int32)), (.ref g)])) rfl (by rw [hml]; rfl) (argsL := [(.long p1)]) (rest := [(.long (own_hi p1)), (.int (0 : Int32)), (.ref g)]) (lenOf pd_0_3 rfl) rfl (by show 2 * 0 + _ ≤ _; exact Nat.le_of_eq rfl) (hb hby at_114) (fun _ _ => ⟨rfl, rfl, (Nat.le_of_ble_eq_true rfl), (Nat.le_of_ble_eq_true rfl)⟩)
  dsimp only [Pt.U, Pt.locs, Pt.cells, Pt.slots] at X6 l6 y6 z6 st6 hQ6
  subst l6 y6 z6
  obtain ⟨rfl, N6q, e6q⟩ := hQ6
  have N6 := Fr.app N5 N6q
  have Z6 : n0 ≤ T6.heap.size := by rw [e6q]; exact Z5
  have G6 : Gr Z T6.heap g n0 len ([] : List (Int64 × Int64)) := by rw [e6q]; exact G5
  obtain ⟨cq7, kq7, q7a, q7b, q7c⟩ := isOf hZ rfl G6.1
  obtain ⟨_, _, ⟨T7, L7, k7, n7⟩, -, X7, ⟨Lc7, hQ7, l7, y7, z7⟩, st7⟩ := X6.virtualBack hx (y := (⟨"com/example/fast_tangle/fasttangle/PartingPairs$Groups", "add", "(IJJ)V"⟩ : MethodName)) (z := (⟨"com/example/fast_tangle/fasttangle/PartingPairs$Groups", "add", "(IJJ)V"⟩ : MethodName)) hown (mvT hZ (hw _ (List.mem_of_getElem? (i := 28) rfl))) (mvT hZ (hw _ (List.mem_of_getElem? (i := 29) rfl))) (notFace_of_selects (args := #[]) (mvT hZ (hw _ (List.mem_of_getElem? (i := 31) rfl)))) (mvT hZ (hw _ (List.mem_of_getElem? (i := 31) rfl))) (mvT hZ (hw _ (List.mem_of_getElem? (i := 30) rfl))) (by decide) (backOf (W := 0) (rm6 l Z a0 hw [] g (0 : Int32) (own_hi p1) (own_lo p1) len ([] : List (Int64 × Int64)) T6.heap n0 Z6 g_g G6 l2 l7 (Nat.le_of_ble_eq_true rfl)) hZ (hw _ (List.mem_of_getElem? (i := 32) rfl)) (hw _ (List.mem_of_getElem? (i := 2) rfl)) (by decide) (by decide)) q7a q7c (g := (mkF m 117 #[.val (.long p1), .second, .val (.long p2), .second, .val (.long p3), .second, .val (.int sl), .val (.int ct), .val (.int cl), .val (.int cc), .val (.ref g), .val (.long (0 : Int64)), .second, .val (.long (0 : Int64)), .second, .val (.long (0 : Int64)), .second, .val (.long (0 : Int64)), .second, .val (.long (0 : Int64)), .second, .val (.long (0 : Int64)), .second, .unset, .unset] [(.long (own_lo p1)), (.long (own_hi p1)), (.int (0 : Int32)), (.ref g)])) rfl (by rw [hml]; rfl) (Steps.refl _) (argsL := [(.int (0 : Int32)), (.long (own_hi p1)), (.long (own_lo p1))]) (rest := []) (lenOf pd_0_4 rfl) rfl (by show 2 * 0 + _ ≤ _; exact Nat.le_of_eq rfl) (hb hby at_117) (fun _ _ => ⟨rfl, rfl, (Nat.le_of_ble_eq_true rfl), (Nat.le_of_ble_eq_true rfl)⟩)
  dsimp only [Pt.U, Pt.locs, Pt.cells, Pt.slots] at X7 l7 y7 z7 st7 hQ7
  subst l7 y7 z7
  obtain ⟨rfl, N7q, Z7, len7, l2_7, l7_7, lx_7, G7⟩ := hQ7
  have N7 := Fr.app N6 N7q
  obtain ⟨_, _, ⟨T8, L8, k8, n8⟩, -, X8, ⟨Lc8, hQ8, l8, y8, z8⟩, st8⟩ := Jvm.LawKit.callS X7 hx (y := (⟨"com/example/fast_tangle/fasttangle/GroupsPairsPinLaw", "hi", "(J)J"⟩ : MethodName)) hown (mvT hZ (hw _ (List.mem_of_getElem? (i := 21) rfl))) (mvT hZ (hw _ (List.mem_of_getElem? (i := 22) rfl))) (mvT hZ (hw _ (List.mem_of_getElem? (i := 23) rfl))) (mvT hZ (hw _ (List.mem_of_getElem? (i := 24) rfl))) (by decide) (backOf (W := 0) (rm4 l Z a0 hw [] p1 T7.heap n0 Z7) hZ (hw _ (List.mem_of_getElem? (i := 24) rfl)) (hw _ (List.mem_of_getElem? (i := 23) rfl)) (by decide) (by decide)) (g := (mkF m 121 #[.val (.long p1), .second, .val (.long p2), .second, .val (.long p3), .second, .val (.int sl), .val (.int ct), .val (.int cl), .val (.int cc), .val (.ref g), .val (.long (0 : Int64)), .second, .val (.long (0 : Int64)), .second, .val (.long (0 : Int64)), .second, .val (.long (0 : Int64)), .second, .val (.long (0 : Int64)), .second, .val (.long (0 : Int64)), .second, .unset, .unset] [(.long p1)])) rfl (by rw [hml]; rfl) (argsL := [(.long p1)]) (rest := []) (lenOf pd_0_3 rfl) rfl (by show 2 * 0 + _ ≤ _; exact Nat.le_of_eq rfl) (hb hby at_121) (fun _ _ => ⟨rfl, rfl, (Nat.le_of_ble_eq_true rfl), (Nat.le_of_ble_eq_true rfl)⟩)
  dsimp only [Pt.U, Pt.locs, Pt.cells, Pt.slots] at X8 l8 y8 z8 st8 hQ8
  subst l8 y8 z8
  obtain ⟨rfl, N8q, e8q⟩ := hQ8
  have N8 := Fr.app N7 N8q
  have Z8 : n0 ≤ T8.heap.size := by rw [e8q]; exact Z7
  have G8 : Gr Z T8.heap g n0 len7 (([] : List (Int64 × Int64)) ++ [((own_hi p1), (own_lo p1) - (own_hi p1))]) := by rw [e8q]; exact G7
  obtain ⟨_, _, ⟨T9, L9, k9, n9⟩, -, X9, ⟨Lc9, hQ9, l9, y9, z9⟩, st9⟩ := Jvm.LawKit.callS X8 hx (y := (⟨"com/example/fast_tangle/fasttangle/GroupsPairsPinLaw", "lo", "(J)J"⟩ : MethodName)) hown (mvT hZ (hw _ (List.mem_of_getElem? (i := 25) rfl))) (mvT hZ (hw _ (List.mem_of_getElem? (i := 26) rfl))) (mvT hZ (hw _ (List.mem_of_getElem? (i := 23) rfl))) (mvT hZ (hw _ (List.mem_of_getElem? (i := 27) rfl))) (by decide) (backOf (W := 0) (rm5 l Z a0 hw [] p1 T8.heap n0 Z8) hZ (hw _ (List.mem_of_getElem? (i := 27) rfl)) (hw _ (List.mem_of_getElem? (i := 23) rfl)) (by decide) (by decide)) (g := (mkF m 127 #[.val (.long p1), .second, .val (.long p2), .second, .val (.long p3), .second, .val (.int sl), .val (.int ct), .val (.int cl), .val (.int cc), .val (.ref g), .val (.long (own_hi p1)), .second, .val (.long (0 : Int64)), .second, .val (.long (0 : Int64)), .second, .val (.long (0 : Int64)), .second, .val (.long (0 : Int64)), .second, .val (.long (0 : Int64)), .second, .unset, .unset] [(.long p1)])) rfl (by rw [hml]; rfl) (argsL := [(.long p1)]) (rest := []) (lenOf pd_0_3 rfl) rfl (by show 2 * 0 + _ ≤ _; exact Nat.le_of_eq rfl) (hb hby at_127) (fun _ _ => ⟨rfl, rfl, (Nat.le_of_ble_eq_true rfl), (Nat.le_of_ble_eq_true rfl)⟩)
  dsimp only [Pt.U, Pt.locs, Pt.cells, Pt.slots] at X9 l9 y9 z9 st9 hQ9
  subst l9 y9 z9
  obtain ⟨rfl, N9q, e9q⟩ := hQ9
  have N9 := Fr.app N8 N9q
  have Z9 : n0 ≤ T9.heap.size := by rw [e9q]; exact Z8
  have G9 : Gr Z T9.heap g n0 len7 (([] : List (Int64 × Int64)) ++ [((own_hi p1), (own_lo p1) - (own_hi p1))]) := by rw [e9q]; exact G8
  obtain ⟨_, _, ⟨T10, L10, k10, n10⟩, -, X10, ⟨Lc10, hQ10, l10, y10, z10⟩, st10⟩ := Jvm.LawKit.callS X9 hx (y := (⟨"com/example/fast_tangle/fasttangle/GroupsPairsPinLaw", "hi", "(J)J"⟩ : MethodName)) hown (mvT hZ (hw _ (List.mem_of_getElem? (i := 21) rfl))) (mvT hZ (hw _ (List.mem_of_getElem? (i := 22) rfl))) (mvT hZ (hw _ (List.mem_of_getElem? (i := 23) rfl))) (mvT hZ (hw _ (List.mem_of_getElem? (i := 24) rfl))) (by decide) (backOf (W := 2) (rm4 l Z a0 hw [] p1 T9.heap n0 Z9) hZ (hw _ (List.mem_of_getElem? (i := 24) rfl)) (hw _ (List.mem_of_getElem? (i := 23) rfl)) (by decide) (by decide)) (g := (mkF m 131 #[.val (.long p1), .second, .val (.long p2), .second, .val (.long p3), .second, .val (.int sl), .val (.int ct), .val (.int cl), .val (.int cc), .val (.ref g), .val (.long (own_hi p1)), .second, .val (.long (0 : Int64)), .second, .val (.long (0 : Int64)), .second, .val (.long (0 : Int64)), .second, .val (.long (0 : Int64)), .second, .val (.long (0 : Int64)), .second, .unset, .unset] [(.long p1), (.long (own_lo p1))])) rfl (by rw [hml]; rfl) (argsL := [(.long p1)]) (rest := [(.long (own_lo p1))]) (lenOf pd_0_3 rfl) rfl (by show 2 * 0 + _ ≤ _; exact Nat.le_of_eq rfl) (hb hby at_131) (fun _ _ => ⟨rfl, rfl, (Nat.le_of_ble_eq_true rfl), (Nat.le_of_ble_eq_true rfl)⟩)
  dsimp only [Pt.U, Pt.locs, Pt.cells, Pt.slots] at X10 l10 y10 z10 st10 hQ10
  subst l10 y10 z10
  obtain ⟨rfl, N10q, e10q⟩ := hQ10
  have N10 := Fr.app N9 N10q
  have Z10 : n0 ≤ T10.heap.size := by rw [e10q]; exact Z9
  have G10 : Gr Z T10.heap g n0 len7 (([] : List (Int64 × Int64)) ++ [((own_hi p1), (own_lo p1) - (own_hi p1))]) := by rw [e10q]; exact G9
  obtain ⟨_, _, ⟨T11, L11, k11, n11⟩, -, X11, ⟨Lc11, hQ11, l11, y11, z11⟩, st11⟩ := Jvm.LawKit.callS X10 hx (y := (⟨"com/example/fast_tangle/fasttangle/GroupsPairsPinLaw", "hi", "(J)J"⟩ : MethodName)) hown (mvT hZ (hw _ (List.mem_of_getElem? (i := 21) rfl))) (mvT hZ (hw _ (List.mem_of_getElem? (i := 22) rfl))) (mvT hZ (hw _ (List.mem_of_getElem? (i := 23) rfl))) (mvT hZ (hw _ (List.mem_of_getElem? (i := 24) rfl))) (by decide) (backOf (W := 2) (rm4 l Z a0 hw [] p2 T10.heap n0 Z10) hZ (hw _ (List.mem_of_getElem? (i := 24) rfl)) (hw _ (List.mem_of_getElem? (i := 23) rfl)) (by decide) (by decide)) (g := (mkF m 147 #[.val (.long p1), .second, .val (.long p2), .second, .val (.long p3), .second, .val (.int sl), .val (.int ct), .val (.int cl), .val (.int cc), .val (.ref g), .val (.long (own_hi p1)), .second, .val (.long ((own_lo p1) - (own_hi p1))), .second, .val (.long (0 : Int64)), .second, .val (.long (0 : Int64)), .second, .val (.long (0 : Int64)), .second, .val (.long (0 : Int64)), .second, .unset, .unset] [(.long p2), (.int (1 : Int32)), (.ref g)])) rfl (by rw [hml]; rfl) (argsL := [(.long p2)]) (rest := [(.int (1 : Int32)), (.ref g)]) (lenOf pd_0_3 rfl) rfl (by show 2 * 0 + _ ≤ _; exact Nat.le_of_eq rfl) (hb hby at_147) (fun _ _ => ⟨rfl, rfl, (Nat.le_of_ble_eq_true rfl), (Nat.le_of_ble_eq_true rfl)⟩)
  dsimp only [Pt.U, Pt.locs, Pt.cells, Pt.slots] at X11 l11 y11 z11 st11 hQ11
  subst l11 y11 z11
  obtain ⟨rfl, N11q, e11q⟩ := hQ11
  have N11 := Fr.app N10 N11q
  have Z11 : n0 ≤ T11.heap.size := by rw [e11q]; exact Z10
  have G11 : Gr Z T11.heap g n0 len7 (([] : List (Int64 × Int64)) ++ [((own_hi p1), (own_lo p1) - (own_hi p1))]) := by rw [e11q]; exact G10
  obtain ⟨_, _, ⟨T12, L12, k12, n12⟩, -, X12, ⟨Lc12, hQ12, l12, y12, z12⟩, st12⟩ := Jvm.LawKit.callS X11 hx (y := (⟨"com/example/fast_tangle/fasttangle/GroupsPairsPinLaw", "lo", "(J)J"⟩ : MethodName)) hown (mvT hZ (hw _ (List.mem_of_getElem? (i := 25) rfl))) (mvT hZ (hw _ (List.mem_of_getElem? (i := 26) rfl))) (mvT hZ (hw _ (List.mem_of_getElem? (i := 23) rfl))) (mvT hZ (hw _ (List.mem_of_getElem? (i := 27) rfl))) (by decide) (backOf (W := 4) (rm5 l Z a0 hw [] p2 T11.heap n0 Z11) hZ (hw _ (List.mem_of_getElem? (i := 27) rfl)) (hw _ (List.mem_of_getElem? (i := 23) rfl)) (by decide) (by decide)) (g := (mkF m 151 #[.val (.long p1), .second, .val (.long p2), .second, .val (.long p3), .second, .val (.int sl), .val (.int ct), .val (.int cl), .val (.int cc), .val (.ref g), .val (.long (own_hi p1)), .second, .val (.long ((own_lo p1) - (own_hi p1))), .second, .val (.long (0 : Int64)), .second, .val (.long (0 : Int64)), .second, .val (.long (0 : Int64)), .second, .val (.long (0 : Int64)), .second, .unset, .unset] [(.long p2), (.long (own_hi p2)), (.int (1 : Int32)), (.ref g)])) rfl (by rw [hml]; rfl) (argsL := [(.long p2)]) (rest := [(.long (own_hi p2)), (.int (1 : Int32)), (.ref g)]) (lenOf pd_0_3 rfl) rfl (by show 2 * 0 + _ ≤ _; exact Nat.le_of_eq rfl) (hb hby at_151) (fun _ _ => ⟨rfl, rfl, (Nat.le_of_ble_eq_true rfl), (Nat.le_of_ble_eq_true rfl)⟩)
  dsimp only [Pt.U, Pt.locs, Pt.cells, Pt.slots] at X12 l12 y12 z12 st12 hQ12
  subst l12 y12 z12
  obtain ⟨rfl, N12q, e12q⟩ := hQ12
  have N12 := Fr.app N11 N12q
  have Z12 : n0 ≤ T12.heap.size := by rw [e12q]; exact Z11
  have G12 : Gr Z T12.heap g n0 len7 (([] : List (Int64 × Int64)) ++ [((own_hi p1), (own_lo p1) - (own_hi p1))]) := by rw [e12q]; exact G11
  obtain ⟨cq13, kq13, q13a, q13b, q13c⟩ := isOf hZ rfl G12.1
  obtain ⟨_, _, ⟨T13, L13, k13, n13⟩, -, X13, ⟨Lc13, hQ13, l13, y13, z13⟩, st13⟩ := X12.virtualBack hx (y := (⟨"com/example/fast_tangle/fasttangle/PartingPairs$Groups", "add", "(IJJ)V"⟩ : MethodName)) (z := (⟨"com/example/fast_tangle/fasttangle/PartingPairs$Groups", "add", "(IJJ)V"⟩ : MethodName)) hown (mvT hZ (hw _ (List.mem_of_getElem? (i := 28) rfl))) (mvT hZ (hw _ (List.mem_of_getElem? (i := 29) rfl))) (notFace_of_selects (args := #[]) (mvT hZ (hw _ (List.mem_of_getElem? (i := 31) rfl)))) (mvT hZ (hw _ (List.mem_of_getElem? (i := 31) rfl))) (mvT hZ (hw _ (List.mem_of_getElem? (i := 30) rfl))) (by decide) (backOf (W := 0) (rm6 l Z a0 hw [] g (1 : Int32) (own_hi p2) (own_lo p2) len7 (([] : List (Int64 × Int64)) ++ [((own_hi p1), (own_lo p1) - (own_hi p1))]) T12.heap n0 Z12 g_g G12 l2_7 l7_7 (Nat.le_of_ble_eq_true rfl)) hZ (hw _ (List.mem_of_getElem? (i := 32) rfl)) (hw _ (List.mem_of_getElem? (i := 2) rfl)) (by decide) (by decide)) q13a q13c (g := (mkF m 154 #[.val (.long p1), .second, .val (.long p2), .second, .val (.long p3), .second, .val (.int sl), .val (.int ct), .val (.int cl), .val (.int cc), .val (.ref g), .val (.long (own_hi p1)), .second, .val (.long ((own_lo p1) - (own_hi p1))), .second, .val (.long (0 : Int64)), .second, .val (.long (0 : Int64)), .second, .val (.long (0 : Int64)), .second, .val (.long (0 : Int64)), .second, .unset, .unset] [(.long (own_lo p2)), (.long (own_hi p2)), (.int (1 : Int32)), (.ref g)])) rfl (by rw [hml]; rfl) (Steps.refl _) (argsL := [(.int (1 : Int32)), (.long (own_hi p2)), (.long (own_lo p2))]) (rest := []) (lenOf pd_0_4 rfl) rfl (by show 2 * 0 + _ ≤ _; exact Nat.le_of_eq rfl) (hb hby at_154) (fun _ _ => ⟨rfl, rfl, (Nat.le_of_ble_eq_true rfl), (Nat.le_of_ble_eq_true rfl)⟩)
  dsimp only [Pt.U, Pt.locs, Pt.cells, Pt.slots] at X13 l13 y13 z13 st13 hQ13
  subst l13 y13 z13
  obtain ⟨rfl, N13q, Z13, len13, l2_13, l7_13, lx_13, G13⟩ := hQ13
  have N13 := Fr.app N12 N13q
  obtain ⟨_, _, ⟨T14, L14, k14, n14⟩, -, X14, ⟨Lc14, hQ14, l14, y14, z14⟩, st14⟩ := Jvm.LawKit.callS X13 hx (y := (⟨"com/example/fast_tangle/fasttangle/GroupsPairsPinLaw", "hi", "(J)J"⟩ : MethodName)) hown (mvT hZ (hw _ (List.mem_of_getElem? (i := 21) rfl))) (mvT hZ (hw _ (List.mem_of_getElem? (i := 22) rfl))) (mvT hZ (hw _ (List.mem_of_getElem? (i := 23) rfl))) (mvT hZ (hw _ (List.mem_of_getElem? (i := 24) rfl))) (by decide) (backOf (W := 0) (rm4 l Z a0 hw [] p2 T13.heap n0 Z13) hZ (hw _ (List.mem_of_getElem? (i := 24) rfl)) (hw _ (List.mem_of_getElem? (i := 23) rfl)) (by decide) (by decide)) (g := (mkF m 158 #[.val (.long p1), .second, .val (.long p2), .second, .val (.long p3), .second, .val (.int sl), .val (.int ct), .val (.int cl), .val (.int cc), .val (.ref g), .val (.long (own_hi p1)), .second, .val (.long ((own_lo p1) - (own_hi p1))), .second, .val (.long (0 : Int64)), .second, .val (.long (0 : Int64)), .second, .val (.long (0 : Int64)), .second, .val (.long (0 : Int64)), .second, .unset, .unset] [(.long p2)])) rfl (by rw [hml]; rfl) (argsL := [(.long p2)]) (rest := []) (lenOf pd_0_3 rfl) rfl (by show 2 * 0 + _ ≤ _; exact Nat.le_of_eq rfl) (hb hby at_158) (fun _ _ => ⟨rfl, rfl, (Nat.le_of_ble_eq_true rfl), (Nat.le_of_ble_eq_true rfl)⟩)
  dsimp only [Pt.U, Pt.locs, Pt.cells, Pt.slots] at X14 l14 y14 z14 st14 hQ14
  subst l14 y14 z14
  obtain ⟨rfl, N14q, e14q⟩ := hQ14
  have N14 := Fr.app N13 N14q
  have Z14 : n0 ≤ T14.heap.size := by rw [e14q]; exact Z13
  have G14 : Gr Z T14.heap g n0 len13 ((([] : List (Int64 × Int64)) ++ [((own_hi p1), (own_lo p1) - (own_hi p1))]) ++ [((own_hi p2), (own_lo p2) - (own_hi p2))]) := by rw [e14q]; exact G13
  obtain ⟨_, _, ⟨T15, L15, k15, n15⟩, -, X15, ⟨Lc15, hQ15, l15, y15, z15⟩, st15⟩ := Jvm.LawKit.callS X14 hx (y := (⟨"com/example/fast_tangle/fasttangle/GroupsPairsPinLaw", "lo", "(J)J"⟩ : MethodName)) hown (mvT hZ (hw _ (List.mem_of_getElem? (i := 25) rfl))) (mvT hZ (hw _ (List.mem_of_getElem? (i := 26) rfl))) (mvT hZ (hw _ (List.mem_of_getElem? (i := 23) rfl))) (mvT hZ (hw _ (List.mem_of_getElem? (i := 27) rfl))) (by decide) (backOf (W := 0) (rm5 l Z a0 hw [] p2 T14.heap n0 Z14) hZ (hw _ (List.mem_of_getElem? (i := 27) rfl)) (hw _ (List.mem_of_getElem? (i := 23) rfl)) (by decide) (by decide)) (g := (mkF m 164 #[.val (.long p1), .second, .val (.long p2), .second, .val (.long p3), .second, .val (.int sl), .val (.int ct), .val (.int cl), .val (.int cc), .val (.ref g), .val (.long (own_hi p1)), .second, .val (.long ((own_lo p1) - (own_hi p1))), .second, .val (.long (own_hi p2)), .second, .val (.long (0 : Int64)), .second, .val (.long (0 : Int64)), .second, .val (.long (0 : Int64)), .second, .unset, .unset] [(.long p2)])) rfl (by rw [hml]; rfl) (argsL := [(.long p2)]) (rest := []) (lenOf pd_0_3 rfl) rfl (by show 2 * 0 + _ ≤ _; exact Nat.le_of_eq rfl) (hb hby at_164) (fun _ _ => ⟨rfl, rfl, (Nat.le_of_ble_eq_true rfl), (Nat.le_of_ble_eq_true rfl)⟩)
  dsimp only [Pt.U, Pt.locs, Pt.cells, Pt.slots] at X15 l15 y15 z15 st15 hQ15
  subst l15 y15 z15
  obtain ⟨rfl, N15q, e15q⟩ := hQ15
  have N15 := Fr.app N14 N15q
  have Z15 : n0 ≤ T15.heap.size := by rw [e15q]; exact Z14
  have G15 : Gr Z T15.heap g n0 len13 ((([] : List (Int64 × Int64)) ++ [((own_hi p1), (own_lo p1) - (own_hi p1))]) ++ [((own_hi p2), (own_lo p2) - (own_hi p2))]) := by rw [e15q]; exact G14
  obtain ⟨_, _, ⟨T16, L16, k16, n16⟩, -, X16, ⟨Lc16, hQ16, l16, y16, z16⟩, st16⟩ := Jvm.LawKit.callS X15 hx (y := (⟨"com/example/fast_tangle/fasttangle/GroupsPairsPinLaw", "hi", "(J)J"⟩ : MethodName)) hown (mvT hZ (hw _ (List.mem_of_getElem? (i := 21) rfl))) (mvT hZ (hw _ (List.mem_of_getElem? (i := 22) rfl))) (mvT hZ (hw _ (List.mem_of_getElem? (i := 23) rfl))) (mvT hZ (hw _ (List.mem_of_getElem? (i := 24) rfl))) (by decide) (backOf (W := 2) (rm4 l Z a0 hw [] p2 T15.heap n0 Z15) hZ (hw _ (List.mem_of_getElem? (i := 24) rfl)) (hw _ (List.mem_of_getElem? (i := 23) rfl)) (by decide) (by decide)) (g := (mkF m 168 #[.val (.long p1), .second, .val (.long p2), .second, .val (.long p3), .second, .val (.int sl), .val (.int ct), .val (.int cl), .val (.int cc), .val (.ref g), .val (.long (own_hi p1)), .second, .val (.long ((own_lo p1) - (own_hi p1))), .second, .val (.long (own_hi p2)), .second, .val (.long (0 : Int64)), .second, .val (.long (0 : Int64)), .second, .val (.long (0 : Int64)), .second, .unset, .unset] [(.long p2), (.long (own_lo p2))])) rfl (by rw [hml]; rfl) (argsL := [(.long p2)]) (rest := [(.long (own_lo p2))]) (lenOf pd_0_3 rfl) rfl (by show 2 * 0 + _ ≤ _; exact Nat.le_of_eq rfl) (hb hby at_168) (fun _ _ => ⟨rfl, rfl, (Nat.le_of_ble_eq_true rfl), (Nat.le_of_ble_eq_true rfl)⟩)
  dsimp only [Pt.U, Pt.locs, Pt.cells, Pt.slots] at X16 l16 y16 z16 st16 hQ16
  subst l16 y16 z16
  obtain ⟨rfl, N16q, e16q⟩ := hQ16
  have N16 := Fr.app N15 N16q
  have Z16 : n0 ≤ T16.heap.size := by rw [e16q]; exact Z15
  have G16 : Gr Z T16.heap g n0 len13 ((([] : List (Int64 × Int64)) ++ [((own_hi p1), (own_lo p1) - (own_hi p1))]) ++ [((own_hi p2), (own_lo p2) - (own_hi p2))]) := by rw [e16q]; exact G15
  obtain ⟨cq17, kq17, q17a, q17b, q17c⟩ := isOf hZ rfl G16.1
  obtain ⟨_, _, ⟨T17, L17, k17, n17⟩, -, X17, ⟨Lc17, hQ17, l17, y17, z17⟩, st17⟩ := X16.virtualBack hx (y := (⟨"com/example/fast_tangle/fasttangle/PartingPairs$Groups", "pairs", "()J"⟩ : MethodName)) (z := (⟨"com/example/fast_tangle/fasttangle/PartingPairs$Groups", "pairs", "()J"⟩ : MethodName)) hown (mvT hZ (hw _ (List.mem_of_getElem? (i := 35) rfl))) (mvT hZ (hw _ (List.mem_of_getElem? (i := 36) rfl))) (notFace_of_selects (args := #[]) (mvT hZ (hw _ (List.mem_of_getElem? (i := 38) rfl)))) (mvT hZ (hw _ (List.mem_of_getElem? (i := 38) rfl))) (mvT hZ (hw _ (List.mem_of_getElem? (i := 37) rfl))) (by decide) (backOf (W := 0) (rm7 l Z a0 hw [] g len13 ((([] : List (Int64 × Int64)) ++ [((own_hi p1), (own_lo p1) - (own_hi p1))]) ++ [((own_hi p2), (own_lo p2) - (own_hi p2))]) T16.heap n0 Z16 G16 l7_13 lx_13) hZ (hw _ (List.mem_of_getElem? (i := 39) rfl)) (hw _ (List.mem_of_getElem? (i := 2) rfl)) (by decide) (by decide)) q17a q17c (g := (mkF m 246 #[.val (.long p1), .second, .val (.long p2), .second, .val (.long p3), .second, .val (.int sl), .val (.int ct), .val (.int cl), .val (.int cc), .val (.ref g), .val (.long (own_hi p1)), .second, .val (.long ((own_lo p1) - (own_hi p1))), .second, .val (.long (own_hi p2)), .second, .val (.long ((own_lo p2) - (own_hi p2))), .second, .val (.long (0 : Int64)), .second, .val (.long (0 : Int64)), .second, .val (.long ((((own_hi p1) * (((own_lo p2) - (own_hi p2)) + (0 : Int64))) + ((own_hi p2) * (((own_lo p1) - (own_hi p1)) + (0 : Int64)))) + ((0 : Int64) * (((own_lo p1) - (own_hi p1)) + ((own_lo p2) - (own_hi p2)))))), .second] [(.ref g)])) rfl (by rw [hml]; rfl) (Steps.refl _) (argsL := []) (rest := []) (lenOf pd_0_5 rfl) rfl (by show 2 * 0 + _ ≤ _; exact Nat.le_of_eq rfl) (hb hby at_246) (fun _ _ => ⟨rfl, rfl, (Nat.le_of_ble_eq_true rfl), (Nat.le_of_ble_eq_true rfl)⟩)
  dsimp only [Pt.U, Pt.locs, Pt.cells, Pt.slots] at X17 l17 y17 z17 st17 hQ17
  subst l17 y17 z17
  obtain ⟨rfl, N17q, e17q⟩ := hQ17
  have N17 := Fr.app N16 N17q
  have Z17 : n0 ≤ T17.heap.size := by rw [e17q]; exact Z16
  have G17 : Gr Z T17.heap g n0 len13 ((([] : List (Int64 × Int64)) ++ [((own_hi p1), (own_lo p1) - (own_hi p1))]) ++ [((own_hi p2), (own_lo p2) - (own_hi p2))]) := by rw [e17q]; exact G16
  obtain ⟨cq18, kq18, q18a, q18b, q18c⟩ := isOf hZ rfl G17.1
  obtain ⟨_, _, ⟨T18, L18, k18, n18⟩, -, X18, ⟨Lc18, hQ18, l18, y18, z18⟩, st18⟩ := X17.virtualBack hx (y := (⟨"com/example/fast_tangle/fasttangle/PartingPairs$Groups", "size", "()I"⟩ : MethodName)) (z := (⟨"com/example/fast_tangle/fasttangle/PartingPairs$Groups", "size", "()I"⟩ : MethodName)) hown (mvT hZ (hw _ (List.mem_of_getElem? (i := 40) rfl))) (mvT hZ (hw _ (List.mem_of_getElem? (i := 41) rfl))) (notFace_of_selects (args := #[]) (mvT hZ (hw _ (List.mem_of_getElem? (i := 43) rfl)))) (mvT hZ (hw _ (List.mem_of_getElem? (i := 43) rfl))) (mvT hZ (hw _ (List.mem_of_getElem? (i := 42) rfl))) (by decide) (backOf (W := 0) (rm8 l Z a0 hw [] g (Int32.ofNat ((([] : List (Int64 × Int64)) ++ [((own_hi p1), (own_lo p1) - (own_hi p1))]) ++ [((own_hi p2), (own_lo p2) - (own_hi p2))]).length) T17.heap n0 Z17 G17.2.1) hZ (hw _ (List.mem_of_getElem? (i := 44) rfl)) (hw _ (List.mem_of_getElem? (i := 2) rfl)) (by decide) (by decide)) q18a q18c (g := (mkF m 257 #[.val (.long p1), .second, .val (.long p2), .second, .val (.long p3), .second, .val (.int sl), .val (.int ct), .val (.int cl), .val (.int cc), .val (.ref g), .val (.long (own_hi p1)), .second, .val (.long ((own_lo p1) - (own_hi p1))), .second, .val (.long (own_hi p2)), .second, .val (.long ((own_lo p2) - (own_hi p2))), .second, .val (.long (0 : Int64)), .second, .val (.long (0 : Int64)), .second, .val (.long ((((own_hi p1) * (((own_lo p2) - (own_hi p2)) + (0 : Int64))) + ((own_hi p2) * (((own_lo p1) - (own_hi p1)) + (0 : Int64)))) + ((0 : Int64) * (((own_lo p1) - (own_hi p1)) + ((own_lo p2) - (own_hi p2)))))), .second] [(.ref g)])) rfl (by rw [hml]; rfl) (Steps.refl _) (argsL := []) (rest := []) (lenOf pd_0_6 rfl) rfl (by show 2 * 0 + _ ≤ _; exact Nat.le_of_eq rfl) (hb hby at_257) (fun _ _ => ⟨rfl, rfl, (Nat.le_of_ble_eq_true rfl), (Nat.le_of_ble_eq_true rfl)⟩)
  dsimp only [Pt.U, Pt.locs, Pt.cells, Pt.slots] at X18 l18 y18 z18 st18 hQ18
  subst l18 y18 z18
  obtain ⟨rfl, N18q, e18q⟩ := hQ18
  have N18 := Fr.app N17 N18q
  refine ⟨T18, _, X18, N18, trivial, fun target kt => ?_⟩
  show Steps p.tables e below (T0.setTop (mkF m 82 #[.val (.long p1), .second, .val (.long p2), .second, .val (.long p3), .second, .val (.int sl), .val (.int ct), .val (.int cl), .val (.int cc), .val (.ref g), .unset, .unset, .unset, .unset, .unset, .unset, .unset, .unset, .unset, .unset, .unset, .unset, .unset, .unset] [])) _
  refine XS.lconst X0.here hx rfl (hb hby at_82) ?_
  show Steps p.tables e below (T0.setTop (mkF m 83 #[.val (.long p1), .second, .val (.long p2), .second, .val (.long p3), .second, .val (.int sl), .val (.int ct), .val (.int cl), .val (.int cc), .val (.ref g), .unset, .unset, .unset, .unset, .unset, .unset, .unset, .unset, .unset, .unset, .unset, .unset, .unset, .unset] [(.long (0 : Int64))])) _
  refine XS.lstore X0.here hx rfl (hb hby at_83) rfl (l' := #[.val (.long p1), .second, .val (.long p2), .second, .val (.long p3), .second, .val (.int sl), .val (.int ct), .val (.int cl), .val (.int cc), .val (.ref g), .val (.long (0 : Int64)), .second, .unset, .unset, .unset, .unset, .unset, .unset, .unset, .unset, .unset, .unset, .unset, .unset]) rfl ?_
  show Steps p.tables e below (T0.setTop (mkF m 85 #[.val (.long p1), .second, .val (.long p2), .second, .val (.long p3), .second, .val (.int sl), .val (.int ct), .val (.int cl), .val (.int cc), .val (.ref g), .val (.long (0 : Int64)), .second, .unset, .unset, .unset, .unset, .unset, .unset, .unset, .unset, .unset, .unset, .unset, .unset] [])) _
  refine XS.lconst X0.here hx rfl (hb hby at_85) ?_
  show Steps p.tables e below (T0.setTop (mkF m 86 #[.val (.long p1), .second, .val (.long p2), .second, .val (.long p3), .second, .val (.int sl), .val (.int ct), .val (.int cl), .val (.int cc), .val (.ref g), .val (.long (0 : Int64)), .second, .unset, .unset, .unset, .unset, .unset, .unset, .unset, .unset, .unset, .unset, .unset, .unset] [(.long (0 : Int64))])) _
  refine XS.lstore X0.here hx rfl (hb hby at_86) rfl (l' := #[.val (.long p1), .second, .val (.long p2), .second, .val (.long p3), .second, .val (.int sl), .val (.int ct), .val (.int cl), .val (.int cc), .val (.ref g), .val (.long (0 : Int64)), .second, .val (.long (0 : Int64)), .second, .unset, .unset, .unset, .unset, .unset, .unset, .unset, .unset, .unset, .unset]) rfl ?_
  show Steps p.tables e below (T0.setTop (mkF m 88 #[.val (.long p1), .second, .val (.long p2), .second, .val (.long p3), .second, .val (.int sl), .val (.int ct), .val (.int cl), .val (.int cc), .val (.ref g), .val (.long (0 : Int64)), .second, .val (.long (0 : Int64)), .second, .unset, .unset, .unset, .unset, .unset, .unset, .unset, .unset, .unset, .unset] [])) _
  refine XS.lconst X0.here hx rfl (hb hby at_88) ?_
  show Steps p.tables e below (T0.setTop (mkF m 89 #[.val (.long p1), .second, .val (.long p2), .second, .val (.long p3), .second, .val (.int sl), .val (.int ct), .val (.int cl), .val (.int cc), .val (.ref g), .val (.long (0 : Int64)), .second, .val (.long (0 : Int64)), .second, .unset, .unset, .unset, .unset, .unset, .unset, .unset, .unset, .unset, .unset] [(.long (0 : Int64))])) _
  refine XS.lstore X0.here hx rfl (hb hby at_89) rfl (l' := #[.val (.long p1), .second, .val (.long p2), .second, .val (.long p3), .second, .val (.int sl), .val (.int ct), .val (.int cl), .val (.int cc), .val (.ref g), .val (.long (0 : Int64)), .second, .val (.long (0 : Int64)), .second, .val (.long (0 : Int64)), .second, .unset, .unset, .unset, .unset, .unset, .unset, .unset, .unset]) rfl ?_
  show Steps p.tables e below (T0.setTop (mkF m 91 #[.val (.long p1), .second, .val (.long p2), .second, .val (.long p3), .second, .val (.int sl), .val (.int ct), .val (.int cl), .val (.int cc), .val (.ref g), .val (.long (0 : Int64)), .second, .val (.long (0 : Int64)), .second, .val (.long (0 : Int64)), .second, .unset, .unset, .unset, .unset, .unset, .unset, .unset, .unset] [])) _
  refine XS.lconst X0.here hx rfl (hb hby at_91) ?_
  show Steps p.tables e below (T0.setTop (mkF m 92 #[.val (.long p1), .second, .val (.long p2), .second, .val (.long p3), .second, .val (.int sl), .val (.int ct), .val (.int cl), .val (.int cc), .val (.ref g), .val (.long (0 : Int64)), .second, .val (.long (0 : Int64)), .second, .val (.long (0 : Int64)), .second, .unset, .unset, .unset, .unset, .unset, .unset, .unset, .unset] [(.long (0 : Int64))])) _
  refine XS.lstore X0.here hx rfl (hb hby at_92) rfl (l' := #[.val (.long p1), .second, .val (.long p2), .second, .val (.long p3), .second, .val (.int sl), .val (.int ct), .val (.int cl), .val (.int cc), .val (.ref g), .val (.long (0 : Int64)), .second, .val (.long (0 : Int64)), .second, .val (.long (0 : Int64)), .second, .val (.long (0 : Int64)), .second, .unset, .unset, .unset, .unset, .unset, .unset]) rfl ?_
  show Steps p.tables e below (T0.setTop (mkF m 94 #[.val (.long p1), .second, .val (.long p2), .second, .val (.long p3), .second, .val (.int sl), .val (.int ct), .val (.int cl), .val (.int cc), .val (.ref g), .val (.long (0 : Int64)), .second, .val (.long (0 : Int64)), .second, .val (.long (0 : Int64)), .second, .val (.long (0 : Int64)), .second, .unset, .unset, .unset, .unset, .unset, .unset] [])) _
  refine XS.lconst X0.here hx rfl (hb hby at_94) ?_
  show Steps p.tables e below (T0.setTop (mkF m 95 #[.val (.long p1), .second, .val (.long p2), .second, .val (.long p3), .second, .val (.int sl), .val (.int ct), .val (.int cl), .val (.int cc), .val (.ref g), .val (.long (0 : Int64)), .second, .val (.long (0 : Int64)), .second, .val (.long (0 : Int64)), .second, .val (.long (0 : Int64)), .second, .unset, .unset, .unset, .unset, .unset, .unset] [(.long (0 : Int64))])) _
  refine XS.lstore X0.here hx rfl (hb hby at_95) rfl (l' := #[.val (.long p1), .second, .val (.long p2), .second, .val (.long p3), .second, .val (.int sl), .val (.int ct), .val (.int cl), .val (.int cc), .val (.ref g), .val (.long (0 : Int64)), .second, .val (.long (0 : Int64)), .second, .val (.long (0 : Int64)), .second, .val (.long (0 : Int64)), .second, .val (.long (0 : Int64)), .second, .unset, .unset, .unset, .unset]) rfl ?_
  show Steps p.tables e below (T0.setTop (mkF m 97 #[.val (.long p1), .second, .val (.long p2), .second, .val (.long p3), .second, .val (.int sl), .val (.int ct), .val (.int cl), .val (.int cc), .val (.ref g), .val (.long (0 : Int64)), .second, .val (.long (0 : Int64)), .second, .val (.long (0 : Int64)), .second, .val (.long (0 : Int64)), .second, .val (.long (0 : Int64)), .second, .unset, .unset, .unset, .unset] [])) _
  refine XS.lconst X0.here hx rfl (hb hby at_97) ?_
  show Steps p.tables e below (T0.setTop (mkF m 98 #[.val (.long p1), .second, .val (.long p2), .second, .val (.long p3), .second, .val (.int sl), .val (.int ct), .val (.int cl), .val (.int cc), .val (.ref g), .val (.long (0 : Int64)), .second, .val (.long (0 : Int64)), .second, .val (.long (0 : Int64)), .second, .val (.long (0 : Int64)), .second, .val (.long (0 : Int64)), .second, .unset, .unset, .unset, .unset] [(.long (0 : Int64))])) _
  refine XS.lstore X0.here hx rfl (hb hby at_98) rfl (l' := #[.val (.long p1), .second, .val (.long p2), .second, .val (.long p3), .second, .val (.int sl), .val (.int ct), .val (.int cl), .val (.int cc), .val (.ref g), .val (.long (0 : Int64)), .second, .val (.long (0 : Int64)), .second, .val (.long (0 : Int64)), .second, .val (.long (0 : Int64)), .second, .val (.long (0 : Int64)), .second, .val (.long (0 : Int64)), .second, .unset, .unset]) rfl ?_
  show Steps p.tables e below (T0.setTop (mkF m 100 #[.val (.long p1), .second, .val (.long p2), .second, .val (.long p3), .second, .val (.int sl), .val (.int ct), .val (.int cl), .val (.int cc), .val (.ref g), .val (.long (0 : Int64)), .second, .val (.long (0 : Int64)), .second, .val (.long (0 : Int64)), .second, .val (.long (0 : Int64)), .second, .val (.long (0 : Int64)), .second, .val (.long (0 : Int64)), .second, .unset, .unset] [])) _
  refine XS.iload X0.here hx rfl (hb hby at_100) rfl ?_
  show Steps p.tables e below (T0.setTop (mkF m 102 #[.val (.long p1), .second, .val (.long p2), .second, .val (.long p3), .second, .val (.int sl), .val (.int ct), .val (.int cl), .val (.int cc), .val (.ref g), .val (.long (0 : Int64)), .second, .val (.long (0 : Int64)), .second, .val (.long (0 : Int64)), .second, .val (.long (0 : Int64)), .second, .val (.long (0 : Int64)), .second, .val (.long (0 : Int64)), .second, .unset, .unset] [(.int ct)])) _
  refine XS.iconst X0.here hx rfl (hb hby at_102) ?_
  show Steps p.tables e below (T0.setTop (mkF m 103 #[.val (.long p1), .second, .val (.long p2), .second, .val (.long p3), .second, .val (.int sl), .val (.int ct), .val (.int cl), .val (.int cc), .val (.ref g), .val (.long (0 : Int64)), .second, .val (.long (0 : Int64)), .second, .val (.long (0 : Int64)), .second, .val (.long (0 : Int64)), .second, .val (.long (0 : Int64)), .second, .val (.long (0 : Int64)), .second, .unset, .unset] [(.int (1 : Int32)), (.int ct)])) _
  refine XS.icmpNo X0.here hx rfl (hb hby at_103) rfl (flt hc103).1 ?_
  show Steps p.tables e below (T0.setTop (mkF m 106 #[.val (.long p1), .second, .val (.long p2), .second, .val (.long p3), .second, .val (.int sl), .val (.int ct), .val (.int cl), .val (.int cc), .val (.ref g), .val (.long (0 : Int64)), .second, .val (.long (0 : Int64)), .second, .val (.long (0 : Int64)), .second, .val (.long (0 : Int64)), .second, .val (.long (0 : Int64)), .second, .val (.long (0 : Int64)), .second, .unset, .unset] [])) _
  refine XS.aload X0.here hx rfl (hb hby at_106) rfl rfl ?_
  show Steps p.tables e below (T0.setTop (mkF m 108 #[.val (.long p1), .second, .val (.long p2), .second, .val (.long p3), .second, .val (.int sl), .val (.int ct), .val (.int cl), .val (.int cc), .val (.ref g), .val (.long (0 : Int64)), .second, .val (.long (0 : Int64)), .second, .val (.long (0 : Int64)), .second, .val (.long (0 : Int64)), .second, .val (.long (0 : Int64)), .second, .val (.long (0 : Int64)), .second, .unset, .unset] [(.ref g)])) _
  refine XS.iconst X0.here hx rfl (hb hby at_108) ?_
  show Steps p.tables e below (T0.setTop (mkF m 109 #[.val (.long p1), .second, .val (.long p2), .second, .val (.long p3), .second, .val (.int sl), .val (.int ct), .val (.int cl), .val (.int cc), .val (.ref g), .val (.long (0 : Int64)), .second, .val (.long (0 : Int64)), .second, .val (.long (0 : Int64)), .second, .val (.long (0 : Int64)), .second, .val (.long (0 : Int64)), .second, .val (.long (0 : Int64)), .second, .unset, .unset] [(.int (0 : Int32)), (.ref g)])) _
  refine XS.lloadN X0.here hx rfl (hb hby at_109) rfl ?_
  show Steps p.tables e below (T0.setTop (mkF m 110 #[.val (.long p1), .second, .val (.long p2), .second, .val (.long p3), .second, .val (.int sl), .val (.int ct), .val (.int cl), .val (.int cc), .val (.ref g), .val (.long (0 : Int64)), .second, .val (.long (0 : Int64)), .second, .val (.long (0 : Int64)), .second, .val (.long (0 : Int64)), .second, .val (.long (0 : Int64)), .second, .val (.long (0 : Int64)), .second, .unset, .unset] [(.long p1), (.int (0 : Int32)), (.ref g)])) _
  refine st5 _ ?_
  show Steps p.tables e below (T5.setTop (mkF m 113 #[.val (.long p1), .second, .val (.long p2), .second, .val (.long p3), .second, .val (.int sl), .val (.int ct), .val (.int cl), .val (.int cc), .val (.ref g), .val (.long (0 : Int64)), .second, .val (.long (0 : Int64)), .second, .val (.long (0 : Int64)), .second, .val (.long (0 : Int64)), .second, .val (.long (0 : Int64)), .second, .val (.long (0 : Int64)), .second, .unset, .unset] [(.long (own_hi p1)), (.int (0 : Int32)), (.ref g)])) _
  refine XS.lloadN X5.here hx rfl (hb hby at_113) rfl ?_
  show Steps p.tables e below (T5.setTop (mkF m 114 #[.val (.long p1), .second, .val (.long p2), .second, .val (.long p3), .second, .val (.int sl), .val (.int ct), .val (.int cl), .val (.int cc), .val (.ref g), .val (.long (0 : Int64)), .second, .val (.long (0 : Int64)), .second, .val (.long (0 : Int64)), .second, .val (.long (0 : Int64)), .second, .val (.long (0 : Int64)), .second, .val (.long (0 : Int64)), .second, .unset, .unset] [(.long p1), (.long (own_hi p1)), (.int (0 : Int32)), (.ref g)])) _
  refine st6 _ ?_
  show Steps p.tables e below (T6.setTop (mkF m 117 #[.val (.long p1), .second, .val (.long p2), .second, .val (.long p3), .second, .val (.int sl), .val (.int ct), .val (.int cl), .val (.int cc), .val (.ref g), .val (.long (0 : Int64)), .second, .val (.long (0 : Int64)), .second, .val (.long (0 : Int64)), .second, .val (.long (0 : Int64)), .second, .val (.long (0 : Int64)), .second, .val (.long (0 : Int64)), .second, .unset, .unset] [(.long (own_lo p1)), (.long (own_hi p1)), (.int (0 : Int32)), (.ref g)])) _
  refine st7.trans ?_
  show Steps p.tables e below (T7.setTop (mkF m 120 #[.val (.long p1), .second, .val (.long p2), .second, .val (.long p3), .second, .val (.int sl), .val (.int ct), .val (.int cl), .val (.int cc), .val (.ref g), .val (.long (0 : Int64)), .second, .val (.long (0 : Int64)), .second, .val (.long (0 : Int64)), .second, .val (.long (0 : Int64)), .second, .val (.long (0 : Int64)), .second, .val (.long (0 : Int64)), .second, .unset, .unset] [])) _
  refine XS.lloadN X7.here hx rfl (hb hby at_120) rfl ?_
  show Steps p.tables e below (T7.setTop (mkF m 121 #[.val (.long p1), .second, .val (.long p2), .second, .val (.long p3), .second, .val (.int sl), .val (.int ct), .val (.int cl), .val (.int cc), .val (.ref g), .val (.long (0 : Int64)), .second, .val (.long (0 : Int64)), .second, .val (.long (0 : Int64)), .second, .val (.long (0 : Int64)), .second, .val (.long (0 : Int64)), .second, .val (.long (0 : Int64)), .second, .unset, .unset] [(.long p1)])) _
  refine st8 _ ?_
  show Steps p.tables e below (T8.setTop (mkF m 124 #[.val (.long p1), .second, .val (.long p2), .second, .val (.long p3), .second, .val (.int sl), .val (.int ct), .val (.int cl), .val (.int cc), .val (.ref g), .val (.long (0 : Int64)), .second, .val (.long (0 : Int64)), .second, .val (.long (0 : Int64)), .second, .val (.long (0 : Int64)), .second, .val (.long (0 : Int64)), .second, .val (.long (0 : Int64)), .second, .unset, .unset] [(.long (own_hi p1))])) _
  refine XS.lstore X8.here hx rfl (hb hby at_124) rfl (l' := #[.val (.long p1), .second, .val (.long p2), .second, .val (.long p3), .second, .val (.int sl), .val (.int ct), .val (.int cl), .val (.int cc), .val (.ref g), .val (.long (own_hi p1)), .second, .val (.long (0 : Int64)), .second, .val (.long (0 : Int64)), .second, .val (.long (0 : Int64)), .second, .val (.long (0 : Int64)), .second, .val (.long (0 : Int64)), .second, .unset, .unset]) rfl ?_
  show Steps p.tables e below (T8.setTop (mkF m 126 #[.val (.long p1), .second, .val (.long p2), .second, .val (.long p3), .second, .val (.int sl), .val (.int ct), .val (.int cl), .val (.int cc), .val (.ref g), .val (.long (own_hi p1)), .second, .val (.long (0 : Int64)), .second, .val (.long (0 : Int64)), .second, .val (.long (0 : Int64)), .second, .val (.long (0 : Int64)), .second, .val (.long (0 : Int64)), .second, .unset, .unset] [])) _
  refine XS.lloadN X8.here hx rfl (hb hby at_126) rfl ?_
  show Steps p.tables e below (T8.setTop (mkF m 127 #[.val (.long p1), .second, .val (.long p2), .second, .val (.long p3), .second, .val (.int sl), .val (.int ct), .val (.int cl), .val (.int cc), .val (.ref g), .val (.long (own_hi p1)), .second, .val (.long (0 : Int64)), .second, .val (.long (0 : Int64)), .second, .val (.long (0 : Int64)), .second, .val (.long (0 : Int64)), .second, .val (.long (0 : Int64)), .second, .unset, .unset] [(.long p1)])) _
  refine st9 _ ?_
  show Steps p.tables e below (T9.setTop (mkF m 130 #[.val (.long p1), .second, .val (.long p2), .second, .val (.long p3), .second, .val (.int sl), .val (.int ct), .val (.int cl), .val (.int cc), .val (.ref g), .val (.long (own_hi p1)), .second, .val (.long (0 : Int64)), .second, .val (.long (0 : Int64)), .second, .val (.long (0 : Int64)), .second, .val (.long (0 : Int64)), .second, .val (.long (0 : Int64)), .second, .unset, .unset] [(.long (own_lo p1))])) _
  refine XS.lloadN X9.here hx rfl (hb hby at_130) rfl ?_
  show Steps p.tables e below (T9.setTop (mkF m 131 #[.val (.long p1), .second, .val (.long p2), .second, .val (.long p3), .second, .val (.int sl), .val (.int ct), .val (.int cl), .val (.int cc), .val (.ref g), .val (.long (own_hi p1)), .second, .val (.long (0 : Int64)), .second, .val (.long (0 : Int64)), .second, .val (.long (0 : Int64)), .second, .val (.long (0 : Int64)), .second, .val (.long (0 : Int64)), .second, .unset, .unset] [(.long p1), (.long (own_lo p1))])) _
  refine st10 _ ?_
  show Steps p.tables e below (T10.setTop (mkF m 134 #[.val (.long p1), .second, .val (.long p2), .second, .val (.long p3), .second, .val (.int sl), .val (.int ct), .val (.int cl), .val (.int cc), .val (.ref g), .val (.long (own_hi p1)), .second, .val (.long (0 : Int64)), .second, .val (.long (0 : Int64)), .second, .val (.long (0 : Int64)), .second, .val (.long (0 : Int64)), .second, .val (.long (0 : Int64)), .second, .unset, .unset] [(.long (own_hi p1)), (.long (own_lo p1))])) _
  refine XS.lsub X10.here hx rfl (hb hby at_134) rfl ?_
  show Steps p.tables e below (T10.setTop (mkF m 135 #[.val (.long p1), .second, .val (.long p2), .second, .val (.long p3), .second, .val (.int sl), .val (.int ct), .val (.int cl), .val (.int cc), .val (.ref g), .val (.long (own_hi p1)), .second, .val (.long (0 : Int64)), .second, .val (.long (0 : Int64)), .second, .val (.long (0 : Int64)), .second, .val (.long (0 : Int64)), .second, .val (.long (0 : Int64)), .second, .unset, .unset] [(.long ((own_lo p1) - (own_hi p1)))])) _
  refine XS.lstore X10.here hx rfl (hb hby at_135) rfl (l' := #[.val (.long p1), .second, .val (.long p2), .second, .val (.long p3), .second, .val (.int sl), .val (.int ct), .val (.int cl), .val (.int cc), .val (.ref g), .val (.long (own_hi p1)), .second, .val (.long ((own_lo p1) - (own_hi p1))), .second, .val (.long (0 : Int64)), .second, .val (.long (0 : Int64)), .second, .val (.long (0 : Int64)), .second, .val (.long (0 : Int64)), .second, .unset, .unset]) rfl ?_
  show Steps p.tables e below (T10.setTop (mkF m 137 #[.val (.long p1), .second, .val (.long p2), .second, .val (.long p3), .second, .val (.int sl), .val (.int ct), .val (.int cl), .val (.int cc), .val (.ref g), .val (.long (own_hi p1)), .second, .val (.long ((own_lo p1) - (own_hi p1))), .second, .val (.long (0 : Int64)), .second, .val (.long (0 : Int64)), .second, .val (.long (0 : Int64)), .second, .val (.long (0 : Int64)), .second, .unset, .unset] [])) _
  refine XS.iload X10.here hx rfl (hb hby at_137) rfl ?_
  show Steps p.tables e below (T10.setTop (mkF m 139 #[.val (.long p1), .second, .val (.long p2), .second, .val (.long p3), .second, .val (.int sl), .val (.int ct), .val (.int cl), .val (.int cc), .val (.ref g), .val (.long (own_hi p1)), .second, .val (.long ((own_lo p1) - (own_hi p1))), .second, .val (.long (0 : Int64)), .second, .val (.long (0 : Int64)), .second, .val (.long (0 : Int64)), .second, .val (.long (0 : Int64)), .second, .unset, .unset] [(.int ct)])) _
  refine XS.iconst X10.here hx rfl (hb hby at_139) ?_
  show Steps p.tables e below (T10.setTop (mkF m 140 #[.val (.long p1), .second, .val (.long p2), .second, .val (.long p3), .second, .val (.int sl), .val (.int ct), .val (.int cl), .val (.int cc), .val (.ref g), .val (.long (own_hi p1)), .second, .val (.long ((own_lo p1) - (own_hi p1))), .second, .val (.long (0 : Int64)), .second, .val (.long (0 : Int64)), .second, .val (.long (0 : Int64)), .second, .val (.long (0 : Int64)), .second, .unset, .unset] [(.int (2 : Int32)), (.int ct)])) _
  refine XS.icmpNo X10.here hx rfl (hb hby at_140) rfl (flt hc140).1 ?_
  show Steps p.tables e below (T10.setTop (mkF m 143 #[.val (.long p1), .second, .val (.long p2), .second, .val (.long p3), .second, .val (.int sl), .val (.int ct), .val (.int cl), .val (.int cc), .val (.ref g), .val (.long (own_hi p1)), .second, .val (.long ((own_lo p1) - (own_hi p1))), .second, .val (.long (0 : Int64)), .second, .val (.long (0 : Int64)), .second, .val (.long (0 : Int64)), .second, .val (.long (0 : Int64)), .second, .unset, .unset] [])) _
  refine XS.aload X10.here hx rfl (hb hby at_143) rfl rfl ?_
  show Steps p.tables e below (T10.setTop (mkF m 145 #[.val (.long p1), .second, .val (.long p2), .second, .val (.long p3), .second, .val (.int sl), .val (.int ct), .val (.int cl), .val (.int cc), .val (.ref g), .val (.long (own_hi p1)), .second, .val (.long ((own_lo p1) - (own_hi p1))), .second, .val (.long (0 : Int64)), .second, .val (.long (0 : Int64)), .second, .val (.long (0 : Int64)), .second, .val (.long (0 : Int64)), .second, .unset, .unset] [(.ref g)])) _
  refine XS.iconst X10.here hx rfl (hb hby at_145) ?_
  show Steps p.tables e below (T10.setTop (mkF m 146 #[.val (.long p1), .second, .val (.long p2), .second, .val (.long p3), .second, .val (.int sl), .val (.int ct), .val (.int cl), .val (.int cc), .val (.ref g), .val (.long (own_hi p1)), .second, .val (.long ((own_lo p1) - (own_hi p1))), .second, .val (.long (0 : Int64)), .second, .val (.long (0 : Int64)), .second, .val (.long (0 : Int64)), .second, .val (.long (0 : Int64)), .second, .unset, .unset] [(.int (1 : Int32)), (.ref g)])) _
  refine XS.lloadN X10.here hx rfl (hb hby at_146) rfl ?_
  show Steps p.tables e below (T10.setTop (mkF m 147 #[.val (.long p1), .second, .val (.long p2), .second, .val (.long p3), .second, .val (.int sl), .val (.int ct), .val (.int cl), .val (.int cc), .val (.ref g), .val (.long (own_hi p1)), .second, .val (.long ((own_lo p1) - (own_hi p1))), .second, .val (.long (0 : Int64)), .second, .val (.long (0 : Int64)), .second, .val (.long (0 : Int64)), .second, .val (.long (0 : Int64)), .second, .unset, .unset] [(.long p2), (.int (1 : Int32)), (.ref g)])) _
  refine st11 _ ?_
  show Steps p.tables e below (T11.setTop (mkF m 150 #[.val (.long p1), .second, .val (.long p2), .second, .val (.long p3), .second, .val (.int sl), .val (.int ct), .val (.int cl), .val (.int cc), .val (.ref g), .val (.long (own_hi p1)), .second, .val (.long ((own_lo p1) - (own_hi p1))), .second, .val (.long (0 : Int64)), .second, .val (.long (0 : Int64)), .second, .val (.long (0 : Int64)), .second, .val (.long (0 : Int64)), .second, .unset, .unset] [(.long (own_hi p2)), (.int (1 : Int32)), (.ref g)])) _
  refine XS.lloadN X11.here hx rfl (hb hby at_150) rfl ?_
  show Steps p.tables e below (T11.setTop (mkF m 151 #[.val (.long p1), .second, .val (.long p2), .second, .val (.long p3), .second, .val (.int sl), .val (.int ct), .val (.int cl), .val (.int cc), .val (.ref g), .val (.long (own_hi p1)), .second, .val (.long ((own_lo p1) - (own_hi p1))), .second, .val (.long (0 : Int64)), .second, .val (.long (0 : Int64)), .second, .val (.long (0 : Int64)), .second, .val (.long (0 : Int64)), .second, .unset, .unset] [(.long p2), (.long (own_hi p2)), (.int (1 : Int32)), (.ref g)])) _
  refine st12 _ ?_
  show Steps p.tables e below (T12.setTop (mkF m 154 #[.val (.long p1), .second, .val (.long p2), .second, .val (.long p3), .second, .val (.int sl), .val (.int ct), .val (.int cl), .val (.int cc), .val (.ref g), .val (.long (own_hi p1)), .second, .val (.long ((own_lo p1) - (own_hi p1))), .second, .val (.long (0 : Int64)), .second, .val (.long (0 : Int64)), .second, .val (.long (0 : Int64)), .second, .val (.long (0 : Int64)), .second, .unset, .unset] [(.long (own_lo p2)), (.long (own_hi p2)), (.int (1 : Int32)), (.ref g)])) _
  refine st13.trans ?_
  show Steps p.tables e below (T13.setTop (mkF m 157 #[.val (.long p1), .second, .val (.long p2), .second, .val (.long p3), .second, .val (.int sl), .val (.int ct), .val (.int cl), .val (.int cc), .val (.ref g), .val (.long (own_hi p1)), .second, .val (.long ((own_lo p1) - (own_hi p1))), .second, .val (.long (0 : Int64)), .second, .val (.long (0 : Int64)), .second, .val (.long (0 : Int64)), .second, .val (.long (0 : Int64)), .second, .unset, .unset] [])) _
  refine XS.lloadN X13.here hx rfl (hb hby at_157) rfl ?_
  show Steps p.tables e below (T13.setTop (mkF m 158 #[.val (.long p1), .second, .val (.long p2), .second, .val (.long p3), .second, .val (.int sl), .val (.int ct), .val (.int cl), .val (.int cc), .val (.ref g), .val (.long (own_hi p1)), .second, .val (.long ((own_lo p1) - (own_hi p1))), .second, .val (.long (0 : Int64)), .second, .val (.long (0 : Int64)), .second, .val (.long (0 : Int64)), .second, .val (.long (0 : Int64)), .second, .unset, .unset] [(.long p2)])) _
  refine st14 _ ?_
  show Steps p.tables e below (T14.setTop (mkF m 161 #[.val (.long p1), .second, .val (.long p2), .second, .val (.long p3), .second, .val (.int sl), .val (.int ct), .val (.int cl), .val (.int cc), .val (.ref g), .val (.long (own_hi p1)), .second, .val (.long ((own_lo p1) - (own_hi p1))), .second, .val (.long (0 : Int64)), .second, .val (.long (0 : Int64)), .second, .val (.long (0 : Int64)), .second, .val (.long (0 : Int64)), .second, .unset, .unset] [(.long (own_hi p2))])) _
  refine XS.lstore X14.here hx rfl (hb hby at_161) rfl (l' := #[.val (.long p1), .second, .val (.long p2), .second, .val (.long p3), .second, .val (.int sl), .val (.int ct), .val (.int cl), .val (.int cc), .val (.ref g), .val (.long (own_hi p1)), .second, .val (.long ((own_lo p1) - (own_hi p1))), .second, .val (.long (own_hi p2)), .second, .val (.long (0 : Int64)), .second, .val (.long (0 : Int64)), .second, .val (.long (0 : Int64)), .second, .unset, .unset]) rfl ?_
  show Steps p.tables e below (T14.setTop (mkF m 163 #[.val (.long p1), .second, .val (.long p2), .second, .val (.long p3), .second, .val (.int sl), .val (.int ct), .val (.int cl), .val (.int cc), .val (.ref g), .val (.long (own_hi p1)), .second, .val (.long ((own_lo p1) - (own_hi p1))), .second, .val (.long (own_hi p2)), .second, .val (.long (0 : Int64)), .second, .val (.long (0 : Int64)), .second, .val (.long (0 : Int64)), .second, .unset, .unset] [])) _
  refine XS.lloadN X14.here hx rfl (hb hby at_163) rfl ?_
  show Steps p.tables e below (T14.setTop (mkF m 164 #[.val (.long p1), .second, .val (.long p2), .second, .val (.long p3), .second, .val (.int sl), .val (.int ct), .val (.int cl), .val (.int cc), .val (.ref g), .val (.long (own_hi p1)), .second, .val (.long ((own_lo p1) - (own_hi p1))), .second, .val (.long (own_hi p2)), .second, .val (.long (0 : Int64)), .second, .val (.long (0 : Int64)), .second, .val (.long (0 : Int64)), .second, .unset, .unset] [(.long p2)])) _
  refine st15 _ ?_
  show Steps p.tables e below (T15.setTop (mkF m 167 #[.val (.long p1), .second, .val (.long p2), .second, .val (.long p3), .second, .val (.int sl), .val (.int ct), .val (.int cl), .val (.int cc), .val (.ref g), .val (.long (own_hi p1)), .second, .val (.long ((own_lo p1) - (own_hi p1))), .second, .val (.long (own_hi p2)), .second, .val (.long (0 : Int64)), .second, .val (.long (0 : Int64)), .second, .val (.long (0 : Int64)), .second, .unset, .unset] [(.long (own_lo p2))])) _
  refine XS.lloadN X15.here hx rfl (hb hby at_167) rfl ?_
  show Steps p.tables e below (T15.setTop (mkF m 168 #[.val (.long p1), .second, .val (.long p2), .second, .val (.long p3), .second, .val (.int sl), .val (.int ct), .val (.int cl), .val (.int cc), .val (.ref g), .val (.long (own_hi p1)), .second, .val (.long ((own_lo p1) - (own_hi p1))), .second, .val (.long (own_hi p2)), .second, .val (.long (0 : Int64)), .second, .val (.long (0 : Int64)), .second, .val (.long (0 : Int64)), .second, .unset, .unset] [(.long p2), (.long (own_lo p2))])) _
  refine st16 _ ?_
  show Steps p.tables e below (T16.setTop (mkF m 171 #[.val (.long p1), .second, .val (.long p2), .second, .val (.long p3), .second, .val (.int sl), .val (.int ct), .val (.int cl), .val (.int cc), .val (.ref g), .val (.long (own_hi p1)), .second, .val (.long ((own_lo p1) - (own_hi p1))), .second, .val (.long (own_hi p2)), .second, .val (.long (0 : Int64)), .second, .val (.long (0 : Int64)), .second, .val (.long (0 : Int64)), .second, .unset, .unset] [(.long (own_hi p2)), (.long (own_lo p2))])) _
  refine XS.lsub X16.here hx rfl (hb hby at_171) rfl ?_
  show Steps p.tables e below (T16.setTop (mkF m 172 #[.val (.long p1), .second, .val (.long p2), .second, .val (.long p3), .second, .val (.int sl), .val (.int ct), .val (.int cl), .val (.int cc), .val (.ref g), .val (.long (own_hi p1)), .second, .val (.long ((own_lo p1) - (own_hi p1))), .second, .val (.long (own_hi p2)), .second, .val (.long (0 : Int64)), .second, .val (.long (0 : Int64)), .second, .val (.long (0 : Int64)), .second, .unset, .unset] [(.long ((own_lo p2) - (own_hi p2)))])) _
  refine XS.lstore X16.here hx rfl (hb hby at_172) rfl (l' := #[.val (.long p1), .second, .val (.long p2), .second, .val (.long p3), .second, .val (.int sl), .val (.int ct), .val (.int cl), .val (.int cc), .val (.ref g), .val (.long (own_hi p1)), .second, .val (.long ((own_lo p1) - (own_hi p1))), .second, .val (.long (own_hi p2)), .second, .val (.long ((own_lo p2) - (own_hi p2))), .second, .val (.long (0 : Int64)), .second, .val (.long (0 : Int64)), .second, .unset, .unset]) rfl ?_
  show Steps p.tables e below (T16.setTop (mkF m 174 #[.val (.long p1), .second, .val (.long p2), .second, .val (.long p3), .second, .val (.int sl), .val (.int ct), .val (.int cl), .val (.int cc), .val (.ref g), .val (.long (own_hi p1)), .second, .val (.long ((own_lo p1) - (own_hi p1))), .second, .val (.long (own_hi p2)), .second, .val (.long ((own_lo p2) - (own_hi p2))), .second, .val (.long (0 : Int64)), .second, .val (.long (0 : Int64)), .second, .unset, .unset] [])) _
  refine XS.iload X16.here hx rfl (hb hby at_174) rfl ?_
  show Steps p.tables e below (T16.setTop (mkF m 176 #[.val (.long p1), .second, .val (.long p2), .second, .val (.long p3), .second, .val (.int sl), .val (.int ct), .val (.int cl), .val (.int cc), .val (.ref g), .val (.long (own_hi p1)), .second, .val (.long ((own_lo p1) - (own_hi p1))), .second, .val (.long (own_hi p2)), .second, .val (.long ((own_lo p2) - (own_hi p2))), .second, .val (.long (0 : Int64)), .second, .val (.long (0 : Int64)), .second, .unset, .unset] [(.int ct)])) _
  refine XS.iconst X16.here hx rfl (hb hby at_176) ?_
  show Steps p.tables e below (T16.setTop (mkF m 177 #[.val (.long p1), .second, .val (.long p2), .second, .val (.long p3), .second, .val (.int sl), .val (.int ct), .val (.int cl), .val (.int cc), .val (.ref g), .val (.long (own_hi p1)), .second, .val (.long ((own_lo p1) - (own_hi p1))), .second, .val (.long (own_hi p2)), .second, .val (.long ((own_lo p2) - (own_hi p2))), .second, .val (.long (0 : Int64)), .second, .val (.long (0 : Int64)), .second, .unset, .unset] [(.int (3 : Int32)), (.int ct)])) _
  refine XS.icmpYes X16.here hx rfl (pc0 := 177) (pc' := 216) rfl (hb hby at_177) rfl (tlt hc177).1 (by decide) (by decide) ?_
  show Steps p.tables e below (T16.setTop (mkF m 216 #[.val (.long p1), .second, .val (.long p2), .second, .val (.long p3), .second, .val (.int sl), .val (.int ct), .val (.int cl), .val (.int cc), .val (.ref g), .val (.long (own_hi p1)), .second, .val (.long ((own_lo p1) - (own_hi p1))), .second, .val (.long (own_hi p2)), .second, .val (.long ((own_lo p2) - (own_hi p2))), .second, .val (.long (0 : Int64)), .second, .val (.long (0 : Int64)), .second, .unset, .unset] [])) _
  refine XS.lload X16.here hx rfl (hb hby at_216) rfl ?_
  show Steps p.tables e below (T16.setTop (mkF m 218 #[.val (.long p1), .second, .val (.long p2), .second, .val (.long p3), .second, .val (.int sl), .val (.int ct), .val (.int cl), .val (.int cc), .val (.ref g), .val (.long (own_hi p1)), .second, .val (.long ((own_lo p1) - (own_hi p1))), .second, .val (.long (own_hi p2)), .second, .val (.long ((own_lo p2) - (own_hi p2))), .second, .val (.long (0 : Int64)), .second, .val (.long (0 : Int64)), .second, .unset, .unset] [(.long (own_hi p1))])) _
  refine XS.lload X16.here hx rfl (hb hby at_218) rfl ?_
  show Steps p.tables e below (T16.setTop (mkF m 220 #[.val (.long p1), .second, .val (.long p2), .second, .val (.long p3), .second, .val (.int sl), .val (.int ct), .val (.int cl), .val (.int cc), .val (.ref g), .val (.long (own_hi p1)), .second, .val (.long ((own_lo p1) - (own_hi p1))), .second, .val (.long (own_hi p2)), .second, .val (.long ((own_lo p2) - (own_hi p2))), .second, .val (.long (0 : Int64)), .second, .val (.long (0 : Int64)), .second, .unset, .unset] [(.long ((own_lo p2) - (own_hi p2))), (.long (own_hi p1))])) _
  refine XS.lload X16.here hx rfl (hb hby at_220) rfl ?_
  show Steps p.tables e below (T16.setTop (mkF m 222 #[.val (.long p1), .second, .val (.long p2), .second, .val (.long p3), .second, .val (.int sl), .val (.int ct), .val (.int cl), .val (.int cc), .val (.ref g), .val (.long (own_hi p1)), .second, .val (.long ((own_lo p1) - (own_hi p1))), .second, .val (.long (own_hi p2)), .second, .val (.long ((own_lo p2) - (own_hi p2))), .second, .val (.long (0 : Int64)), .second, .val (.long (0 : Int64)), .second, .unset, .unset] [(.long (0 : Int64)), (.long ((own_lo p2) - (own_hi p2))), (.long (own_hi p1))])) _
  refine XS.ladd X16.here hx rfl (hb hby at_222) rfl ?_
  show Steps p.tables e below (T16.setTop (mkF m 223 #[.val (.long p1), .second, .val (.long p2), .second, .val (.long p3), .second, .val (.int sl), .val (.int ct), .val (.int cl), .val (.int cc), .val (.ref g), .val (.long (own_hi p1)), .second, .val (.long ((own_lo p1) - (own_hi p1))), .second, .val (.long (own_hi p2)), .second, .val (.long ((own_lo p2) - (own_hi p2))), .second, .val (.long (0 : Int64)), .second, .val (.long (0 : Int64)), .second, .unset, .unset] [(.long (((own_lo p2) - (own_hi p2)) + (0 : Int64))), (.long (own_hi p1))])) _
  refine XS.lmul X16.here hx rfl (hb hby at_223) rfl ?_
  show Steps p.tables e below (T16.setTop (mkF m 224 #[.val (.long p1), .second, .val (.long p2), .second, .val (.long p3), .second, .val (.int sl), .val (.int ct), .val (.int cl), .val (.int cc), .val (.ref g), .val (.long (own_hi p1)), .second, .val (.long ((own_lo p1) - (own_hi p1))), .second, .val (.long (own_hi p2)), .second, .val (.long ((own_lo p2) - (own_hi p2))), .second, .val (.long (0 : Int64)), .second, .val (.long (0 : Int64)), .second, .unset, .unset] [(.long ((own_hi p1) * (((own_lo p2) - (own_hi p2)) + (0 : Int64))))])) _
  refine XS.lload X16.here hx rfl (hb hby at_224) rfl ?_
  show Steps p.tables e below (T16.setTop (mkF m 226 #[.val (.long p1), .second, .val (.long p2), .second, .val (.long p3), .second, .val (.int sl), .val (.int ct), .val (.int cl), .val (.int cc), .val (.ref g), .val (.long (own_hi p1)), .second, .val (.long ((own_lo p1) - (own_hi p1))), .second, .val (.long (own_hi p2)), .second, .val (.long ((own_lo p2) - (own_hi p2))), .second, .val (.long (0 : Int64)), .second, .val (.long (0 : Int64)), .second, .unset, .unset] [(.long (own_hi p2)), (.long ((own_hi p1) * (((own_lo p2) - (own_hi p2)) + (0 : Int64))))])) _
  refine XS.lload X16.here hx rfl (hb hby at_226) rfl ?_
  show Steps p.tables e below (T16.setTop (mkF m 228 #[.val (.long p1), .second, .val (.long p2), .second, .val (.long p3), .second, .val (.int sl), .val (.int ct), .val (.int cl), .val (.int cc), .val (.ref g), .val (.long (own_hi p1)), .second, .val (.long ((own_lo p1) - (own_hi p1))), .second, .val (.long (own_hi p2)), .second, .val (.long ((own_lo p2) - (own_hi p2))), .second, .val (.long (0 : Int64)), .second, .val (.long (0 : Int64)), .second, .unset, .unset] [(.long ((own_lo p1) - (own_hi p1))), (.long (own_hi p2)), (.long ((own_hi p1) * (((own_lo p2) - (own_hi p2)) + (0 : Int64))))])) _
  refine XS.lload X16.here hx rfl (hb hby at_228) rfl ?_
  show Steps p.tables e below (T16.setTop (mkF m 230 #[.val (.long p1), .second, .val (.long p2), .second, .val (.long p3), .second, .val (.int sl), .val (.int ct), .val (.int cl), .val (.int cc), .val (.ref g), .val (.long (own_hi p1)), .second, .val (.long ((own_lo p1) - (own_hi p1))), .second, .val (.long (own_hi p2)), .second, .val (.long ((own_lo p2) - (own_hi p2))), .second, .val (.long (0 : Int64)), .second, .val (.long (0 : Int64)), .second, .unset, .unset] [(.long (0 : Int64)), (.long ((own_lo p1) - (own_hi p1))), (.long (own_hi p2)), (.long ((own_hi p1) * (((own_lo p2) - (own_hi p2)) + (0 : Int64))))])) _
  refine XS.ladd X16.here hx rfl (hb hby at_230) rfl ?_
  show Steps p.tables e below (T16.setTop (mkF m 231 #[.val (.long p1), .second, .val (.long p2), .second, .val (.long p3), .second, .val (.int sl), .val (.int ct), .val (.int cl), .val (.int cc), .val (.ref g), .val (.long (own_hi p1)), .second, .val (.long ((own_lo p1) - (own_hi p1))), .second, .val (.long (own_hi p2)), .second, .val (.long ((own_lo p2) - (own_hi p2))), .second, .val (.long (0 : Int64)), .second, .val (.long (0 : Int64)), .second, .unset, .unset] [(.long (((own_lo p1) - (own_hi p1)) + (0 : Int64))), (.long (own_hi p2)), (.long ((own_hi p1) * (((own_lo p2) - (own_hi p2)) + (0 : Int64))))])) _
  refine XS.lmul X16.here hx rfl (hb hby at_231) rfl ?_
  show Steps p.tables e below (T16.setTop (mkF m 232 #[.val (.long p1), .second, .val (.long p2), .second, .val (.long p3), .second, .val (.int sl), .val (.int ct), .val (.int cl), .val (.int cc), .val (.ref g), .val (.long (own_hi p1)), .second, .val (.long ((own_lo p1) - (own_hi p1))), .second, .val (.long (own_hi p2)), .second, .val (.long ((own_lo p2) - (own_hi p2))), .second, .val (.long (0 : Int64)), .second, .val (.long (0 : Int64)), .second, .unset, .unset] [(.long ((own_hi p2) * (((own_lo p1) - (own_hi p1)) + (0 : Int64)))), (.long ((own_hi p1) * (((own_lo p2) - (own_hi p2)) + (0 : Int64))))])) _
  refine XS.ladd X16.here hx rfl (hb hby at_232) rfl ?_
  show Steps p.tables e below (T16.setTop (mkF m 233 #[.val (.long p1), .second, .val (.long p2), .second, .val (.long p3), .second, .val (.int sl), .val (.int ct), .val (.int cl), .val (.int cc), .val (.ref g), .val (.long (own_hi p1)), .second, .val (.long ((own_lo p1) - (own_hi p1))), .second, .val (.long (own_hi p2)), .second, .val (.long ((own_lo p2) - (own_hi p2))), .second, .val (.long (0 : Int64)), .second, .val (.long (0 : Int64)), .second, .unset, .unset] [(.long (((own_hi p1) * (((own_lo p2) - (own_hi p2)) + (0 : Int64))) + ((own_hi p2) * (((own_lo p1) - (own_hi p1)) + (0 : Int64)))))])) _
  refine XS.lload X16.here hx rfl (hb hby at_233) rfl ?_
  show Steps p.tables e below (T16.setTop (mkF m 235 #[.val (.long p1), .second, .val (.long p2), .second, .val (.long p3), .second, .val (.int sl), .val (.int ct), .val (.int cl), .val (.int cc), .val (.ref g), .val (.long (own_hi p1)), .second, .val (.long ((own_lo p1) - (own_hi p1))), .second, .val (.long (own_hi p2)), .second, .val (.long ((own_lo p2) - (own_hi p2))), .second, .val (.long (0 : Int64)), .second, .val (.long (0 : Int64)), .second, .unset, .unset] [(.long (0 : Int64)), (.long (((own_hi p1) * (((own_lo p2) - (own_hi p2)) + (0 : Int64))) + ((own_hi p2) * (((own_lo p1) - (own_hi p1)) + (0 : Int64)))))])) _
  refine XS.lload X16.here hx rfl (hb hby at_235) rfl ?_
  show Steps p.tables e below (T16.setTop (mkF m 237 #[.val (.long p1), .second, .val (.long p2), .second, .val (.long p3), .second, .val (.int sl), .val (.int ct), .val (.int cl), .val (.int cc), .val (.ref g), .val (.long (own_hi p1)), .second, .val (.long ((own_lo p1) - (own_hi p1))), .second, .val (.long (own_hi p2)), .second, .val (.long ((own_lo p2) - (own_hi p2))), .second, .val (.long (0 : Int64)), .second, .val (.long (0 : Int64)), .second, .unset, .unset] [(.long ((own_lo p1) - (own_hi p1))), (.long (0 : Int64)), (.long (((own_hi p1) * (((own_lo p2) - (own_hi p2)) + (0 : Int64))) + ((own_hi p2) * (((own_lo p1) - (own_hi p1)) + (0 : Int64)))))])) _
  refine XS.lload X16.here hx rfl (hb hby at_237) rfl ?_
  show Steps p.tables e below (T16.setTop (mkF m 239 #[.val (.long p1), .second, .val (.long p2), .second, .val (.long p3), .second, .val (.int sl), .val (.int ct), .val (.int cl), .val (.int cc), .val (.ref g), .val (.long (own_hi p1)), .second, .val (.long ((own_lo p1) - (own_hi p1))), .second, .val (.long (own_hi p2)), .second, .val (.long ((own_lo p2) - (own_hi p2))), .second, .val (.long (0 : Int64)), .second, .val (.long (0 : Int64)), .second, .unset, .unset] [(.long ((own_lo p2) - (own_hi p2))), (.long ((own_lo p1) - (own_hi p1))), (.long (0 : Int64)), (.long (((own_hi p1) * (((own_lo p2) - (own_hi p2)) + (0 : Int64))) + ((own_hi p2) * (((own_lo p1) - (own_hi p1)) + (0 : Int64)))))])) _
  refine XS.ladd X16.here hx rfl (hb hby at_239) rfl ?_
  show Steps p.tables e below (T16.setTop (mkF m 240 #[.val (.long p1), .second, .val (.long p2), .second, .val (.long p3), .second, .val (.int sl), .val (.int ct), .val (.int cl), .val (.int cc), .val (.ref g), .val (.long (own_hi p1)), .second, .val (.long ((own_lo p1) - (own_hi p1))), .second, .val (.long (own_hi p2)), .second, .val (.long ((own_lo p2) - (own_hi p2))), .second, .val (.long (0 : Int64)), .second, .val (.long (0 : Int64)), .second, .unset, .unset] [(.long (((own_lo p1) - (own_hi p1)) + ((own_lo p2) - (own_hi p2)))), (.long (0 : Int64)), (.long (((own_hi p1) * (((own_lo p2) - (own_hi p2)) + (0 : Int64))) + ((own_hi p2) * (((own_lo p1) - (own_hi p1)) + (0 : Int64)))))])) _
  refine XS.lmul X16.here hx rfl (hb hby at_240) rfl ?_
  show Steps p.tables e below (T16.setTop (mkF m 241 #[.val (.long p1), .second, .val (.long p2), .second, .val (.long p3), .second, .val (.int sl), .val (.int ct), .val (.int cl), .val (.int cc), .val (.ref g), .val (.long (own_hi p1)), .second, .val (.long ((own_lo p1) - (own_hi p1))), .second, .val (.long (own_hi p2)), .second, .val (.long ((own_lo p2) - (own_hi p2))), .second, .val (.long (0 : Int64)), .second, .val (.long (0 : Int64)), .second, .unset, .unset] [(.long ((0 : Int64) * (((own_lo p1) - (own_hi p1)) + ((own_lo p2) - (own_hi p2))))), (.long (((own_hi p1) * (((own_lo p2) - (own_hi p2)) + (0 : Int64))) + ((own_hi p2) * (((own_lo p1) - (own_hi p1)) + (0 : Int64)))))])) _
  refine XS.ladd X16.here hx rfl (hb hby at_241) rfl ?_
  show Steps p.tables e below (T16.setTop (mkF m 242 #[.val (.long p1), .second, .val (.long p2), .second, .val (.long p3), .second, .val (.int sl), .val (.int ct), .val (.int cl), .val (.int cc), .val (.ref g), .val (.long (own_hi p1)), .second, .val (.long ((own_lo p1) - (own_hi p1))), .second, .val (.long (own_hi p2)), .second, .val (.long ((own_lo p2) - (own_hi p2))), .second, .val (.long (0 : Int64)), .second, .val (.long (0 : Int64)), .second, .unset, .unset] [(.long ((((own_hi p1) * (((own_lo p2) - (own_hi p2)) + (0 : Int64))) + ((own_hi p2) * (((own_lo p1) - (own_hi p1)) + (0 : Int64)))) + ((0 : Int64) * (((own_lo p1) - (own_hi p1)) + ((own_lo p2) - (own_hi p2))))))])) _
  refine XS.lstore X16.here hx rfl (hb hby at_242) rfl (l' := #[.val (.long p1), .second, .val (.long p2), .second, .val (.long p3), .second, .val (.int sl), .val (.int ct), .val (.int cl), .val (.int cc), .val (.ref g), .val (.long (own_hi p1)), .second, .val (.long ((own_lo p1) - (own_hi p1))), .second, .val (.long (own_hi p2)), .second, .val (.long ((own_lo p2) - (own_hi p2))), .second, .val (.long (0 : Int64)), .second, .val (.long (0 : Int64)), .second, .val (.long ((((own_hi p1) * (((own_lo p2) - (own_hi p2)) + (0 : Int64))) + ((own_hi p2) * (((own_lo p1) - (own_hi p1)) + (0 : Int64)))) + ((0 : Int64) * (((own_lo p1) - (own_hi p1)) + ((own_lo p2) - (own_hi p2)))))), .second]) rfl ?_
  show Steps p.tables e below (T16.setTop (mkF m 244 #[.val (.long p1), .second, .val (.long p2), .second, .val (.long p3), .second, .val (.int sl), .val (.int ct), .val (.int cl), .val (.int cc), .val (.ref g), .val (.long (own_hi p1)), .second, .val (.long ((own_lo p1) - (own_hi p1))), .second, .val (.long (own_hi p2)), .second, .val (.long ((own_lo p2) - (own_hi p2))), .second, .val (.long (0 : Int64)), .second, .val (.long (0 : Int64)), .second, .val (.long ((((own_hi p1) * (((own_lo p2) - (own_hi p2)) + (0 : Int64))) + ((own_hi p2) * (((own_lo p1) - (own_hi p1)) + (0 : Int64)))) + ((0 : Int64) * (((own_lo p1) - (own_hi p1)) + ((own_lo p2) - (own_hi p2)))))), .second] [])) _
  refine XS.aload X16.here hx rfl (hb hby at_244) rfl rfl ?_
  show Steps p.tables e below (T16.setTop (mkF m 246 #[.val (.long p1), .second, .val (.long p2), .second, .val (.long p3), .second, .val (.int sl), .val (.int ct), .val (.int cl), .val (.int cc), .val (.ref g), .val (.long (own_hi p1)), .second, .val (.long ((own_lo p1) - (own_hi p1))), .second, .val (.long (own_hi p2)), .second, .val (.long ((own_lo p2) - (own_hi p2))), .second, .val (.long (0 : Int64)), .second, .val (.long (0 : Int64)), .second, .val (.long ((((own_hi p1) * (((own_lo p2) - (own_hi p2)) + (0 : Int64))) + ((own_hi p2) * (((own_lo p1) - (own_hi p1)) + (0 : Int64)))) + ((0 : Int64) * (((own_lo p1) - (own_hi p1)) + ((own_lo p2) - (own_hi p2)))))), .second] [(.ref g)])) _
  refine st17.trans ?_
  show Steps p.tables e below (T17.setTop (mkF m 249 #[.val (.long p1), .second, .val (.long p2), .second, .val (.long p3), .second, .val (.int sl), .val (.int ct), .val (.int cl), .val (.int cc), .val (.ref g), .val (.long (own_hi p1)), .second, .val (.long ((own_lo p1) - (own_hi p1))), .second, .val (.long (own_hi p2)), .second, .val (.long ((own_lo p2) - (own_hi p2))), .second, .val (.long (0 : Int64)), .second, .val (.long (0 : Int64)), .second, .val (.long ((((own_hi p1) * (((own_lo p2) - (own_hi p2)) + (0 : Int64))) + ((own_hi p2) * (((own_lo p1) - (own_hi p1)) + (0 : Int64)))) + ((0 : Int64) * (((own_lo p1) - (own_hi p1)) + ((own_lo p2) - (own_hi p2)))))), .second] [(.long (own_pairs ((([] : List (Int64 × Int64)) ++ [((own_hi p1), (own_lo p1) - (own_hi p1))]) ++ [((own_hi p2), (own_lo p2) - (own_hi p2))])))])) _
  refine XS.lload X17.here hx rfl (hb hby at_249) rfl ?_
  show Steps p.tables e below (T17.setTop (mkF m 251 #[.val (.long p1), .second, .val (.long p2), .second, .val (.long p3), .second, .val (.int sl), .val (.int ct), .val (.int cl), .val (.int cc), .val (.ref g), .val (.long (own_hi p1)), .second, .val (.long ((own_lo p1) - (own_hi p1))), .second, .val (.long (own_hi p2)), .second, .val (.long ((own_lo p2) - (own_hi p2))), .second, .val (.long (0 : Int64)), .second, .val (.long (0 : Int64)), .second, .val (.long ((((own_hi p1) * (((own_lo p2) - (own_hi p2)) + (0 : Int64))) + ((own_hi p2) * (((own_lo p1) - (own_hi p1)) + (0 : Int64)))) + ((0 : Int64) * (((own_lo p1) - (own_hi p1)) + ((own_lo p2) - (own_hi p2)))))), .second] [(.long ((((own_hi p1) * (((own_lo p2) - (own_hi p2)) + (0 : Int64))) + ((own_hi p2) * (((own_lo p1) - (own_hi p1)) + (0 : Int64)))) + ((0 : Int64) * (((own_lo p1) - (own_hi p1)) + ((own_lo p2) - (own_hi p2)))))), (.long (own_pairs ((([] : List (Int64 × Int64)) ++ [((own_hi p1), (own_lo p1) - (own_hi p1))]) ++ [((own_hi p2), (own_lo p2) - (own_hi p2))])))])) _
  refine XS.lcmp X17.here hx rfl (hb hby at_251) rfl ?_
  show Steps p.tables e below (T17.setTop (mkF m 252 #[.val (.long p1), .second, .val (.long p2), .second, .val (.long p3), .second, .val (.int sl), .val (.int ct), .val (.int cl), .val (.int cc), .val (.ref g), .val (.long (own_hi p1)), .second, .val (.long ((own_lo p1) - (own_hi p1))), .second, .val (.long (own_hi p2)), .second, .val (.long ((own_lo p2) - (own_hi p2))), .second, .val (.long (0 : Int64)), .second, .val (.long (0 : Int64)), .second, .val (.long ((((own_hi p1) * (((own_lo p2) - (own_hi p2)) + (0 : Int64))) + ((own_hi p2) * (((own_lo p1) - (own_hi p1)) + (0 : Int64)))) + ((0 : Int64) * (((own_lo p1) - (own_hi p1)) + ((own_lo p2) - (own_hi p2)))))), .second] [(.int (lcmpW (own_pairs ((([] : List (Int64 × Int64)) ++ [((own_hi p1), (own_lo p1) - (own_hi p1))]) ++ [((own_hi p2), (own_lo p2) - (own_hi p2))])) ((((own_hi p1) * (((own_lo p2) - (own_hi p2)) + (0 : Int64))) + ((own_hi p2) * (((own_lo p1) - (own_hi p1)) + (0 : Int64)))) + ((0 : Int64) * (((own_lo p1) - (own_hi p1)) + ((own_lo p2) - (own_hi p2)))))))])) _
  refine XS.ifNo X17.here hx rfl (hb hby at_252) rfl ((if0 _ _).trans (teq hc252).2) ?_
  show Steps p.tables e below (T17.setTop (mkF m 255 #[.val (.long p1), .second, .val (.long p2), .second, .val (.long p3), .second, .val (.int sl), .val (.int ct), .val (.int cl), .val (.int cc), .val (.ref g), .val (.long (own_hi p1)), .second, .val (.long ((own_lo p1) - (own_hi p1))), .second, .val (.long (own_hi p2)), .second, .val (.long ((own_lo p2) - (own_hi p2))), .second, .val (.long (0 : Int64)), .second, .val (.long (0 : Int64)), .second, .val (.long ((((own_hi p1) * (((own_lo p2) - (own_hi p2)) + (0 : Int64))) + ((own_hi p2) * (((own_lo p1) - (own_hi p1)) + (0 : Int64)))) + ((0 : Int64) * (((own_lo p1) - (own_hi p1)) + ((own_lo p2) - (own_hi p2)))))), .second] [])) _
  refine XS.aload X17.here hx rfl (hb hby at_255) rfl rfl ?_
  show Steps p.tables e below (T17.setTop (mkF m 257 #[.val (.long p1), .second, .val (.long p2), .second, .val (.long p3), .second, .val (.int sl), .val (.int ct), .val (.int cl), .val (.int cc), .val (.ref g), .val (.long (own_hi p1)), .second, .val (.long ((own_lo p1) - (own_hi p1))), .second, .val (.long (own_hi p2)), .second, .val (.long ((own_lo p2) - (own_hi p2))), .second, .val (.long (0 : Int64)), .second, .val (.long (0 : Int64)), .second, .val (.long ((((own_hi p1) * (((own_lo p2) - (own_hi p2)) + (0 : Int64))) + ((own_hi p2) * (((own_lo p1) - (own_hi p1)) + (0 : Int64)))) + ((0 : Int64) * (((own_lo p1) - (own_hi p1)) + ((own_lo p2) - (own_hi p2)))))), .second] [(.ref g)])) _
  refine st18.trans ?_
  show Steps p.tables e below (T18.setTop (mkF m 260 #[.val (.long p1), .second, .val (.long p2), .second, .val (.long p3), .second, .val (.int sl), .val (.int ct), .val (.int cl), .val (.int cc), .val (.ref g), .val (.long (own_hi p1)), .second, .val (.long ((own_lo p1) - (own_hi p1))), .second, .val (.long (own_hi p2)), .second, .val (.long ((own_lo p2) - (own_hi p2))), .second, .val (.long (0 : Int64)), .second, .val (.long (0 : Int64)), .second, .val (.long ((((own_hi p1) * (((own_lo p2) - (own_hi p2)) + (0 : Int64))) + ((own_hi p2) * (((own_lo p1) - (own_hi p1)) + (0 : Int64)))) + ((0 : Int64) * (((own_lo p1) - (own_hi p1)) + ((own_lo p2) - (own_hi p2)))))), .second] [(.int (Int32.ofNat ((([] : List (Int64 × Int64)) ++ [((own_hi p1), (own_lo p1) - (own_hi p1))]) ++ [((own_hi p2), (own_lo p2) - (own_hi p2))]).length))])) _
  refine XS.iload X18.here hx rfl (hb hby at_260) rfl ?_
  show Steps p.tables e below (T18.setTop (mkF m 262 #[.val (.long p1), .second, .val (.long p2), .second, .val (.long p3), .second, .val (.int sl), .val (.int ct), .val (.int cl), .val (.int cc), .val (.ref g), .val (.long (own_hi p1)), .second, .val (.long ((own_lo p1) - (own_hi p1))), .second, .val (.long (own_hi p2)), .second, .val (.long ((own_lo p2) - (own_hi p2))), .second, .val (.long (0 : Int64)), .second, .val (.long (0 : Int64)), .second, .val (.long ((((own_hi p1) * (((own_lo p2) - (own_hi p2)) + (0 : Int64))) + ((own_hi p2) * (((own_lo p1) - (own_hi p1)) + (0 : Int64)))) + ((0 : Int64) * (((own_lo p1) - (own_hi p1)) + ((own_lo p2) - (own_hi p2)))))), .second] [(.int ct), (.int (Int32.ofNat ((([] : List (Int64 × Int64)) ++ [((own_hi p1), (own_lo p1) - (own_hi p1))]) ++ [((own_hi p2), (own_lo p2) - (own_hi p2))]).length))])) _
  refine XS.icmpNo X18.here hx rfl (hb hby at_262) rfl (teq hc262).2 ?_
  show Steps p.tables e below (T18.setTop (mkF m 265 #[.val (.long p1), .second, .val (.long p2), .second, .val (.long p3), .second, .val (.int sl), .val (.int ct), .val (.int cl), .val (.int cc), .val (.ref g), .val (.long (own_hi p1)), .second, .val (.long ((own_lo p1) - (own_hi p1))), .second, .val (.long (own_hi p2)), .second, .val (.long ((own_lo p2) - (own_hi p2))), .second, .val (.long (0 : Int64)), .second, .val (.long (0 : Int64)), .second, .val (.long ((((own_hi p1) * (((own_lo p2) - (own_hi p2)) + (0 : Int64))) + ((own_hi p2) * (((own_lo p1) - (own_hi p1)) + (0 : Int64)))) + ((0 : Int64) * (((own_lo p1) - (own_hi p1)) + ((own_lo p2) - (own_hi p2)))))), .second] [])) _
  refine XS.iconst X18.here hx rfl (hb hby at_265) ?_
  show Steps p.tables e below (T18.setTop (mkF m 266 #[.val (.long p1), .second, .val (.long p2), .second, .val (.long p3), .second, .val (.int sl), .val (.int ct), .val (.int cl), .val (.int cc), .val (.ref g), .val (.long (own_hi p1)), .second, .val (.long ((own_lo p1) - (own_hi p1))), .second, .val (.long (own_hi p2)), .second, .val (.long ((own_lo p2) - (own_hi p2))), .second, .val (.long (0 : Int64)), .second, .val (.long (0 : Int64)), .second, .val (.long ((((own_hi p1) * (((own_lo p2) - (own_hi p2)) + (0 : Int64))) + ((own_hi p2) * (((own_lo p1) - (own_hi p1)) + (0 : Int64)))) + ((0 : Int64) * (((own_lo p1) - (own_hi p1)) + ((own_lo p2) - (own_hi p2)))))), .second] [(.int (1 : Int32))])) _
  refine XS.goto X18.here hx rfl (pc0 := 266) (pc' := 270) rfl (hb hby at_266) (by decide) (by decide) ?_
  exact kt

set_option maxRecDepth 65536 in
set_option maxHeartbeats 40000000 in
theorem own_d3 {p : Program} {l : Launch} {e : Env} {s : State} {m : MethodId} {args : Array Value} {below : List Frame} {meth : Method} {c : Code} {T0 : State} {locs : List Loc} {Z : State} {a0 : Array Value} {h0 : Heap} {n0 : Nat} (p1 : Int64) (p2 : Int64) (p3 : Int64) (sl : Int32) (ct : Int32) (cl : Int32) (cc : Int32) (g : Addr)
    (X0 : Stand p l e room_1 s m args below meth c T0 locs 10 49) (hx : p.tables.exec = Jvm.exec) (hZ : Z.Warmed39 s.vm) (hw : ∀ d ∈ tables_1, d.before a0 Z = true) (hby : c.code = code) (hml : c.maxLocals = 25) (hown : s.vm.findClass "com/example/fast_tangle/fasttangle/GroupsPairsPinLaw" = some m.cls) (e0 : T0.heap = h0) (Z0 : n0 ≤ h0.size) (N0 : Fr n0 locs) (hc103 : ¬ (ct < (1 : Int32))) (hc140 : ¬ (ct < (2 : Int32))) (hc177 : ¬ (ct < (3 : Int32))) (hc252 : (lcmpW (own_pairs (((([] : List (Int64 × Int64)) ++ [((own_hi p1), (own_lo p1) - (own_hi p1))]) ++ [((own_hi p2), (own_lo p2) - (own_hi p2))]) ++ [((own_hi p3), (own_lo p3) - (own_hi p3))])) ((((own_hi p1) * (((own_lo p2) - (own_hi p2)) + ((own_lo p3) - (own_hi p3)))) + ((own_hi p2) * (((own_lo p1) - (own_hi p1)) + ((own_lo p3) - (own_hi p3))))) + ((own_hi p3) * (((own_lo p1) - (own_hi p1)) + ((own_lo p2) - (own_hi p2)))))) = (0 : Int32)) (hc262 : (Int32.ofNat (((([] : List (Int64 × Int64)) ++ [((own_hi p1), (own_lo p1) - (own_hi p1))]) ++ [((own_hi p2), (own_lo p2) - (own_hi p2))]) ++ [((own_hi p3), (own_lo p3) - (own_hi p3))]).length) = ct) (len : Nat) (g_g : n0 ≤ g) (G : Gr Z h0 g n0 len []) (l2 : 2 ≤ len) (l7 : len ≤ 7) :
    ∃ (T' : State) (locs' : List Loc), Stand p l e room_1 s m args below meth c T' locs' 19 85 ∧ Fr n0 locs' ∧ True ∧
      ∀ target, Steps p.tables e below (T'.setTop (mkF m 270 #[.val (.long p1), .second, .val (.long p2), .second, .val (.long p3), .second, .val (.int sl), .val (.int ct), .val (.int cl), .val (.int cc), .val (.ref g), .val (.long (own_hi p1)), .second, .val (.long ((own_lo p1) - (own_hi p1))), .second, .val (.long (own_hi p2)), .second, .val (.long ((own_lo p2) - (own_hi p2))), .second, .val (.long (own_hi p3)), .second, .val (.long ((own_lo p3) - (own_hi p3))), .second, .val (.long ((((own_hi p1) * (((own_lo p2) - (own_hi p2)) + ((own_lo p3) - (own_hi p3)))) + ((own_hi p2) * (((own_lo p1) - (own_hi p1)) + ((own_lo p3) - (own_hi p3))))) + ((own_hi p3) * (((own_lo p1) - (own_hi p1)) + ((own_lo p2) - (own_hi p2)))))), .second] [(.int (1 : Int32))])) target → Steps p.tables e below (T0.setTop (mkF m 82 #[.val (.long p1), .second, .val (.long p2), .second, .val (.long p3), .second, .val (.int sl), .val (.int ct), .val (.int cl), .val (.int cc), .val (.ref g), .unset, .unset, .unset, .unset, .unset, .unset, .unset, .unset, .unset, .unset, .unset, .unset, .unset, .unset] [])) target := by
  obtain ⟨_, _, ⟨T5, L5, k5, n5⟩, -, X5, ⟨Lc5, hQ5, l5, y5, z5⟩, st5⟩ := Jvm.LawKit.callS X0 hx (y := (⟨"com/example/fast_tangle/fasttangle/GroupsPairsPinLaw", "hi", "(J)J"⟩ : MethodName)) hown (mvT hZ (hw _ (List.mem_of_getElem? (i := 21) rfl))) (mvT hZ (hw _ (List.mem_of_getElem? (i := 22) rfl))) (mvT hZ (hw _ (List.mem_of_getElem? (i := 23) rfl))) (mvT hZ (hw _ (List.mem_of_getElem? (i := 24) rfl))) (by decide) (backOf (W := 2) (rm4 l Z a0 hw [] p1 h0 n0 Z0) hZ (hw _ (List.mem_of_getElem? (i := 24) rfl)) (hw _ (List.mem_of_getElem? (i := 23) rfl)) (by decide) (by decide)) (g := (mkF m 110 #[.val (.long p1), .second, .val (.long p2), .second, .val (.long p3), .second, .val (.int sl), .val (.int ct), .val (.int cl), .val (.int cc), .val (.ref g), .val (.long (0 : Int64)), .second, .val (.long (0 : Int64)), .second, .val (.long (0 : Int64)), .second, .val (.long (0 : Int64)), .second, .val (.long (0 : Int64)), .second, .val (.long (0 : Int64)), .second, .unset, .unset] [(.long p1), (.int (0 : Int32)), (.ref g)])) rfl (by rw [hml]; rfl) (argsL := [(.long p1)]) (rest := [(.int (0 : Int32)), (.ref g)]) (lenOf pd_0_3 rfl) rfl (by show 2 * 0 + _ ≤ _; exact Nat.le_of_eq rfl) (hb hby at_110) (fun _ _ => ⟨rfl, e0, (Nat.le_of_ble_eq_true rfl), (Nat.le_of_ble_eq_true rfl)⟩)
  dsimp only [Pt.U, Pt.locs, Pt.cells, Pt.slots] at X5 l5 y5 z5 st5 hQ5
  subst l5 y5 z5
  obtain ⟨rfl, N5q, e5q⟩ := hQ5
  have N5 := Fr.app N0 N5q
  have Z5 : n0 ≤ T5.heap.size := by rw [e5q]; exact Z0
  have G5 : Gr Z T5.heap g n0 len ([] : List (Int64 × Int64)) := by rw [e5q]; exact G
  obtain ⟨_, _, ⟨T6, L6, k6, n6⟩, -, X6, ⟨Lc6, hQ6, l6, y6, z6⟩, st6⟩ := Jvm.LawKit.callS X5 hx (y := (⟨"com/example/fast_tangle/fasttangle/GroupsPairsPinLaw", "lo", "(J)J"⟩ : MethodName)) hown (mvT hZ (hw _ (List.mem_of_getElem? (i := 25) rfl))) (mvT hZ (hw _ (List.mem_of_getElem? (i := 26) rfl))) (mvT hZ (hw _ (List.mem_of_getElem? (i := 23) rfl))) (mvT hZ (hw _ (List.mem_of_getElem? (i := 27) rfl))) (by decide) (backOf (W := 4) (rm5 l Z a0 hw [] p1 T5.heap n0 Z5) hZ (hw _ (List.mem_of_getElem? (i := 27) rfl)) (hw _ (List.mem_of_getElem? (i := 23) rfl)) (by decide) (by decide)) (g := (mkF m 114 #[.val (.long p1), .second, .val (.long p2), .second, .val (.long p3), .second, .val (.int sl), .val (.int ct), .val (.int cl), .val (.int cc), .val (.ref g), .val (.long (0 : Int64)), .second, .val (.long (0 : Int64)), .second, .val (.long (0 : Int64)), .second, .val (.long (0 : Int64)), .second, .val (.long (0 : Int64)), .second, .val (.long (0 : Int64)), .second, .unset, .unset] [(.long p1), (.long (own_hi p1)), (.int (0 : Int32)), (.ref g)])) rfl (by rw [hml]; rfl) (argsL := [(.long p1)]) (rest := [(.long (own_hi p1)), (.int (0 : Int32)), (.ref g)]) (lenOf pd_0_3 rfl) rfl (by show 2 * 0 + _ ≤ _; exact Nat.le_of_eq rfl) (hb hby at_114) (fun _ _ => ⟨rfl, rfl, (Nat.le_of_ble_eq_true rfl), (Nat.le_of_ble_eq_true rfl)⟩)
  dsimp only [Pt.U, Pt.locs, Pt.cells, Pt.slots] at X6 l6 y6 z6 st6 hQ6
  subst l6 y6 z6
  obtain ⟨rfl, N6q, e6q⟩ := hQ6
  have N6 := Fr.app N5 N6q
  have Z6 : n0 ≤ T6.heap.size := by rw [e6q]; exact Z5
  have G6 : Gr Z T6.heap g n0 len ([] : List (Int64 × Int64)) := by rw [e6q]; exact G5
  obtain ⟨cq7, kq7, q7a, q7b, q7c⟩ := isOf hZ rfl G6.1
  obtain ⟨_, _, ⟨T7, L7, k7, n7⟩, -, X7, ⟨Lc7, hQ7, l7, y7, z7⟩, st7⟩ := X6.virtualBack hx (y := (⟨"com/example/fast_tangle/fasttangle/PartingPairs$Groups", "add", "(IJJ)V"⟩ : MethodName)) (z := (⟨"com/example/fast_tangle/fasttangle/PartingPairs$Groups", "add", "(IJJ)V"⟩ : MethodName)) hown (mvT hZ (hw _ (List.mem_of_getElem? (i := 28) rfl))) (mvT hZ (hw _ (List.mem_of_getElem? (i := 29) rfl))) (notFace_of_selects (args := #[]) (mvT hZ (hw _ (List.mem_of_getElem? (i := 31) rfl)))) (mvT hZ (hw _ (List.mem_of_getElem? (i := 31) rfl))) (mvT hZ (hw _ (List.mem_of_getElem? (i := 30) rfl))) (by decide) (backOf (W := 0) (rm6 l Z a0 hw [] g (0 : Int32) (own_hi p1) (own_lo p1) len ([] : List (Int64 × Int64)) T6.heap n0 Z6 g_g G6 l2 l7 (Nat.le_of_ble_eq_true rfl)) hZ (hw _ (List.mem_of_getElem? (i := 32) rfl)) (hw _ (List.mem_of_getElem? (i := 2) rfl)) (by decide) (by decide)) q7a q7c (g := (mkF m 117 #[.val (.long p1), .second, .val (.long p2), .second, .val (.long p3), .second, .val (.int sl), .val (.int ct), .val (.int cl), .val (.int cc), .val (.ref g), .val (.long (0 : Int64)), .second, .val (.long (0 : Int64)), .second, .val (.long (0 : Int64)), .second, .val (.long (0 : Int64)), .second, .val (.long (0 : Int64)), .second, .val (.long (0 : Int64)), .second, .unset, .unset] [(.long (own_lo p1)), (.long (own_hi p1)), (.int (0 : Int32)), (.ref g)])) rfl (by rw [hml]; rfl) (Steps.refl _) (argsL := [(.int (0 : Int32)), (.long (own_hi p1)), (.long (own_lo p1))]) (rest := []) (lenOf pd_0_4 rfl) rfl (by show 2 * 0 + _ ≤ _; exact Nat.le_of_eq rfl) (hb hby at_117) (fun _ _ => ⟨rfl, rfl, (Nat.le_of_ble_eq_true rfl), (Nat.le_of_ble_eq_true rfl)⟩)
  dsimp only [Pt.U, Pt.locs, Pt.cells, Pt.slots] at X7 l7 y7 z7 st7 hQ7
  subst l7 y7 z7
  obtain ⟨rfl, N7q, Z7, len7, l2_7, l7_7, lx_7, G7⟩ := hQ7
  have N7 := Fr.app N6 N7q
  obtain ⟨_, _, ⟨T8, L8, k8, n8⟩, -, X8, ⟨Lc8, hQ8, l8, y8, z8⟩, st8⟩ := Jvm.LawKit.callS X7 hx (y := (⟨"com/example/fast_tangle/fasttangle/GroupsPairsPinLaw", "hi", "(J)J"⟩ : MethodName)) hown (mvT hZ (hw _ (List.mem_of_getElem? (i := 21) rfl))) (mvT hZ (hw _ (List.mem_of_getElem? (i := 22) rfl))) (mvT hZ (hw _ (List.mem_of_getElem? (i := 23) rfl))) (mvT hZ (hw _ (List.mem_of_getElem? (i := 24) rfl))) (by decide) (backOf (W := 0) (rm4 l Z a0 hw [] p1 T7.heap n0 Z7) hZ (hw _ (List.mem_of_getElem? (i := 24) rfl)) (hw _ (List.mem_of_getElem? (i := 23) rfl)) (by decide) (by decide)) (g := (mkF m 121 #[.val (.long p1), .second, .val (.long p2), .second, .val (.long p3), .second, .val (.int sl), .val (.int ct), .val (.int cl), .val (.int cc), .val (.ref g), .val (.long (0 : Int64)), .second, .val (.long (0 : Int64)), .second, .val (.long (0 : Int64)), .second, .val (.long (0 : Int64)), .second, .val (.long (0 : Int64)), .second, .val (.long (0 : Int64)), .second, .unset, .unset] [(.long p1)])) rfl (by rw [hml]; rfl) (argsL := [(.long p1)]) (rest := []) (lenOf pd_0_3 rfl) rfl (by show 2 * 0 + _ ≤ _; exact Nat.le_of_eq rfl) (hb hby at_121) (fun _ _ => ⟨rfl, rfl, (Nat.le_of_ble_eq_true rfl), (Nat.le_of_ble_eq_true rfl)⟩)
  dsimp only [Pt.U, Pt.locs, Pt.cells, Pt.slots] at X8 l8 y8 z8 st8 hQ8
  subst l8 y8 z8
  obtain ⟨rfl, N8q, e8q⟩ := hQ8
  have N8 := Fr.app N7 N8q
  have Z8 : n0 ≤ T8.heap.size := by rw [e8q]; exact Z7
  have G8 : Gr Z T8.heap g n0 len7 (([] : List (Int64 × Int64)) ++ [((own_hi p1), (own_lo p1) - (own_hi p1))]) := by rw [e8q]; exact G7
  obtain ⟨_, _, ⟨T9, L9, k9, n9⟩, -, X9, ⟨Lc9, hQ9, l9, y9, z9⟩, st9⟩ := Jvm.LawKit.callS X8 hx (y := (⟨"com/example/fast_tangle/fasttangle/GroupsPairsPinLaw", "lo", "(J)J"⟩ : MethodName)) hown (mvT hZ (hw _ (List.mem_of_getElem? (i := 25) rfl))) (mvT hZ (hw _ (List.mem_of_getElem? (i := 26) rfl))) (mvT hZ (hw _ (List.mem_of_getElem? (i := 23) rfl))) (mvT hZ (hw _ (List.mem_of_getElem? (i := 27) rfl))) (by decide) (backOf (W := 0) (rm5 l Z a0 hw [] p1 T8.heap n0 Z8) hZ (hw _ (List.mem_of_getElem? (i := 27) rfl)) (hw _ (List.mem_of_getElem? (i := 23) rfl)) (by decide) (by decide)) (g := (mkF m 127 #[.val (.long p1), .second, .val (.long p2), .second, .val (.long p3), .second, .val (.int sl), .val (.int ct), .val (.int cl), .val (.int cc), .val (.ref g), .val (.long (own_hi p1)), .second, .val (.long (0 : Int64)), .second, .val (.long (0 : Int64)), .second, .val (.long (0 : Int64)), .second, .val (.long (0 : Int64)), .second, .val (.long (0 : Int64)), .second, .unset, .unset] [(.long p1)])) rfl (by rw [hml]; rfl) (argsL := [(.long p1)]) (rest := []) (lenOf pd_0_3 rfl) rfl (by show 2 * 0 + _ ≤ _; exact Nat.le_of_eq rfl) (hb hby at_127) (fun _ _ => ⟨rfl, rfl, (Nat.le_of_ble_eq_true rfl), (Nat.le_of_ble_eq_true rfl)⟩)
  dsimp only [Pt.U, Pt.locs, Pt.cells, Pt.slots] at X9 l9 y9 z9 st9 hQ9
  subst l9 y9 z9
  obtain ⟨rfl, N9q, e9q⟩ := hQ9
  have N9 := Fr.app N8 N9q
  have Z9 : n0 ≤ T9.heap.size := by rw [e9q]; exact Z8
  have G9 : Gr Z T9.heap g n0 len7 (([] : List (Int64 × Int64)) ++ [((own_hi p1), (own_lo p1) - (own_hi p1))]) := by rw [e9q]; exact G8
  obtain ⟨_, _, ⟨T10, L10, k10, n10⟩, -, X10, ⟨Lc10, hQ10, l10, y10, z10⟩, st10⟩ := Jvm.LawKit.callS X9 hx (y := (⟨"com/example/fast_tangle/fasttangle/GroupsPairsPinLaw", "hi", "(J)J"⟩ : MethodName)) hown (mvT hZ (hw _ (List.mem_of_getElem? (i := 21) rfl))) (mvT hZ (hw _ (List.mem_of_getElem? (i := 22) rfl))) (mvT hZ (hw _ (List.mem_of_getElem? (i := 23) rfl))) (mvT hZ (hw _ (List.mem_of_getElem? (i := 24) rfl))) (by decide) (backOf (W := 2) (rm4 l Z a0 hw [] p1 T9.heap n0 Z9) hZ (hw _ (List.mem_of_getElem? (i := 24) rfl)) (hw _ (List.mem_of_getElem? (i := 23) rfl)) (by decide) (by decide)) (g := (mkF m 131 #[.val (.long p1), .second, .val (.long p2), .second, .val (.long p3), .second, .val (.int sl), .val (.int ct), .val (.int cl), .val (.int cc), .val (.ref g), .val (.long (own_hi p1)), .second, .val (.long (0 : Int64)), .second, .val (.long (0 : Int64)), .second, .val (.long (0 : Int64)), .second, .val (.long (0 : Int64)), .second, .val (.long (0 : Int64)), .second, .unset, .unset] [(.long p1), (.long (own_lo p1))])) rfl (by rw [hml]; rfl) (argsL := [(.long p1)]) (rest := [(.long (own_lo p1))]) (lenOf pd_0_3 rfl) rfl (by show 2 * 0 + _ ≤ _; exact Nat.le_of_eq rfl) (hb hby at_131) (fun _ _ => ⟨rfl, rfl, (Nat.le_of_ble_eq_true rfl), (Nat.le_of_ble_eq_true rfl)⟩)
  dsimp only [Pt.U, Pt.locs, Pt.cells, Pt.slots] at X10 l10 y10 z10 st10 hQ10
  subst l10 y10 z10
  obtain ⟨rfl, N10q, e10q⟩ := hQ10
  have N10 := Fr.app N9 N10q
  have Z10 : n0 ≤ T10.heap.size := by rw [e10q]; exact Z9
  have G10 : Gr Z T10.heap g n0 len7 (([] : List (Int64 × Int64)) ++ [((own_hi p1), (own_lo p1) - (own_hi p1))]) := by rw [e10q]; exact G9
  obtain ⟨_, _, ⟨T11, L11, k11, n11⟩, -, X11, ⟨Lc11, hQ11, l11, y11, z11⟩, st11⟩ := Jvm.LawKit.callS X10 hx (y := (⟨"com/example/fast_tangle/fasttangle/GroupsPairsPinLaw", "hi", "(J)J"⟩ : MethodName)) hown (mvT hZ (hw _ (List.mem_of_getElem? (i := 21) rfl))) (mvT hZ (hw _ (List.mem_of_getElem? (i := 22) rfl))) (mvT hZ (hw _ (List.mem_of_getElem? (i := 23) rfl))) (mvT hZ (hw _ (List.mem_of_getElem? (i := 24) rfl))) (by decide) (backOf (W := 2) (rm4 l Z a0 hw [] p2 T10.heap n0 Z10) hZ (hw _ (List.mem_of_getElem? (i := 24) rfl)) (hw _ (List.mem_of_getElem? (i := 23) rfl)) (by decide) (by decide)) (g := (mkF m 147 #[.val (.long p1), .second, .val (.long p2), .second, .val (.long p3), .second, .val (.int sl), .val (.int ct), .val (.int cl), .val (.int cc), .val (.ref g), .val (.long (own_hi p1)), .second, .val (.long ((own_lo p1) - (own_hi p1))), .second, .val (.long (0 : Int64)), .second, .val (.long (0 : Int64)), .second, .val (.long (0 : Int64)), .second, .val (.long (0 : Int64)), .second, .unset, .unset] [(.long p2), (.int (1 : Int32)), (.ref g)])) rfl (by rw [hml]; rfl) (argsL := [(.long p2)]) (rest := [(.int (1 : Int32)), (.ref g)]) (lenOf pd_0_3 rfl) rfl (by show 2 * 0 + _ ≤ _; exact Nat.le_of_eq rfl) (hb hby at_147) (fun _ _ => ⟨rfl, rfl, (Nat.le_of_ble_eq_true rfl), (Nat.le_of_ble_eq_true rfl)⟩)
  dsimp only [Pt.U, Pt.locs, Pt.cells, Pt.slots] at X11 l11 y11 z11 st11 hQ11
  subst l11 y11 z11
  obtain ⟨rfl, N11q, e11q⟩ := hQ11
  have N11 := Fr.app N10 N11q
  have Z11 : n0 ≤ T11.heap.size := by rw [e11q]; exact Z10
  have G11 : Gr Z T11.heap g n0 len7 (([] : List (Int64 × Int64)) ++ [((own_hi p1), (own_lo p1) - (own_hi p1))]) := by rw [e11q]; exact G10
  obtain ⟨_, _, ⟨T12, L12, k12, n12⟩, -, X12, ⟨Lc12, hQ12, l12, y12, z12⟩, st12⟩ := Jvm.LawKit.callS X11 hx (y := (⟨"com/example/fast_tangle/fasttangle/GroupsPairsPinLaw", "lo", "(J)J"⟩ : MethodName)) hown (mvT hZ (hw _ (List.mem_of_getElem? (i := 25) rfl))) (mvT hZ (hw _ (List.mem_of_getElem? (i := 26) rfl))) (mvT hZ (hw _ (List.mem_of_getElem? (i := 23) rfl))) (mvT hZ (hw _ (List.mem_of_getElem? (i := 27) rfl))) (by decide) (backOf (W := 4) (rm5 l Z a0 hw [] p2 T11.heap n0 Z11) hZ (hw _ (List.mem_of_getElem? (i := 27) rfl)) (hw _ (List.mem_of_getElem? (i := 23) rfl)) (by decide) (by decide)) (g := (mkF m 151 #[.val (.long p1), .second, .val (.long p2), .second, .val (.long p3), .second, .val (.int sl), .val (.int ct), .val (.int cl), .val (.int cc), .val (.ref g), .val (.long (own_hi p1)), .second, .val (.long ((own_lo p1) - (own_hi p1))), .second, .val (.long (0 : Int64)), .second, .val (.long (0 : Int64)), .second, .val (.long (0 : Int64)), .second, .val (.long (0 : Int64)), .second, .unset, .unset] [(.long p2), (.long (own_hi p2)), (.int (1 : Int32)), (.ref g)])) rfl (by rw [hml]; rfl) (argsL := [(.long p2)]) (rest := [(.long (own_hi p2)), (.int (1 : Int32)), (.ref g)]) (lenOf pd_0_3 rfl) rfl (by show 2 * 0 + _ ≤ _; exact Nat.le_of_eq rfl) (hb hby at_151) (fun _ _ => ⟨rfl, rfl, (Nat.le_of_ble_eq_true rfl), (Nat.le_of_ble_eq_true rfl)⟩)
  dsimp only [Pt.U, Pt.locs, Pt.cells, Pt.slots] at X12 l12 y12 z12 st12 hQ12
  subst l12 y12 z12
  obtain ⟨rfl, N12q, e12q⟩ := hQ12
  have N12 := Fr.app N11 N12q
  have Z12 : n0 ≤ T12.heap.size := by rw [e12q]; exact Z11
  have G12 : Gr Z T12.heap g n0 len7 (([] : List (Int64 × Int64)) ++ [((own_hi p1), (own_lo p1) - (own_hi p1))]) := by rw [e12q]; exact G11
  obtain ⟨cq13, kq13, q13a, q13b, q13c⟩ := isOf hZ rfl G12.1
  obtain ⟨_, _, ⟨T13, L13, k13, n13⟩, -, X13, ⟨Lc13, hQ13, l13, y13, z13⟩, st13⟩ := X12.virtualBack hx (y := (⟨"com/example/fast_tangle/fasttangle/PartingPairs$Groups", "add", "(IJJ)V"⟩ : MethodName)) (z := (⟨"com/example/fast_tangle/fasttangle/PartingPairs$Groups", "add", "(IJJ)V"⟩ : MethodName)) hown (mvT hZ (hw _ (List.mem_of_getElem? (i := 28) rfl))) (mvT hZ (hw _ (List.mem_of_getElem? (i := 29) rfl))) (notFace_of_selects (args := #[]) (mvT hZ (hw _ (List.mem_of_getElem? (i := 31) rfl)))) (mvT hZ (hw _ (List.mem_of_getElem? (i := 31) rfl))) (mvT hZ (hw _ (List.mem_of_getElem? (i := 30) rfl))) (by decide) (backOf (W := 0) (rm6 l Z a0 hw [] g (1 : Int32) (own_hi p2) (own_lo p2) len7 (([] : List (Int64 × Int64)) ++ [((own_hi p1), (own_lo p1) - (own_hi p1))]) T12.heap n0 Z12 g_g G12 l2_7 l7_7 (Nat.le_of_ble_eq_true rfl)) hZ (hw _ (List.mem_of_getElem? (i := 32) rfl)) (hw _ (List.mem_of_getElem? (i := 2) rfl)) (by decide) (by decide)) q13a q13c (g := (mkF m 154 #[.val (.long p1), .second, .val (.long p2), .second, .val (.long p3), .second, .val (.int sl), .val (.int ct), .val (.int cl), .val (.int cc), .val (.ref g), .val (.long (own_hi p1)), .second, .val (.long ((own_lo p1) - (own_hi p1))), .second, .val (.long (0 : Int64)), .second, .val (.long (0 : Int64)), .second, .val (.long (0 : Int64)), .second, .val (.long (0 : Int64)), .second, .unset, .unset] [(.long (own_lo p2)), (.long (own_hi p2)), (.int (1 : Int32)), (.ref g)])) rfl (by rw [hml]; rfl) (Steps.refl _) (argsL := [(.int (1 : Int32)), (.long (own_hi p2)), (.long (own_lo p2))]) (rest := []) (lenOf pd_0_4 rfl) rfl (by show 2 * 0 + _ ≤ _; exact Nat.le_of_eq rfl) (hb hby at_154) (fun _ _ => ⟨rfl, rfl, (Nat.le_of_ble_eq_true rfl), (Nat.le_of_ble_eq_true rfl)⟩)
  dsimp only [Pt.U, Pt.locs, Pt.cells, Pt.slots] at X13 l13 y13 z13 st13 hQ13
  subst l13 y13 z13
  obtain ⟨rfl, N13q, Z13, len13, l2_13, l7_13, lx_13, G13⟩ := hQ13
  have N13 := Fr.app N12 N13q
  obtain ⟨_, _, ⟨T14, L14, k14, n14⟩, -, X14, ⟨Lc14, hQ14, l14, y14, z14⟩, st14⟩ := Jvm.LawKit.callS X13 hx (y := (⟨"com/example/fast_tangle/fasttangle/GroupsPairsPinLaw", "hi", "(J)J"⟩ : MethodName)) hown (mvT hZ (hw _ (List.mem_of_getElem? (i := 21) rfl))) (mvT hZ (hw _ (List.mem_of_getElem? (i := 22) rfl))) (mvT hZ (hw _ (List.mem_of_getElem? (i := 23) rfl))) (mvT hZ (hw _ (List.mem_of_getElem? (i := 24) rfl))) (by decide) (backOf (W := 0) (rm4 l Z a0 hw [] p2 T13.heap n0 Z13) hZ (hw _ (List.mem_of_getElem? (i := 24) rfl)) (hw _ (List.mem_of_getElem? (i := 23) rfl)) (by decide) (by decide)) (g := (mkF m 158 #[.val (.long p1), .second, .val (.long p2), .second, .val (.long p3), .second, .val (.int sl), .val (.int ct), .val (.int cl), .val (.int cc), .val (.ref g), .val (.long (own_hi p1)), .second, .val (.long ((own_lo p1) - (own_hi p1))), .second, .val (.long (0 : Int64)), .second, .val (.long (0 : Int64)), .second, .val (.long (0 : Int64)), .second, .val (.long (0 : Int64)), .second, .unset, .unset] [(.long p2)])) rfl (by rw [hml]; rfl) (argsL := [(.long p2)]) (rest := []) (lenOf pd_0_3 rfl) rfl (by show 2 * 0 + _ ≤ _; exact Nat.le_of_eq rfl) (hb hby at_158) (fun _ _ => ⟨rfl, rfl, (Nat.le_of_ble_eq_true rfl), (Nat.le_of_ble_eq_true rfl)⟩)
  dsimp only [Pt.U, Pt.locs, Pt.cells, Pt.slots] at X14 l14 y14 z14 st14 hQ14
  subst l14 y14 z14
  obtain ⟨rfl, N14q, e14q⟩ := hQ14
  have N14 := Fr.app N13 N14q
  have Z14 : n0 ≤ T14.heap.size := by rw [e14q]; exact Z13
  have G14 : Gr Z T14.heap g n0 len13 ((([] : List (Int64 × Int64)) ++ [((own_hi p1), (own_lo p1) - (own_hi p1))]) ++ [((own_hi p2), (own_lo p2) - (own_hi p2))]) := by rw [e14q]; exact G13
  obtain ⟨_, _, ⟨T15, L15, k15, n15⟩, -, X15, ⟨Lc15, hQ15, l15, y15, z15⟩, st15⟩ := Jvm.LawKit.callS X14 hx (y := (⟨"com/example/fast_tangle/fasttangle/GroupsPairsPinLaw", "lo", "(J)J"⟩ : MethodName)) hown (mvT hZ (hw _ (List.mem_of_getElem? (i := 25) rfl))) (mvT hZ (hw _ (List.mem_of_getElem? (i := 26) rfl))) (mvT hZ (hw _ (List.mem_of_getElem? (i := 23) rfl))) (mvT hZ (hw _ (List.mem_of_getElem? (i := 27) rfl))) (by decide) (backOf (W := 0) (rm5 l Z a0 hw [] p2 T14.heap n0 Z14) hZ (hw _ (List.mem_of_getElem? (i := 27) rfl)) (hw _ (List.mem_of_getElem? (i := 23) rfl)) (by decide) (by decide)) (g := (mkF m 164 #[.val (.long p1), .second, .val (.long p2), .second, .val (.long p3), .second, .val (.int sl), .val (.int ct), .val (.int cl), .val (.int cc), .val (.ref g), .val (.long (own_hi p1)), .second, .val (.long ((own_lo p1) - (own_hi p1))), .second, .val (.long (own_hi p2)), .second, .val (.long (0 : Int64)), .second, .val (.long (0 : Int64)), .second, .val (.long (0 : Int64)), .second, .unset, .unset] [(.long p2)])) rfl (by rw [hml]; rfl) (argsL := [(.long p2)]) (rest := []) (lenOf pd_0_3 rfl) rfl (by show 2 * 0 + _ ≤ _; exact Nat.le_of_eq rfl) (hb hby at_164) (fun _ _ => ⟨rfl, rfl, (Nat.le_of_ble_eq_true rfl), (Nat.le_of_ble_eq_true rfl)⟩)
  dsimp only [Pt.U, Pt.locs, Pt.cells, Pt.slots] at X15 l15 y15 z15 st15 hQ15
  subst l15 y15 z15
  obtain ⟨rfl, N15q, e15q⟩ := hQ15
  have N15 := Fr.app N14 N15q
  have Z15 : n0 ≤ T15.heap.size := by rw [e15q]; exact Z14
  have G15 : Gr Z T15.heap g n0 len13 ((([] : List (Int64 × Int64)) ++ [((own_hi p1), (own_lo p1) - (own_hi p1))]) ++ [((own_hi p2), (own_lo p2) - (own_hi p2))]) := by rw [e15q]; exact G14
  obtain ⟨_, _, ⟨T16, L16, k16, n16⟩, -, X16, ⟨Lc16, hQ16, l16, y16, z16⟩, st16⟩ := Jvm.LawKit.callS X15 hx (y := (⟨"com/example/fast_tangle/fasttangle/GroupsPairsPinLaw", "hi", "(J)J"⟩ : MethodName)) hown (mvT hZ (hw _ (List.mem_of_getElem? (i := 21) rfl))) (mvT hZ (hw _ (List.mem_of_getElem? (i := 22) rfl))) (mvT hZ (hw _ (List.mem_of_getElem? (i := 23) rfl))) (mvT hZ (hw _ (List.mem_of_getElem? (i := 24) rfl))) (by decide) (backOf (W := 2) (rm4 l Z a0 hw [] p2 T15.heap n0 Z15) hZ (hw _ (List.mem_of_getElem? (i := 24) rfl)) (hw _ (List.mem_of_getElem? (i := 23) rfl)) (by decide) (by decide)) (g := (mkF m 168 #[.val (.long p1), .second, .val (.long p2), .second, .val (.long p3), .second, .val (.int sl), .val (.int ct), .val (.int cl), .val (.int cc), .val (.ref g), .val (.long (own_hi p1)), .second, .val (.long ((own_lo p1) - (own_hi p1))), .second, .val (.long (own_hi p2)), .second, .val (.long (0 : Int64)), .second, .val (.long (0 : Int64)), .second, .val (.long (0 : Int64)), .second, .unset, .unset] [(.long p2), (.long (own_lo p2))])) rfl (by rw [hml]; rfl) (argsL := [(.long p2)]) (rest := [(.long (own_lo p2))]) (lenOf pd_0_3 rfl) rfl (by show 2 * 0 + _ ≤ _; exact Nat.le_of_eq rfl) (hb hby at_168) (fun _ _ => ⟨rfl, rfl, (Nat.le_of_ble_eq_true rfl), (Nat.le_of_ble_eq_true rfl)⟩)
  dsimp only [Pt.U, Pt.locs, Pt.cells, Pt.slots] at X16 l16 y16 z16 st16 hQ16
  subst l16 y16 z16
  obtain ⟨rfl, N16q, e16q⟩ := hQ16
  have N16 := Fr.app N15 N16q
  have Z16 : n0 ≤ T16.heap.size := by rw [e16q]; exact Z15
  have G16 : Gr Z T16.heap g n0 len13 ((([] : List (Int64 × Int64)) ++ [((own_hi p1), (own_lo p1) - (own_hi p1))]) ++ [((own_hi p2), (own_lo p2) - (own_hi p2))]) := by rw [e16q]; exact G15
  obtain ⟨_, _, ⟨T17, L17, k17, n17⟩, -, X17, ⟨Lc17, hQ17, l17, y17, z17⟩, st17⟩ := Jvm.LawKit.callS X16 hx (y := (⟨"com/example/fast_tangle/fasttangle/GroupsPairsPinLaw", "hi", "(J)J"⟩ : MethodName)) hown (mvT hZ (hw _ (List.mem_of_getElem? (i := 21) rfl))) (mvT hZ (hw _ (List.mem_of_getElem? (i := 22) rfl))) (mvT hZ (hw _ (List.mem_of_getElem? (i := 23) rfl))) (mvT hZ (hw _ (List.mem_of_getElem? (i := 24) rfl))) (by decide) (backOf (W := 2) (rm4 l Z a0 hw [] p3 T16.heap n0 Z16) hZ (hw _ (List.mem_of_getElem? (i := 24) rfl)) (hw _ (List.mem_of_getElem? (i := 23) rfl)) (by decide) (by decide)) (g := (mkF m 185 #[.val (.long p1), .second, .val (.long p2), .second, .val (.long p3), .second, .val (.int sl), .val (.int ct), .val (.int cl), .val (.int cc), .val (.ref g), .val (.long (own_hi p1)), .second, .val (.long ((own_lo p1) - (own_hi p1))), .second, .val (.long (own_hi p2)), .second, .val (.long ((own_lo p2) - (own_hi p2))), .second, .val (.long (0 : Int64)), .second, .val (.long (0 : Int64)), .second, .unset, .unset] [(.long p3), (.int (2 : Int32)), (.ref g)])) rfl (by rw [hml]; rfl) (argsL := [(.long p3)]) (rest := [(.int (2 : Int32)), (.ref g)]) (lenOf pd_0_3 rfl) rfl (by show 2 * 0 + _ ≤ _; exact Nat.le_of_eq rfl) (hb hby at_185) (fun _ _ => ⟨rfl, rfl, (Nat.le_of_ble_eq_true rfl), (Nat.le_of_ble_eq_true rfl)⟩)
  dsimp only [Pt.U, Pt.locs, Pt.cells, Pt.slots] at X17 l17 y17 z17 st17 hQ17
  subst l17 y17 z17
  obtain ⟨rfl, N17q, e17q⟩ := hQ17
  have N17 := Fr.app N16 N17q
  have Z17 : n0 ≤ T17.heap.size := by rw [e17q]; exact Z16
  have G17 : Gr Z T17.heap g n0 len13 ((([] : List (Int64 × Int64)) ++ [((own_hi p1), (own_lo p1) - (own_hi p1))]) ++ [((own_hi p2), (own_lo p2) - (own_hi p2))]) := by rw [e17q]; exact G16
  obtain ⟨_, _, ⟨T18, L18, k18, n18⟩, -, X18, ⟨Lc18, hQ18, l18, y18, z18⟩, st18⟩ := Jvm.LawKit.callS X17 hx (y := (⟨"com/example/fast_tangle/fasttangle/GroupsPairsPinLaw", "lo", "(J)J"⟩ : MethodName)) hown (mvT hZ (hw _ (List.mem_of_getElem? (i := 25) rfl))) (mvT hZ (hw _ (List.mem_of_getElem? (i := 26) rfl))) (mvT hZ (hw _ (List.mem_of_getElem? (i := 23) rfl))) (mvT hZ (hw _ (List.mem_of_getElem? (i := 27) rfl))) (by decide) (backOf (W := 4) (rm5 l Z a0 hw [] p3 T17.heap n0 Z17) hZ (hw _ (List.mem_of_getElem? (i := 27) rfl)) (hw _ (List.mem_of_getElem? (i := 23) rfl)) (by decide) (by decide)) (g := (mkF m 190 #[.val (.long p1), .second, .val (.long p2), .second, .val (.long p3), .second, .val (.int sl), .val (.int ct), .val (.int cl), .val (.int cc), .val (.ref g), .val (.long (own_hi p1)), .second, .val (.long ((own_lo p1) - (own_hi p1))), .second, .val (.long (own_hi p2)), .second, .val (.long ((own_lo p2) - (own_hi p2))), .second, .val (.long (0 : Int64)), .second, .val (.long (0 : Int64)), .second, .unset, .unset] [(.long p3), (.long (own_hi p3)), (.int (2 : Int32)), (.ref g)])) rfl (by rw [hml]; rfl) (argsL := [(.long p3)]) (rest := [(.long (own_hi p3)), (.int (2 : Int32)), (.ref g)]) (lenOf pd_0_3 rfl) rfl (by show 2 * 0 + _ ≤ _; exact Nat.le_of_eq rfl) (hb hby at_190) (fun _ _ => ⟨rfl, rfl, (Nat.le_of_ble_eq_true rfl), (Nat.le_of_ble_eq_true rfl)⟩)
  dsimp only [Pt.U, Pt.locs, Pt.cells, Pt.slots] at X18 l18 y18 z18 st18 hQ18
  subst l18 y18 z18
  obtain ⟨rfl, N18q, e18q⟩ := hQ18
  have N18 := Fr.app N17 N18q
  have Z18 : n0 ≤ T18.heap.size := by rw [e18q]; exact Z17
  have G18 : Gr Z T18.heap g n0 len13 ((([] : List (Int64 × Int64)) ++ [((own_hi p1), (own_lo p1) - (own_hi p1))]) ++ [((own_hi p2), (own_lo p2) - (own_hi p2))]) := by rw [e18q]; exact G17
  obtain ⟨cq19, kq19, q19a, q19b, q19c⟩ := isOf hZ rfl G18.1
  obtain ⟨_, _, ⟨T19, L19, k19, n19⟩, -, X19, ⟨Lc19, hQ19, l19, y19, z19⟩, st19⟩ := X18.virtualBack hx (y := (⟨"com/example/fast_tangle/fasttangle/PartingPairs$Groups", "add", "(IJJ)V"⟩ : MethodName)) (z := (⟨"com/example/fast_tangle/fasttangle/PartingPairs$Groups", "add", "(IJJ)V"⟩ : MethodName)) hown (mvT hZ (hw _ (List.mem_of_getElem? (i := 28) rfl))) (mvT hZ (hw _ (List.mem_of_getElem? (i := 29) rfl))) (notFace_of_selects (args := #[]) (mvT hZ (hw _ (List.mem_of_getElem? (i := 31) rfl)))) (mvT hZ (hw _ (List.mem_of_getElem? (i := 31) rfl))) (mvT hZ (hw _ (List.mem_of_getElem? (i := 30) rfl))) (by decide) (backOf (W := 0) (rm6 l Z a0 hw [] g (2 : Int32) (own_hi p3) (own_lo p3) len13 ((([] : List (Int64 × Int64)) ++ [((own_hi p1), (own_lo p1) - (own_hi p1))]) ++ [((own_hi p2), (own_lo p2) - (own_hi p2))]) T18.heap n0 Z18 g_g G18 l2_13 l7_13 (Nat.le_of_ble_eq_true rfl)) hZ (hw _ (List.mem_of_getElem? (i := 32) rfl)) (hw _ (List.mem_of_getElem? (i := 2) rfl)) (by decide) (by decide)) q19a q19c (g := (mkF m 193 #[.val (.long p1), .second, .val (.long p2), .second, .val (.long p3), .second, .val (.int sl), .val (.int ct), .val (.int cl), .val (.int cc), .val (.ref g), .val (.long (own_hi p1)), .second, .val (.long ((own_lo p1) - (own_hi p1))), .second, .val (.long (own_hi p2)), .second, .val (.long ((own_lo p2) - (own_hi p2))), .second, .val (.long (0 : Int64)), .second, .val (.long (0 : Int64)), .second, .unset, .unset] [(.long (own_lo p3)), (.long (own_hi p3)), (.int (2 : Int32)), (.ref g)])) rfl (by rw [hml]; rfl) (Steps.refl _) (argsL := [(.int (2 : Int32)), (.long (own_hi p3)), (.long (own_lo p3))]) (rest := []) (lenOf pd_0_4 rfl) rfl (by show 2 * 0 + _ ≤ _; exact Nat.le_of_eq rfl) (hb hby at_193) (fun _ _ => ⟨rfl, rfl, (Nat.le_of_ble_eq_true rfl), (Nat.le_of_ble_eq_true rfl)⟩)
  dsimp only [Pt.U, Pt.locs, Pt.cells, Pt.slots] at X19 l19 y19 z19 st19 hQ19
  subst l19 y19 z19
  obtain ⟨rfl, N19q, Z19, len19, l2_19, l7_19, lx_19, G19⟩ := hQ19
  have N19 := Fr.app N18 N19q
  obtain ⟨_, _, ⟨T20, L20, k20, n20⟩, -, X20, ⟨Lc20, hQ20, l20, y20, z20⟩, st20⟩ := Jvm.LawKit.callS X19 hx (y := (⟨"com/example/fast_tangle/fasttangle/GroupsPairsPinLaw", "hi", "(J)J"⟩ : MethodName)) hown (mvT hZ (hw _ (List.mem_of_getElem? (i := 21) rfl))) (mvT hZ (hw _ (List.mem_of_getElem? (i := 22) rfl))) (mvT hZ (hw _ (List.mem_of_getElem? (i := 23) rfl))) (mvT hZ (hw _ (List.mem_of_getElem? (i := 24) rfl))) (by decide) (backOf (W := 0) (rm4 l Z a0 hw [] p3 T19.heap n0 Z19) hZ (hw _ (List.mem_of_getElem? (i := 24) rfl)) (hw _ (List.mem_of_getElem? (i := 23) rfl)) (by decide) (by decide)) (g := (mkF m 198 #[.val (.long p1), .second, .val (.long p2), .second, .val (.long p3), .second, .val (.int sl), .val (.int ct), .val (.int cl), .val (.int cc), .val (.ref g), .val (.long (own_hi p1)), .second, .val (.long ((own_lo p1) - (own_hi p1))), .second, .val (.long (own_hi p2)), .second, .val (.long ((own_lo p2) - (own_hi p2))), .second, .val (.long (0 : Int64)), .second, .val (.long (0 : Int64)), .second, .unset, .unset] [(.long p3)])) rfl (by rw [hml]; rfl) (argsL := [(.long p3)]) (rest := []) (lenOf pd_0_3 rfl) rfl (by show 2 * 0 + _ ≤ _; exact Nat.le_of_eq rfl) (hb hby at_198) (fun _ _ => ⟨rfl, rfl, (Nat.le_of_ble_eq_true rfl), (Nat.le_of_ble_eq_true rfl)⟩)
  dsimp only [Pt.U, Pt.locs, Pt.cells, Pt.slots] at X20 l20 y20 z20 st20 hQ20
  subst l20 y20 z20
  obtain ⟨rfl, N20q, e20q⟩ := hQ20
  have N20 := Fr.app N19 N20q
  have Z20 : n0 ≤ T20.heap.size := by rw [e20q]; exact Z19
  have G20 : Gr Z T20.heap g n0 len19 (((([] : List (Int64 × Int64)) ++ [((own_hi p1), (own_lo p1) - (own_hi p1))]) ++ [((own_hi p2), (own_lo p2) - (own_hi p2))]) ++ [((own_hi p3), (own_lo p3) - (own_hi p3))]) := by rw [e20q]; exact G19
  obtain ⟨_, _, ⟨T21, L21, k21, n21⟩, -, X21, ⟨Lc21, hQ21, l21, y21, z21⟩, st21⟩ := Jvm.LawKit.callS X20 hx (y := (⟨"com/example/fast_tangle/fasttangle/GroupsPairsPinLaw", "lo", "(J)J"⟩ : MethodName)) hown (mvT hZ (hw _ (List.mem_of_getElem? (i := 25) rfl))) (mvT hZ (hw _ (List.mem_of_getElem? (i := 26) rfl))) (mvT hZ (hw _ (List.mem_of_getElem? (i := 23) rfl))) (mvT hZ (hw _ (List.mem_of_getElem? (i := 27) rfl))) (by decide) (backOf (W := 0) (rm5 l Z a0 hw [] p3 T20.heap n0 Z20) hZ (hw _ (List.mem_of_getElem? (i := 27) rfl)) (hw _ (List.mem_of_getElem? (i := 23) rfl)) (by decide) (by decide)) (g := (mkF m 205 #[.val (.long p1), .second, .val (.long p2), .second, .val (.long p3), .second, .val (.int sl), .val (.int ct), .val (.int cl), .val (.int cc), .val (.ref g), .val (.long (own_hi p1)), .second, .val (.long ((own_lo p1) - (own_hi p1))), .second, .val (.long (own_hi p2)), .second, .val (.long ((own_lo p2) - (own_hi p2))), .second, .val (.long (own_hi p3)), .second, .val (.long (0 : Int64)), .second, .unset, .unset] [(.long p3)])) rfl (by rw [hml]; rfl) (argsL := [(.long p3)]) (rest := []) (lenOf pd_0_3 rfl) rfl (by show 2 * 0 + _ ≤ _; exact Nat.le_of_eq rfl) (hb hby at_205) (fun _ _ => ⟨rfl, rfl, (Nat.le_of_ble_eq_true rfl), (Nat.le_of_ble_eq_true rfl)⟩)
  dsimp only [Pt.U, Pt.locs, Pt.cells, Pt.slots] at X21 l21 y21 z21 st21 hQ21
  subst l21 y21 z21
  obtain ⟨rfl, N21q, e21q⟩ := hQ21
  have N21 := Fr.app N20 N21q
  have Z21 : n0 ≤ T21.heap.size := by rw [e21q]; exact Z20
  have G21 : Gr Z T21.heap g n0 len19 (((([] : List (Int64 × Int64)) ++ [((own_hi p1), (own_lo p1) - (own_hi p1))]) ++ [((own_hi p2), (own_lo p2) - (own_hi p2))]) ++ [((own_hi p3), (own_lo p3) - (own_hi p3))]) := by rw [e21q]; exact G20
  obtain ⟨_, _, ⟨T22, L22, k22, n22⟩, -, X22, ⟨Lc22, hQ22, l22, y22, z22⟩, st22⟩ := Jvm.LawKit.callS X21 hx (y := (⟨"com/example/fast_tangle/fasttangle/GroupsPairsPinLaw", "hi", "(J)J"⟩ : MethodName)) hown (mvT hZ (hw _ (List.mem_of_getElem? (i := 21) rfl))) (mvT hZ (hw _ (List.mem_of_getElem? (i := 22) rfl))) (mvT hZ (hw _ (List.mem_of_getElem? (i := 23) rfl))) (mvT hZ (hw _ (List.mem_of_getElem? (i := 24) rfl))) (by decide) (backOf (W := 2) (rm4 l Z a0 hw [] p3 T21.heap n0 Z21) hZ (hw _ (List.mem_of_getElem? (i := 24) rfl)) (hw _ (List.mem_of_getElem? (i := 23) rfl)) (by decide) (by decide)) (g := (mkF m 210 #[.val (.long p1), .second, .val (.long p2), .second, .val (.long p3), .second, .val (.int sl), .val (.int ct), .val (.int cl), .val (.int cc), .val (.ref g), .val (.long (own_hi p1)), .second, .val (.long ((own_lo p1) - (own_hi p1))), .second, .val (.long (own_hi p2)), .second, .val (.long ((own_lo p2) - (own_hi p2))), .second, .val (.long (own_hi p3)), .second, .val (.long (0 : Int64)), .second, .unset, .unset] [(.long p3), (.long (own_lo p3))])) rfl (by rw [hml]; rfl) (argsL := [(.long p3)]) (rest := [(.long (own_lo p3))]) (lenOf pd_0_3 rfl) rfl (by show 2 * 0 + _ ≤ _; exact Nat.le_of_eq rfl) (hb hby at_210) (fun _ _ => ⟨rfl, rfl, (Nat.le_of_ble_eq_true rfl), (Nat.le_of_ble_eq_true rfl)⟩)
  dsimp only [Pt.U, Pt.locs, Pt.cells, Pt.slots] at X22 l22 y22 z22 st22 hQ22
  subst l22 y22 z22
  obtain ⟨rfl, N22q, e22q⟩ := hQ22
  have N22 := Fr.app N21 N22q
  have Z22 : n0 ≤ T22.heap.size := by rw [e22q]; exact Z21
  have G22 : Gr Z T22.heap g n0 len19 (((([] : List (Int64 × Int64)) ++ [((own_hi p1), (own_lo p1) - (own_hi p1))]) ++ [((own_hi p2), (own_lo p2) - (own_hi p2))]) ++ [((own_hi p3), (own_lo p3) - (own_hi p3))]) := by rw [e22q]; exact G21
  obtain ⟨cq23, kq23, q23a, q23b, q23c⟩ := isOf hZ rfl G22.1
  obtain ⟨_, _, ⟨T23, L23, k23, n23⟩, -, X23, ⟨Lc23, hQ23, l23, y23, z23⟩, st23⟩ := X22.virtualBack hx (y := (⟨"com/example/fast_tangle/fasttangle/PartingPairs$Groups", "pairs", "()J"⟩ : MethodName)) (z := (⟨"com/example/fast_tangle/fasttangle/PartingPairs$Groups", "pairs", "()J"⟩ : MethodName)) hown (mvT hZ (hw _ (List.mem_of_getElem? (i := 35) rfl))) (mvT hZ (hw _ (List.mem_of_getElem? (i := 36) rfl))) (notFace_of_selects (args := #[]) (mvT hZ (hw _ (List.mem_of_getElem? (i := 38) rfl)))) (mvT hZ (hw _ (List.mem_of_getElem? (i := 38) rfl))) (mvT hZ (hw _ (List.mem_of_getElem? (i := 37) rfl))) (by decide) (backOf (W := 0) (rm7 l Z a0 hw [] g len19 (((([] : List (Int64 × Int64)) ++ [((own_hi p1), (own_lo p1) - (own_hi p1))]) ++ [((own_hi p2), (own_lo p2) - (own_hi p2))]) ++ [((own_hi p3), (own_lo p3) - (own_hi p3))]) T22.heap n0 Z22 G22 l7_19 lx_19) hZ (hw _ (List.mem_of_getElem? (i := 39) rfl)) (hw _ (List.mem_of_getElem? (i := 2) rfl)) (by decide) (by decide)) q23a q23c (g := (mkF m 246 #[.val (.long p1), .second, .val (.long p2), .second, .val (.long p3), .second, .val (.int sl), .val (.int ct), .val (.int cl), .val (.int cc), .val (.ref g), .val (.long (own_hi p1)), .second, .val (.long ((own_lo p1) - (own_hi p1))), .second, .val (.long (own_hi p2)), .second, .val (.long ((own_lo p2) - (own_hi p2))), .second, .val (.long (own_hi p3)), .second, .val (.long ((own_lo p3) - (own_hi p3))), .second, .val (.long ((((own_hi p1) * (((own_lo p2) - (own_hi p2)) + ((own_lo p3) - (own_hi p3)))) + ((own_hi p2) * (((own_lo p1) - (own_hi p1)) + ((own_lo p3) - (own_hi p3))))) + ((own_hi p3) * (((own_lo p1) - (own_hi p1)) + ((own_lo p2) - (own_hi p2)))))), .second] [(.ref g)])) rfl (by rw [hml]; rfl) (Steps.refl _) (argsL := []) (rest := []) (lenOf pd_0_5 rfl) rfl (by show 2 * 0 + _ ≤ _; exact Nat.le_of_eq rfl) (hb hby at_246) (fun _ _ => ⟨rfl, rfl, (Nat.le_of_ble_eq_true rfl), (Nat.le_of_ble_eq_true rfl)⟩)
  dsimp only [Pt.U, Pt.locs, Pt.cells, Pt.slots] at X23 l23 y23 z23 st23 hQ23
  subst l23 y23 z23
  obtain ⟨rfl, N23q, e23q⟩ := hQ23
  have N23 := Fr.app N22 N23q
  have Z23 : n0 ≤ T23.heap.size := by rw [e23q]; exact Z22
  have G23 : Gr Z T23.heap g n0 len19 (((([] : List (Int64 × Int64)) ++ [((own_hi p1), (own_lo p1) - (own_hi p1))]) ++ [((own_hi p2), (own_lo p2) - (own_hi p2))]) ++ [((own_hi p3), (own_lo p3) - (own_hi p3))]) := by rw [e23q]; exact G22
  obtain ⟨cq24, kq24, q24a, q24b, q24c⟩ := isOf hZ rfl G23.1
  obtain ⟨_, _, ⟨T24, L24, k24, n24⟩, -, X24, ⟨Lc24, hQ24, l24, y24, z24⟩, st24⟩ := X23.virtualBack hx (y := (⟨"com/example/fast_tangle/fasttangle/PartingPairs$Groups", "size", "()I"⟩ : MethodName)) (z := (⟨"com/example/fast_tangle/fasttangle/PartingPairs$Groups", "size", "()I"⟩ : MethodName)) hown (mvT hZ (hw _ (List.mem_of_getElem? (i := 40) rfl))) (mvT hZ (hw _ (List.mem_of_getElem? (i := 41) rfl))) (notFace_of_selects (args := #[]) (mvT hZ (hw _ (List.mem_of_getElem? (i := 43) rfl)))) (mvT hZ (hw _ (List.mem_of_getElem? (i := 43) rfl))) (mvT hZ (hw _ (List.mem_of_getElem? (i := 42) rfl))) (by decide) (backOf (W := 0) (rm8 l Z a0 hw [] g (Int32.ofNat (((([] : List (Int64 × Int64)) ++ [((own_hi p1), (own_lo p1) - (own_hi p1))]) ++ [((own_hi p2), (own_lo p2) - (own_hi p2))]) ++ [((own_hi p3), (own_lo p3) - (own_hi p3))]).length) T23.heap n0 Z23 G23.2.1) hZ (hw _ (List.mem_of_getElem? (i := 44) rfl)) (hw _ (List.mem_of_getElem? (i := 2) rfl)) (by decide) (by decide)) q24a q24c (g := (mkF m 257 #[.val (.long p1), .second, .val (.long p2), .second, .val (.long p3), .second, .val (.int sl), .val (.int ct), .val (.int cl), .val (.int cc), .val (.ref g), .val (.long (own_hi p1)), .second, .val (.long ((own_lo p1) - (own_hi p1))), .second, .val (.long (own_hi p2)), .second, .val (.long ((own_lo p2) - (own_hi p2))), .second, .val (.long (own_hi p3)), .second, .val (.long ((own_lo p3) - (own_hi p3))), .second, .val (.long ((((own_hi p1) * (((own_lo p2) - (own_hi p2)) + ((own_lo p3) - (own_hi p3)))) + ((own_hi p2) * (((own_lo p1) - (own_hi p1)) + ((own_lo p3) - (own_hi p3))))) + ((own_hi p3) * (((own_lo p1) - (own_hi p1)) + ((own_lo p2) - (own_hi p2)))))), .second] [(.ref g)])) rfl (by rw [hml]; rfl) (Steps.refl _) (argsL := []) (rest := []) (lenOf pd_0_6 rfl) rfl (by show 2 * 0 + _ ≤ _; exact Nat.le_of_eq rfl) (hb hby at_257) (fun _ _ => ⟨rfl, rfl, (Nat.le_of_ble_eq_true rfl), (Nat.le_of_ble_eq_true rfl)⟩)
  dsimp only [Pt.U, Pt.locs, Pt.cells, Pt.slots] at X24 l24 y24 z24 st24 hQ24
  subst l24 y24 z24
  obtain ⟨rfl, N24q, e24q⟩ := hQ24
  have N24 := Fr.app N23 N24q
  refine ⟨T24, _, X24, N24, trivial, fun target kt => ?_⟩
  show Steps p.tables e below (T0.setTop (mkF m 82 #[.val (.long p1), .second, .val (.long p2), .second, .val (.long p3), .second, .val (.int sl), .val (.int ct), .val (.int cl), .val (.int cc), .val (.ref g), .unset, .unset, .unset, .unset, .unset, .unset, .unset, .unset, .unset, .unset, .unset, .unset, .unset, .unset] [])) _
  refine XS.lconst X0.here hx rfl (hb hby at_82) ?_
  show Steps p.tables e below (T0.setTop (mkF m 83 #[.val (.long p1), .second, .val (.long p2), .second, .val (.long p3), .second, .val (.int sl), .val (.int ct), .val (.int cl), .val (.int cc), .val (.ref g), .unset, .unset, .unset, .unset, .unset, .unset, .unset, .unset, .unset, .unset, .unset, .unset, .unset, .unset] [(.long (0 : Int64))])) _
  refine XS.lstore X0.here hx rfl (hb hby at_83) rfl (l' := #[.val (.long p1), .second, .val (.long p2), .second, .val (.long p3), .second, .val (.int sl), .val (.int ct), .val (.int cl), .val (.int cc), .val (.ref g), .val (.long (0 : Int64)), .second, .unset, .unset, .unset, .unset, .unset, .unset, .unset, .unset, .unset, .unset, .unset, .unset]) rfl ?_
  show Steps p.tables e below (T0.setTop (mkF m 85 #[.val (.long p1), .second, .val (.long p2), .second, .val (.long p3), .second, .val (.int sl), .val (.int ct), .val (.int cl), .val (.int cc), .val (.ref g), .val (.long (0 : Int64)), .second, .unset, .unset, .unset, .unset, .unset, .unset, .unset, .unset, .unset, .unset, .unset, .unset] [])) _
  refine XS.lconst X0.here hx rfl (hb hby at_85) ?_
  show Steps p.tables e below (T0.setTop (mkF m 86 #[.val (.long p1), .second, .val (.long p2), .second, .val (.long p3), .second, .val (.int sl), .val (.int ct), .val (.int cl), .val (.int cc), .val (.ref g), .val (.long (0 : Int64)), .second, .unset, .unset, .unset, .unset, .unset, .unset, .unset, .unset, .unset, .unset, .unset, .unset] [(.long (0 : Int64))])) _
  refine XS.lstore X0.here hx rfl (hb hby at_86) rfl (l' := #[.val (.long p1), .second, .val (.long p2), .second, .val (.long p3), .second, .val (.int sl), .val (.int ct), .val (.int cl), .val (.int cc), .val (.ref g), .val (.long (0 : Int64)), .second, .val (.long (0 : Int64)), .second, .unset, .unset, .unset, .unset, .unset, .unset, .unset, .unset, .unset, .unset]) rfl ?_
  show Steps p.tables e below (T0.setTop (mkF m 88 #[.val (.long p1), .second, .val (.long p2), .second, .val (.long p3), .second, .val (.int sl), .val (.int ct), .val (.int cl), .val (.int cc), .val (.ref g), .val (.long (0 : Int64)), .second, .val (.long (0 : Int64)), .second, .unset, .unset, .unset, .unset, .unset, .unset, .unset, .unset, .unset, .unset] [])) _
  refine XS.lconst X0.here hx rfl (hb hby at_88) ?_
  show Steps p.tables e below (T0.setTop (mkF m 89 #[.val (.long p1), .second, .val (.long p2), .second, .val (.long p3), .second, .val (.int sl), .val (.int ct), .val (.int cl), .val (.int cc), .val (.ref g), .val (.long (0 : Int64)), .second, .val (.long (0 : Int64)), .second, .unset, .unset, .unset, .unset, .unset, .unset, .unset, .unset, .unset, .unset] [(.long (0 : Int64))])) _
  refine XS.lstore X0.here hx rfl (hb hby at_89) rfl (l' := #[.val (.long p1), .second, .val (.long p2), .second, .val (.long p3), .second, .val (.int sl), .val (.int ct), .val (.int cl), .val (.int cc), .val (.ref g), .val (.long (0 : Int64)), .second, .val (.long (0 : Int64)), .second, .val (.long (0 : Int64)), .second, .unset, .unset, .unset, .unset, .unset, .unset, .unset, .unset]) rfl ?_
  show Steps p.tables e below (T0.setTop (mkF m 91 #[.val (.long p1), .second, .val (.long p2), .second, .val (.long p3), .second, .val (.int sl), .val (.int ct), .val (.int cl), .val (.int cc), .val (.ref g), .val (.long (0 : Int64)), .second, .val (.long (0 : Int64)), .second, .val (.long (0 : Int64)), .second, .unset, .unset, .unset, .unset, .unset, .unset, .unset, .unset] [])) _
  refine XS.lconst X0.here hx rfl (hb hby at_91) ?_
  show Steps p.tables e below (T0.setTop (mkF m 92 #[.val (.long p1), .second, .val (.long p2), .second, .val (.long p3), .second, .val (.int sl), .val (.int ct), .val (.int cl), .val (.int cc), .val (.ref g), .val (.long (0 : Int64)), .second, .val (.long (0 : Int64)), .second, .val (.long (0 : Int64)), .second, .unset, .unset, .unset, .unset, .unset, .unset, .unset, .unset] [(.long (0 : Int64))])) _
  refine XS.lstore X0.here hx rfl (hb hby at_92) rfl (l' := #[.val (.long p1), .second, .val (.long p2), .second, .val (.long p3), .second, .val (.int sl), .val (.int ct), .val (.int cl), .val (.int cc), .val (.ref g), .val (.long (0 : Int64)), .second, .val (.long (0 : Int64)), .second, .val (.long (0 : Int64)), .second, .val (.long (0 : Int64)), .second, .unset, .unset, .unset, .unset, .unset, .unset]) rfl ?_
  show Steps p.tables e below (T0.setTop (mkF m 94 #[.val (.long p1), .second, .val (.long p2), .second, .val (.long p3), .second, .val (.int sl), .val (.int ct), .val (.int cl), .val (.int cc), .val (.ref g), .val (.long (0 : Int64)), .second, .val (.long (0 : Int64)), .second, .val (.long (0 : Int64)), .second, .val (.long (0 : Int64)), .second, .unset, .unset, .unset, .unset, .unset, .unset] [])) _
  refine XS.lconst X0.here hx rfl (hb hby at_94) ?_
  show Steps p.tables e below (T0.setTop (mkF m 95 #[.val (.long p1), .second, .val (.long p2), .second, .val (.long p3), .second, .val (.int sl), .val (.int ct), .val (.int cl), .val (.int cc), .val (.ref g), .val (.long (0 : Int64)), .second, .val (.long (0 : Int64)), .second, .val (.long (0 : Int64)), .second, .val (.long (0 : Int64)), .second, .unset, .unset, .unset, .unset, .unset, .unset] [(.long (0 : Int64))])) _
  refine XS.lstore X0.here hx rfl (hb hby at_95) rfl (l' := #[.val (.long p1), .second, .val (.long p2), .second, .val (.long p3), .second, .val (.int sl), .val (.int ct), .val (.int cl), .val (.int cc), .val (.ref g), .val (.long (0 : Int64)), .second, .val (.long (0 : Int64)), .second, .val (.long (0 : Int64)), .second, .val (.long (0 : Int64)), .second, .val (.long (0 : Int64)), .second, .unset, .unset, .unset, .unset]) rfl ?_
  show Steps p.tables e below (T0.setTop (mkF m 97 #[.val (.long p1), .second, .val (.long p2), .second, .val (.long p3), .second, .val (.int sl), .val (.int ct), .val (.int cl), .val (.int cc), .val (.ref g), .val (.long (0 : Int64)), .second, .val (.long (0 : Int64)), .second, .val (.long (0 : Int64)), .second, .val (.long (0 : Int64)), .second, .val (.long (0 : Int64)), .second, .unset, .unset, .unset, .unset] [])) _
  refine XS.lconst X0.here hx rfl (hb hby at_97) ?_
  show Steps p.tables e below (T0.setTop (mkF m 98 #[.val (.long p1), .second, .val (.long p2), .second, .val (.long p3), .second, .val (.int sl), .val (.int ct), .val (.int cl), .val (.int cc), .val (.ref g), .val (.long (0 : Int64)), .second, .val (.long (0 : Int64)), .second, .val (.long (0 : Int64)), .second, .val (.long (0 : Int64)), .second, .val (.long (0 : Int64)), .second, .unset, .unset, .unset, .unset] [(.long (0 : Int64))])) _
  refine XS.lstore X0.here hx rfl (hb hby at_98) rfl (l' := #[.val (.long p1), .second, .val (.long p2), .second, .val (.long p3), .second, .val (.int sl), .val (.int ct), .val (.int cl), .val (.int cc), .val (.ref g), .val (.long (0 : Int64)), .second, .val (.long (0 : Int64)), .second, .val (.long (0 : Int64)), .second, .val (.long (0 : Int64)), .second, .val (.long (0 : Int64)), .second, .val (.long (0 : Int64)), .second, .unset, .unset]) rfl ?_
  show Steps p.tables e below (T0.setTop (mkF m 100 #[.val (.long p1), .second, .val (.long p2), .second, .val (.long p3), .second, .val (.int sl), .val (.int ct), .val (.int cl), .val (.int cc), .val (.ref g), .val (.long (0 : Int64)), .second, .val (.long (0 : Int64)), .second, .val (.long (0 : Int64)), .second, .val (.long (0 : Int64)), .second, .val (.long (0 : Int64)), .second, .val (.long (0 : Int64)), .second, .unset, .unset] [])) _
  refine XS.iload X0.here hx rfl (hb hby at_100) rfl ?_
  show Steps p.tables e below (T0.setTop (mkF m 102 #[.val (.long p1), .second, .val (.long p2), .second, .val (.long p3), .second, .val (.int sl), .val (.int ct), .val (.int cl), .val (.int cc), .val (.ref g), .val (.long (0 : Int64)), .second, .val (.long (0 : Int64)), .second, .val (.long (0 : Int64)), .second, .val (.long (0 : Int64)), .second, .val (.long (0 : Int64)), .second, .val (.long (0 : Int64)), .second, .unset, .unset] [(.int ct)])) _
  refine XS.iconst X0.here hx rfl (hb hby at_102) ?_
  show Steps p.tables e below (T0.setTop (mkF m 103 #[.val (.long p1), .second, .val (.long p2), .second, .val (.long p3), .second, .val (.int sl), .val (.int ct), .val (.int cl), .val (.int cc), .val (.ref g), .val (.long (0 : Int64)), .second, .val (.long (0 : Int64)), .second, .val (.long (0 : Int64)), .second, .val (.long (0 : Int64)), .second, .val (.long (0 : Int64)), .second, .val (.long (0 : Int64)), .second, .unset, .unset] [(.int (1 : Int32)), (.int ct)])) _
  refine XS.icmpNo X0.here hx rfl (hb hby at_103) rfl (flt hc103).1 ?_
  show Steps p.tables e below (T0.setTop (mkF m 106 #[.val (.long p1), .second, .val (.long p2), .second, .val (.long p3), .second, .val (.int sl), .val (.int ct), .val (.int cl), .val (.int cc), .val (.ref g), .val (.long (0 : Int64)), .second, .val (.long (0 : Int64)), .second, .val (.long (0 : Int64)), .second, .val (.long (0 : Int64)), .second, .val (.long (0 : Int64)), .second, .val (.long (0 : Int64)), .second, .unset, .unset] [])) _
  refine XS.aload X0.here hx rfl (hb hby at_106) rfl rfl ?_
  show Steps p.tables e below (T0.setTop (mkF m 108 #[.val (.long p1), .second, .val (.long p2), .second, .val (.long p3), .second, .val (.int sl), .val (.int ct), .val (.int cl), .val (.int cc), .val (.ref g), .val (.long (0 : Int64)), .second, .val (.long (0 : Int64)), .second, .val (.long (0 : Int64)), .second, .val (.long (0 : Int64)), .second, .val (.long (0 : Int64)), .second, .val (.long (0 : Int64)), .second, .unset, .unset] [(.ref g)])) _
  refine XS.iconst X0.here hx rfl (hb hby at_108) ?_
  show Steps p.tables e below (T0.setTop (mkF m 109 #[.val (.long p1), .second, .val (.long p2), .second, .val (.long p3), .second, .val (.int sl), .val (.int ct), .val (.int cl), .val (.int cc), .val (.ref g), .val (.long (0 : Int64)), .second, .val (.long (0 : Int64)), .second, .val (.long (0 : Int64)), .second, .val (.long (0 : Int64)), .second, .val (.long (0 : Int64)), .second, .val (.long (0 : Int64)), .second, .unset, .unset] [(.int (0 : Int32)), (.ref g)])) _
  refine XS.lloadN X0.here hx rfl (hb hby at_109) rfl ?_
  show Steps p.tables e below (T0.setTop (mkF m 110 #[.val (.long p1), .second, .val (.long p2), .second, .val (.long p3), .second, .val (.int sl), .val (.int ct), .val (.int cl), .val (.int cc), .val (.ref g), .val (.long (0 : Int64)), .second, .val (.long (0 : Int64)), .second, .val (.long (0 : Int64)), .second, .val (.long (0 : Int64)), .second, .val (.long (0 : Int64)), .second, .val (.long (0 : Int64)), .second, .unset, .unset] [(.long p1), (.int (0 : Int32)), (.ref g)])) _
  refine st5 _ ?_
  show Steps p.tables e below (T5.setTop (mkF m 113 #[.val (.long p1), .second, .val (.long p2), .second, .val (.long p3), .second, .val (.int sl), .val (.int ct), .val (.int cl), .val (.int cc), .val (.ref g), .val (.long (0 : Int64)), .second, .val (.long (0 : Int64)), .second, .val (.long (0 : Int64)), .second, .val (.long (0 : Int64)), .second, .val (.long (0 : Int64)), .second, .val (.long (0 : Int64)), .second, .unset, .unset] [(.long (own_hi p1)), (.int (0 : Int32)), (.ref g)])) _
  refine XS.lloadN X5.here hx rfl (hb hby at_113) rfl ?_
  show Steps p.tables e below (T5.setTop (mkF m 114 #[.val (.long p1), .second, .val (.long p2), .second, .val (.long p3), .second, .val (.int sl), .val (.int ct), .val (.int cl), .val (.int cc), .val (.ref g), .val (.long (0 : Int64)), .second, .val (.long (0 : Int64)), .second, .val (.long (0 : Int64)), .second, .val (.long (0 : Int64)), .second, .val (.long (0 : Int64)), .second, .val (.long (0 : Int64)), .second, .unset, .unset] [(.long p1), (.long (own_hi p1)), (.int (0 : Int32)), (.ref g)])) _
  refine st6 _ ?_
  show Steps p.tables e below (T6.setTop (mkF m 117 #[.val (.long p1), .second, .val (.long p2), .second, .val (.long p3), .second, .val (.int sl), .val (.int ct), .val (.int cl), .val (.int cc), .val (.ref g), .val (.long (0 : Int64)), .second, .val (.long (0 : Int64)), .second, .val (.long (0 : Int64)), .second, .val (.long (0 : Int64)), .second, .val (.long (0 : Int64)), .second, .val (.long (0 : Int64)), .second, .unset, .unset] [(.long (own_lo p1)), (.long (own_hi p1)), (.int (0 : Int32)), (.ref g)])) _
  refine st7.trans ?_
  show Steps p.tables e below (T7.setTop (mkF m 120 #[.val (.long p1), .second, .val (.long p2), .second, .val (.long p3), .second, .val (.int sl), .val (.int ct), .val (.int cl), .val (.int cc), .val (.ref g), .val (.long (0 : Int64)), .second, .val (.long (0 : Int64)), .second, .val (.long (0 : Int64)), .second, .val (.long (0 : Int64)), .second, .val (.long (0 : Int64)), .second, .val (.long (0 : Int64)), .second, .unset, .unset] [])) _
  refine XS.lloadN X7.here hx rfl (hb hby at_120) rfl ?_
  show Steps p.tables e below (T7.setTop (mkF m 121 #[.val (.long p1), .second, .val (.long p2), .second, .val (.long p3), .second, .val (.int sl), .val (.int ct), .val (.int cl), .val (.int cc), .val (.ref g), .val (.long (0 : Int64)), .second, .val (.long (0 : Int64)), .second, .val (.long (0 : Int64)), .second, .val (.long (0 : Int64)), .second, .val (.long (0 : Int64)), .second, .val (.long (0 : Int64)), .second, .unset, .unset] [(.long p1)])) _
  refine st8 _ ?_
  show Steps p.tables e below (T8.setTop (mkF m 124 #[.val (.long p1), .second, .val (.long p2), .second, .val (.long p3), .second, .val (.int sl), .val (.int ct), .val (.int cl), .val (.int cc), .val (.ref g), .val (.long (0 : Int64)), .second, .val (.long (0 : Int64)), .second, .val (.long (0 : Int64)), .second, .val (.long (0 : Int64)), .second, .val (.long (0 : Int64)), .second, .val (.long (0 : Int64)), .second, .unset, .unset] [(.long (own_hi p1))])) _
  refine XS.lstore X8.here hx rfl (hb hby at_124) rfl (l' := #[.val (.long p1), .second, .val (.long p2), .second, .val (.long p3), .second, .val (.int sl), .val (.int ct), .val (.int cl), .val (.int cc), .val (.ref g), .val (.long (own_hi p1)), .second, .val (.long (0 : Int64)), .second, .val (.long (0 : Int64)), .second, .val (.long (0 : Int64)), .second, .val (.long (0 : Int64)), .second, .val (.long (0 : Int64)), .second, .unset, .unset]) rfl ?_
  show Steps p.tables e below (T8.setTop (mkF m 126 #[.val (.long p1), .second, .val (.long p2), .second, .val (.long p3), .second, .val (.int sl), .val (.int ct), .val (.int cl), .val (.int cc), .val (.ref g), .val (.long (own_hi p1)), .second, .val (.long (0 : Int64)), .second, .val (.long (0 : Int64)), .second, .val (.long (0 : Int64)), .second, .val (.long (0 : Int64)), .second, .val (.long (0 : Int64)), .second, .unset, .unset] [])) _
  refine XS.lloadN X8.here hx rfl (hb hby at_126) rfl ?_
  show Steps p.tables e below (T8.setTop (mkF m 127 #[.val (.long p1), .second, .val (.long p2), .second, .val (.long p3), .second, .val (.int sl), .val (.int ct), .val (.int cl), .val (.int cc), .val (.ref g), .val (.long (own_hi p1)), .second, .val (.long (0 : Int64)), .second, .val (.long (0 : Int64)), .second, .val (.long (0 : Int64)), .second, .val (.long (0 : Int64)), .second, .val (.long (0 : Int64)), .second, .unset, .unset] [(.long p1)])) _
  refine st9 _ ?_
  show Steps p.tables e below (T9.setTop (mkF m 130 #[.val (.long p1), .second, .val (.long p2), .second, .val (.long p3), .second, .val (.int sl), .val (.int ct), .val (.int cl), .val (.int cc), .val (.ref g), .val (.long (own_hi p1)), .second, .val (.long (0 : Int64)), .second, .val (.long (0 : Int64)), .second, .val (.long (0 : Int64)), .second, .val (.long (0 : Int64)), .second, .val (.long (0 : Int64)), .second, .unset, .unset] [(.long (own_lo p1))])) _
  refine XS.lloadN X9.here hx rfl (hb hby at_130) rfl ?_
  show Steps p.tables e below (T9.setTop (mkF m 131 #[.val (.long p1), .second, .val (.long p2), .second, .val (.long p3), .second, .val (.int sl), .val (.int ct), .val (.int cl), .val (.int cc), .val (.ref g), .val (.long (own_hi p1)), .second, .val (.long (0 : Int64)), .second, .val (.long (0 : Int64)), .second, .val (.long (0 : Int64)), .second, .val (.long (0 : Int64)), .second, .val (.long (0 : Int64)), .second, .unset, .unset] [(.long p1), (.long (own_lo p1))])) _
  refine st10 _ ?_
  show Steps p.tables e below (T10.setTop (mkF m 134 #[.val (.long p1), .second, .val (.long p2), .second, .val (.long p3), .second, .val (.int sl), .val (.int ct), .val (.int cl), .val (.int cc), .val (.ref g), .val (.long (own_hi p1)), .second, .val (.long (0 : Int64)), .second, .val (.long (0 : Int64)), .second, .val (.long (0 : Int64)), .second, .val (.long (0 : Int64)), .second, .val (.long (0 : Int64)), .second, .unset, .unset] [(.long (own_hi p1)), (.long (own_lo p1))])) _
  refine XS.lsub X10.here hx rfl (hb hby at_134) rfl ?_
  show Steps p.tables e below (T10.setTop (mkF m 135 #[.val (.long p1), .second, .val (.long p2), .second, .val (.long p3), .second, .val (.int sl), .val (.int ct), .val (.int cl), .val (.int cc), .val (.ref g), .val (.long (own_hi p1)), .second, .val (.long (0 : Int64)), .second, .val (.long (0 : Int64)), .second, .val (.long (0 : Int64)), .second, .val (.long (0 : Int64)), .second, .val (.long (0 : Int64)), .second, .unset, .unset] [(.long ((own_lo p1) - (own_hi p1)))])) _
  refine XS.lstore X10.here hx rfl (hb hby at_135) rfl (l' := #[.val (.long p1), .second, .val (.long p2), .second, .val (.long p3), .second, .val (.int sl), .val (.int ct), .val (.int cl), .val (.int cc), .val (.ref g), .val (.long (own_hi p1)), .second, .val (.long ((own_lo p1) - (own_hi p1))), .second, .val (.long (0 : Int64)), .second, .val (.long (0 : Int64)), .second, .val (.long (0 : Int64)), .second, .val (.long (0 : Int64)), .second, .unset, .unset]) rfl ?_
  show Steps p.tables e below (T10.setTop (mkF m 137 #[.val (.long p1), .second, .val (.long p2), .second, .val (.long p3), .second, .val (.int sl), .val (.int ct), .val (.int cl), .val (.int cc), .val (.ref g), .val (.long (own_hi p1)), .second, .val (.long ((own_lo p1) - (own_hi p1))), .second, .val (.long (0 : Int64)), .second, .val (.long (0 : Int64)), .second, .val (.long (0 : Int64)), .second, .val (.long (0 : Int64)), .second, .unset, .unset] [])) _
  refine XS.iload X10.here hx rfl (hb hby at_137) rfl ?_
  show Steps p.tables e below (T10.setTop (mkF m 139 #[.val (.long p1), .second, .val (.long p2), .second, .val (.long p3), .second, .val (.int sl), .val (.int ct), .val (.int cl), .val (.int cc), .val (.ref g), .val (.long (own_hi p1)), .second, .val (.long ((own_lo p1) - (own_hi p1))), .second, .val (.long (0 : Int64)), .second, .val (.long (0 : Int64)), .second, .val (.long (0 : Int64)), .second, .val (.long (0 : Int64)), .second, .unset, .unset] [(.int ct)])) _
  refine XS.iconst X10.here hx rfl (hb hby at_139) ?_
  show Steps p.tables e below (T10.setTop (mkF m 140 #[.val (.long p1), .second, .val (.long p2), .second, .val (.long p3), .second, .val (.int sl), .val (.int ct), .val (.int cl), .val (.int cc), .val (.ref g), .val (.long (own_hi p1)), .second, .val (.long ((own_lo p1) - (own_hi p1))), .second, .val (.long (0 : Int64)), .second, .val (.long (0 : Int64)), .second, .val (.long (0 : Int64)), .second, .val (.long (0 : Int64)), .second, .unset, .unset] [(.int (2 : Int32)), (.int ct)])) _
  refine XS.icmpNo X10.here hx rfl (hb hby at_140) rfl (flt hc140).1 ?_
  show Steps p.tables e below (T10.setTop (mkF m 143 #[.val (.long p1), .second, .val (.long p2), .second, .val (.long p3), .second, .val (.int sl), .val (.int ct), .val (.int cl), .val (.int cc), .val (.ref g), .val (.long (own_hi p1)), .second, .val (.long ((own_lo p1) - (own_hi p1))), .second, .val (.long (0 : Int64)), .second, .val (.long (0 : Int64)), .second, .val (.long (0 : Int64)), .second, .val (.long (0 : Int64)), .second, .unset, .unset] [])) _
  refine XS.aload X10.here hx rfl (hb hby at_143) rfl rfl ?_
  show Steps p.tables e below (T10.setTop (mkF m 145 #[.val (.long p1), .second, .val (.long p2), .second, .val (.long p3), .second, .val (.int sl), .val (.int ct), .val (.int cl), .val (.int cc), .val (.ref g), .val (.long (own_hi p1)), .second, .val (.long ((own_lo p1) - (own_hi p1))), .second, .val (.long (0 : Int64)), .second, .val (.long (0 : Int64)), .second, .val (.long (0 : Int64)), .second, .val (.long (0 : Int64)), .second, .unset, .unset] [(.ref g)])) _
  refine XS.iconst X10.here hx rfl (hb hby at_145) ?_
  show Steps p.tables e below (T10.setTop (mkF m 146 #[.val (.long p1), .second, .val (.long p2), .second, .val (.long p3), .second, .val (.int sl), .val (.int ct), .val (.int cl), .val (.int cc), .val (.ref g), .val (.long (own_hi p1)), .second, .val (.long ((own_lo p1) - (own_hi p1))), .second, .val (.long (0 : Int64)), .second, .val (.long (0 : Int64)), .second, .val (.long (0 : Int64)), .second, .val (.long (0 : Int64)), .second, .unset, .unset] [(.int (1 : Int32)), (.ref g)])) _
  refine XS.lloadN X10.here hx rfl (hb hby at_146) rfl ?_
  show Steps p.tables e below (T10.setTop (mkF m 147 #[.val (.long p1), .second, .val (.long p2), .second, .val (.long p3), .second, .val (.int sl), .val (.int ct), .val (.int cl), .val (.int cc), .val (.ref g), .val (.long (own_hi p1)), .second, .val (.long ((own_lo p1) - (own_hi p1))), .second, .val (.long (0 : Int64)), .second, .val (.long (0 : Int64)), .second, .val (.long (0 : Int64)), .second, .val (.long (0 : Int64)), .second, .unset, .unset] [(.long p2), (.int (1 : Int32)), (.ref g)])) _
  refine st11 _ ?_
  show Steps p.tables e below (T11.setTop (mkF m 150 #[.val (.long p1), .second, .val (.long p2), .second, .val (.long p3), .second, .val (.int sl), .val (.int ct), .val (.int cl), .val (.int cc), .val (.ref g), .val (.long (own_hi p1)), .second, .val (.long ((own_lo p1) - (own_hi p1))), .second, .val (.long (0 : Int64)), .second, .val (.long (0 : Int64)), .second, .val (.long (0 : Int64)), .second, .val (.long (0 : Int64)), .second, .unset, .unset] [(.long (own_hi p2)), (.int (1 : Int32)), (.ref g)])) _
  refine XS.lloadN X11.here hx rfl (hb hby at_150) rfl ?_
  show Steps p.tables e below (T11.setTop (mkF m 151 #[.val (.long p1), .second, .val (.long p2), .second, .val (.long p3), .second, .val (.int sl), .val (.int ct), .val (.int cl), .val (.int cc), .val (.ref g), .val (.long (own_hi p1)), .second, .val (.long ((own_lo p1) - (own_hi p1))), .second, .val (.long (0 : Int64)), .second, .val (.long (0 : Int64)), .second, .val (.long (0 : Int64)), .second, .val (.long (0 : Int64)), .second, .unset, .unset] [(.long p2), (.long (own_hi p2)), (.int (1 : Int32)), (.ref g)])) _
  refine st12 _ ?_
  show Steps p.tables e below (T12.setTop (mkF m 154 #[.val (.long p1), .second, .val (.long p2), .second, .val (.long p3), .second, .val (.int sl), .val (.int ct), .val (.int cl), .val (.int cc), .val (.ref g), .val (.long (own_hi p1)), .second, .val (.long ((own_lo p1) - (own_hi p1))), .second, .val (.long (0 : Int64)), .second, .val (.long (0 : Int64)), .second, .val (.long (0 : Int64)), .second, .val (.long (0 : Int64)), .second, .unset, .unset] [(.long (own_lo p2)), (.long (own_hi p2)), (.int (1 : Int32)), (.ref g)])) _
  refine st13.trans ?_
  show Steps p.tables e below (T13.setTop (mkF m 157 #[.val (.long p1), .second, .val (.long p2), .second, .val (.long p3), .second, .val (.int sl), .val (.int ct), .val (.int cl), .val (.int cc), .val (.ref g), .val (.long (own_hi p1)), .second, .val (.long ((own_lo p1) - (own_hi p1))), .second, .val (.long (0 : Int64)), .second, .val (.long (0 : Int64)), .second, .val (.long (0 : Int64)), .second, .val (.long (0 : Int64)), .second, .unset, .unset] [])) _
  refine XS.lloadN X13.here hx rfl (hb hby at_157) rfl ?_
  show Steps p.tables e below (T13.setTop (mkF m 158 #[.val (.long p1), .second, .val (.long p2), .second, .val (.long p3), .second, .val (.int sl), .val (.int ct), .val (.int cl), .val (.int cc), .val (.ref g), .val (.long (own_hi p1)), .second, .val (.long ((own_lo p1) - (own_hi p1))), .second, .val (.long (0 : Int64)), .second, .val (.long (0 : Int64)), .second, .val (.long (0 : Int64)), .second, .val (.long (0 : Int64)), .second, .unset, .unset] [(.long p2)])) _
  refine st14 _ ?_
  show Steps p.tables e below (T14.setTop (mkF m 161 #[.val (.long p1), .second, .val (.long p2), .second, .val (.long p3), .second, .val (.int sl), .val (.int ct), .val (.int cl), .val (.int cc), .val (.ref g), .val (.long (own_hi p1)), .second, .val (.long ((own_lo p1) - (own_hi p1))), .second, .val (.long (0 : Int64)), .second, .val (.long (0 : Int64)), .second, .val (.long (0 : Int64)), .second, .val (.long (0 : Int64)), .second, .unset, .unset] [(.long (own_hi p2))])) _
  refine XS.lstore X14.here hx rfl (hb hby at_161) rfl (l' := #[.val (.long p1), .second, .val (.long p2), .second, .val (.long p3), .second, .val (.int sl), .val (.int ct), .val (.int cl), .val (.int cc), .val (.ref g), .val (.long (own_hi p1)), .second, .val (.long ((own_lo p1) - (own_hi p1))), .second, .val (.long (own_hi p2)), .second, .val (.long (0 : Int64)), .second, .val (.long (0 : Int64)), .second, .val (.long (0 : Int64)), .second, .unset, .unset]) rfl ?_
  show Steps p.tables e below (T14.setTop (mkF m 163 #[.val (.long p1), .second, .val (.long p2), .second, .val (.long p3), .second, .val (.int sl), .val (.int ct), .val (.int cl), .val (.int cc), .val (.ref g), .val (.long (own_hi p1)), .second, .val (.long ((own_lo p1) - (own_hi p1))), .second, .val (.long (own_hi p2)), .second, .val (.long (0 : Int64)), .second, .val (.long (0 : Int64)), .second, .val (.long (0 : Int64)), .second, .unset, .unset] [])) _
  refine XS.lloadN X14.here hx rfl (hb hby at_163) rfl ?_
  show Steps p.tables e below (T14.setTop (mkF m 164 #[.val (.long p1), .second, .val (.long p2), .second, .val (.long p3), .second, .val (.int sl), .val (.int ct), .val (.int cl), .val (.int cc), .val (.ref g), .val (.long (own_hi p1)), .second, .val (.long ((own_lo p1) - (own_hi p1))), .second, .val (.long (own_hi p2)), .second, .val (.long (0 : Int64)), .second, .val (.long (0 : Int64)), .second, .val (.long (0 : Int64)), .second, .unset, .unset] [(.long p2)])) _
  refine st15 _ ?_
  show Steps p.tables e below (T15.setTop (mkF m 167 #[.val (.long p1), .second, .val (.long p2), .second, .val (.long p3), .second, .val (.int sl), .val (.int ct), .val (.int cl), .val (.int cc), .val (.ref g), .val (.long (own_hi p1)), .second, .val (.long ((own_lo p1) - (own_hi p1))), .second, .val (.long (own_hi p2)), .second, .val (.long (0 : Int64)), .second, .val (.long (0 : Int64)), .second, .val (.long (0 : Int64)), .second, .unset, .unset] [(.long (own_lo p2))])) _
  refine XS.lloadN X15.here hx rfl (hb hby at_167) rfl ?_
  show Steps p.tables e below (T15.setTop (mkF m 168 #[.val (.long p1), .second, .val (.long p2), .second, .val (.long p3), .second, .val (.int sl), .val (.int ct), .val (.int cl), .val (.int cc), .val (.ref g), .val (.long (own_hi p1)), .second, .val (.long ((own_lo p1) - (own_hi p1))), .second, .val (.long (own_hi p2)), .second, .val (.long (0 : Int64)), .second, .val (.long (0 : Int64)), .second, .val (.long (0 : Int64)), .second, .unset, .unset] [(.long p2), (.long (own_lo p2))])) _
  refine st16 _ ?_
  show Steps p.tables e below (T16.setTop (mkF m 171 #[.val (.long p1), .second, .val (.long p2), .second, .val (.long p3), .second, .val (.int sl), .val (.int ct), .val (.int cl), .val (.int cc), .val (.ref g), .val (.long (own_hi p1)), .second, .val (.long ((own_lo p1) - (own_hi p1))), .second, .val (.long (own_hi p2)), .second, .val (.long (0 : Int64)), .second, .val (.long (0 : Int64)), .second, .val (.long (0 : Int64)), .second, .unset, .unset] [(.long (own_hi p2)), (.long (own_lo p2))])) _
  refine XS.lsub X16.here hx rfl (hb hby at_171) rfl ?_
  show Steps p.tables e below (T16.setTop (mkF m 172 #[.val (.long p1), .second, .val (.long p2), .second, .val (.long p3), .second, .val (.int sl), .val (.int ct), .val (.int cl), .val (.int cc), .val (.ref g), .val (.long (own_hi p1)), .second, .val (.long ((own_lo p1) - (own_hi p1))), .second, .val (.long (own_hi p2)), .second, .val (.long (0 : Int64)), .second, .val (.long (0 : Int64)), .second, .val (.long (0 : Int64)), .second, .unset, .unset] [(.long ((own_lo p2) - (own_hi p2)))])) _
  refine XS.lstore X16.here hx rfl (hb hby at_172) rfl (l' := #[.val (.long p1), .second, .val (.long p2), .second, .val (.long p3), .second, .val (.int sl), .val (.int ct), .val (.int cl), .val (.int cc), .val (.ref g), .val (.long (own_hi p1)), .second, .val (.long ((own_lo p1) - (own_hi p1))), .second, .val (.long (own_hi p2)), .second, .val (.long ((own_lo p2) - (own_hi p2))), .second, .val (.long (0 : Int64)), .second, .val (.long (0 : Int64)), .second, .unset, .unset]) rfl ?_
  show Steps p.tables e below (T16.setTop (mkF m 174 #[.val (.long p1), .second, .val (.long p2), .second, .val (.long p3), .second, .val (.int sl), .val (.int ct), .val (.int cl), .val (.int cc), .val (.ref g), .val (.long (own_hi p1)), .second, .val (.long ((own_lo p1) - (own_hi p1))), .second, .val (.long (own_hi p2)), .second, .val (.long ((own_lo p2) - (own_hi p2))), .second, .val (.long (0 : Int64)), .second, .val (.long (0 : Int64)), .second, .unset, .unset] [])) _
  refine XS.iload X16.here hx rfl (hb hby at_174) rfl ?_
  show Steps p.tables e below (T16.setTop (mkF m 176 #[.val (.long p1), .second, .val (.long p2), .second, .val (.long p3), .second, .val (.int sl), .val (.int ct), .val (.int cl), .val (.int cc), .val (.ref g), .val (.long (own_hi p1)), .second, .val (.long ((own_lo p1) - (own_hi p1))), .second, .val (.long (own_hi p2)), .second, .val (.long ((own_lo p2) - (own_hi p2))), .second, .val (.long (0 : Int64)), .second, .val (.long (0 : Int64)), .second, .unset, .unset] [(.int ct)])) _
  refine XS.iconst X16.here hx rfl (hb hby at_176) ?_
  show Steps p.tables e below (T16.setTop (mkF m 177 #[.val (.long p1), .second, .val (.long p2), .second, .val (.long p3), .second, .val (.int sl), .val (.int ct), .val (.int cl), .val (.int cc), .val (.ref g), .val (.long (own_hi p1)), .second, .val (.long ((own_lo p1) - (own_hi p1))), .second, .val (.long (own_hi p2)), .second, .val (.long ((own_lo p2) - (own_hi p2))), .second, .val (.long (0 : Int64)), .second, .val (.long (0 : Int64)), .second, .unset, .unset] [(.int (3 : Int32)), (.int ct)])) _
  refine XS.icmpNo X16.here hx rfl (hb hby at_177) rfl (flt hc177).1 ?_
  show Steps p.tables e below (T16.setTop (mkF m 180 #[.val (.long p1), .second, .val (.long p2), .second, .val (.long p3), .second, .val (.int sl), .val (.int ct), .val (.int cl), .val (.int cc), .val (.ref g), .val (.long (own_hi p1)), .second, .val (.long ((own_lo p1) - (own_hi p1))), .second, .val (.long (own_hi p2)), .second, .val (.long ((own_lo p2) - (own_hi p2))), .second, .val (.long (0 : Int64)), .second, .val (.long (0 : Int64)), .second, .unset, .unset] [])) _
  refine XS.aload X16.here hx rfl (hb hby at_180) rfl rfl ?_
  show Steps p.tables e below (T16.setTop (mkF m 182 #[.val (.long p1), .second, .val (.long p2), .second, .val (.long p3), .second, .val (.int sl), .val (.int ct), .val (.int cl), .val (.int cc), .val (.ref g), .val (.long (own_hi p1)), .second, .val (.long ((own_lo p1) - (own_hi p1))), .second, .val (.long (own_hi p2)), .second, .val (.long ((own_lo p2) - (own_hi p2))), .second, .val (.long (0 : Int64)), .second, .val (.long (0 : Int64)), .second, .unset, .unset] [(.ref g)])) _
  refine XS.iconst X16.here hx rfl (hb hby at_182) ?_
  show Steps p.tables e below (T16.setTop (mkF m 183 #[.val (.long p1), .second, .val (.long p2), .second, .val (.long p3), .second, .val (.int sl), .val (.int ct), .val (.int cl), .val (.int cc), .val (.ref g), .val (.long (own_hi p1)), .second, .val (.long ((own_lo p1) - (own_hi p1))), .second, .val (.long (own_hi p2)), .second, .val (.long ((own_lo p2) - (own_hi p2))), .second, .val (.long (0 : Int64)), .second, .val (.long (0 : Int64)), .second, .unset, .unset] [(.int (2 : Int32)), (.ref g)])) _
  refine XS.lload X16.here hx rfl (hb hby at_183) rfl ?_
  show Steps p.tables e below (T16.setTop (mkF m 185 #[.val (.long p1), .second, .val (.long p2), .second, .val (.long p3), .second, .val (.int sl), .val (.int ct), .val (.int cl), .val (.int cc), .val (.ref g), .val (.long (own_hi p1)), .second, .val (.long ((own_lo p1) - (own_hi p1))), .second, .val (.long (own_hi p2)), .second, .val (.long ((own_lo p2) - (own_hi p2))), .second, .val (.long (0 : Int64)), .second, .val (.long (0 : Int64)), .second, .unset, .unset] [(.long p3), (.int (2 : Int32)), (.ref g)])) _
  refine st17 _ ?_
  show Steps p.tables e below (T17.setTop (mkF m 188 #[.val (.long p1), .second, .val (.long p2), .second, .val (.long p3), .second, .val (.int sl), .val (.int ct), .val (.int cl), .val (.int cc), .val (.ref g), .val (.long (own_hi p1)), .second, .val (.long ((own_lo p1) - (own_hi p1))), .second, .val (.long (own_hi p2)), .second, .val (.long ((own_lo p2) - (own_hi p2))), .second, .val (.long (0 : Int64)), .second, .val (.long (0 : Int64)), .second, .unset, .unset] [(.long (own_hi p3)), (.int (2 : Int32)), (.ref g)])) _
  refine XS.lload X17.here hx rfl (hb hby at_188) rfl ?_
  show Steps p.tables e below (T17.setTop (mkF m 190 #[.val (.long p1), .second, .val (.long p2), .second, .val (.long p3), .second, .val (.int sl), .val (.int ct), .val (.int cl), .val (.int cc), .val (.ref g), .val (.long (own_hi p1)), .second, .val (.long ((own_lo p1) - (own_hi p1))), .second, .val (.long (own_hi p2)), .second, .val (.long ((own_lo p2) - (own_hi p2))), .second, .val (.long (0 : Int64)), .second, .val (.long (0 : Int64)), .second, .unset, .unset] [(.long p3), (.long (own_hi p3)), (.int (2 : Int32)), (.ref g)])) _
  refine st18 _ ?_
  show Steps p.tables e below (T18.setTop (mkF m 193 #[.val (.long p1), .second, .val (.long p2), .second, .val (.long p3), .second, .val (.int sl), .val (.int ct), .val (.int cl), .val (.int cc), .val (.ref g), .val (.long (own_hi p1)), .second, .val (.long ((own_lo p1) - (own_hi p1))), .second, .val (.long (own_hi p2)), .second, .val (.long ((own_lo p2) - (own_hi p2))), .second, .val (.long (0 : Int64)), .second, .val (.long (0 : Int64)), .second, .unset, .unset] [(.long (own_lo p3)), (.long (own_hi p3)), (.int (2 : Int32)), (.ref g)])) _
  refine st19.trans ?_
  show Steps p.tables e below (T19.setTop (mkF m 196 #[.val (.long p1), .second, .val (.long p2), .second, .val (.long p3), .second, .val (.int sl), .val (.int ct), .val (.int cl), .val (.int cc), .val (.ref g), .val (.long (own_hi p1)), .second, .val (.long ((own_lo p1) - (own_hi p1))), .second, .val (.long (own_hi p2)), .second, .val (.long ((own_lo p2) - (own_hi p2))), .second, .val (.long (0 : Int64)), .second, .val (.long (0 : Int64)), .second, .unset, .unset] [])) _
  refine XS.lload X19.here hx rfl (hb hby at_196) rfl ?_
  show Steps p.tables e below (T19.setTop (mkF m 198 #[.val (.long p1), .second, .val (.long p2), .second, .val (.long p3), .second, .val (.int sl), .val (.int ct), .val (.int cl), .val (.int cc), .val (.ref g), .val (.long (own_hi p1)), .second, .val (.long ((own_lo p1) - (own_hi p1))), .second, .val (.long (own_hi p2)), .second, .val (.long ((own_lo p2) - (own_hi p2))), .second, .val (.long (0 : Int64)), .second, .val (.long (0 : Int64)), .second, .unset, .unset] [(.long p3)])) _
  refine st20 _ ?_
  show Steps p.tables e below (T20.setTop (mkF m 201 #[.val (.long p1), .second, .val (.long p2), .second, .val (.long p3), .second, .val (.int sl), .val (.int ct), .val (.int cl), .val (.int cc), .val (.ref g), .val (.long (own_hi p1)), .second, .val (.long ((own_lo p1) - (own_hi p1))), .second, .val (.long (own_hi p2)), .second, .val (.long ((own_lo p2) - (own_hi p2))), .second, .val (.long (0 : Int64)), .second, .val (.long (0 : Int64)), .second, .unset, .unset] [(.long (own_hi p3))])) _
  refine XS.lstore X20.here hx rfl (hb hby at_201) rfl (l' := #[.val (.long p1), .second, .val (.long p2), .second, .val (.long p3), .second, .val (.int sl), .val (.int ct), .val (.int cl), .val (.int cc), .val (.ref g), .val (.long (own_hi p1)), .second, .val (.long ((own_lo p1) - (own_hi p1))), .second, .val (.long (own_hi p2)), .second, .val (.long ((own_lo p2) - (own_hi p2))), .second, .val (.long (own_hi p3)), .second, .val (.long (0 : Int64)), .second, .unset, .unset]) rfl ?_
  show Steps p.tables e below (T20.setTop (mkF m 203 #[.val (.long p1), .second, .val (.long p2), .second, .val (.long p3), .second, .val (.int sl), .val (.int ct), .val (.int cl), .val (.int cc), .val (.ref g), .val (.long (own_hi p1)), .second, .val (.long ((own_lo p1) - (own_hi p1))), .second, .val (.long (own_hi p2)), .second, .val (.long ((own_lo p2) - (own_hi p2))), .second, .val (.long (own_hi p3)), .second, .val (.long (0 : Int64)), .second, .unset, .unset] [])) _
  refine XS.lload X20.here hx rfl (hb hby at_203) rfl ?_
  show Steps p.tables e below (T20.setTop (mkF m 205 #[.val (.long p1), .second, .val (.long p2), .second, .val (.long p3), .second, .val (.int sl), .val (.int ct), .val (.int cl), .val (.int cc), .val (.ref g), .val (.long (own_hi p1)), .second, .val (.long ((own_lo p1) - (own_hi p1))), .second, .val (.long (own_hi p2)), .second, .val (.long ((own_lo p2) - (own_hi p2))), .second, .val (.long (own_hi p3)), .second, .val (.long (0 : Int64)), .second, .unset, .unset] [(.long p3)])) _
  refine st21 _ ?_
  show Steps p.tables e below (T21.setTop (mkF m 208 #[.val (.long p1), .second, .val (.long p2), .second, .val (.long p3), .second, .val (.int sl), .val (.int ct), .val (.int cl), .val (.int cc), .val (.ref g), .val (.long (own_hi p1)), .second, .val (.long ((own_lo p1) - (own_hi p1))), .second, .val (.long (own_hi p2)), .second, .val (.long ((own_lo p2) - (own_hi p2))), .second, .val (.long (own_hi p3)), .second, .val (.long (0 : Int64)), .second, .unset, .unset] [(.long (own_lo p3))])) _
  refine XS.lload X21.here hx rfl (hb hby at_208) rfl ?_
  show Steps p.tables e below (T21.setTop (mkF m 210 #[.val (.long p1), .second, .val (.long p2), .second, .val (.long p3), .second, .val (.int sl), .val (.int ct), .val (.int cl), .val (.int cc), .val (.ref g), .val (.long (own_hi p1)), .second, .val (.long ((own_lo p1) - (own_hi p1))), .second, .val (.long (own_hi p2)), .second, .val (.long ((own_lo p2) - (own_hi p2))), .second, .val (.long (own_hi p3)), .second, .val (.long (0 : Int64)), .second, .unset, .unset] [(.long p3), (.long (own_lo p3))])) _
  refine st22 _ ?_
  show Steps p.tables e below (T22.setTop (mkF m 213 #[.val (.long p1), .second, .val (.long p2), .second, .val (.long p3), .second, .val (.int sl), .val (.int ct), .val (.int cl), .val (.int cc), .val (.ref g), .val (.long (own_hi p1)), .second, .val (.long ((own_lo p1) - (own_hi p1))), .second, .val (.long (own_hi p2)), .second, .val (.long ((own_lo p2) - (own_hi p2))), .second, .val (.long (own_hi p3)), .second, .val (.long (0 : Int64)), .second, .unset, .unset] [(.long (own_hi p3)), (.long (own_lo p3))])) _
  refine XS.lsub X22.here hx rfl (hb hby at_213) rfl ?_
  show Steps p.tables e below (T22.setTop (mkF m 214 #[.val (.long p1), .second, .val (.long p2), .second, .val (.long p3), .second, .val (.int sl), .val (.int ct), .val (.int cl), .val (.int cc), .val (.ref g), .val (.long (own_hi p1)), .second, .val (.long ((own_lo p1) - (own_hi p1))), .second, .val (.long (own_hi p2)), .second, .val (.long ((own_lo p2) - (own_hi p2))), .second, .val (.long (own_hi p3)), .second, .val (.long (0 : Int64)), .second, .unset, .unset] [(.long ((own_lo p3) - (own_hi p3)))])) _
  refine XS.lstore X22.here hx rfl (hb hby at_214) rfl (l' := #[.val (.long p1), .second, .val (.long p2), .second, .val (.long p3), .second, .val (.int sl), .val (.int ct), .val (.int cl), .val (.int cc), .val (.ref g), .val (.long (own_hi p1)), .second, .val (.long ((own_lo p1) - (own_hi p1))), .second, .val (.long (own_hi p2)), .second, .val (.long ((own_lo p2) - (own_hi p2))), .second, .val (.long (own_hi p3)), .second, .val (.long ((own_lo p3) - (own_hi p3))), .second, .unset, .unset]) rfl ?_
  show Steps p.tables e below (T22.setTop (mkF m 216 #[.val (.long p1), .second, .val (.long p2), .second, .val (.long p3), .second, .val (.int sl), .val (.int ct), .val (.int cl), .val (.int cc), .val (.ref g), .val (.long (own_hi p1)), .second, .val (.long ((own_lo p1) - (own_hi p1))), .second, .val (.long (own_hi p2)), .second, .val (.long ((own_lo p2) - (own_hi p2))), .second, .val (.long (own_hi p3)), .second, .val (.long ((own_lo p3) - (own_hi p3))), .second, .unset, .unset] [])) _
  refine XS.lload X22.here hx rfl (hb hby at_216) rfl ?_
  show Steps p.tables e below (T22.setTop (mkF m 218 #[.val (.long p1), .second, .val (.long p2), .second, .val (.long p3), .second, .val (.int sl), .val (.int ct), .val (.int cl), .val (.int cc), .val (.ref g), .val (.long (own_hi p1)), .second, .val (.long ((own_lo p1) - (own_hi p1))), .second, .val (.long (own_hi p2)), .second, .val (.long ((own_lo p2) - (own_hi p2))), .second, .val (.long (own_hi p3)), .second, .val (.long ((own_lo p3) - (own_hi p3))), .second, .unset, .unset] [(.long (own_hi p1))])) _
  refine XS.lload X22.here hx rfl (hb hby at_218) rfl ?_
  show Steps p.tables e below (T22.setTop (mkF m 220 #[.val (.long p1), .second, .val (.long p2), .second, .val (.long p3), .second, .val (.int sl), .val (.int ct), .val (.int cl), .val (.int cc), .val (.ref g), .val (.long (own_hi p1)), .second, .val (.long ((own_lo p1) - (own_hi p1))), .second, .val (.long (own_hi p2)), .second, .val (.long ((own_lo p2) - (own_hi p2))), .second, .val (.long (own_hi p3)), .second, .val (.long ((own_lo p3) - (own_hi p3))), .second, .unset, .unset] [(.long ((own_lo p2) - (own_hi p2))), (.long (own_hi p1))])) _
  refine XS.lload X22.here hx rfl (hb hby at_220) rfl ?_
  show Steps p.tables e below (T22.setTop (mkF m 222 #[.val (.long p1), .second, .val (.long p2), .second, .val (.long p3), .second, .val (.int sl), .val (.int ct), .val (.int cl), .val (.int cc), .val (.ref g), .val (.long (own_hi p1)), .second, .val (.long ((own_lo p1) - (own_hi p1))), .second, .val (.long (own_hi p2)), .second, .val (.long ((own_lo p2) - (own_hi p2))), .second, .val (.long (own_hi p3)), .second, .val (.long ((own_lo p3) - (own_hi p3))), .second, .unset, .unset] [(.long ((own_lo p3) - (own_hi p3))), (.long ((own_lo p2) - (own_hi p2))), (.long (own_hi p1))])) _
  refine XS.ladd X22.here hx rfl (hb hby at_222) rfl ?_
  show Steps p.tables e below (T22.setTop (mkF m 223 #[.val (.long p1), .second, .val (.long p2), .second, .val (.long p3), .second, .val (.int sl), .val (.int ct), .val (.int cl), .val (.int cc), .val (.ref g), .val (.long (own_hi p1)), .second, .val (.long ((own_lo p1) - (own_hi p1))), .second, .val (.long (own_hi p2)), .second, .val (.long ((own_lo p2) - (own_hi p2))), .second, .val (.long (own_hi p3)), .second, .val (.long ((own_lo p3) - (own_hi p3))), .second, .unset, .unset] [(.long (((own_lo p2) - (own_hi p2)) + ((own_lo p3) - (own_hi p3)))), (.long (own_hi p1))])) _
  refine XS.lmul X22.here hx rfl (hb hby at_223) rfl ?_
  show Steps p.tables e below (T22.setTop (mkF m 224 #[.val (.long p1), .second, .val (.long p2), .second, .val (.long p3), .second, .val (.int sl), .val (.int ct), .val (.int cl), .val (.int cc), .val (.ref g), .val (.long (own_hi p1)), .second, .val (.long ((own_lo p1) - (own_hi p1))), .second, .val (.long (own_hi p2)), .second, .val (.long ((own_lo p2) - (own_hi p2))), .second, .val (.long (own_hi p3)), .second, .val (.long ((own_lo p3) - (own_hi p3))), .second, .unset, .unset] [(.long ((own_hi p1) * (((own_lo p2) - (own_hi p2)) + ((own_lo p3) - (own_hi p3)))))])) _
  refine XS.lload X22.here hx rfl (hb hby at_224) rfl ?_
  show Steps p.tables e below (T22.setTop (mkF m 226 #[.val (.long p1), .second, .val (.long p2), .second, .val (.long p3), .second, .val (.int sl), .val (.int ct), .val (.int cl), .val (.int cc), .val (.ref g), .val (.long (own_hi p1)), .second, .val (.long ((own_lo p1) - (own_hi p1))), .second, .val (.long (own_hi p2)), .second, .val (.long ((own_lo p2) - (own_hi p2))), .second, .val (.long (own_hi p3)), .second, .val (.long ((own_lo p3) - (own_hi p3))), .second, .unset, .unset] [(.long (own_hi p2)), (.long ((own_hi p1) * (((own_lo p2) - (own_hi p2)) + ((own_lo p3) - (own_hi p3)))))])) _
  refine XS.lload X22.here hx rfl (hb hby at_226) rfl ?_
  show Steps p.tables e below (T22.setTop (mkF m 228 #[.val (.long p1), .second, .val (.long p2), .second, .val (.long p3), .second, .val (.int sl), .val (.int ct), .val (.int cl), .val (.int cc), .val (.ref g), .val (.long (own_hi p1)), .second, .val (.long ((own_lo p1) - (own_hi p1))), .second, .val (.long (own_hi p2)), .second, .val (.long ((own_lo p2) - (own_hi p2))), .second, .val (.long (own_hi p3)), .second, .val (.long ((own_lo p3) - (own_hi p3))), .second, .unset, .unset] [(.long ((own_lo p1) - (own_hi p1))), (.long (own_hi p2)), (.long ((own_hi p1) * (((own_lo p2) - (own_hi p2)) + ((own_lo p3) - (own_hi p3)))))])) _
  refine XS.lload X22.here hx rfl (hb hby at_228) rfl ?_
  show Steps p.tables e below (T22.setTop (mkF m 230 #[.val (.long p1), .second, .val (.long p2), .second, .val (.long p3), .second, .val (.int sl), .val (.int ct), .val (.int cl), .val (.int cc), .val (.ref g), .val (.long (own_hi p1)), .second, .val (.long ((own_lo p1) - (own_hi p1))), .second, .val (.long (own_hi p2)), .second, .val (.long ((own_lo p2) - (own_hi p2))), .second, .val (.long (own_hi p3)), .second, .val (.long ((own_lo p3) - (own_hi p3))), .second, .unset, .unset] [(.long ((own_lo p3) - (own_hi p3))), (.long ((own_lo p1) - (own_hi p1))), (.long (own_hi p2)), (.long ((own_hi p1) * (((own_lo p2) - (own_hi p2)) + ((own_lo p3) - (own_hi p3)))))])) _
  refine XS.ladd X22.here hx rfl (hb hby at_230) rfl ?_
  show Steps p.tables e below (T22.setTop (mkF m 231 #[.val (.long p1), .second, .val (.long p2), .second, .val (.long p3), .second, .val (.int sl), .val (.int ct), .val (.int cl), .val (.int cc), .val (.ref g), .val (.long (own_hi p1)), .second, .val (.long ((own_lo p1) - (own_hi p1))), .second, .val (.long (own_hi p2)), .second, .val (.long ((own_lo p2) - (own_hi p2))), .second, .val (.long (own_hi p3)), .second, .val (.long ((own_lo p3) - (own_hi p3))), .second, .unset, .unset] [(.long (((own_lo p1) - (own_hi p1)) + ((own_lo p3) - (own_hi p3)))), (.long (own_hi p2)), (.long ((own_hi p1) * (((own_lo p2) - (own_hi p2)) + ((own_lo p3) - (own_hi p3)))))])) _
  refine XS.lmul X22.here hx rfl (hb hby at_231) rfl ?_
  show Steps p.tables e below (T22.setTop (mkF m 232 #[.val (.long p1), .second, .val (.long p2), .second, .val (.long p3), .second, .val (.int sl), .val (.int ct), .val (.int cl), .val (.int cc), .val (.ref g), .val (.long (own_hi p1)), .second, .val (.long ((own_lo p1) - (own_hi p1))), .second, .val (.long (own_hi p2)), .second, .val (.long ((own_lo p2) - (own_hi p2))), .second, .val (.long (own_hi p3)), .second, .val (.long ((own_lo p3) - (own_hi p3))), .second, .unset, .unset] [(.long ((own_hi p2) * (((own_lo p1) - (own_hi p1)) + ((own_lo p3) - (own_hi p3))))), (.long ((own_hi p1) * (((own_lo p2) - (own_hi p2)) + ((own_lo p3) - (own_hi p3)))))])) _
  refine XS.ladd X22.here hx rfl (hb hby at_232) rfl ?_
  show Steps p.tables e below (T22.setTop (mkF m 233 #[.val (.long p1), .second, .val (.long p2), .second, .val (.long p3), .second, .val (.int sl), .val (.int ct), .val (.int cl), .val (.int cc), .val (.ref g), .val (.long (own_hi p1)), .second, .val (.long ((own_lo p1) - (own_hi p1))), .second, .val (.long (own_hi p2)), .second, .val (.long ((own_lo p2) - (own_hi p2))), .second, .val (.long (own_hi p3)), .second, .val (.long ((own_lo p3) - (own_hi p3))), .second, .unset, .unset] [(.long (((own_hi p1) * (((own_lo p2) - (own_hi p2)) + ((own_lo p3) - (own_hi p3)))) + ((own_hi p2) * (((own_lo p1) - (own_hi p1)) + ((own_lo p3) - (own_hi p3))))))])) _
  refine XS.lload X22.here hx rfl (hb hby at_233) rfl ?_
  show Steps p.tables e below (T22.setTop (mkF m 235 #[.val (.long p1), .second, .val (.long p2), .second, .val (.long p3), .second, .val (.int sl), .val (.int ct), .val (.int cl), .val (.int cc), .val (.ref g), .val (.long (own_hi p1)), .second, .val (.long ((own_lo p1) - (own_hi p1))), .second, .val (.long (own_hi p2)), .second, .val (.long ((own_lo p2) - (own_hi p2))), .second, .val (.long (own_hi p3)), .second, .val (.long ((own_lo p3) - (own_hi p3))), .second, .unset, .unset] [(.long (own_hi p3)), (.long (((own_hi p1) * (((own_lo p2) - (own_hi p2)) + ((own_lo p3) - (own_hi p3)))) + ((own_hi p2) * (((own_lo p1) - (own_hi p1)) + ((own_lo p3) - (own_hi p3))))))])) _
  refine XS.lload X22.here hx rfl (hb hby at_235) rfl ?_
  show Steps p.tables e below (T22.setTop (mkF m 237 #[.val (.long p1), .second, .val (.long p2), .second, .val (.long p3), .second, .val (.int sl), .val (.int ct), .val (.int cl), .val (.int cc), .val (.ref g), .val (.long (own_hi p1)), .second, .val (.long ((own_lo p1) - (own_hi p1))), .second, .val (.long (own_hi p2)), .second, .val (.long ((own_lo p2) - (own_hi p2))), .second, .val (.long (own_hi p3)), .second, .val (.long ((own_lo p3) - (own_hi p3))), .second, .unset, .unset] [(.long ((own_lo p1) - (own_hi p1))), (.long (own_hi p3)), (.long (((own_hi p1) * (((own_lo p2) - (own_hi p2)) + ((own_lo p3) - (own_hi p3)))) + ((own_hi p2) * (((own_lo p1) - (own_hi p1)) + ((own_lo p3) - (own_hi p3))))))])) _
  refine XS.lload X22.here hx rfl (hb hby at_237) rfl ?_
  show Steps p.tables e below (T22.setTop (mkF m 239 #[.val (.long p1), .second, .val (.long p2), .second, .val (.long p3), .second, .val (.int sl), .val (.int ct), .val (.int cl), .val (.int cc), .val (.ref g), .val (.long (own_hi p1)), .second, .val (.long ((own_lo p1) - (own_hi p1))), .second, .val (.long (own_hi p2)), .second, .val (.long ((own_lo p2) - (own_hi p2))), .second, .val (.long (own_hi p3)), .second, .val (.long ((own_lo p3) - (own_hi p3))), .second, .unset, .unset] [(.long ((own_lo p2) - (own_hi p2))), (.long ((own_lo p1) - (own_hi p1))), (.long (own_hi p3)), (.long (((own_hi p1) * (((own_lo p2) - (own_hi p2)) + ((own_lo p3) - (own_hi p3)))) + ((own_hi p2) * (((own_lo p1) - (own_hi p1)) + ((own_lo p3) - (own_hi p3))))))])) _
  refine XS.ladd X22.here hx rfl (hb hby at_239) rfl ?_
  show Steps p.tables e below (T22.setTop (mkF m 240 #[.val (.long p1), .second, .val (.long p2), .second, .val (.long p3), .second, .val (.int sl), .val (.int ct), .val (.int cl), .val (.int cc), .val (.ref g), .val (.long (own_hi p1)), .second, .val (.long ((own_lo p1) - (own_hi p1))), .second, .val (.long (own_hi p2)), .second, .val (.long ((own_lo p2) - (own_hi p2))), .second, .val (.long (own_hi p3)), .second, .val (.long ((own_lo p3) - (own_hi p3))), .second, .unset, .unset] [(.long (((own_lo p1) - (own_hi p1)) + ((own_lo p2) - (own_hi p2)))), (.long (own_hi p3)), (.long (((own_hi p1) * (((own_lo p2) - (own_hi p2)) + ((own_lo p3) - (own_hi p3)))) + ((own_hi p2) * (((own_lo p1) - (own_hi p1)) + ((own_lo p3) - (own_hi p3))))))])) _
  refine XS.lmul X22.here hx rfl (hb hby at_240) rfl ?_
  show Steps p.tables e below (T22.setTop (mkF m 241 #[.val (.long p1), .second, .val (.long p2), .second, .val (.long p3), .second, .val (.int sl), .val (.int ct), .val (.int cl), .val (.int cc), .val (.ref g), .val (.long (own_hi p1)), .second, .val (.long ((own_lo p1) - (own_hi p1))), .second, .val (.long (own_hi p2)), .second, .val (.long ((own_lo p2) - (own_hi p2))), .second, .val (.long (own_hi p3)), .second, .val (.long ((own_lo p3) - (own_hi p3))), .second, .unset, .unset] [(.long ((own_hi p3) * (((own_lo p1) - (own_hi p1)) + ((own_lo p2) - (own_hi p2))))), (.long (((own_hi p1) * (((own_lo p2) - (own_hi p2)) + ((own_lo p3) - (own_hi p3)))) + ((own_hi p2) * (((own_lo p1) - (own_hi p1)) + ((own_lo p3) - (own_hi p3))))))])) _
  refine XS.ladd X22.here hx rfl (hb hby at_241) rfl ?_
  show Steps p.tables e below (T22.setTop (mkF m 242 #[.val (.long p1), .second, .val (.long p2), .second, .val (.long p3), .second, .val (.int sl), .val (.int ct), .val (.int cl), .val (.int cc), .val (.ref g), .val (.long (own_hi p1)), .second, .val (.long ((own_lo p1) - (own_hi p1))), .second, .val (.long (own_hi p2)), .second, .val (.long ((own_lo p2) - (own_hi p2))), .second, .val (.long (own_hi p3)), .second, .val (.long ((own_lo p3) - (own_hi p3))), .second, .unset, .unset] [(.long ((((own_hi p1) * (((own_lo p2) - (own_hi p2)) + ((own_lo p3) - (own_hi p3)))) + ((own_hi p2) * (((own_lo p1) - (own_hi p1)) + ((own_lo p3) - (own_hi p3))))) + ((own_hi p3) * (((own_lo p1) - (own_hi p1)) + ((own_lo p2) - (own_hi p2))))))])) _
  refine XS.lstore X22.here hx rfl (hb hby at_242) rfl (l' := #[.val (.long p1), .second, .val (.long p2), .second, .val (.long p3), .second, .val (.int sl), .val (.int ct), .val (.int cl), .val (.int cc), .val (.ref g), .val (.long (own_hi p1)), .second, .val (.long ((own_lo p1) - (own_hi p1))), .second, .val (.long (own_hi p2)), .second, .val (.long ((own_lo p2) - (own_hi p2))), .second, .val (.long (own_hi p3)), .second, .val (.long ((own_lo p3) - (own_hi p3))), .second, .val (.long ((((own_hi p1) * (((own_lo p2) - (own_hi p2)) + ((own_lo p3) - (own_hi p3)))) + ((own_hi p2) * (((own_lo p1) - (own_hi p1)) + ((own_lo p3) - (own_hi p3))))) + ((own_hi p3) * (((own_lo p1) - (own_hi p1)) + ((own_lo p2) - (own_hi p2)))))), .second]) rfl ?_
  show Steps p.tables e below (T22.setTop (mkF m 244 #[.val (.long p1), .second, .val (.long p2), .second, .val (.long p3), .second, .val (.int sl), .val (.int ct), .val (.int cl), .val (.int cc), .val (.ref g), .val (.long (own_hi p1)), .second, .val (.long ((own_lo p1) - (own_hi p1))), .second, .val (.long (own_hi p2)), .second, .val (.long ((own_lo p2) - (own_hi p2))), .second, .val (.long (own_hi p3)), .second, .val (.long ((own_lo p3) - (own_hi p3))), .second, .val (.long ((((own_hi p1) * (((own_lo p2) - (own_hi p2)) + ((own_lo p3) - (own_hi p3)))) + ((own_hi p2) * (((own_lo p1) - (own_hi p1)) + ((own_lo p3) - (own_hi p3))))) + ((own_hi p3) * (((own_lo p1) - (own_hi p1)) + ((own_lo p2) - (own_hi p2)))))), .second] [])) _
  refine XS.aload X22.here hx rfl (hb hby at_244) rfl rfl ?_
  show Steps p.tables e below (T22.setTop (mkF m 246 #[.val (.long p1), .second, .val (.long p2), .second, .val (.long p3), .second, .val (.int sl), .val (.int ct), .val (.int cl), .val (.int cc), .val (.ref g), .val (.long (own_hi p1)), .second, .val (.long ((own_lo p1) - (own_hi p1))), .second, .val (.long (own_hi p2)), .second, .val (.long ((own_lo p2) - (own_hi p2))), .second, .val (.long (own_hi p3)), .second, .val (.long ((own_lo p3) - (own_hi p3))), .second, .val (.long ((((own_hi p1) * (((own_lo p2) - (own_hi p2)) + ((own_lo p3) - (own_hi p3)))) + ((own_hi p2) * (((own_lo p1) - (own_hi p1)) + ((own_lo p3) - (own_hi p3))))) + ((own_hi p3) * (((own_lo p1) - (own_hi p1)) + ((own_lo p2) - (own_hi p2)))))), .second] [(.ref g)])) _
  refine st23.trans ?_
  show Steps p.tables e below (T23.setTop (mkF m 249 #[.val (.long p1), .second, .val (.long p2), .second, .val (.long p3), .second, .val (.int sl), .val (.int ct), .val (.int cl), .val (.int cc), .val (.ref g), .val (.long (own_hi p1)), .second, .val (.long ((own_lo p1) - (own_hi p1))), .second, .val (.long (own_hi p2)), .second, .val (.long ((own_lo p2) - (own_hi p2))), .second, .val (.long (own_hi p3)), .second, .val (.long ((own_lo p3) - (own_hi p3))), .second, .val (.long ((((own_hi p1) * (((own_lo p2) - (own_hi p2)) + ((own_lo p3) - (own_hi p3)))) + ((own_hi p2) * (((own_lo p1) - (own_hi p1)) + ((own_lo p3) - (own_hi p3))))) + ((own_hi p3) * (((own_lo p1) - (own_hi p1)) + ((own_lo p2) - (own_hi p2)))))), .second] [(.long (own_pairs (((([] : List (Int64 × Int64)) ++ [((own_hi p1), (own_lo p1) - (own_hi p1))]) ++ [((own_hi p2), (own_lo p2) - (own_hi p2))]) ++ [((own_hi p3), (own_lo p3) - (own_hi p3))])))])) _
  refine XS.lload X23.here hx rfl (hb hby at_249) rfl ?_
  show Steps p.tables e below (T23.setTop (mkF m 251 #[.val (.long p1), .second, .val (.long p2), .second, .val (.long p3), .second, .val (.int sl), .val (.int ct), .val (.int cl), .val (.int cc), .val (.ref g), .val (.long (own_hi p1)), .second, .val (.long ((own_lo p1) - (own_hi p1))), .second, .val (.long (own_hi p2)), .second, .val (.long ((own_lo p2) - (own_hi p2))), .second, .val (.long (own_hi p3)), .second, .val (.long ((own_lo p3) - (own_hi p3))), .second, .val (.long ((((own_hi p1) * (((own_lo p2) - (own_hi p2)) + ((own_lo p3) - (own_hi p3)))) + ((own_hi p2) * (((own_lo p1) - (own_hi p1)) + ((own_lo p3) - (own_hi p3))))) + ((own_hi p3) * (((own_lo p1) - (own_hi p1)) + ((own_lo p2) - (own_hi p2)))))), .second] [(.long ((((own_hi p1) * (((own_lo p2) - (own_hi p2)) + ((own_lo p3) - (own_hi p3)))) + ((own_hi p2) * (((own_lo p1) - (own_hi p1)) + ((own_lo p3) - (own_hi p3))))) + ((own_hi p3) * (((own_lo p1) - (own_hi p1)) + ((own_lo p2) - (own_hi p2)))))), (.long (own_pairs (((([] : List (Int64 × Int64)) ++ [((own_hi p1), (own_lo p1) - (own_hi p1))]) ++ [((own_hi p2), (own_lo p2) - (own_hi p2))]) ++ [((own_hi p3), (own_lo p3) - (own_hi p3))])))])) _
  refine XS.lcmp X23.here hx rfl (hb hby at_251) rfl ?_
  show Steps p.tables e below (T23.setTop (mkF m 252 #[.val (.long p1), .second, .val (.long p2), .second, .val (.long p3), .second, .val (.int sl), .val (.int ct), .val (.int cl), .val (.int cc), .val (.ref g), .val (.long (own_hi p1)), .second, .val (.long ((own_lo p1) - (own_hi p1))), .second, .val (.long (own_hi p2)), .second, .val (.long ((own_lo p2) - (own_hi p2))), .second, .val (.long (own_hi p3)), .second, .val (.long ((own_lo p3) - (own_hi p3))), .second, .val (.long ((((own_hi p1) * (((own_lo p2) - (own_hi p2)) + ((own_lo p3) - (own_hi p3)))) + ((own_hi p2) * (((own_lo p1) - (own_hi p1)) + ((own_lo p3) - (own_hi p3))))) + ((own_hi p3) * (((own_lo p1) - (own_hi p1)) + ((own_lo p2) - (own_hi p2)))))), .second] [(.int (lcmpW (own_pairs (((([] : List (Int64 × Int64)) ++ [((own_hi p1), (own_lo p1) - (own_hi p1))]) ++ [((own_hi p2), (own_lo p2) - (own_hi p2))]) ++ [((own_hi p3), (own_lo p3) - (own_hi p3))])) ((((own_hi p1) * (((own_lo p2) - (own_hi p2)) + ((own_lo p3) - (own_hi p3)))) + ((own_hi p2) * (((own_lo p1) - (own_hi p1)) + ((own_lo p3) - (own_hi p3))))) + ((own_hi p3) * (((own_lo p1) - (own_hi p1)) + ((own_lo p2) - (own_hi p2)))))))])) _
  refine XS.ifNo X23.here hx rfl (hb hby at_252) rfl ((if0 _ _).trans (teq hc252).2) ?_
  show Steps p.tables e below (T23.setTop (mkF m 255 #[.val (.long p1), .second, .val (.long p2), .second, .val (.long p3), .second, .val (.int sl), .val (.int ct), .val (.int cl), .val (.int cc), .val (.ref g), .val (.long (own_hi p1)), .second, .val (.long ((own_lo p1) - (own_hi p1))), .second, .val (.long (own_hi p2)), .second, .val (.long ((own_lo p2) - (own_hi p2))), .second, .val (.long (own_hi p3)), .second, .val (.long ((own_lo p3) - (own_hi p3))), .second, .val (.long ((((own_hi p1) * (((own_lo p2) - (own_hi p2)) + ((own_lo p3) - (own_hi p3)))) + ((own_hi p2) * (((own_lo p1) - (own_hi p1)) + ((own_lo p3) - (own_hi p3))))) + ((own_hi p3) * (((own_lo p1) - (own_hi p1)) + ((own_lo p2) - (own_hi p2)))))), .second] [])) _
  refine XS.aload X23.here hx rfl (hb hby at_255) rfl rfl ?_
  show Steps p.tables e below (T23.setTop (mkF m 257 #[.val (.long p1), .second, .val (.long p2), .second, .val (.long p3), .second, .val (.int sl), .val (.int ct), .val (.int cl), .val (.int cc), .val (.ref g), .val (.long (own_hi p1)), .second, .val (.long ((own_lo p1) - (own_hi p1))), .second, .val (.long (own_hi p2)), .second, .val (.long ((own_lo p2) - (own_hi p2))), .second, .val (.long (own_hi p3)), .second, .val (.long ((own_lo p3) - (own_hi p3))), .second, .val (.long ((((own_hi p1) * (((own_lo p2) - (own_hi p2)) + ((own_lo p3) - (own_hi p3)))) + ((own_hi p2) * (((own_lo p1) - (own_hi p1)) + ((own_lo p3) - (own_hi p3))))) + ((own_hi p3) * (((own_lo p1) - (own_hi p1)) + ((own_lo p2) - (own_hi p2)))))), .second] [(.ref g)])) _
  refine st24.trans ?_
  show Steps p.tables e below (T24.setTop (mkF m 260 #[.val (.long p1), .second, .val (.long p2), .second, .val (.long p3), .second, .val (.int sl), .val (.int ct), .val (.int cl), .val (.int cc), .val (.ref g), .val (.long (own_hi p1)), .second, .val (.long ((own_lo p1) - (own_hi p1))), .second, .val (.long (own_hi p2)), .second, .val (.long ((own_lo p2) - (own_hi p2))), .second, .val (.long (own_hi p3)), .second, .val (.long ((own_lo p3) - (own_hi p3))), .second, .val (.long ((((own_hi p1) * (((own_lo p2) - (own_hi p2)) + ((own_lo p3) - (own_hi p3)))) + ((own_hi p2) * (((own_lo p1) - (own_hi p1)) + ((own_lo p3) - (own_hi p3))))) + ((own_hi p3) * (((own_lo p1) - (own_hi p1)) + ((own_lo p2) - (own_hi p2)))))), .second] [(.int (Int32.ofNat (((([] : List (Int64 × Int64)) ++ [((own_hi p1), (own_lo p1) - (own_hi p1))]) ++ [((own_hi p2), (own_lo p2) - (own_hi p2))]) ++ [((own_hi p3), (own_lo p3) - (own_hi p3))]).length))])) _
  refine XS.iload X24.here hx rfl (hb hby at_260) rfl ?_
  show Steps p.tables e below (T24.setTop (mkF m 262 #[.val (.long p1), .second, .val (.long p2), .second, .val (.long p3), .second, .val (.int sl), .val (.int ct), .val (.int cl), .val (.int cc), .val (.ref g), .val (.long (own_hi p1)), .second, .val (.long ((own_lo p1) - (own_hi p1))), .second, .val (.long (own_hi p2)), .second, .val (.long ((own_lo p2) - (own_hi p2))), .second, .val (.long (own_hi p3)), .second, .val (.long ((own_lo p3) - (own_hi p3))), .second, .val (.long ((((own_hi p1) * (((own_lo p2) - (own_hi p2)) + ((own_lo p3) - (own_hi p3)))) + ((own_hi p2) * (((own_lo p1) - (own_hi p1)) + ((own_lo p3) - (own_hi p3))))) + ((own_hi p3) * (((own_lo p1) - (own_hi p1)) + ((own_lo p2) - (own_hi p2)))))), .second] [(.int ct), (.int (Int32.ofNat (((([] : List (Int64 × Int64)) ++ [((own_hi p1), (own_lo p1) - (own_hi p1))]) ++ [((own_hi p2), (own_lo p2) - (own_hi p2))]) ++ [((own_hi p3), (own_lo p3) - (own_hi p3))]).length))])) _
  refine XS.icmpNo X24.here hx rfl (hb hby at_262) rfl (teq hc262).2 ?_
  show Steps p.tables e below (T24.setTop (mkF m 265 #[.val (.long p1), .second, .val (.long p2), .second, .val (.long p3), .second, .val (.int sl), .val (.int ct), .val (.int cl), .val (.int cc), .val (.ref g), .val (.long (own_hi p1)), .second, .val (.long ((own_lo p1) - (own_hi p1))), .second, .val (.long (own_hi p2)), .second, .val (.long ((own_lo p2) - (own_hi p2))), .second, .val (.long (own_hi p3)), .second, .val (.long ((own_lo p3) - (own_hi p3))), .second, .val (.long ((((own_hi p1) * (((own_lo p2) - (own_hi p2)) + ((own_lo p3) - (own_hi p3)))) + ((own_hi p2) * (((own_lo p1) - (own_hi p1)) + ((own_lo p3) - (own_hi p3))))) + ((own_hi p3) * (((own_lo p1) - (own_hi p1)) + ((own_lo p2) - (own_hi p2)))))), .second] [])) _
  refine XS.iconst X24.here hx rfl (hb hby at_265) ?_
  show Steps p.tables e below (T24.setTop (mkF m 266 #[.val (.long p1), .second, .val (.long p2), .second, .val (.long p3), .second, .val (.int sl), .val (.int ct), .val (.int cl), .val (.int cc), .val (.ref g), .val (.long (own_hi p1)), .second, .val (.long ((own_lo p1) - (own_hi p1))), .second, .val (.long (own_hi p2)), .second, .val (.long ((own_lo p2) - (own_hi p2))), .second, .val (.long (own_hi p3)), .second, .val (.long ((own_lo p3) - (own_hi p3))), .second, .val (.long ((((own_hi p1) * (((own_lo p2) - (own_hi p2)) + ((own_lo p3) - (own_hi p3)))) + ((own_hi p2) * (((own_lo p1) - (own_hi p1)) + ((own_lo p3) - (own_hi p3))))) + ((own_hi p3) * (((own_lo p1) - (own_hi p1)) + ((own_lo p2) - (own_hi p2)))))), .second] [(.int (1 : Int32))])) _
  refine XS.goto X24.here hx rfl (pc0 := 266) (pc' := 270) rfl (hb hby at_266) (by decide) (by decide) ?_
  exact kt
theorem pn_0 : plainName "com/example/fast_tangle/fasttangle/GroupsPairsPinLaw" = true := by first | (simp [plainName, overriddenIn]; done) | decide +kernel
theorem ef_0 (m : MethodId) (x0 : Int64) (x1 : Int64) (x2 : Int64) (x3 : Int32) : entryFrame m #[(.long x0), (.long x1), (.long x2), (.int x3)] maxLocals = mkF m 0 #[.val (.long x0), .second, .val (.long x1), .second, .val (.long x2), .second, .val (.int x3), .unset, .unset, .unset, .unset, .unset, .unset, .unset, .unset, .unset, .unset, .unset, .unset, .unset, .unset, .unset, .unset, .unset, .unset] [] := by first | (simp [entryFrame, mkF, argsToLocals, Value.category, maxLocals]; done) | rfl
def Q0 (Z : State) (q1 : Int64) (q2 : Int64) (q3 : Int64) (p4 : Int32) (h0 : Heap) (n0 : Nat) (v : Option Value) (h : Heap) (L : List Loc) : Prop := v = some (.int (1 : Int32)) ∧ Fr n0 L
theorem own_id0 : own_pairs [] = (0 : Int64) * (0 + 0) + 0 * (0 + 0) + 0 * (0 + 0) := by decide
theorem own_id1 (u1 l1 : Int64) : own_pairs ([] ++ [(u1, l1)]) = u1 * (0 + 0) + 0 * (l1 + 0) + 0 * (l1 + 0) := by
  show (0 + u1) * (0 + l1) - (0 + u1 * l1) = _
  grind
theorem own_id2 (u1 l1 u2 l2 : Int64) : own_pairs (([] ++ [(u1, l1)]) ++ [(u2, l2)]) = u1 * (l2 + 0) + u2 * (l1 + 0) + 0 * (l1 + l2) := by
  show (0 + u1 + u2) * (0 + l1 + l2) - (0 + u1 * l1 + u2 * l2) = _
  grind
theorem own_id3 (u1 l1 u2 l2 u3 l3 : Int64) : own_pairs ((([] ++ [(u1, l1)]) ++ [(u2, l2)]) ++ [(u3, l3)]) = u1 * (l2 + l3) + u2 * (l1 + l3) + u3 * (l1 + l2) := by
  show (0 + u1 + u2 + u3) * (0 + l1 + l2 + l3) - (0 + u1 * l1 + u2 * l2 + u3 * l3) = _
  grind
set_option maxRecDepth 65536 in
set_option maxHeartbeats 40000000 in
theorem rm0 (l : Launch) (Z : State) (a0 : Array Value) (hw : ∀ d ∈ tables_1, d.before a0 Z = true) (ws : List Jvm.Cond) (q1 : Int64) (q2 : Int64) (q3 : Int64) (p4 : Int32) (h0 : Heap) (n0 : Nat) (Z0 : n0 ≤ h0.size) :
    MetFree l x (head1 (Jvm.Cond.code x code maxLocals ret :: ws) room_1) (fun a U => a = #[(.long q1), (.long q2), (.long q3), (.int p4)] ∧ Z.Warmed39 U.vm ∧ U.heap = h0) (fun _ _ _ _ _ => True) (fun _ U o U' => ∃ v L, o = .returned v ∧ Q0 Z q1 q2 q3 p4 h0 n0 v U'.heap L ∧ FrameEnd U o U' L room_1.cells room_1.slots) := by
  refine MetFree.of_bodySF (plainFor_of_name pn_0) hisR ?_
  intro p e s m args below meth c s₁ Bd hml0 hP hK
  obtain ⟨rfl, hZ, hh⟩ := hP
  have hx := Bd.exec
  have hby := Bd.bytes
  have hml : c.maxLocals = 25 := hml0
  have hown : s.vm.findClass "com/example/fast_tangle/fasttangle/GroupsPairsPinLaw" = some m.cls := findClass_of_methodNamed Bd.named
  have hnm := (name_of_methodNamed Bd.named Bd.method).1
  have X0 : Stand p l e room_1 s m #[(.long q1), (.long q2), (.long q3), (.int p4)] below meth c s₁ [] 0 0 := Stand.of_body Bd
  have e0 : s₁.heap = h0 := by rw [← hh, Bd.state]; rfl
  have N0 := Fr.nil n0
  have pre0 : ∀ t, Steps p.tables e below (s₁.setTop (mkF m 0 #[.val (.long q1), .second, .val (.long q2), .second, .val (.long q3), .second, .val (.int p4), .unset, .unset, .unset, .unset, .unset, .unset, .unset, .unset, .unset, .unset, .unset, .unset, .unset, .unset, .unset, .unset, .unset, .unset] [])) t → Steps p.tables e below (s₁.setTop (entryFrame m #[(.long q1), (.long q2), (.long q3), (.int p4)] maxLocals)) t := fun t k => castTop (ef_0 m q1 q2 q3 p4) k
  obtain ⟨T1, L1, cl, X1, N1, e1, st1⟩ := own_a q1 q2 q3 p4 X0 hx hZ hw hby hml hown e0 Z0 N0
  obtain ⟨T2, L2, g, len, X2, N2, ⟨Z2, gg, l2, l7, G2⟩, st2⟩ := own_b q1 q2 q3 p4 (p4 &&& (3 : Int32)) cl X1 hx hZ hw hby hml hown e1 Z0 N1
  obtain ⟨T3, L3, len3, X3, N3, ⟨Z3, m2, m7, G3⟩, st3⟩ := own_c q1 q2 q3 p4 (p4 &&& (3 : Int32)) cl _ g X2 hx hZ hw hby hml hown rfl Z2 N2 len gg G2 l2 l7
  rcases own_and3 p4 with hk | hk | hk | hk
  · obtain ⟨T4, L4, X4, N4, -, st4⟩ := own_d0 q1 q2 q3 p4 (p4 &&& (3 : Int32)) cl _ g X3 hx hZ hw hby hml hown rfl Z3 N3 (by rw [hk]; decide) (by rw [hk]; decide) (by rw [hk]; decide) ((lw_eq _ _).mpr (own_id0)) (by rw [hk]; rfl) len3 gg G3 m2 m7
    obtain ⟨fs, hr, hrun, hended, hW, hsame⟩ := X4.leave (v := some (.int (1 : Int32))) (fun h => by rw [Bd.returns] at h; cases h)
    refine ⟨_, _, pre0 _ ?_, hrun, hended, _, _, rfl, ?_, ⟨_, rfl⟩, hW, hsame.mono (by decide) (by decide)⟩
    · refine st1 _ ?_
      refine st2 _ ?_
      refine st3 _ ?_
      refine st4 _ ?_
      exact retN X4 hx (t := .boolean) Bd.returns (by simp) (hb hby at_270) hr
    · exact ⟨rfl, N4⟩
  · obtain ⟨T4, L4, X4, N4, -, st4⟩ := own_d1 q1 q2 q3 p4 (p4 &&& (3 : Int32)) cl _ g X3 hx hZ hw hby hml hown rfl Z3 N3 (by rw [hk]; decide) (by rw [hk]; decide) (by rw [hk]; decide) ((lw_eq _ _).mpr (own_id1 _ _)) (by rw [hk]; rfl) len3 gg G3 m2 m7
    obtain ⟨fs, hr, hrun, hended, hW, hsame⟩ := X4.leave (v := some (.int (1 : Int32))) (fun h => by rw [Bd.returns] at h; cases h)
    refine ⟨_, _, pre0 _ ?_, hrun, hended, _, _, rfl, ?_, ⟨_, rfl⟩, hW, hsame.mono (by decide) (by decide)⟩
    · refine st1 _ ?_
      refine st2 _ ?_
      refine st3 _ ?_
      refine st4 _ ?_
      exact retN X4 hx (t := .boolean) Bd.returns (by simp) (hb hby at_270) hr
    · exact ⟨rfl, N4⟩
  · obtain ⟨T4, L4, X4, N4, -, st4⟩ := own_d2 q1 q2 q3 p4 (p4 &&& (3 : Int32)) cl _ g X3 hx hZ hw hby hml hown rfl Z3 N3 (by rw [hk]; decide) (by rw [hk]; decide) (by rw [hk]; decide) ((lw_eq _ _).mpr (own_id2 _ _ _ _)) (by rw [hk]; rfl) len3 gg G3 m2 m7
    obtain ⟨fs, hr, hrun, hended, hW, hsame⟩ := X4.leave (v := some (.int (1 : Int32))) (fun h => by rw [Bd.returns] at h; cases h)
    refine ⟨_, _, pre0 _ ?_, hrun, hended, _, _, rfl, ?_, ⟨_, rfl⟩, hW, hsame.mono (by decide) (by decide)⟩
    · refine st1 _ ?_
      refine st2 _ ?_
      refine st3 _ ?_
      refine st4 _ ?_
      exact retN X4 hx (t := .boolean) Bd.returns (by simp) (hb hby at_270) hr
    · exact ⟨rfl, N4⟩
  · obtain ⟨T4, L4, X4, N4, -, st4⟩ := own_d3 q1 q2 q3 p4 (p4 &&& (3 : Int32)) cl _ g X3 hx hZ hw hby hml hown rfl Z3 N3 (by rw [hk]; decide) (by rw [hk]; decide) (by rw [hk]; decide) ((lw_eq _ _).mpr (own_id3 _ _ _ _ _ _)) (by rw [hk]; rfl) len3 gg G3 m2 m7
    obtain ⟨fs, hr, hrun, hended, hW, hsame⟩ := X4.leave (v := some (.int (1 : Int32))) (fun h => by rw [Bd.returns] at h; cases h)
    refine ⟨_, _, pre0 _ ?_, hrun, hended, _, _, rfl, ?_, ⟨_, rfl⟩, hW, hsame.mono (by decide) (by decide)⟩
    · refine st1 _ ?_
      refine st2 _ ?_
      refine st3 _ ?_
      refine st4 _ ?_
      exact retN X4 hx (t := .boolean) Bd.returns (by simp) (hb hby at_270) hr
    · exact ⟨rfl, N4⟩

set_option maxRecDepth 65536 in
set_option maxHeartbeats 40000000 in
theorem comes_1 {Post : Tables → Env → Array Value → State → Outcome → State → Prop} (hpost : ∀ tb e args s v u, (limb_1_1.after args s (.returned v) u = true ∧ limb_1_2.after args s (.returned v) u = true ∧ True) → FrameEnd s (.returned v) u (Jvm.fieldLocs frame_1_writes args s ++ Jvm.arrayLocs frame_1_arrays args s ++ Jvm.staticLocs frame_1_statics s) 24 128 → Post tb e args s (.returned v) u) :
    ArmFor flags0 classFile x code maxLocals ret World_1 tables_1 room_1 Calls_1 rest_1 Pre_1 Post := by
  intro l hfl _ _ p e ha hc hk s m args below hf hA hF happ hP
  obtain ⟨hcalls, hrest, hpre⟩ := hP
  obtain ⟨-, -, -, hnamed, -, -, -, hat⟩ := (Spec.applies_iff hf).mp happ
  obtain ⟨hg, hn⟩ := and_e (Cond.before_iff.mp (show (Jvm.Cond.and given_1 narrow_1).before args s = true from hpre))
  obtain ⟨g9, g10⟩ := and_e hg
  obtain ⟨g11, g12⟩ := and_e g10
  obtain ⟨g13, g14⟩ := and_e g12
  obtain ⟨g15, g16⟩ := and_e g14
  obtain ⟨w0, w1, w2, w3, rfl⟩ : ∃ w0 w1 w2 w3 : Value, args = #[w0, w1, w2, w3] := by
    have hs : args.size = 4 := by simpa [Cond.value, given_1] using g9
    obtain ⟨L⟩ := args
    match L, hs with
    | [w0, w1, w2, w3], _ => exact ⟨w0, w1, w2, w3, rfl⟩
  have hw := fun d (hd : d ∈ tables_1) => atoms_spec (ws := Jvm.Cond.code x code maxLocals ret :: tables_1) hat d (List.mem_cons_of_mem _ hd)
  have hfit : Fit s := fun {y c} hc i hi => by
    obtain ⟨ha, rfl⟩ := Array.getElem?_eq_some_iff.mp hc
    have q := List.all_eq_true.mp ((Array.all_eq_true_iff_forall_mem.mp hF) _ (Array.getElem_mem ha)) i (List.mem_range.mpr hi)
    simpa [Array.getElem?_eq_getElem hi] using q
  obtain ⟨i0, ei0⟩ := isL_v g11
  obtain rfl : w0 = (.long i0) := Option.some.inj ei0
  obtain ⟨i1, ei1⟩ := isL_v g13
  obtain rfl : w1 = (.long i1) := Option.some.inj ei1
  obtain ⟨i2, ei2⟩ := isL_v g15
  obtain rfl : w2 = (.long i2) := Option.some.inj ei2
  obtain ⟨i3, ei3⟩ := is_v g16
  obtain rfl : w3 = (.int i3) := Option.some.inj ei3
  obtain ⟨n, o, h1, h2, h3, _, L, rfl, ⟨rfl, N⟩, hq⟩ := rm0 l s _ hw tables_1 i0 i1 i2 i3 s.heap s.heap.size (Nat.le_refl _) p e ha hc hk s m _ below hf ((Spec.applies_iff_loose hf).mp happ).1 ⟨rfl, State.Warmed39.refl s, rfl⟩ trivial
  refine ⟨n, _, h1, h2, h3, hpost _ _ _ _ _ _ ⟨Cond.after_iff.mpr rfl, Cond.after_iff.mpr (eq_i res_at (Term.int_eval (1)) rfl), trivial⟩ ⟨hq.1, hq.2.1, (hq.2.2.sift fun y hy => Or.inr (N y hy)).mono (by decide) (by decide)⟩⟩
theorem main_1_1 : Claimed_1_1 := comes_1 fun _ _ _ _ _ _ h hF => ⟨h.1, hF⟩
theorem main_1_2 : Claimed_1_2 := comes_1 fun _ _ _ _ _ _ h hF => ⟨h.2.1, hF⟩
end Jvm.Pilot.@@N@@
namespace Jvm.Pilot.@@N@@
open Jvm Jvm.ClassFile Sem Op Lib Jvm.Free Jvm.Stand Jvm.Pilot.@@N@@.Jvm.D
/-! MADE BY PROGRAM (witnessworld.py) out of the Statement's table words and the real class files: 15 classes; the members and pool entries that the words name. The judged class is class 1, her method 3. -/
namespace start1
open Jvm.ClassFile
def u (s : String) : CpInfo := .utf8 (stringToUtf16 s)
/-- a pool by its gaps: so many unusable entries, then the entry; so many at the end -/
def gap : Nat → List CpInfo → List CpInfo
  | 0, r => r
  | n + 1, r => .unusable :: gap n r
def poolList (es : List (Nat × CpInfo)) (last : Nat) : List CpInfo := es.foldr (fun e r => gap e.1 (e.2 :: r)) (gap last [])
def pool (es : List (Nat × CpInfo)) (last : Nat) : Array CpInfo := ⟨poolList es last⟩
def fileOf (pool : Array CpInfo) (this : Nat) (attrs : Array Attribute := #[]) (ms : Array MethodInfo := #[]) (fl : Nat := 33) (sup : Nat := 0) (ifs : Array Nat := #[]) (fds : Array FieldInfo := #[]) : ClassFile where
  minorVersion := 0
  majorVersion := 65
  constantPool := pool
  accessFlags := fl
  thisClass := this
  superClass := sup
  interfaces := ifs
  fields := fds
  methods := ms
  attributes := attrs
def plain (name : String) (sup : Option ClassId) : Class where
  name := name
  kind := .ordinary
  loader := none
  accessFlags := 33
  super := sup
  interfaces := #[]
  cf := none
  fields := #[]
  methods := #[]
  instanceTypes := #[]
  staticTypes := #[]
  resolved := #[]
  callSites := []
  init := .initialized
  statics := none
  mirror := none

def pool0 : Array CpInfo := pool [(5, u "<init>"), (0, u "()V"), (1, .class_ 10), (1, u "java/lang/Object")] 113

def k0c0 : Code := { maxStack := 0, maxLocals := 1, code := object_method_1_code, exceptionTable := #[], attributes := #[] }
def k0m0 : Method := { name := "<init>", desc := "()V", sig := { parameters := [], returnType := none }, accessFlags := 1, code := some k0c0 }
/-- java/lang/Object -/
def k0 : Class := { plain "java/lang/Object" none with
  accessFlags := 33
  interfaces := #[]
  cf := some (fileOf pool0 8 #[] #[{ accessFlags := 1, nameIndex := 5, descriptorIndex := 6, attributes := #[] }] 33 0 #[] #[])
  fields := #[]
  methods := #[k0m0]
  instanceTypes := #[]
  staticTypes := #[]
  resolved := Array.replicate 124 none
  statics := none }

def pool1 : Array CpInfo := pool [(2, .class_ 4), (1, u "java/lang/Object"), (0, u "<init>"), (0, u "()V"), (0, .class_ 8), (0, u "com/example/fast_tangle/fasttangle/PartingPairs$Groups"), (0, .methodref 7 10), (0, .nameAndType 5 11), (0, u "(I)V"), (0, .methodref 13 14), (0, .class_ 15), (0, .nameAndType 16 17), (0, u "com/example/fast_tangle/fasttangle/GroupsPairsPinLaw"), (0, u "hi"), (0, u "(J)J"), (0, .methodref 13 19), (0, .nameAndType 20 17), (0, u "lo"), (0, .methodref 7 22), (0, .nameAndType 23 24), (0, u "add"), (0, u "(IJJ)V"), (0, .methodref 7 26), (0, .nameAndType 27 6), (0, u "clear"), (0, .methodref 7 29), (0, .nameAndType 30 31), (0, u "pairs"), (0, u "()J"), (0, .methodref 7 33), (0, .nameAndType 34 35), (0, u "size"), (0, u "()I"), (2, u "law"), (0, u "(JJJI)Z")] 7

def k1m0 : Method := { name := "<init>", desc := "()V", sig := { parameters := [], returnType := none }, accessFlags := 1, code := none }
def k1c1 : Code := { maxStack := 3, maxLocals := 2, code := method_2_code, exceptionTable := #[], attributes := #[] }
def k1m1 : Method := { name := "hi", desc := "(J)J", sig := { parameters := [.long], returnType := some .long }, accessFlags := 10, code := some k1c1 }
def k1c2 : Code := { maxStack := 2, maxLocals := 2, code := method_3_code, exceptionTable := #[], attributes := #[] }
def k1m2 : Method := { name := "lo", desc := "(J)J", sig := { parameters := [.long], returnType := some .long }, accessFlags := 10, code := some k1c2 }
def k1c3 : Code := { maxStack := 8, maxLocals := 25, code := code, exceptionTable := #[], attributes := #[] }
def k1m3 : Method := { name := "law", desc := "(JJJI)Z", sig := { parameters := [.long, .long, .long, .int], returnType := some .boolean }, accessFlags := 9, code := some k1c3 }
/-- com/example/fast_tangle/fasttangle/GroupsPairsPinLaw -/
def k1 : Class := { plain "com/example/fast_tangle/fasttangle/GroupsPairsPinLaw" (some 0) with
  accessFlags := 49
  interfaces := #[]
  cf := some (fileOf pool1 13 #[] #[{ accessFlags := 1, nameIndex := 5, descriptorIndex := 6, attributes := #[] }, { accessFlags := 10, nameIndex := 16, descriptorIndex := 17, attributes := #[] }, { accessFlags := 10, nameIndex := 20, descriptorIndex := 17, attributes := #[] }, { accessFlags := 9, nameIndex := 38, descriptorIndex := 39, attributes := #[] }] 49 2 #[] #[])
  fields := #[]
  methods := #[k1m0, k1m1, k1m2, k1m3]
  instanceTypes := #[]
  staticTypes := #[]
  resolved := Array.replicate 47 none
  statics := none }

def pool2 : Array CpInfo := pool [(1, .class_ 2), (0, u "com/example/fast_tangle/fasttangle/OneSided$Exchange"), (0, .class_ 4), (0, u "java/lang/Object"), (12, .class_ 18), (0, u "com/example/fast_tangle/fasttangle/OneSided")] 2

/-- com/example/fast_tangle/fasttangle/OneSided$Exchange -/
def k2 : Class := { plain "com/example/fast_tangle/fasttangle/OneSided$Exchange" (some 0) with
  accessFlags := 1536
  interfaces := #[]
  cf := some (fileOf pool2 1 #[.nestHost 17] #[] 1536 3 #[] #[])
  fields := #[]
  methods := #[]
  instanceTypes := #[]
  staticTypes := #[]
  resolved := Array.replicate 21 none
  statics := none }

def pool3 : Array CpInfo := pool [(1, .methodref 2 3), (0, .class_ 4), (0, .nameAndType 5 6), (0, u "java/lang/Object"), (0, u "<init>"), (0, u "()V"), (0, .methodref 8 9), (0, .class_ 10), (0, .nameAndType 11 12), (0, u "java/lang/Math"), (0, u "max"), (0, u "(II)I"), (0, .fieldref 14 15), (0, .class_ 16), (0, .nameAndType 17 18), (0, u "com/example/fast_tangle/fasttangle/PartingPairs$Groups"), (0, u "ranks"), (0, u "[I"), (0, .fieldref 14 20), (0, .nameAndType 21 22), (0, u "upper"), (0, u "[J"), (0, .fieldref 14 24), (0, .nameAndType 25 22), (0, u "lower"), (0, .fieldref 14 27), (0, .nameAndType 28 29), (0, u "size"), (0, u "I"), (2, u "pairs"), (0, u "()J"), (5, .methodref 40 41), (0, .class_ 42), (0, .nameAndType 43 44), (0, u "java/util/Arrays"), (0, u "copyOf"), (0, u "([II)[I"), (0, .methodref 40 46), (0, .nameAndType 43 47), (0, u "([JI)[J"), (0, .class_ 49), (0, u "com/example/fast_tangle/fasttangle/OneSided$Exchange"), (0, u "(I)V"), (2, u "()I"), (5, u "clear"), (0, u "add"), (0, u "(IJJ)V"), (3, .class_ 66), (0, u "com/example/fast_tangle/fasttangle/PartingPairs")] 5

def k3c0 : Code := { maxStack := 2, maxLocals := 3, code := prog_51_method_1_code, exceptionTable := #[], attributes := #[] }
def k3m0 : Method := { name := "<init>", desc := "(I)V", sig := { parameters := [.int], returnType := none }, accessFlags := 0, code := some k3c0 }
def k3c1 : Code := { maxStack := 1, maxLocals := 1, code := prog_51_method_2_code, exceptionTable := #[], attributes := #[] }
def k3m1 : Method := { name := "size", desc := "()I", sig := { parameters := [], returnType := some .int }, accessFlags := 1, code := some k3c1 }
def k3c2 : Code := { maxStack := 6, maxLocals := 8, code := prog_51_method_6_code, exceptionTable := #[], attributes := #[] }
def k3m2 : Method := { name := "pairs", desc := "()J", sig := { parameters := [], returnType := some .long }, accessFlags := 0, code := some k3c2 }
def k3c3 : Code := { maxStack := 2, maxLocals := 1, code := prog_51_method_9_code, exceptionTable := #[], attributes := #[] }
def k3m3 : Method := { name := "clear", desc := "()V", sig := { parameters := [], returnType := none }, accessFlags := 0, code := some k3c3 }
def k3c4 : Code := { maxStack := 6, maxLocals := 6, code := prog_51_method_10_code, exceptionTable := #[], attributes := #[] }
def k3m4 : Method := { name := "add", desc := "(IJJ)V", sig := { parameters := [.int, .long, .long], returnType := none }, accessFlags := 0, code := some k3c4 }
/-- com/example/fast_tangle/fasttangle/PartingPairs$Groups -/
def k3 : Class := { plain "com/example/fast_tangle/fasttangle/PartingPairs$Groups" (some 0) with
  accessFlags := 48
  interfaces := #[2]
  cf := some (fileOf pool3 14 #[.nestHost 65] #[{ accessFlags := 0, nameIndex := 5, descriptorIndex := 50, attributes := #[] }, { accessFlags := 1, nameIndex := 28, descriptorIndex := 53, attributes := #[] }, { accessFlags := 0, nameIndex := 32, descriptorIndex := 33, attributes := #[] }, { accessFlags := 0, nameIndex := 59, descriptorIndex := 6, attributes := #[] }, { accessFlags := 0, nameIndex := 60, descriptorIndex := 61, attributes := #[] }] 48 2 #[48] #[{ accessFlags := 2, nameIndex := 28, descriptorIndex := 29, attributes := #[] }, { accessFlags := 2, nameIndex := 17, descriptorIndex := 18, attributes := #[] }, { accessFlags := 2, nameIndex := 21, descriptorIndex := 22, attributes := #[] }, { accessFlags := 2, nameIndex := 25, descriptorIndex := 22, attributes := #[] }])
  fields := #[{ name := "size", type := .int, accessFlags := 2, slot := 0, constantValue := 0 }, { name := "ranks", type := (.array .int), accessFlags := 2, slot := 1, constantValue := 0 }, { name := "upper", type := (.array .long), accessFlags := 2, slot := 2, constantValue := 0 }, { name := "lower", type := (.array .long), accessFlags := 2, slot := 3, constantValue := 0 }]
  methods := #[k3m0, k3m1, k3m2, k3m3, k3m4]
  instanceTypes := #[.int, (.array .int), (.array .long), (.array .long)]
  staticTypes := #[]
  resolved := Array.replicate 72 none
  statics := none }

def pool4 : Array CpInfo := pool [(1, .class_ 2), (0, u "java/lang/Math"), (1, .class_ 6), (1, u "java/lang/Object"), (0, u "<init>"), (0, u "()V"), (89, .class_ 100), (1, u "java/lang/Math$RandomNumberGeneratorHolder"), (71, u "negativeZeroFloatBits"), (0, u "J"), (2, u "negativeZeroDoubleBits"), (21, u "max"), (2, u "min"), (43, u "$assertionsDisabled"), (0, u "Z"), (88, u "(II)I"), (2, u "twoToTheDoubleScaleDown"), (0, u "D"), (4, u "twoToTheDoubleScaleUp"), (9, u "E"), (3, u "PI"), (2, u "TAU"), (2, u "DEGREES_TO_RADIANS"), (0, u "RADIANS_TO_DEGREES")] 94

def k4m0 : Method := { name := "<init>", desc := "()V", sig := { parameters := [], returnType := none }, accessFlags := 2, code := none }
def k4c1 : Code := { maxStack := 2, maxLocals := 2, code := jdk_29_method_65_code, exceptionTable := #[], attributes := #[] }
def k4m1 : Method := { name := "max", desc := "(II)I", sig := { parameters := [.int, .int], returnType := some .int }, accessFlags := 9, code := some k4c1 }
def k4c2 : Code := { maxStack := 2, maxLocals := 2, code := jdk_29_method_69_code, exceptionTable := #[], attributes := #[] }
def k4m2 : Method := { name := "min", desc := "(II)I", sig := { parameters := [.int, .int], returnType := some .int }, accessFlags := 9, code := some k4c2 }
/-- java/lang/Math -/
def k4 : Class := { plain "java/lang/Math" (some 0) with
  accessFlags := 49
  interfaces := #[]
  cf := some (fileOf pool4 1 #[.nestMembers #[98]] #[{ accessFlags := 2, nameIndex := 7, descriptorIndex := 8, attributes := #[] }, { accessFlags := 9, nameIndex := 198, descriptorIndex := 335, attributes := #[] }, { accessFlags := 9, nameIndex := 201, descriptorIndex := 335, attributes := #[] }] 49 4 #[] #[{ accessFlags := 25, nameIndex := 354, descriptorIndex := 339, attributes := #[] }, { accessFlags := 25, nameIndex := 358, descriptorIndex := 339, attributes := #[] }, { accessFlags := 25, nameIndex := 361, descriptorIndex := 339, attributes := #[] }, { accessFlags := 26, nameIndex := 364, descriptorIndex := 339, attributes := #[] }, { accessFlags := 26, nameIndex := 365, descriptorIndex := 339, attributes := #[] }, { accessFlags := 26, nameIndex := 172, descriptorIndex := 173, attributes := #[] }, { accessFlags := 26, nameIndex := 176, descriptorIndex := 173, attributes := #[] }, { accessFlags := 8, nameIndex := 344, descriptorIndex := 339, attributes := #[] }, { accessFlags := 8, nameIndex := 338, descriptorIndex := 339, attributes := #[] }, { accessFlags := 4120, nameIndex := 245, descriptorIndex := 246, attributes := #[] }])
  fields := #[{ name := "E", type := .double, accessFlags := 25, slot := 0, constantValue := 0 }, { name := "PI", type := .double, accessFlags := 25, slot := 1, constantValue := 0 }, { name := "TAU", type := .double, accessFlags := 25, slot := 2, constantValue := 0 }, { name := "DEGREES_TO_RADIANS", type := .double, accessFlags := 26, slot := 3, constantValue := 0 }, { name := "RADIANS_TO_DEGREES", type := .double, accessFlags := 26, slot := 4, constantValue := 0 }, { name := "negativeZeroFloatBits", type := .long, accessFlags := 26, slot := 5, constantValue := 0 }, { name := "negativeZeroDoubleBits", type := .long, accessFlags := 26, slot := 6, constantValue := 0 }, { name := "twoToTheDoubleScaleUp", type := .double, accessFlags := 8, slot := 7, constantValue := 0 }, { name := "twoToTheDoubleScaleDown", type := .double, accessFlags := 8, slot := 8, constantValue := 0 }, { name := "$assertionsDisabled", type := .boolean, accessFlags := 4120, slot := 9, constantValue := 0 }]
  methods := #[k4m0, k4m1, k4m2]
  instanceTypes := #[]
  staticTypes := #[.double, .double, .double, .double, .double, .long, .long, .double, .double, .boolean]
  resolved := Array.replicate 460 none
  statics := none }

def pool5 : Array CpInfo := pool [(2, .class_ 4), (1, u "java/lang/Object"), (0, u "<init>"), (0, u "()V"), (7, .class_ 16), (1, u "java/util/Arrays"), (57, .class_ 76), (1, u "java/util/Arrays$NaturalOrder"), (36, .class_ 115), (1, u "java/util/Arrays$LegacyMergeSort"), (1, u "Z"), (32, .methodref 151 152), (0, .class_ 153), (0, .nameAndType 154 155), (0, u "java/lang/System"), (0, u "arraycopy"), (0, u "(Ljava/lang/Object;ILjava/lang/Object;II)V"), (146, u "copyOf"), (1, .methodref 305 306), (0, .class_ 307), (0, .nameAndType 308 309), (0, u "java/lang/Math"), (0, u "min"), (0, u "(II)I"), (65, .class_ 376), (0, u "java/util/Arrays$ArrayList"), (68, u "$assertionsDisabled"), (269, u "MIN_ARRAY_SORT_GRAN"), (0, u "I"), (2, u "INSERTIONSORT_THRESHOLD"), (151, u "([II)[I"), (0, u "([JI)[J"), (102, .class_ 976), (0, u "java/util/Arrays$ArrayItr")] 52

def k5m0 : Method := { name := "<init>", desc := "()V", sig := { parameters := [], returnType := none }, accessFlags := 2, code := none }
def k5c1 : Code := { maxStack := 6, maxLocals := 3, code := jdk_65_method_123_code, exceptionTable := #[], attributes := #[] }
def k5m1 : Method := { name := "copyOf", desc := "([II)[I", sig := { parameters := [(.array .int), .int], returnType := some (.array .int) }, accessFlags := 9, code := some k5c1 }
def k5c2 : Code := { maxStack := 6, maxLocals := 3, code := jdk_65_method_124_code, exceptionTable := #[], attributes := #[] }
def k5m2 : Method := { name := "copyOf", desc := "([JI)[J", sig := { parameters := [(.array .long), .int], returnType := some (.array .long) }, accessFlags := 9, code := some k5c2 }
/-- java/util/Arrays -/
def k5 : Class := { plain "java/util/Arrays" (some 0) with
  accessFlags := 49
  interfaces := #[]
  cf := some (fileOf pool5 14 #[.nestMembers #[975, 375, 113, 74]] #[{ accessFlags := 2, nameIndex := 5, descriptorIndex := 6, attributes := #[] }, { accessFlags := 9, nameIndex := 302, descriptorIndex := 871, attributes := #[] }, { accessFlags := 9, nameIndex := 302, descriptorIndex := 872, attributes := #[] }] 49 2 #[] #[{ accessFlags := 26, nameIndex := 715, descriptorIndex := 716, attributes := #[] }, { accessFlags := 26, nameIndex := 719, descriptorIndex := 716, attributes := #[] }, { accessFlags := 4120, nameIndex := 445, descriptorIndex := 117, attributes := #[] }])
  fields := #[{ name := "MIN_ARRAY_SORT_GRAN", type := .int, accessFlags := 26, slot := 0, constantValue := 0 }, { name := "INSERTIONSORT_THRESHOLD", type := .int, accessFlags := 26, slot := 1, constantValue := 0 }, { name := "$assertionsDisabled", type := .boolean, accessFlags := 4120, slot := 2, constantValue := 0 }]
  methods := #[k5m0, k5m1, k5m2]
  instanceTypes := #[]
  staticTypes := #[.int, .int, .boolean]
  resolved := Array.replicate 1029 none
  statics := none }

def pool6 : Array CpInfo := pool [(2, .class_ 4), (1, u "java/lang/Object"), (0, u "<init>"), (0, u "()V"), (1, .class_ 10), (1, u "java/lang/System"), (0, u "allowSecurityManager"), (0, u "I"), (16, u "cons"), (0, u "Ljava/io/Console;"), (77, .class_ 110), (1, u "java/lang/System$CallersHolder"), (43, u "initialErrStream"), (0, u "Ljava/io/PrintStream;"), (19, u "security"), (0, u "Ljava/lang/SecurityManager;"), (31, .class_ 209), (0, u "java/lang/System$1"), (7, u "props"), (0, u "Ljava/util/Properties;"), (2, u "lineSeparator"), (0, u "Ljava/lang/String;"), (96, .class_ 321), (1, u "java/lang/System$LoggerFinder"), (5, .class_ 328), (0, u "java/lang/System$Logger"), (67, u "err"), (2, u "out"), (91, u "notSupportedJnuEncoding"), (15, u "in"), (17, u "initialIn"), (0, u "Ljava/io/InputStream;"), (35, u "bootLayer"), (0, u "Ljava/lang/ModuleLayer;"), (99, .class_ 664), (0, u "java/lang/System$2"), (9, u "NEVER"), (2, u "MAYBE"), (49, u "arraycopy"), (0, u "(Ljava/lang/Object;ILjava/lang/Object;II)V"), (72, .class_ 802), (0, u "java/lang/System$Logger$Level")] 31

def k6m0 : Method := { name := "<init>", desc := "()V", sig := { parameters := [], returnType := none }, accessFlags := 2, code := none }
def k6m1 : Method := { name := "arraycopy", desc := "(Ljava/lang/Object;ILjava/lang/Object;II)V", sig := { parameters := [(.object "java/lang/Object"), .int, (.object "java/lang/Object"), .int, .int], returnType := none }, accessFlags := 265, code := none }
/-- java/lang/System -/
def k6 : Class := { plain "java/lang/System" (some 0) with
  accessFlags := 49
  interfaces := #[]
  cf := some (fileOf pool6 8 #[.nestMembers #[319, 327, 801, 108, 663, 208]] #[{ accessFlags := 2, nameIndex := 5, descriptorIndex := 6, attributes := #[] }, { accessFlags := 265, nameIndex := 727, descriptorIndex := 728, attributes := #[] }] 49 2 #[] #[{ accessFlags := 25, nameIndex := 507, descriptorIndex := 526, attributes := #[] }, { accessFlags := 25, nameIndex := 399, descriptorIndex := 155, attributes := #[] }, { accessFlags := 25, nameIndex := 396, descriptorIndex := 155, attributes := #[] }, { accessFlags := 10, nameIndex := 525, descriptorIndex := 526, attributes := #[] }, { accessFlags := 26, nameIndex := 674, descriptorIndex := 12, attributes := #[] }, { accessFlags := 26, nameIndex := 677, descriptorIndex := 12, attributes := #[] }, { accessFlags := 10, nameIndex := 11, descriptorIndex := 12, attributes := #[] }, { accessFlags := 74, nameIndex := 175, descriptorIndex := 176, attributes := #[] }, { accessFlags := 10, nameIndex := 491, descriptorIndex := 222, attributes := #[] }, { accessFlags := 74, nameIndex := 29, descriptorIndex := 30, attributes := #[] }, { accessFlags := 74, nameIndex := 154, descriptorIndex := 155, attributes := #[] }, { accessFlags := 10, nameIndex := 217, descriptorIndex := 218, attributes := #[] }, { accessFlags := 10, nameIndex := 221, descriptorIndex := 222, attributes := #[] }, { accessFlags := 8, nameIndex := 562, descriptorIndex := 563, attributes := #[] }])
  fields := #[{ name := "in", type := (.object "java/io/InputStream"), accessFlags := 25, slot := 0, constantValue := 0 }, { name := "out", type := (.object "java/io/PrintStream"), accessFlags := 25, slot := 1, constantValue := 0 }, { name := "err", type := (.object "java/io/PrintStream"), accessFlags := 25, slot := 2, constantValue := 0 }, { name := "initialIn", type := (.object "java/io/InputStream"), accessFlags := 10, slot := 3, constantValue := 0 }, { name := "NEVER", type := .int, accessFlags := 26, slot := 4, constantValue := 0 }, { name := "MAYBE", type := .int, accessFlags := 26, slot := 5, constantValue := 0 }, { name := "allowSecurityManager", type := .int, accessFlags := 10, slot := 6, constantValue := 0 }, { name := "security", type := (.object "java/lang/SecurityManager"), accessFlags := 74, slot := 7, constantValue := 0 }, { name := "notSupportedJnuEncoding", type := (.object "java/lang/String"), accessFlags := 10, slot := 8, constantValue := 0 }, { name := "cons", type := (.object "java/io/Console"), accessFlags := 74, slot := 9, constantValue := 0 }, { name := "initialErrStream", type := (.object "java/io/PrintStream"), accessFlags := 74, slot := 10, constantValue := 0 }, { name := "props", type := (.object "java/util/Properties"), accessFlags := 10, slot := 11, constantValue := 0 }, { name := "lineSeparator", type := (.object "java/lang/String"), accessFlags := 10, slot := 12, constantValue := 0 }, { name := "bootLayer", type := (.object "java/lang/ModuleLayer"), accessFlags := 8, slot := 13, constantValue := 0 }]
  methods := #[k6m0, k6m1]
  instanceTypes := #[]
  staticTypes := #[(.object "java/io/InputStream"), (.object "java/io/PrintStream"), (.object "java/io/PrintStream"), (.object "java/io/InputStream"), .int, .int, .int, (.object "java/lang/SecurityManager"), (.object "java/lang/String"), (.object "java/io/Console"), (.object "java/io/PrintStream"), (.object "java/util/Properties"), (.object "java/lang/String"), (.object "java/lang/ModuleLayer")]
  resolved := Array.replicate 834 none
  statics := none }

def pool7 : Array CpInfo := pool [(1, u "java/lang/Cloneable"), (0, .class_ 1), (0, u "java/lang/Object"), (0, .class_ 3)] 3

/-- java/lang/Cloneable -/
def k7 : Class := { plain "java/lang/Cloneable" (some 0) with
  accessFlags := 1537
  interfaces := #[]
  cf := some (fileOf pool7 2 #[] #[] 1537 4 #[] #[])
  fields := #[]
  methods := #[]
  instanceTypes := #[]
  staticTypes := #[]
  resolved := Array.replicate 8 none
  statics := none }

def pool8 : Array CpInfo := pool [(1, u "java/io/Serializable"), (0, .class_ 1), (0, u "java/lang/Object"), (0, .class_ 3)] 3

/-- java/io/Serializable -/
def k8 : Class := { plain "java/io/Serializable" (some 0) with
  accessFlags := 1537
  interfaces := #[]
  cf := some (fileOf pool8 2 #[] #[] 1537 4 #[] #[])
  fields := #[]
  methods := #[]
  instanceTypes := #[]
  staticTypes := #[]
  resolved := Array.replicate 8 none
  statics := none }

/-- the primitive byte -/
def k9 : Class := { plain "byte" none with kind := .primitive 'B', accessFlags := 0x411 }
/-- [B -/
def k10 : Class := { plain "[B" (some 0) with kind := .array 9 .byte, interfaces := #[7, 8], accessFlags := 1041 }

/-- the primitive int -/
def k11 : Class := { plain "int" none with kind := .primitive 'I', accessFlags := 0x411 }
/-- [I -/
def k12 : Class := { plain "[I" (some 0) with kind := .array 11 .int, interfaces := #[7, 8], accessFlags := 1041 }

/-- the primitive long -/
def k13 : Class := { plain "long" none with kind := .primitive 'J', accessFlags := 0x411 }
/-- [J -/
def k14 : Class := { plain "[J" (some 0) with kind := .array 13 .long, interfaces := #[7, 8], accessFlags := 1041 }

def heap : Heap := #[]
def classes : Array Class := #[k0, k1, k2, k3, k4, k5, k6, k7, k8, k9, k10, k11, k12, k13, k14]
def interned : List (Array UInt16 × Addr) := []
def slotsUsed : Nat := 0
def theMethod : MethodId := ⟨1, 3⟩
def args0 : Array Value := #[.long 5, .long 7, .long 9, .int 3]
def aboutOver (below : List Frame) : State where
  vm := { classes := classes, interned := interned.toArray }
  heap := heap
  slotsUsed := slotsUsed
  threads := #[{ frames := .invoking theMethod args0 :: below }]
def below0 : List Frame := [.native { method := ⟨0, 0⟩, args := #[] }]
def about1 : State := aboutOver below0
def p0 : Program := .bare "" "" ""
def e0 : Env := launch0.env 0 0 0
theorem w_frames : about1.frames = Frame.invoking theMethod args0 :: below0 := rfl
set_option maxRecDepth 65536 in
theorem w_args : argsFit about1.vm theMethod args0 = true := by decide +kernel
set_option maxRecDepth 65536 in
theorem w_heap : heapFits about1 = true := by decide +kernel
set_option maxRecDepth 65536 in
theorem w_runnable : about1.curStatus? = some .runnable := by decide +kernel
set_option maxRecDepth 65536 in
theorem w_alone : about1.alone = true := by decide +kernel
set_option maxRecDepth 65536 in
theorem w_named : about1.methodNamed? x = some theMethod := by decide +kernel
set_option maxRecDepth 65536 in
theorem w_hears : about1.hears theMethod below0 = true := by decide +kernel
set_option maxRecDepth 65536 in
theorem w_ripe : about1.ripe theMethod args0 below0 = true := by decide +kernel
theorem w_running : about1.status = .running := rfl
set_option maxRecDepth 65536 in
theorem w_room : about1.hasRoom e0.platform room_1 = true :=
  launch0.hasRoom_least _ room_1 (by decide +kernel) (by decide +kernel) (by decide +kernel) (by decide +kernel) (by decide +kernel) (by decide +kernel)
theorem allAtoms_all (ts : List Jvm.Cond) (a : Array Jvm.Value) (st : Jvm.State) : (allAtoms ts).before a st = ts.all (fun c => c.before a st) := by
  induction ts with
  | nil => rfl
  | cons c t ih =>
    show (Jvm.Cond.and c (allAtoms t)).before a st = _
    rw [Jvm.Cond.before_and, ih, List.all_cons]
def words1 : List Jvm.Cond := Jvm.Cond.code x code maxLocals ret :: tables_1
/-- a 'code' word, met by the world's own term for the bytes: nothing is compared byte by byte -/
theorem code_word {y : MethodName} {bytes : ByteArray} {mx : Nat} {rt : Option FieldType} {a : Array Value} {s : State} {m : MethodId} {meth : Method} {c : Code} (h1 : s.methodNamed? y = some m) (h2 : s.vm.method? m = some meth) (h3 : meth.code = some c) (h4 : c.code = bytes)
    (h5 : (c.maxLocals == mx && c.exceptionTable.isEmpty && decide (c.maxStack ≤ mostOperands) && decide (meth.sig.returnType = rt) && !meth.locks && decide (parseMethodDescriptor y.desc = some meth.sig)) = true) : (Jvm.Cond.code y bytes mx rt).before a s = true := by
  simp only [Bool.and_eq_true, beq_iff_eq, Bool.not_eq_true', decide_eq_true_eq] at h5
  obtain ⟨⟨⟨⟨⟨g1, g2⟩, g3⟩, g4⟩, g5⟩, g6⟩ := h5
  simp [Cond.before, Cond.holds, Cond.value, h1, h2, h3, h4, g1, g2, g3, g4, g5, g6]
def isCode : Jvm.Cond → Bool
  | .code _ _ _ _ => true
  | _ => false
theorem all_split {L : List Jvm.Cond} {P : Jvm.Cond → Bool} (h1 : L.all (fun c => isCode c || P c) = true) (h2 : ∀ c ∈ L.filter isCode, P c = true) : L.all P = true := by
  refine List.all_eq_true.mpr fun c hc => ?_
  have h := List.all_eq_true.mp h1 c hc
  rcases Bool.eq_false_or_eq_true (isCode c) with hi | hi
  · exact h2 c (List.mem_filter.mpr ⟨hc, hi⟩)
  · simpa [hi] using h
set_option maxRecDepth 65536 in
theorem w_c0 : (Jvm.Cond.code x code maxLocals ret).before args0 about1 = true := code_word (m := ⟨1, 3⟩) (meth := k1m3) (c := k1c3) (by decide +kernel) rfl rfl rfl (by decide +kernel)
set_option maxRecDepth 65536 in
theorem w_c1 : (Jvm.Cond.code ({ cls := "com/example/fast_tangle/fasttangle/PartingPairs$Groups", name := "<init>", desc := "(I)V" } : Jvm.MethodName) prog_51_method_1_code (3 : Nat) (Option.none : Option Jvm.ClassFile.FieldType)).before args0 about1 = true := code_word (m := ⟨3, 0⟩) (meth := k3m0) (c := k3c0) (by decide +kernel) rfl rfl rfl (by decide +kernel)
set_option maxRecDepth 65536 in
theorem w_c2 : (Jvm.Cond.code ({ cls := "java/lang/Object", name := "<init>", desc := "()V" } : Jvm.MethodName) object_method_1_code (1 : Nat) (Option.none : Option Jvm.ClassFile.FieldType)).before args0 about1 = true := code_word (m := ⟨0, 0⟩) (meth := k0m0) (c := k0c0) (by decide +kernel) rfl rfl rfl (by decide +kernel)
set_option maxRecDepth 65536 in
theorem w_c3 : (Jvm.Cond.code ({ cls := "java/lang/Math", name := "max", desc := "(II)I" } : Jvm.MethodName) jdk_29_method_65_code (2 : Nat) (Option.some Jvm.ClassFile.FieldType.int)).before args0 about1 = true := code_word (m := ⟨4, 1⟩) (meth := k4m1) (c := k4c1) (by decide +kernel) rfl rfl rfl (by decide +kernel)
set_option maxRecDepth 65536 in
theorem w_c4 : (Jvm.Cond.code ({ cls := "com/example/fast_tangle/fasttangle/GroupsPairsPinLaw", name := "hi", desc := "(J)J" } : Jvm.MethodName) method_2_code (2 : Nat) (Option.some Jvm.ClassFile.FieldType.long)).before args0 about1 = true := code_word (m := ⟨1, 1⟩) (meth := k1m1) (c := k1c1) (by decide +kernel) rfl rfl rfl (by decide +kernel)
set_option maxRecDepth 65536 in
theorem w_c5 : (Jvm.Cond.code ({ cls := "com/example/fast_tangle/fasttangle/GroupsPairsPinLaw", name := "lo", desc := "(J)J" } : Jvm.MethodName) method_3_code (2 : Nat) (Option.some Jvm.ClassFile.FieldType.long)).before args0 about1 = true := code_word (m := ⟨1, 2⟩) (meth := k1m2) (c := k1c2) (by decide +kernel) rfl rfl rfl (by decide +kernel)
set_option maxRecDepth 65536 in
theorem w_c6 : (Jvm.Cond.code ({ cls := "com/example/fast_tangle/fasttangle/PartingPairs$Groups", name := "add", desc := "(IJJ)V" } : Jvm.MethodName) prog_51_method_10_code (6 : Nat) (Option.none : Option Jvm.ClassFile.FieldType)).before args0 about1 = true := code_word (m := ⟨3, 4⟩) (meth := k3m4) (c := k3c4) (by decide +kernel) rfl rfl rfl (by decide +kernel)
set_option maxRecDepth 65536 in
theorem w_c7 : (Jvm.Cond.code ({ cls := "com/example/fast_tangle/fasttangle/PartingPairs$Groups", name := "pairs", desc := "()J" } : Jvm.MethodName) prog_51_method_6_code (8 : Nat) (Option.some Jvm.ClassFile.FieldType.long)).before args0 about1 = true := code_word (m := ⟨3, 2⟩) (meth := k3m2) (c := k3c2) (by decide +kernel) rfl rfl rfl (by decide +kernel)
set_option maxRecDepth 65536 in
theorem w_c8 : (Jvm.Cond.code ({ cls := "com/example/fast_tangle/fasttangle/PartingPairs$Groups", name := "size", desc := "()I" } : Jvm.MethodName) prog_51_method_2_code (1 : Nat) (Option.some Jvm.ClassFile.FieldType.int)).before args0 about1 = true := code_word (m := ⟨3, 1⟩) (meth := k3m1) (c := k3c1) (by decide +kernel) rfl rfl rfl (by decide +kernel)
set_option maxRecDepth 65536 in
theorem w_c9 : (Jvm.Cond.code ({ cls := "com/example/fast_tangle/fasttangle/PartingPairs$Groups", name := "clear", desc := "()V" } : Jvm.MethodName) prog_51_method_9_code (1 : Nat) (Option.none : Option Jvm.ClassFile.FieldType)).before args0 about1 = true := code_word (m := ⟨3, 3⟩) (meth := k3m3) (c := k3c3) (by decide +kernel) rfl rfl rfl (by decide +kernel)
set_option maxRecDepth 65536 in
theorem w_c10 : (Jvm.Cond.code ({ cls := "java/util/Arrays", name := "copyOf", desc := "([II)[I" } : Jvm.MethodName) jdk_65_method_123_code (3 : Nat) (Option.some (Jvm.ClassFile.FieldType.array Jvm.ClassFile.FieldType.int))).before args0 about1 = true := code_word (m := ⟨5, 1⟩) (meth := k5m1) (c := k5c1) (by decide +kernel) rfl rfl rfl (by decide +kernel)
set_option maxRecDepth 65536 in
theorem w_c11 : (Jvm.Cond.code ({ cls := "java/lang/Math", name := "min", desc := "(II)I" } : Jvm.MethodName) jdk_29_method_69_code (2 : Nat) (Option.some Jvm.ClassFile.FieldType.int)).before args0 about1 = true := code_word (m := ⟨4, 2⟩) (meth := k4m2) (c := k4c2) (by decide +kernel) rfl rfl rfl (by decide +kernel)
set_option maxRecDepth 65536 in
theorem w_c12 : (Jvm.Cond.code ({ cls := "java/util/Arrays", name := "copyOf", desc := "([JI)[J" } : Jvm.MethodName) jdk_65_method_124_code (3 : Nat) (Option.some (Jvm.ClassFile.FieldType.array Jvm.ClassFile.FieldType.long))).before args0 about1 = true := code_word (m := ⟨5, 2⟩) (meth := k5m2) (c := k5c2) (by decide +kernel) rfl rfl rfl (by decide +kernel)
def codes1 : List Jvm.Cond := [Jvm.Cond.code x code maxLocals ret, Jvm.Cond.code ({ cls := "com/example/fast_tangle/fasttangle/PartingPairs$Groups", name := "<init>", desc := "(I)V" } : Jvm.MethodName) prog_51_method_1_code (3 : Nat) (Option.none : Option Jvm.ClassFile.FieldType), Jvm.Cond.code ({ cls := "java/lang/Object", name := "<init>", desc := "()V" } : Jvm.MethodName) object_method_1_code (1 : Nat) (Option.none : Option Jvm.ClassFile.FieldType), Jvm.Cond.code ({ cls := "java/lang/Math", name := "max", desc := "(II)I" } : Jvm.MethodName) jdk_29_method_65_code (2 : Nat) (Option.some Jvm.ClassFile.FieldType.int), Jvm.Cond.code ({ cls := "com/example/fast_tangle/fasttangle/GroupsPairsPinLaw", name := "hi", desc := "(J)J" } : Jvm.MethodName) method_2_code (2 : Nat) (Option.some Jvm.ClassFile.FieldType.long), Jvm.Cond.code ({ cls := "com/example/fast_tangle/fasttangle/GroupsPairsPinLaw", name := "lo", desc := "(J)J" } : Jvm.MethodName) method_3_code (2 : Nat) (Option.some Jvm.ClassFile.FieldType.long), Jvm.Cond.code ({ cls := "com/example/fast_tangle/fasttangle/PartingPairs$Groups", name := "add", desc := "(IJJ)V" } : Jvm.MethodName) prog_51_method_10_code (6 : Nat) (Option.none : Option Jvm.ClassFile.FieldType), Jvm.Cond.code ({ cls := "com/example/fast_tangle/fasttangle/PartingPairs$Groups", name := "pairs", desc := "()J" } : Jvm.MethodName) prog_51_method_6_code (8 : Nat) (Option.some Jvm.ClassFile.FieldType.long), Jvm.Cond.code ({ cls := "com/example/fast_tangle/fasttangle/PartingPairs$Groups", name := "size", desc := "()I" } : Jvm.MethodName) prog_51_method_2_code (1 : Nat) (Option.some Jvm.ClassFile.FieldType.int), Jvm.Cond.code ({ cls := "com/example/fast_tangle/fasttangle/PartingPairs$Groups", name := "clear", desc := "()V" } : Jvm.MethodName) prog_51_method_9_code (1 : Nat) (Option.none : Option Jvm.ClassFile.FieldType), Jvm.Cond.code ({ cls := "java/util/Arrays", name := "copyOf", desc := "([II)[I" } : Jvm.MethodName) jdk_65_method_123_code (3 : Nat) (Option.some (Jvm.ClassFile.FieldType.array Jvm.ClassFile.FieldType.int)), Jvm.Cond.code ({ cls := "java/lang/Math", name := "min", desc := "(II)I" } : Jvm.MethodName) jdk_29_method_69_code (2 : Nat) (Option.some Jvm.ClassFile.FieldType.int), Jvm.Cond.code ({ cls := "java/util/Arrays", name := "copyOf", desc := "([JI)[J" } : Jvm.MethodName) jdk_65_method_124_code (3 : Nat) (Option.some (Jvm.ClassFile.FieldType.array Jvm.ClassFile.FieldType.long))]
set_option maxRecDepth 65536 in
theorem codes_eq : words1.filter isCode = codes1 := rfl
theorem w_codes : ∀ c ∈ words1.filter isCode, c.before args0 about1 = true := by
  rw [codes_eq]
  intro c hc
  simp only [codes1, List.mem_cons, List.not_mem_nil, or_false] at hc
  rcases hc with rfl | rfl | rfl | rfl | rfl | rfl | rfl | rfl | rfl | rfl | rfl | rfl | rfl
  · exact w_c0
  · exact w_c1
  · exact w_c2
  · exact w_c3
  · exact w_c4
  · exact w_c5
  · exact w_c6
  · exact w_c7
  · exact w_c8
  · exact w_c9
  · exact w_c10
  · exact w_c11
  · exact w_c12
set_option maxRecDepth 65536 in
theorem w_t1 : (words1.take 24).all (fun c => isCode c || c.before args0 about1) = true := by decide +kernel
set_option maxRecDepth 65536 in
theorem w_t2 : ((words1.drop 24).take 24).all (fun c => isCode c || c.before args0 about1) = true := by decide +kernel
set_option maxRecDepth 65536 in
theorem w_t3 : ((words1.drop 24).drop 24).all (fun c => isCode c || c.before args0 about1) = true := by decide +kernel
theorem w_tables : (allAtoms (Jvm.Cond.code x code maxLocals ret :: tables_1)).before args0 about1 = true := by
  rw [allAtoms_all]
  show words1.all (fun c => c.before args0 about1) = true
  refine all_split ?_ w_codes
  rw [← List.take_append_drop 24 words1, List.all_append, w_t1, ← List.take_append_drop 24 (words1.drop 24), List.all_append, w_t2, w_t3]
  rfl
set_option maxRecDepth 65536 in
theorem w_case : (Jvm.Cond.and given_1 narrow_1).before args0 about1 = true := by decide +kernel
theorem w_applies : (headSpec (Jvm.Cond.code x code maxLocals ret :: tables_1) room_1).applies x e0.platform about1 = true :=
  (Spec.applies_iff w_frames).mpr ⟨w_running, w_runnable, w_alone, w_named, w_hears, w_ripe, w_room, w_tables⟩
theorem atStart : AtStart classFile x code maxLocals ret World_1 tables_1 room_1 Calls_1 rest_1 Pre_1 launch0 p0 e0 about1 theMethod args0 below0 :=
  ⟨lists_1, trivial, launch0.admits_env _ _ _, launch0.least_env, fairChoices_fair.cas, fairChoices_fair.clock, w_frames, w_args, w_heap, w_applies, trivial, trivial, w_case⟩
end start1
theorem witness_1 : WitnessClaimed_1 := ⟨start1.p0, start1.e0, start1.about1, start1.theMethod, start1.args0, start1.below0, start1.atStart⟩
end Jvm.Pilot.@@N@@
