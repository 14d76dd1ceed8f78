import JvmDerived
import JvmDerived.Pilot.@@N@@Statement
import JvmDerived.Pilot.@@N@@Code
set_option linter.unusedVariables false
set_option linter.unusedSimpArgs false
namespace Jvm.RoadKit
open Sem ClassFile Op Lib Jvm.Stand Jvm.Free Jvm.LawKit
section New
variable {p : Program} {l : Launch} {e : Env} {R : Room} {s : State} {m : MethodId} {args : Array Value} {below : List Frame} {meth : Method} {c : Code} {T : State} {locs : List Loc} {cells slots : Nat}
theorem retI (X : Stand p l e R s m args below meth c T locs cells slots) (hx : p.tables.exec = Jvm.exec) {pc : Nat} {Ls : Array Slot} {z : Int32} {rest : List Value} (hret : meth.sig.returnType = some .int) (hd : decode c.code pc = .ok (.ireturn, 1)) {fs : List Frame}
    (hl : ∀ (f : JFrame) (acts : List Action), f.method = m → f.locked = none → f.entered = [] → (doReturn e (T.setTop f) acts (some (.int z))).1 = T.setFrames fs) : Steps p.tables e below (T.setTop (mkF m pc Ls (.int z :: rest))) (T.setFrames fs) := by
  have hm' : T.vm.method? m = some meth := X.method'
  have hn : narrow .int (.int z) = .int z := rfl
  show Steps p.tables e below (T.setTop { method := m, pc := pc, locals := Ls, stack := _ :: rest, locked := none }) _
  jvm_step X.here [X.here.top, hx, hd, hm', hret, hn]
  first | (intro acts; rw [hl _ acts rfl rfl rfl]) | rw [hl _ _ rfl rfl rfl]
  exact Steps.refl _
end New
end Jvm.RoadKit
namespace Jvm.Pilot.@@N@@
open Jvm Jvm.ClassFile Sem Op Lib Jvm.Free Jvm.Stand Jvm.LawKit Jvm.RoadKit Bundle Jvm.Pilot.@@N@@.Jvm.D
def Els (Z : State) (h : Heap) (sl : Array Value) : Nat → List (Addr × Int32) → Prop
  | _, [] => True
  | i, (a, x) :: r => sl[i]? = some (.ref a) ∧ Fld Z h a "com/example/nodewright/nodewright/model/NodeId$IdType" "letter" "C" (.int x) ∧ Els Z h sl (i + 1) r
theorem Els.ext {Z : State} {h h' : Heap} {sl : Array Value} (E : Ext h h') : ∀ (xs : List (Addr × Int32)) (i : Nat), Els Z h sl i xs → Els Z h' sl i xs
  | [], _, _ => trivial
  | (_, _) :: r, i, H => ⟨H.1, H.2.1.ext E, Els.ext E r (i + 1) H.2.2⟩
def own_find (lo : Int32) : List (Addr × Int32) → Value
  | [] => .null
  | (a, x) :: r => if x = lo then .ref a else own_find lo r
theorem own_find_yes {lo x : Int32} {a : Addr} {r : List (Addr × Int32)} (h : x = lo) : own_find lo ((a, x) :: r) = .ref a := if_pos h
theorem own_find_no {lo x : Int32} {a : Addr} {r : List (Addr × Int32)} (h : ¬ x = lo) : own_find lo ((a, x) :: r) = own_find lo r := if_neg h
theorem own_find_ref (lo : Int32) : ∀ xs : List (Addr × Int32), (own_find lo xs).isRef = true
  | [] => rfl
  | (a, x) :: r => by
    by_cases h : x = lo
    · rw [own_find_yes h]; rfl
    · rw [own_find_no h]; exact own_find_ref lo r
theorem own_ext {h h' : Heap} (K : Keep h h' []) : Ext h h' := ⟨K.1, fun a c q => K.2.1 a c q nin0⟩
theorem own_n32 {n : Nat} (hn : n ≤ 255) : (Int32.ofNat n).toInt = n := Int32.toInt_ofNat_of_lt (by omega)
theorem own_lt {i n : Nat} (h : i < n) (hn : n ≤ 255) : Int32.ofNat i < Int32.ofNat n := by
  rw [Int32.lt_iff_toInt_lt, own_n32 hn, own_n32 (by omega)]; omega
theorem own_nn {n : Nat} (hn : n ≤ 255) : ¬ Int32.ofNat n < 0 := by
  rw [Int32.lt_iff_toInt_lt, own_n32 hn]
  have k : (0 : Int32).toInt = 0 := by decide
  omega
theorem own_clamp {n : Nat} (hn : n ≤ 255) : (Int32.ofNat n).toNatClampNeg = n := by simp only [Int32.toNatClampNeg, own_n32 hn]; omega
theorem own_one (i : Nat) : Int32.ofNat i + (1 : Int32) = Int32.ofNat (i + 1) := (Int32.ofNat_add i 1).symm
theorem own_fldI {s : State} {args : Array Value} {t : Term} {C n d : String} {x : Addr} {k : Int32} (ev : t.eval args s none [] s = some (.ref x)) (h : (Cond.eq (.field t C n d) (.int k)).value args s none s [] = some true) : Fld s s.heap x C n d (.int k) := by
  have eu := eqv_i (Term.int_eval k) h
  rw [fld_at ev] at eu
  exact Fld.start eu
theorem own_elem {s : State} {args : Array Value} {t u : Term} {w x : Addr} {k : Int32} {cl : Cell} (et : t.eval args s none [] s = some (.ref w)) (hc : s.heap[w]? = some cl) (eu : u.eval args s none [] s = some (.ref x)) (h : (Cond.eq (.elem t (.int k)) u).value args s none s [] = some true) : cl.slots[k.toNatClampNeg]? = some (.ref x) := by
  obtain ⟨a, b, ea, eb, k1, k2⟩ := cmp_v (Or.inl h)
  cases eu.symm.trans eb
  have q := gotT (eq_R ea eu k2.2 rfl) h
  subst q
  exact (elem_in ea et (Term.int_eval k) hc).2
theorem own_find_mem {lo : Int32} {r : Addr} : ∀ xs : List (Addr × Int32), own_find lo xs = .ref r → (r, lo) ∈ xs
  | [], h => by simp [own_find] at h
  | (a, x) :: q, h => by
    by_cases e : x = lo
    · rw [own_find_yes e] at h
      cases h; subst e
      exact List.mem_cons_self ..
    · rw [own_find_no e] at h
      exact List.mem_cons_of_mem _ (own_find_mem q h)
theorem Els.at {Z : State} {h : Heap} {sl : Array Value} : ∀ (xs : List (Addr × Int32)) (i : Nat), Els Z h sl i xs → ∀ q ∈ xs, Fld Z h q.1 "com/example/nodewright/nodewright/model/NodeId$IdType" "letter" "C" (.int q.2)
  | [], _, _, q, hq => nomatch hq
  | (a, x) :: r, i, H, q, hq => by
    rcases List.mem_cons.mp hq with rfl | hq
    · exact H.2.1
    · exact Els.at r (i + 1) H.2.2 q hq
theorem d2_0 : decode prog_39_method_1_code 0 = .ok (.getstatic 16, 3) := by decide +kernel
theorem d2_3 : decode prog_39_method_1_code 3 = .ok (.invokevirtual 20, 3) := by decide +kernel
theorem d2_6 : decode prog_39_method_1_code 6 = .ok (.checkcast 21, 3) := by decide +kernel
theorem d2_9 : decode prog_39_method_1_code 9 = .ok (.areturn, 1) := by decide +kernel
theorem pn_2 : plainName "com/example/nodewright/nodewright/model/NodeId$IdType" = true := by first | (simp [plainName, overriddenIn]; done) | decide +kernel
theorem ef_2 (m : MethodId)  : entryFrame m #[] 0 = mkF m 0 #[] [] := by first | (simp [entryFrame, mkF, argsToLocals, Value.category]; done) | rfl
def Q2 (Z : State) (w1 : Addr) (cl_w1 : Cell) (h0 : Heap) (n0 : Nat) (v : Option Value) (h : Heap) (L : List Loc) : Prop := ∃ b : Addr, v = some (.ref b) ∧ Fr n0 L ∧ Keep h0 h [] ∧ Arr Z h b (cloneOf cl_w1) (.object "com/example/nodewright/nodewright/model/NodeId$IdType")
set_option maxRecDepth 65536 in
set_option maxHeartbeats 40000000 in
theorem rm2 (l : Launch) (Z : State) (a0 : Array Value) (hw : ∀ d ∈ tables_1, d.before a0 Z = true) (ws : List Jvm.Cond) (w1 : Addr) (cl_w1 : Cell) (h0 : Heap) (n0 : Nat) (Z0 : n0 ≤ h0.size) (S__VALUES : Sta Z h0 "com/example/nodewright/nodewright/model/NodeId$IdType" "$VALUES" "[Lcom/example/nodewright/nodewright/model/NodeId$IdType;" (.ref w1)) (Ar_w1 : Arr Z h0 w1 cl_w1 (.object "com/example/nodewright/nodewright/model/NodeId$IdType")) (E_w1 : Exa Z h0 w1 "[Lcom/example/nodewright/nodewright/model/NodeId$IdType;") (Fc_w1 : FitC Z cl_w1) (sz : cl_w1.slots.size = 4) :
    MetFree l (⟨"com/example/nodewright/nodewright/model/NodeId$IdType", "values", "()[Lcom/example/nodewright/nodewright/model/NodeId$IdType;"⟩ : MethodName) (head1 (Jvm.Cond.code (⟨"com/example/nodewright/nodewright/model/NodeId$IdType", "values", "()[Lcom/example/nodewright/nodewright/model/NodeId$IdType;"⟩ : MethodName) prog_39_method_1_code 0 (some (.array (.object "com/example/nodewright/nodewright/model/NodeId$IdType"))) :: ws) ({ frames := 1, cells := 1, slots := 4, locals := 14 } : Room)) (fun a U => a = #[] ∧ Z.Warmed39 U.vm ∧ U.heap = h0) (fun _ _ _ _ _ => True) (fun _ U o U' => ∃ v L, o = .returned v ∧ Q2 Z w1 cl_w1 h0 n0 v U'.heap L ∧ FrameEnd U o U' L ({ frames := 1, cells := 1, slots := 4, locals := 14 } : Room).cells ({ frames := 1, cells := 1, slots := 4, locals := 14 } : Room).slots) := by
  refine MetFree.of_bodySF (plainFor_of_name pn_2) hisR ?_
  intro p e s m args below meth c s₁ Bd hml0 hP hK
  obtain ⟨rfl, hZ, hh⟩ := hP
  have hx := Bd.exec
  have hby := Bd.bytes
  have hml : c.maxLocals = 0 := hml0
  have hown : s.vm.findClass "com/example/nodewright/nodewright/model/NodeId$IdType" = some m.cls := findClass_of_methodNamed Bd.named
  have hnm := (name_of_methodNamed Bd.named Bd.method).1
  have X0 : Stand p l e ({ frames := 1, cells := 1, slots := 4, locals := 14 } : Room) s m #[] below meth c s₁ [] 0 0 := Stand.of_body Bd
  have e0 : s₁.heap = h0 := by rw [← hh, Bd.state]; rfl
  have N0 := Fr.nil n0
  have pre0 : ∀ t, Steps p.tables e below (s₁.setTop (mkF m 0 #[] [])) t → Steps p.tables e below (s₁.setTop (entryFrame m #[] 0)) t := fun t k => castTop (ef_2 m ) k
  obtain ⟨T2, X2, e2, st2⟩ := getS2 X0 hx hZ hown (host := "") (Or.inl (hw _ (List.mem_of_getElem? (i := 9) rfl))) Via.refl e0 S__VALUES (g := (mkF m 0 #[] [])) rfl (hb hby d2_0)
  obtain ⟨T3, h3, X3, e3, E3, A3, B3, st3⟩ := cloneA X2 hx hZ hown (hw _ (List.mem_of_getElem? (i := 11) rfl)) (hw _ (List.mem_of_getElem? (i := 12) rfl)) (hw _ (List.mem_of_getElem? (i := 16) rfl)) (hw _ (List.mem_of_getElem? (i := 14) rfl)) (hw _ (List.mem_of_getElem? (i := 15) rfl)) (hw _ (List.mem_of_getElem? (i := 17) rfl)) e2 Ar_w1 E_w1 Fc_w1 (g := (mkF m 3 #[] [(.ref w1)])) rfl (by rw [hml]; rfl) rfl (hb hby d2_3) (by decide) (W := 0) (cap := 4) (by show 2 * 0 + _ ≤ _; exact Nat.le_of_eq rfl) (by decide) (Nat.le_of_eq sz) (by decide) (by decide)
  obtain ⟨b3, g3⟩ : ∃ z, z = h0.size := ⟨_, rfl⟩
  rw [← g3] at A3 B3 st3
  have K3 : Keep h0 h3 [] := (Keep.refl h0 []).ext E3
  obtain ⟨T4, X4, e4, st4⟩ := castY X3 hx hZ hown (hw _ (List.mem_of_getElem? (i := 22) rfl)) e3 (Ins.self B3) (g := (mkF m 6 #[] [(.ref b3)])) rfl rfl (hb hby d2_6)
  obtain ⟨fs, hr, hrun, hended, hW, hsame⟩ := X4.leave (v := some (.ref b3)) (fun h => by rw [Bd.returns] at h; cases h)
  refine ⟨_, _, pre0 _ ?_, hrun, hended, _, _, rfl, ?_, ⟨_, rfl⟩, hW, hsame.mono (by decide) (by decide)⟩
  · show Steps p.tables e below (s₁.setTop (mkF m 0 #[] [])) _
    refine st2 _ ?_
    show Steps p.tables e below (T2.setTop (mkF m 3 #[] [(.ref w1)])) _
    refine st3 _ ?_
    show Steps p.tables e below (T3.setTop (mkF m 6 #[] [(.ref b3)])) _
    refine st4 _ ?_
    show Steps p.tables e below (T4.setTop (mkF m 9 #[] [(.ref b3)])) _
    jvm_step X4.here [X4.here.top, hx, (hb hby d2_9), X4.method', Bd.returns, Value.isRef, FieldType.isReference]
    first | (intro acts; rw [hr _ acts rfl rfl rfl]) | rw [hr _ _ rfl rfl rfl]
    exact Steps.refl _
  · show Q2 Z w1 cl_w1 h0 n0 _ T4.heap _
    rw [e4]
    exact ⟨b3, rfl, N0, K3, A3⟩
theorem d1_9 : decode prog_39_method_5_code 9 = .ok (.iload_n 3, 1) := by decide +kernel
theorem d1_10 : decode prog_39_method_5_code 10 = .ok (.iload_n 2, 1) := by decide +kernel
theorem d1_11 : decode prog_39_method_5_code 11 = .ok (.if_icmp .ge 26, 3) := by decide +kernel
theorem d1_14 : decode prog_39_method_5_code 14 = .ok (.aload_n 1, 1) := by decide +kernel
theorem d1_15 : decode prog_39_method_5_code 15 = .ok (.iload_n 3, 1) := by decide +kernel
theorem d1_16 : decode prog_39_method_5_code 16 = .ok (.aaload, 1) := by decide +kernel
theorem d1_17 : decode prog_39_method_5_code 17 = .ok (.astore 4, 2) := by decide +kernel
theorem d1_19 : decode prog_39_method_5_code 19 = .ok (.aload 4, 2) := by decide +kernel
theorem d1_21 : decode prog_39_method_5_code 21 = .ok (.getfield 35, 3) := by decide +kernel
theorem d1_24 : decode prog_39_method_5_code 24 = .ok (.iload_n 0, 1) := by decide +kernel
theorem d1_25 : decode prog_39_method_5_code 25 = .ok (.if_icmp .ne 6, 3) := by decide +kernel
theorem d1_31 : decode prog_39_method_5_code 31 = .ok (.iinc 3 1, 3) := by decide +kernel
theorem d1_34 : decode prog_39_method_5_code 34 = .ok (.goto (-25), 3) := by decide +kernel
theorem os1_17 {z0 : Value} {z1 : Value} {z2 : Value} {z3 : Value} {s4 : Slot} {v : Addr} (h : One s4) : storeLocals #[.val z0, .val z1, .val z2, .val z3, s4] 4 (.ref v) = some #[.val z0, .val z1, .val z2, .val z3, .val (.ref v)] := by
  rcases h with rfl | ⟨w, rfl, hw⟩
  · rfl
  · cases w <;> first | rfl | (simp [Value.category] at hw)
set_option maxRecDepth 65536 in
set_option maxHeartbeats 40000000 in
theorem own_turn {p : Program} {l : Launch} {e : Env} {R : Room} {s : State} {m : MethodId} {args : Array Value} {below : List Frame} {meth : Method} {c : Code} {T0 : State} {locs : List Loc} {cells slots : Nat} {Z : State} {a0 : Array Value} {h0 : Heap} (p1 : Int32) (b : Addr) (zn : Int32) (iv : Int32) (s4 : Slot) (w2 : Addr) (cl_b : Cell) (w3 : Int32)
    (X0 : Stand p l e R s m args below meth c T0 locs cells slots) (hx : p.tables.exec = Jvm.exec) (hZ : Z.Warmed39 s.vm) (hw : ∀ d ∈ tables_1, d.before a0 Z = true) (hby : c.code = prog_39_method_5_code) (hml : c.maxLocals = 5) (hown : s.vm.findClass "com/example/nodewright/nodewright/model/NodeId$IdType" = some m.cls) (e0 : T0.heap = h0) (Ar_b : Arr Z h0 b cl_b (.object "com/example/nodewright/nodewright/model/NodeId$IdType")) (hin16 : ¬ (iv < 0 ∨ cl_b.slots.size ≤ (iv).toNatClampNeg)) (hat16 : cl_b.slots[(iv).toNatClampNeg]? = some (.ref w2)) (hs4 : One s4) (F_letter_w2 : Fld Z h0 w2 "com/example/nodewright/nodewright/model/NodeId$IdType" "letter" "C" (.int w3)) (hc11 : iv < zn) (hc25 : ¬ (w3 = p1)) :
    ∃ (T' : State), Stand p l e R s m args below meth c T' locs cells slots ∧ T'.heap = h0 ∧
      ∀ target, Steps p.tables e below (T'.setTop (mkF m 9 #[.val (.int p1), .val (.ref b), .val (.int zn), .val (.int (iv + (1 : Int32))), .val (.ref w2)] [])) target → Steps p.tables e below (T0.setTop (mkF m 9 #[.val (.int p1), .val (.ref b), .val (.int zn), .val (.int iv), s4] [])) target := by
  obtain ⟨T4, X4, e4, st4⟩ := getF X0 hx hZ hown (host := "") (Or.inl (hw _ (List.mem_of_getElem? (i := 24) rfl))) Via.refl e0 F_letter_w2 (g := (mkF m 21 #[.val (.int p1), .val (.ref b), .val (.int zn), .val (.int iv), .val (.ref w2)] [(.ref w2)])) rfl rfl (hb hby d1_21)
  refine ⟨T4, X4, e4, fun target kt => ?_⟩
  show Steps p.tables e below (T0.setTop (mkF m 9 #[.val (.int p1), .val (.ref b), .val (.int zn), .val (.int iv), s4] [])) _
  refine XS.iloadN X0.here hx rfl (hb hby d1_9) rfl ?_
  show Steps p.tables e below (T0.setTop (mkF m 10 #[.val (.int p1), .val (.ref b), .val (.int zn), .val (.int iv), s4] [(.int iv)])) _
  refine XS.iloadN X0.here hx rfl (hb hby d1_10) rfl ?_
  show Steps p.tables e below (T0.setTop (mkF m 11 #[.val (.int p1), .val (.ref b), .val (.int zn), .val (.int iv), s4] [(.int zn), (.int iv)])) _
  refine XS.icmpNo X0.here hx rfl (hb hby d1_11) rfl (tlt hc11).2.1 ?_
  show Steps p.tables e below (T0.setTop (mkF m 14 #[.val (.int p1), .val (.ref b), .val (.int zn), .val (.int iv), s4] [])) _
  refine XS.aloadN X0.here hx rfl (hb hby d1_14) rfl rfl ?_
  show Steps p.tables e below (T0.setTop (mkF m 15 #[.val (.int p1), .val (.ref b), .val (.int zn), .val (.int iv), s4] [(.ref b)])) _
  refine XS.iloadN X0.here hx rfl (hb hby d1_15) rfl ?_
  show Steps p.tables e below (T0.setTop (mkF m 16 #[.val (.int p1), .val (.ref b), .val (.int zn), .val (.int iv), s4] [(.int iv), (.ref b)])) _
  refine X0.aaload hx (j := iv) (v := (.ref w2)) (by rw [e0]; exact Ar_b.1) (State.isArrayOf_alike hZ.alike Ar_b.2.1) rfl Ar_b.2.2 hin16 hat16 (g := (mkF m 16 #[.val (.int p1), .val (.ref b), .val (.int zn), .val (.int iv), s4] [(.int iv), (.ref b)])) rfl rfl (hb hby d1_16) _ ?_
  show Steps p.tables e below (T0.setTop (mkF m 17 #[.val (.int p1), .val (.ref b), .val (.int zn), .val (.int iv), s4] [(.ref w2)])) _
  refine XS.astore X0.here hx rfl (hb hby d1_17) rfl rfl (l' := #[.val (.int p1), .val (.ref b), .val (.int zn), .val (.int iv), .val (.ref w2)]) (os1_17 hs4) ?_
  show Steps p.tables e below (T0.setTop (mkF m 19 #[.val (.int p1), .val (.ref b), .val (.int zn), .val (.int iv), .val (.ref w2)] [])) _
  refine XS.aload X0.here hx rfl (hb hby d1_19) rfl rfl ?_
  show Steps p.tables e below (T0.setTop (mkF m 21 #[.val (.int p1), .val (.ref b), .val (.int zn), .val (.int iv), .val (.ref w2)] [(.ref w2)])) _
  refine st4 _ ?_
  show Steps p.tables e below (T4.setTop (mkF m 24 #[.val (.int p1), .val (.ref b), .val (.int zn), .val (.int iv), .val (.ref w2)] [(.int w3)])) _
  refine XS.iloadN X4.here hx rfl (hb hby d1_24) rfl ?_
  show Steps p.tables e below (T4.setTop (mkF m 25 #[.val (.int p1), .val (.ref b), .val (.int zn), .val (.int iv), .val (.ref w2)] [(.int p1), (.int w3)])) _
  refine XS.icmpYes X4.here hx rfl (pc0 := 25) (pc' := 31) rfl (hb hby d1_25) rfl (feq hc25).2 (by decide) (by decide) ?_
  show Steps p.tables e below (T4.setTop (mkF m 31 #[.val (.int p1), .val (.ref b), .val (.int zn), .val (.int iv), .val (.ref w2)] [])) _
  refine XS.iinc X4.here hx rfl (hb hby d1_31) rfl (l' := #[.val (.int p1), .val (.ref b), .val (.int zn), .val (.int (iv + (1 : Int32))), .val (.ref w2)]) rfl ?_
  show Steps p.tables e below (T4.setTop (mkF m 34 #[.val (.int p1), .val (.ref b), .val (.int zn), .val (.int (iv + (1 : Int32))), .val (.ref w2)] [])) _
  refine XS.goto X4.here hx rfl (pc0 := 34) (pc' := 9) rfl (hb hby d1_34) (by decide) (by decide) ?_
  exact kt
theorem d1_28 : decode prog_39_method_5_code 28 = .ok (.aload 4, 2) := by decide +kernel
set_option maxRecDepth 65536 in
set_option maxHeartbeats 40000000 in
theorem own_hit {p : Program} {l : Launch} {e : Env} {R : Room} {s : State} {m : MethodId} {args : Array Value} {below : List Frame} {meth : Method} {c : Code} {T0 : State} {locs : List Loc} {cells slots : Nat} {Z : State} {a0 : Array Value} {h0 : Heap} (p1 : Int32) (b : Addr) (zn : Int32) (iv : Int32) (s4 : Slot) (w2 : Addr) (cl_b : Cell) (w3 : Int32)
    (X0 : Stand p l e R s m args below meth c T0 locs cells slots) (hx : p.tables.exec = Jvm.exec) (hZ : Z.Warmed39 s.vm) (hw : ∀ d ∈ tables_1, d.before a0 Z = true) (hby : c.code = prog_39_method_5_code) (hml : c.maxLocals = 5) (hown : s.vm.findClass "com/example/nodewright/nodewright/model/NodeId$IdType" = some m.cls) (e0 : T0.heap = h0) (Ar_b : Arr Z h0 b cl_b (.object "com/example/nodewright/nodewright/model/NodeId$IdType")) (hin16 : ¬ (iv < 0 ∨ cl_b.slots.size ≤ (iv).toNatClampNeg)) (hat16 : cl_b.slots[(iv).toNatClampNeg]? = some (.ref w2)) (hs4 : One s4) (F_letter_w2 : Fld Z h0 w2 "com/example/nodewright/nodewright/model/NodeId$IdType" "letter" "C" (.int w3)) (hc11 : iv < zn) (hc25 : w3 = p1) :
    ∃ (T' : State), Stand p l e R s m args below meth c T' locs cells slots ∧ T'.heap = h0 ∧
      ∀ target, Steps p.tables e below (T'.setTop (mkF m 30 #[.val (.int p1), .val (.ref b), .val (.int zn), .val (.int iv), .val (.ref w2)] [(.ref w2)])) target → Steps p.tables e below (T0.setTop (mkF m 9 #[.val (.int p1), .val (.ref b), .val (.int zn), .val (.int iv), s4] [])) target := by
  obtain ⟨T4, X4, e4, st4⟩ := getF X0 hx hZ hown (host := "") (Or.inl (hw _ (List.mem_of_getElem? (i := 24) rfl))) Via.refl e0 F_letter_w2 (g := (mkF m 21 #[.val (.int p1), .val (.ref b), .val (.int zn), .val (.int iv), .val (.ref w2)] [(.ref w2)])) rfl rfl (hb hby d1_21)
  refine ⟨T4, X4, e4, fun target kt => ?_⟩
  show Steps p.tables e below (T0.setTop (mkF m 9 #[.val (.int p1), .val (.ref b), .val (.int zn), .val (.int iv), s4] [])) _
  refine XS.iloadN X0.here hx rfl (hb hby d1_9) rfl ?_
  show Steps p.tables e below (T0.setTop (mkF m 10 #[.val (.int p1), .val (.ref b), .val (.int zn), .val (.int iv), s4] [(.int iv)])) _
  refine XS.iloadN X0.here hx rfl (hb hby d1_10) rfl ?_
  show Steps p.tables e below (T0.setTop (mkF m 11 #[.val (.int p1), .val (.ref b), .val (.int zn), .val (.int iv), s4] [(.int zn), (.int iv)])) _
  refine XS.icmpNo X0.here hx rfl (hb hby d1_11) rfl (tlt hc11).2.1 ?_
  show Steps p.tables e below (T0.setTop (mkF m 14 #[.val (.int p1), .val (.ref b), .val (.int zn), .val (.int iv), s4] [])) _
  refine XS.aloadN X0.here hx rfl (hb hby d1_14) rfl rfl ?_
  show Steps p.tables e below (T0.setTop (mkF m 15 #[.val (.int p1), .val (.ref b), .val (.int zn), .val (.int iv), s4] [(.ref b)])) _
  refine XS.iloadN X0.here hx rfl (hb hby d1_15) rfl ?_
  show Steps p.tables e below (T0.setTop (mkF m 16 #[.val (.int p1), .val (.ref b), .val (.int zn), .val (.int iv), s4] [(.int iv), (.ref b)])) _
  refine X0.aaload hx (j := iv) (v := (.ref w2)) (by rw [e0]; exact Ar_b.1) (State.isArrayOf_alike hZ.alike Ar_b.2.1) rfl Ar_b.2.2 hin16 hat16 (g := (mkF m 16 #[.val (.int p1), .val (.ref b), .val (.int zn), .val (.int iv), s4] [(.int iv), (.ref b)])) rfl rfl (hb hby d1_16) _ ?_
  show Steps p.tables e below (T0.setTop (mkF m 17 #[.val (.int p1), .val (.ref b), .val (.int zn), .val (.int iv), s4] [(.ref w2)])) _
  refine XS.astore X0.here hx rfl (hb hby d1_17) rfl rfl (l' := #[.val (.int p1), .val (.ref b), .val (.int zn), .val (.int iv), .val (.ref w2)]) (os1_17 hs4) ?_
  show Steps p.tables e below (T0.setTop (mkF m 19 #[.val (.int p1), .val (.ref b), .val (.int zn), .val (.int iv), .val (.ref w2)] [])) _
  refine XS.aload X0.here hx rfl (hb hby d1_19) rfl rfl ?_
  show Steps p.tables e below (T0.setTop (mkF m 21 #[.val (.int p1), .val (.ref b), .val (.int zn), .val (.int iv), .val (.ref w2)] [(.ref w2)])) _
  refine st4 _ ?_
  show Steps p.tables e below (T4.setTop (mkF m 24 #[.val (.int p1), .val (.ref b), .val (.int zn), .val (.int iv), .val (.ref w2)] [(.int w3)])) _
  refine XS.iloadN X4.here hx rfl (hb hby d1_24) rfl ?_
  show Steps p.tables e below (T4.setTop (mkF m 25 #[.val (.int p1), .val (.ref b), .val (.int zn), .val (.int iv), .val (.ref w2)] [(.int p1), (.int w3)])) _
  refine XS.icmpNo X4.here hx rfl (hb hby d1_25) rfl (teq hc25).2 ?_
  show Steps p.tables e below (T4.setTop (mkF m 28 #[.val (.int p1), .val (.ref b), .val (.int zn), .val (.int iv), .val (.ref w2)] [])) _
  refine XS.aload X4.here hx rfl (hb hby d1_28) rfl rfl ?_
  exact kt
theorem d1_37 : decode prog_39_method_5_code 37 = .ok (.aconst_null, 1) := by decide +kernel
set_option maxRecDepth 65536 in
set_option maxHeartbeats 40000000 in
theorem own_end {p : Program} {l : Launch} {e : Env} {R : Room} {s : State} {m : MethodId} {args : Array Value} {below : List Frame} {meth : Method} {c : Code} {T0 : State} {locs : List Loc} {cells slots : Nat} {Z : State} {a0 : Array Value} {h0 : Heap} (p1 : Int32) (b : Addr) (zn : Int32) (iv : Int32) (s4 : Slot)
    (X0 : Stand p l e R s m args below meth c T0 locs cells slots) (hx : p.tables.exec = Jvm.exec) (hZ : Z.Warmed39 s.vm) (hw : ∀ d ∈ tables_1, d.before a0 Z = true) (hby : c.code = prog_39_method_5_code) (hml : c.maxLocals = 5) (hown : s.vm.findClass "com/example/nodewright/nodewright/model/NodeId$IdType" = some m.cls) (e0 : T0.heap = h0) (hc11 : ¬ (iv < zn)) :
    ∃ (T' : State), Stand p l e R s m args below meth c T' locs cells slots ∧ T'.heap = h0 ∧
      ∀ target, Steps p.tables e below (T'.setTop (mkF m 38 #[.val (.int p1), .val (.ref b), .val (.int zn), .val (.int iv), s4] [.null])) target → Steps p.tables e below (T0.setTop (mkF m 9 #[.val (.int p1), .val (.ref b), .val (.int zn), .val (.int iv), s4] [])) target := by

  refine ⟨T0, X0, e0, fun target kt => ?_⟩
  show Steps p.tables e below (T0.setTop (mkF m 9 #[.val (.int p1), .val (.ref b), .val (.int zn), .val (.int iv), s4] [])) _
  refine XS.iloadN X0.here hx rfl (hb hby d1_9) rfl ?_
  show Steps p.tables e below (T0.setTop (mkF m 10 #[.val (.int p1), .val (.ref b), .val (.int zn), .val (.int iv), s4] [(.int iv)])) _
  refine XS.iloadN X0.here hx rfl (hb hby d1_10) rfl ?_
  show Steps p.tables e below (T0.setTop (mkF m 11 #[.val (.int p1), .val (.ref b), .val (.int zn), .val (.int iv), s4] [(.int zn), (.int iv)])) _
  refine XS.icmpYes X0.here hx rfl (pc0 := 11) (pc' := 37) rfl (hb hby d1_11) rfl (flt hc11).2.1 (by decide) (by decide) ?_
  show Steps p.tables e below (T0.setTop (mkF m 37 #[.val (.int p1), .val (.ref b), .val (.int zn), .val (.int iv), s4] [])) _
  refine XS.aconstNull X0.here hx rfl (hb hby d1_37) ?_
  exact kt
theorem d1_30 : decode prog_39_method_5_code 30 = .ok (.areturn, 1) := by decide +kernel
theorem d1_38 : decode prog_39_method_5_code 38 = .ok (.areturn, 1) := by decide +kernel
theorem own_loop {p : Program} {l : Launch} {e : Env} {s : State} {m : MethodId} {args : Array Value} {below : List Frame} {meth : Method} {c : Code} {locs : List Loc} {Z : State} {a0 : Array Value} {h0 : Heap} (p1 : Int32) (b : Addr) (cl : Cell) (n : Nat) (hn : n ≤ 255) (hx : p.tables.exec = Jvm.exec) (hZ : Z.Warmed39 s.vm) (hw : ∀ d ∈ tables_1, d.before a0 Z = true) (hby : c.code = prog_39_method_5_code) (hml : c.maxLocals = 5) (hown : s.vm.findClass "com/example/nodewright/nodewright/model/NodeId$IdType" = some m.cls) (Ar : Arr Z h0 b cl (.object "com/example/nodewright/nodewright/model/NodeId$IdType")) (sz : cl.slots.size = n) :
    ∀ (xs : List (Addr × Int32)) (i : Nat) (T0 : State) (s4 : Slot), Stand p l e ({ frames := 2, cells := 1, slots := 4, locals := 25 } : Room) s m args below meth c T0 locs 1 4 → T0.heap = h0 → i + xs.length = n → Els Z h0 cl.slots i xs → One s4 →
    ∃ (T' : State) (pcE : Nat) (Ls : Array Slot), Stand p l e ({ frames := 2, cells := 1, slots := 4, locals := 25 } : Room) s m args below meth c T' locs 1 4 ∧ T'.heap = h0 ∧ decode prog_39_method_5_code pcE = .ok (.areturn, 1) ∧
      ∀ target, Steps p.tables e below (T'.setTop (mkF m pcE Ls [own_find p1 xs])) target → Steps p.tables e below (T0.setTop (mkF m 9 #[.val (.int p1), .val (.ref b), .val (.int (Int32.ofNat n)), .val (.int (Int32.ofNat i)), s4] [])) target := by
  intro xs
  induction xs with
  | nil =>
    intro i T0 s4 X0 e0 hi E hs
    obtain rfl : i = n := by simpa using hi
    obtain ⟨T1, X1, e1, st1⟩ := own_end p1 b (Int32.ofNat i) (Int32.ofNat i) s4 X0 hx hZ hw hby hml hown e0 Int32.lt_irrefl
    exact ⟨T1, 38, _, X1, e1, d1_38, st1⟩
  | cons q r ih =>
    obtain ⟨a, x⟩ := q
    intro i T0 s4 X0 e0 hi E hs
    obtain ⟨E1, E2, E3⟩ := E
    have hi' : i + 1 + r.length = n := by rw [List.length_cons] at hi; omega
    have hin : ¬ (Int32.ofNat i < 0 ∨ cl.slots.size ≤ (Int32.ofNat i).toNatClampNeg) := by
      rw [own_clamp (by omega), sz]
      intro h
      rcases h with h | h
      · exact own_nn (by omega) h
      · omega
    have hat : cl.slots[(Int32.ofNat i).toNatClampNeg]? = some (.ref a) := by rw [own_clamp (by omega)]; exact E1
    by_cases hc : x = p1
    · obtain ⟨T1, X1, e1, st1⟩ := own_hit p1 b (Int32.ofNat n) (Int32.ofNat i) s4 a cl x X0 hx hZ hw hby hml hown e0 Ar hin hat hs E2 (own_lt (by omega) hn) hc
      rw [own_find_yes hc]
      exact ⟨T1, 30, _, X1, e1, d1_30, st1⟩
    · obtain ⟨T1, X1, e1, st1⟩ := own_turn p1 b (Int32.ofNat n) (Int32.ofNat i) s4 a cl x X0 hx hZ hw hby hml hown e0 Ar hin hat hs E2 (own_lt (by omega) hn) hc
      rw [own_find_no hc]
      rw [own_one] at st1
      obtain ⟨T2, pcE, Ls, X2, e2, dE, st2⟩ := ih (i + 1) T1 (.val (.ref a)) X1 e1 hi' E3 (One.val rfl)
      exact ⟨T2, pcE, Ls, X2, e2, dE, fun target k => st1 _ (st2 _ k)⟩
theorem d1_0 : decode prog_39_method_5_code 0 = .ok (.invokestatic 39, 3) := by decide +kernel
theorem d1_3 : decode prog_39_method_5_code 3 = .ok (.astore_n 1, 1) := by decide +kernel
theorem d1_4 : decode prog_39_method_5_code 4 = .ok (.aload_n 1, 1) := by decide +kernel
theorem d1_5 : decode prog_39_method_5_code 5 = .ok (.arraylength, 1) := by decide +kernel
theorem d1_6 : decode prog_39_method_5_code 6 = .ok (.istore_n 2, 1) := by decide +kernel
theorem d1_7 : decode prog_39_method_5_code 7 = .ok (.iconst 0, 1) := by decide +kernel
theorem d1_8 : decode prog_39_method_5_code 8 = .ok (.istore_n 3, 1) := by decide +kernel
theorem pn_1 : plainName "com/example/nodewright/nodewright/model/NodeId$IdType" = true := by first | (simp [plainName, overriddenIn]; done) | decide +kernel
theorem pd_1_1 : parseMethodDescriptor "()[Lcom/example/nodewright/nodewright/model/NodeId$IdType;" = some ⟨[], some (.array (.object "com/example/nodewright/nodewright/model/NodeId$IdType"))⟩ := by decide +kernel
theorem ef_1 (m : MethodId) (x0 : Int32) : entryFrame m #[(.int x0)] 5 = mkF m 0 #[.val (.int x0), .unset, .unset, .unset, .unset] [] := by first | (simp [entryFrame, mkF, argsToLocals, Value.category]; done) | rfl
def Q1 (Z : State) (p1 : Int32) (xs : List (Addr × Int32)) (h0 : Heap) (n0 : Nat) (v : Option Value) (h : Heap) (L : List Loc) : Prop := v = some (own_find p1 xs) ∧ Fr n0 L ∧ Keep h0 h []
theorem own_nar {lo : Int32} {C : String} (xs : List (Addr × Int32)) : narrow (.object C) (own_find lo xs) = own_find lo xs := by
  rcases ref_cases (own_find_ref lo xs) with h | ⟨a, h⟩ <;> rw [h] <;> rfl
set_option maxRecDepth 65536 in
set_option maxHeartbeats 40000000 in
theorem rm1 (l : Launch) (Z : State) (a0 : Array Value) (hw : ∀ d ∈ tables_1, d.before a0 Z = true) (ws : List Jvm.Cond) (p1 : Int32) (h0 : Heap) (n0 : Nat) (Z0 : n0 ≤ h0.size) (w1 : Addr) (cl : Cell) (xs : List (Addr × Int32)) (S_V : Sta Z h0 "com/example/nodewright/nodewright/model/NodeId$IdType" "$VALUES" "[Lcom/example/nodewright/nodewright/model/NodeId$IdType;" (.ref w1)) (Ar_w1 : Arr Z h0 w1 cl (.object "com/example/nodewright/nodewright/model/NodeId$IdType")) (E_w1 : Exa Z h0 w1 "[Lcom/example/nodewright/nodewright/model/NodeId$IdType;") (Fc_w1 : FitC Z cl) (sz : cl.slots.size = 4) (Ex : Els Z h0 cl.slots 0 xs) (hlen : xs.length = 4) :
    MetFree l (⟨"com/example/nodewright/nodewright/model/NodeId$IdType", "forLetter", "(C)Lcom/example/nodewright/nodewright/model/NodeId$IdType;"⟩ : MethodName) (head1 (Jvm.Cond.code (⟨"com/example/nodewright/nodewright/model/NodeId$IdType", "forLetter", "(C)Lcom/example/nodewright/nodewright/model/NodeId$IdType;"⟩ : MethodName) prog_39_method_5_code 5 (some (.object "com/example/nodewright/nodewright/model/NodeId$IdType")) :: ws) ({ frames := 2, cells := 1, slots := 4, locals := 25 } : Room)) (fun a U => a = #[(.int p1)] ∧ Z.Warmed39 U.vm ∧ U.heap = h0) (fun _ _ _ _ _ => True) (fun _ U o U' => ∃ v L, o = .returned v ∧ Q1 Z p1 xs h0 n0 v U'.heap L ∧ FrameEnd U o U' L ({ frames := 2, cells := 1, slots := 4, locals := 25 } : Room).cells ({ frames := 2, cells := 1, slots := 4, locals := 25 } : Room).slots) := by
  refine MetFree.of_bodySF (plainFor_of_name pn_1) hisR ?_
  intro p e s m args below meth c s₁ Bd hml0 hP hK
  obtain ⟨rfl, hZ, hh⟩ := hP
  have hx := Bd.exec
  have hby := Bd.bytes
  have hml : c.maxLocals = 5 := hml0
  have hown : s.vm.findClass "com/example/nodewright/nodewright/model/NodeId$IdType" = some m.cls := findClass_of_methodNamed Bd.named
  have hnm := (name_of_methodNamed Bd.named Bd.method).1
  have X0 : Stand p l e ({ frames := 2, cells := 1, slots := 4, locals := 25 } : Room) s m #[(.int p1)] below meth c s₁ [] 0 0 := Stand.of_body Bd
  have e0 : s₁.heap = h0 := by rw [← hh, Bd.state]; rfl
  have N0 := Fr.nil n0
  have pre0 : ∀ t, Steps p.tables e below (s₁.setTop (mkF m 0 #[.val (.int p1), .unset, .unset, .unset, .unset] [])) t → Steps p.tables e below (s₁.setTop (entryFrame m #[(.int p1)] 5)) t := fun t k => castTop (ef_1 m p1) k
  obtain ⟨_, _, ⟨T2, L2, k2, n2⟩, -, X2, ⟨Lc2, hQ2, l2, y2, z2⟩, st2⟩ := Jvm.LawKit.callS X0 hx (y := (⟨"com/example/nodewright/nodewright/model/NodeId$IdType", "values", "()[Lcom/example/nodewright/nodewright/model/NodeId$IdType;"⟩ : MethodName)) hown (mvT hZ (hw _ (List.mem_of_getElem? (i := 6) rfl))) (mvT hZ (hw _ (List.mem_of_getElem? (i := 7) rfl))) (mvT hZ (hw _ (List.mem_of_getElem? (i := 1) rfl))) (mvT hZ (hw _ (List.mem_of_getElem? (i := 8) rfl))) (by decide) (backOf (W := 0) (rm2 l Z a0 hw [] w1 cl h0 n0 Z0 S_V Ar_w1 E_w1 Fc_w1 sz) hZ (hw _ (List.mem_of_getElem? (i := 8) rfl)) (hw _ (List.mem_of_getElem? (i := 1) rfl)) (by decide) (by decide)) (g := (mkF m 0 #[.val (.int p1), .unset, .unset, .unset, .unset] [])) rfl (by rw [hml]; rfl) (argsL := []) (rest := []) (lenOf pd_1_1 rfl) rfl (by show 2 * 0 + _ ≤ _; exact Nat.le_of_eq rfl) (hb hby d1_0) (fun _ _ => ⟨rfl, e0, (Nat.le_of_ble_eq_true rfl), (Nat.le_of_ble_eq_true rfl)⟩)
  dsimp only [Pt.U, Pt.locs, Pt.cells, Pt.slots] at X2 l2 y2 z2 st2 hQ2
  subst l2 y2 z2
  obtain ⟨b2, rfl, N2q, K2q, A2⟩ := hQ2
  have N2 := Fr.app N0 N2q
  have S2 : (cloneOf cl).slots.size = (Int32.ofNat 4).toNatClampNeg := by rw [own_clamp (by decide)]; exact sz
  obtain ⟨T3, pcE, Ls, X3, e3, dE, st3⟩ := own_loop p1 b2 (cloneOf cl) 4 (by decide) hx hZ hw hby hml hown A2 sz xs 0 T2 .unset X2 rfl (by omega) (Els.ext (own_ext K2q) xs 0 Ex) One.u
  obtain ⟨fs, hr, hrun, hended, hW, hsame⟩ := X3.leave (v := some (own_find p1 xs)) (fun h => by rw [Bd.returns] at h; cases h)
  refine ⟨_, _, pre0 _ ?_, hrun, hended, _, _, rfl, ?_, ⟨_, rfl⟩, hW, hsame.mono (by decide) (by decide)⟩
  · show Steps p.tables e below (s₁.setTop (mkF m 0 #[.val (.int p1), .unset, .unset, .unset, .unset] [])) _
    refine st2 _ ?_
    show Steps p.tables e below (T2.setTop (mkF m 3 #[.val (.int p1), .unset, .unset, .unset, .unset] [(.ref b2)])) _
    refine XS.astoreN X2.here hx rfl (hb hby d1_3) rfl rfl (l' := #[.val (.int p1), .val (.ref b2), .unset, .unset, .unset]) rfl ?_
    show Steps p.tables e below (T2.setTop (mkF m 4 #[.val (.int p1), .val (.ref b2), .unset, .unset, .unset] [])) _
    refine XS.aloadN X2.here hx rfl (hb hby d1_4) rfl rfl ?_
    show Steps p.tables e below (T2.setTop (mkF m 5 #[.val (.int p1), .val (.ref b2), .unset, .unset, .unset] [(.ref b2)])) _
    refine X2.arraylength hx (A2.1) (State.isArrayOf_alike hZ.alike A2.2.1) (g := (mkF m 5 #[.val (.int p1), .val (.ref b2), .unset, .unset, .unset] [(.ref b2)])) rfl rfl (hb hby d1_5) _ ?_
    rw [len_of S2 (own_nn (by decide))]
    show Steps p.tables e below (T2.setTop (mkF m 6 #[.val (.int p1), .val (.ref b2), .unset, .unset, .unset] [(.int (Int32.ofNat 4))])) _
    refine XS.istoreN X2.here hx rfl (hb hby d1_6) rfl (l' := #[.val (.int p1), .val (.ref b2), .val (.int (Int32.ofNat 4)), .unset, .unset]) rfl ?_
    show Steps p.tables e below (T2.setTop (mkF m 7 #[.val (.int p1), .val (.ref b2), .val (.int (Int32.ofNat 4)), .unset, .unset] [])) _
    refine XS.iconst X2.here hx rfl (hb hby d1_7) ?_
    show Steps p.tables e below (T2.setTop (mkF m 8 #[.val (.int p1), .val (.ref b2), .val (.int (Int32.ofNat 4)), .unset, .unset] [(.int (0 : Int32))])) _
    refine XS.istoreN X2.here hx rfl (hb hby d1_8) rfl (l' := #[.val (.int p1), .val (.ref b2), .val (.int (Int32.ofNat 4)), .val (.int (0 : Int32)), .unset]) rfl ?_
    show Steps p.tables e below (T2.setTop (mkF m 9 #[.val (.int p1), .val (.ref b2), .val (.int (Int32.ofNat 4)), .val (.int (0 : Int32)), .unset] [])) _
    refine st3 _ ?_
    exact retOut X3 hx Bd.returns (own_nar _) (Or.inr (Or.inr (Or.inr (Or.inr ⟨rfl, rfl, own_find_ref _ _⟩)))) (hb hby dE) hr
  · show Q1 Z p1 xs h0 n0 _ T3.heap _
    rw [e3]
    exact ⟨rfl, N2, K2q⟩
theorem d3_0 : decode prog_39_method_4_code 0 = .ok (.aload_n 0, 1) := by decide +kernel
theorem d3_1 : decode prog_39_method_4_code 1 = .ok (.getfield 35, 3) := by decide +kernel
theorem d3_4 : decode prog_39_method_4_code 4 = .ok (.ireturn, 1) := by decide +kernel
theorem pn_3 : plainName "com/example/nodewright/nodewright/model/NodeId$IdType" = true := by first | (simp [plainName, overriddenIn]; done) | decide +kernel
theorem ef_3 (m : MethodId) (x0 : Addr) : entryFrame m #[(.ref x0)] 1 = mkF m 0 #[.val (.ref x0)] [] := by first | (simp [entryFrame, mkF, argsToLocals, Value.category]; done) | rfl
def Q3 (Z : State) (a1 : Addr) (w2 : Int32) (h0 : Heap) (n0 : Nat) (v : Option Value) (h : Heap) (L : List Loc) : Prop := v = some (.int (nar .char w2)) ∧ Fr n0 L ∧ h = h0
set_option maxRecDepth 65536 in
set_option maxHeartbeats 40000000 in
theorem rm3 (l : Launch) (Z : State) (a0 : Array Value) (hw : ∀ d ∈ tables_1, d.before a0 Z = true) (ws : List Jvm.Cond) (a1 : Addr) (w2 : Int32) (h0 : Heap) (n0 : Nat) (Z0 : n0 ≤ h0.size) (F_letter_a1 : Fld Z h0 a1 "com/example/nodewright/nodewright/model/NodeId$IdType" "letter" "C" (.int w2)) :
    MetFree l (⟨"com/example/nodewright/nodewright/model/NodeId$IdType", "letter", "()C"⟩ : MethodName) (head1 (Jvm.Cond.code (⟨"com/example/nodewright/nodewright/model/NodeId$IdType", "letter", "()C"⟩ : MethodName) prog_39_method_4_code 1 (some .char) :: ws) ({ frames := 0, cells := 0, slots := 0, locals := 0 } : Room)) (fun a U => a = #[(.ref a1)] ∧ Z.Warmed39 U.vm ∧ U.heap = h0) (fun _ _ _ _ _ => True) (fun _ U o U' => ∃ v L, o = .returned v ∧ Q3 Z a1 w2 h0 n0 v U'.heap L ∧ FrameEnd U o U' L ({ frames := 0, cells := 0, slots := 0, locals := 0 } : Room).cells ({ frames := 0, cells := 0, slots := 0, locals := 0 } : Room).slots) := by
  refine MetFree.of_bodySF (plainFor_of_name pn_3) hisR ?_
  intro p e s m args below meth c s₁ Bd hml0 hP hK
  obtain ⟨rfl, hZ, hh⟩ := hP
  have hx := Bd.exec
  have hby := Bd.bytes
  have hml : c.maxLocals = 1 := hml0
  have hown : s.vm.findClass "com/example/nodewright/nodewright/model/NodeId$IdType" = some m.cls := findClass_of_methodNamed Bd.named
  have hnm := (name_of_methodNamed Bd.named Bd.method).1
  have X0 : Stand p l e ({ frames := 0, cells := 0, slots := 0, locals := 0 } : Room) s m #[(.ref a1)] below meth c s₁ [] 0 0 := Stand.of_body Bd
  have e0 : s₁.heap = h0 := by rw [← hh, Bd.state]; rfl
  have N0 := Fr.nil n0
  have pre0 : ∀ t, Steps p.tables e below (s₁.setTop (mkF m 0 #[.val (.ref a1)] [])) t → Steps p.tables e below (s₁.setTop (entryFrame m #[(.ref a1)] 1)) t := fun t k => castTop (ef_3 m a1) k
  obtain ⟨T3, X3, e3, st3⟩ := getF X0 hx hZ hown (host := "") (Or.inl (hw _ (List.mem_of_getElem? (i := 24) rfl))) Via.refl e0 F_letter_a1 (g := (mkF m 1 #[.val (.ref a1)] [(.ref a1)])) rfl rfl (hb hby d3_1)
  obtain ⟨fs, hr, hrun, hended, hW, hsame⟩ := X3.leave (v := some (.int (nar .char w2))) (fun h => by rw [Bd.returns] at h; cases h)
  refine ⟨_, _, pre0 _ ?_, hrun, hended, _, _, rfl, ?_, ⟨_, rfl⟩, hW, hsame.mono (by decide) (by decide)⟩
  · show Steps p.tables e below (s₁.setTop (mkF m 0 #[.val (.ref a1)] [])) _
    refine XS.aloadN X0.here hx rfl (hb hby d3_0) rfl rfl ?_
    show Steps p.tables e below (s₁.setTop (mkF m 1 #[.val (.ref a1)] [(.ref a1)])) _
    refine st3 _ ?_
    show Steps p.tables e below (T3.setTop (mkF m 4 #[.val (.ref a1)] [(.int w2)])) _
    exact retN X3 hx (t := .char) Bd.returns (by simp) (hb hby d3_4) hr
  · show Q3 Z a1 w2 h0 n0 _ T3.heap _
    rw [e3]
    exact ⟨rfl, N0, rfl⟩

set_option maxRecDepth 65536 in
set_option maxHeartbeats 40000000 in
theorem own_a0 {p : Program} {l : Launch} {e : Env} {s : State} {m : MethodId} {args : Array Value} {below : List Frame} {meth : Method} {c : Code} {T0 : State} {locs : List Loc} {Z : State} {a0 : Array Value} {h0 : Heap} {n0 : Nat} (p1 : Int32) (p2 : Int32)
    (X0 : Stand p l e room_1 s m args below meth c T0 locs 0 0) (hx : p.tables.exec = Jvm.exec) (hZ : Z.Warmed39 s.vm) (hw : ∀ d ∈ tables_1, d.before a0 Z = true) (hby : c.code = code) (hml : c.maxLocals = 6) (hown : s.vm.findClass "com/example/nodewright/nodewright/model/IdTypeForLetterPinLaw" = some m.cls) (e0 : T0.heap = h0) (Z0 : n0 ≤ h0.size) (N0 : Fr n0 locs) (hc6 : (p2 &&& (7 : Int32)) = (0 : Int32)) :
    ∃ (T' : State) (locs' : List Loc) (cc : Int32), Stand p l e room_1 s m args below meth c T' locs' 0 0 ∧ Fr n0 locs' ∧ T'.heap = h0 ∧
      ∀ target, Steps p.tables e below (T'.setTop (mkF m 51 #[.val (.int p1), .val (.int p2), .val (.int (p2 &&& (7 : Int32))), .val (.int cc), .unset, .unset] [])) target → Steps p.tables e below (T0.setTop (mkF m 0 #[.val (.int p1), .val (.int p2), .unset, .unset, .unset, .unset] [])) target := by

  refine ⟨T0, _, (105 : Int32), X0, N0, e0, fun target kt => ?_⟩
  show Steps p.tables e below (T0.setTop (mkF m 0 #[.val (.int p1), .val (.int p2), .unset, .unset, .unset, .unset] [])) _
  refine XS.iloadN X0.here hx rfl (hb hby at_0) rfl ?_
  show Steps p.tables e below (T0.setTop (mkF m 1 #[.val (.int p1), .val (.int p2), .unset, .unset, .unset, .unset] [(.int p2)])) _
  refine XS.bipush X0.here hx rfl (hb hby at_1) ?_
  show Steps p.tables e below (T0.setTop (mkF m 3 #[.val (.int p1), .val (.int p2), .unset, .unset, .unset, .unset] [(.int (7 : Int32)), (.int p2)])) _
  refine XS.iand X0.here hx rfl (hb hby at_3) rfl ?_
  show Steps p.tables e below (T0.setTop (mkF m 4 #[.val (.int p1), .val (.int p2), .unset, .unset, .unset, .unset] [(.int (p2 &&& (7 : Int32)))])) _
  refine XS.istoreN X0.here hx rfl (hb hby at_4) rfl (l' := #[.val (.int p1), .val (.int p2), .val (.int (p2 &&& (7 : Int32))), .unset, .unset, .unset]) rfl ?_
  show Steps p.tables e below (T0.setTop (mkF m 5 #[.val (.int p1), .val (.int p2), .val (.int (p2 &&& (7 : Int32))), .unset, .unset, .unset] [])) _
  refine XS.iloadN X0.here hx rfl (hb hby at_5) rfl ?_
  show Steps p.tables e below (T0.setTop (mkF m 6 #[.val (.int p1), .val (.int p2), .val (.int (p2 &&& (7 : Int32))), .unset, .unset, .unset] [(.int (p2 &&& (7 : Int32)))])) _
  refine XS.ifNo X0.here hx rfl (hb hby at_6) rfl ((if0 _ _).trans (teq hc6).2) ?_
  show Steps p.tables e below (T0.setTop (mkF m 9 #[.val (.int p1), .val (.int p2), .val (.int (p2 &&& (7 : Int32))), .unset, .unset, .unset] [])) _
  refine XS.bipush X0.here hx rfl (hb hby at_9) ?_
  show Steps p.tables e below (T0.setTop (mkF m 11 #[.val (.int p1), .val (.int p2), .val (.int (p2 &&& (7 : Int32))), .unset, .unset, .unset] [(.int (105 : Int32))])) _
  refine XS.istoreN X0.here hx rfl (hb hby at_11) rfl (l' := #[.val (.int p1), .val (.int p2), .val (.int (p2 &&& (7 : Int32))), .val (.int (105 : Int32)), .unset, .unset]) rfl ?_
  show Steps p.tables e below (T0.setTop (mkF m 12 #[.val (.int p1), .val (.int p2), .val (.int (p2 &&& (7 : Int32))), .val (.int (105 : Int32)), .unset, .unset] [])) _
  refine XS.goto X0.here hx rfl (pc0 := 12) (pc' := 51) rfl (hb hby at_12) (by decide) (by decide) ?_
  exact kt

set_option maxRecDepth 65536 in
set_option maxHeartbeats 40000000 in
theorem own_a1 {p : Program} {l : Launch} {e : Env} {s : State} {m : MethodId} {args : Array Value} {below : List Frame} {meth : Method} {c : Code} {T0 : State} {locs : List Loc} {Z : State} {a0 : Array Value} {h0 : Heap} {n0 : Nat} (p1 : Int32) (p2 : Int32)
    (X0 : Stand p l e room_1 s m args below meth c T0 locs 0 0) (hx : p.tables.exec = Jvm.exec) (hZ : Z.Warmed39 s.vm) (hw : ∀ d ∈ tables_1, d.before a0 Z = true) (hby : c.code = code) (hml : c.maxLocals = 6) (hown : s.vm.findClass "com/example/nodewright/nodewright/model/IdTypeForLetterPinLaw" = some m.cls) (e0 : T0.heap = h0) (Z0 : n0 ≤ h0.size) (N0 : Fr n0 locs) (hc6 : ¬ ((p2 &&& (7 : Int32)) = (0 : Int32))) (hc17 : (p2 &&& (7 : Int32)) = (1 : Int32)) :
    ∃ (T' : State) (locs' : List Loc) (cc : Int32), Stand p l e room_1 s m args below meth c T' locs' 0 0 ∧ Fr n0 locs' ∧ T'.heap = h0 ∧
      ∀ target, Steps p.tables e below (T'.setTop (mkF m 51 #[.val (.int p1), .val (.int p2), .val (.int (p2 &&& (7 : Int32))), .val (.int cc), .unset, .unset] [])) target → Steps p.tables e below (T0.setTop (mkF m 0 #[.val (.int p1), .val (.int p2), .unset, .unset, .unset, .unset] [])) target := by

  refine ⟨T0, _, (115 : Int32), X0, N0, e0, fun target kt => ?_⟩
  show Steps p.tables e below (T0.setTop (mkF m 0 #[.val (.int p1), .val (.int p2), .unset, .unset, .unset, .unset] [])) _
  refine XS.iloadN X0.here hx rfl (hb hby at_0) rfl ?_
  show Steps p.tables e below (T0.setTop (mkF m 1 #[.val (.int p1), .val (.int p2), .unset, .unset, .unset, .unset] [(.int p2)])) _
  refine XS.bipush X0.here hx rfl (hb hby at_1) ?_
  show Steps p.tables e below (T0.setTop (mkF m 3 #[.val (.int p1), .val (.int p2), .unset, .unset, .unset, .unset] [(.int (7 : Int32)), (.int p2)])) _
  refine XS.iand X0.here hx rfl (hb hby at_3) rfl ?_
  show Steps p.tables e below (T0.setTop (mkF m 4 #[.val (.int p1), .val (.int p2), .unset, .unset, .unset, .unset] [(.int (p2 &&& (7 : Int32)))])) _
  refine XS.istoreN X0.here hx rfl (hb hby at_4) rfl (l' := #[.val (.int p1), .val (.int p2), .val (.int (p2 &&& (7 : Int32))), .unset, .unset, .unset]) rfl ?_
  show Steps p.tables e below (T0.setTop (mkF m 5 #[.val (.int p1), .val (.int p2), .val (.int (p2 &&& (7 : Int32))), .unset, .unset, .unset] [])) _
  refine XS.iloadN X0.here hx rfl (hb hby at_5) rfl ?_
  show Steps p.tables e below (T0.setTop (mkF m 6 #[.val (.int p1), .val (.int p2), .val (.int (p2 &&& (7 : Int32))), .unset, .unset, .unset] [(.int (p2 &&& (7 : Int32)))])) _
  refine XS.ifYes X0.here hx rfl (pc0 := 6) (pc' := 15) rfl (hb hby at_6) rfl ((if0 _ _).trans (feq hc6).2) (by decide) (by decide) ?_
  show Steps p.tables e below (T0.setTop (mkF m 15 #[.val (.int p1), .val (.int p2), .val (.int (p2 &&& (7 : Int32))), .unset, .unset, .unset] [])) _
  refine XS.iloadN X0.here hx rfl (hb hby at_15) rfl ?_
  show Steps p.tables e below (T0.setTop (mkF m 16 #[.val (.int p1), .val (.int p2), .val (.int (p2 &&& (7 : Int32))), .unset, .unset, .unset] [(.int (p2 &&& (7 : Int32)))])) _
  refine XS.iconst X0.here hx rfl (hb hby at_16) ?_
  show Steps p.tables e below (T0.setTop (mkF m 17 #[.val (.int p1), .val (.int p2), .val (.int (p2 &&& (7 : Int32))), .unset, .unset, .unset] [(.int (1 : Int32)), (.int (p2 &&& (7 : Int32)))])) _
  refine XS.icmpNo X0.here hx rfl (hb hby at_17) rfl (teq hc17).2 ?_
  show Steps p.tables e below (T0.setTop (mkF m 20 #[.val (.int p1), .val (.int p2), .val (.int (p2 &&& (7 : Int32))), .unset, .unset, .unset] [])) _
  refine XS.bipush X0.here hx rfl (hb hby at_20) ?_
  show Steps p.tables e below (T0.setTop (mkF m 22 #[.val (.int p1), .val (.int p2), .val (.int (p2 &&& (7 : Int32))), .unset, .unset, .unset] [(.int (115 : Int32))])) _
  refine XS.istoreN X0.here hx rfl (hb hby at_22) rfl (l' := #[.val (.int p1), .val (.int p2), .val (.int (p2 &&& (7 : Int32))), .val (.int (115 : Int32)), .unset, .unset]) rfl ?_
  show Steps p.tables e below (T0.setTop (mkF m 23 #[.val (.int p1), .val (.int p2), .val (.int (p2 &&& (7 : Int32))), .val (.int (115 : Int32)), .unset, .unset] [])) _
  refine XS.goto X0.here hx rfl (pc0 := 23) (pc' := 51) rfl (hb hby at_23) (by decide) (by decide) ?_
  exact kt

set_option maxRecDepth 65536 in
set_option maxHeartbeats 40000000 in
theorem own_a2 {p : Program} {l : Launch} {e : Env} {s : State} {m : MethodId} {args : Array Value} {below : List Frame} {meth : Method} {c : Code} {T0 : State} {locs : List Loc} {Z : State} {a0 : Array Value} {h0 : Heap} {n0 : Nat} (p1 : Int32) (p2 : Int32)
    (X0 : Stand p l e room_1 s m args below meth c T0 locs 0 0) (hx : p.tables.exec = Jvm.exec) (hZ : Z.Warmed39 s.vm) (hw : ∀ d ∈ tables_1, d.before a0 Z = true) (hby : c.code = code) (hml : c.maxLocals = 6) (hown : s.vm.findClass "com/example/nodewright/nodewright/model/IdTypeForLetterPinLaw" = some m.cls) (e0 : T0.heap = h0) (Z0 : n0 ≤ h0.size) (N0 : Fr n0 locs) (hc6 : ¬ ((p2 &&& (7 : Int32)) = (0 : Int32))) (hc17 : ¬ ((p2 &&& (7 : Int32)) = (1 : Int32))) (hc28 : (p2 &&& (7 : Int32)) = (2 : Int32)) :
    ∃ (T' : State) (locs' : List Loc) (cc : Int32), Stand p l e room_1 s m args below meth c T' locs' 0 0 ∧ Fr n0 locs' ∧ T'.heap = h0 ∧
      ∀ target, Steps p.tables e below (T'.setTop (mkF m 51 #[.val (.int p1), .val (.int p2), .val (.int (p2 &&& (7 : Int32))), .val (.int cc), .unset, .unset] [])) target → Steps p.tables e below (T0.setTop (mkF m 0 #[.val (.int p1), .val (.int p2), .unset, .unset, .unset, .unset] [])) target := by

  refine ⟨T0, _, (103 : Int32), X0, N0, e0, fun target kt => ?_⟩
  show Steps p.tables e below (T0.setTop (mkF m 0 #[.val (.int p1), .val (.int p2), .unset, .unset, .unset, .unset] [])) _
  refine XS.iloadN X0.here hx rfl (hb hby at_0) rfl ?_
  show Steps p.tables e below (T0.setTop (mkF m 1 #[.val (.int p1), .val (.int p2), .unset, .unset, .unset, .unset] [(.int p2)])) _
  refine XS.bipush X0.here hx rfl (hb hby at_1) ?_
  show Steps p.tables e below (T0.setTop (mkF m 3 #[.val (.int p1), .val (.int p2), .unset, .unset, .unset, .unset] [(.int (7 : Int32)), (.int p2)])) _
  refine XS.iand X0.here hx rfl (hb hby at_3) rfl ?_
  show Steps p.tables e below (T0.setTop (mkF m 4 #[.val (.int p1), .val (.int p2), .unset, .unset, .unset, .unset] [(.int (p2 &&& (7 : Int32)))])) _
  refine XS.istoreN X0.here hx rfl (hb hby at_4) rfl (l' := #[.val (.int p1), .val (.int p2), .val (.int (p2 &&& (7 : Int32))), .unset, .unset, .unset]) rfl ?_
  show Steps p.tables e below (T0.setTop (mkF m 5 #[.val (.int p1), .val (.int p2), .val (.int (p2 &&& (7 : Int32))), .unset, .unset, .unset] [])) _
  refine XS.iloadN X0.here hx rfl (hb hby at_5) rfl ?_
  show Steps p.tables e below (T0.setTop (mkF m 6 #[.val (.int p1), .val (.int p2), .val (.int (p2 &&& (7 : Int32))), .unset, .unset, .unset] [(.int (p2 &&& (7 : Int32)))])) _
  refine XS.ifYes X0.here hx rfl (pc0 := 6) (pc' := 15) rfl (hb hby at_6) rfl ((if0 _ _).trans (feq hc6).2) (by decide) (by decide) ?_
  show Steps p.tables e below (T0.setTop (mkF m 15 #[.val (.int p1), .val (.int p2), .val (.int (p2 &&& (7 : Int32))), .unset, .unset, .unset] [])) _
  refine XS.iloadN X0.here hx rfl (hb hby at_15) rfl ?_
  show Steps p.tables e below (T0.setTop (mkF m 16 #[.val (.int p1), .val (.int p2), .val (.int (p2 &&& (7 : Int32))), .unset, .unset, .unset] [(.int (p2 &&& (7 : Int32)))])) _
  refine XS.iconst X0.here hx rfl (hb hby at_16) ?_
  show Steps p.tables e below (T0.setTop (mkF m 17 #[.val (.int p1), .val (.int p2), .val (.int (p2 &&& (7 : Int32))), .unset, .unset, .unset] [(.int (1 : Int32)), (.int (p2 &&& (7 : Int32)))])) _
  refine XS.icmpYes X0.here hx rfl (pc0 := 17) (pc' := 26) rfl (hb hby at_17) rfl (feq hc17).2 (by decide) (by decide) ?_
  show Steps p.tables e below (T0.setTop (mkF m 26 #[.val (.int p1), .val (.int p2), .val (.int (p2 &&& (7 : Int32))), .unset, .unset, .unset] [])) _
  refine XS.iloadN X0.here hx rfl (hb hby at_26) rfl ?_
  show Steps p.tables e below (T0.setTop (mkF m 27 #[.val (.int p1), .val (.int p2), .val (.int (p2 &&& (7 : Int32))), .unset, .unset, .unset] [(.int (p2 &&& (7 : Int32)))])) _
  refine XS.iconst X0.here hx rfl (hb hby at_27) ?_
  show Steps p.tables e below (T0.setTop (mkF m 28 #[.val (.int p1), .val (.int p2), .val (.int (p2 &&& (7 : Int32))), .unset, .unset, .unset] [(.int (2 : Int32)), (.int (p2 &&& (7 : Int32)))])) _
  refine XS.icmpNo X0.here hx rfl (hb hby at_28) rfl (teq hc28).2 ?_
  show Steps p.tables e below (T0.setTop (mkF m 31 #[.val (.int p1), .val (.int p2), .val (.int (p2 &&& (7 : Int32))), .unset, .unset, .unset] [])) _
  refine XS.bipush X0.here hx rfl (hb hby at_31) ?_
  show Steps p.tables e below (T0.setTop (mkF m 33 #[.val (.int p1), .val (.int p2), .val (.int (p2 &&& (7 : Int32))), .unset, .unset, .unset] [(.int (103 : Int32))])) _
  refine XS.istoreN X0.here hx rfl (hb hby at_33) rfl (l' := #[.val (.int p1), .val (.int p2), .val (.int (p2 &&& (7 : Int32))), .val (.int (103 : Int32)), .unset, .unset]) rfl ?_
  show Steps p.tables e below (T0.setTop (mkF m 34 #[.val (.int p1), .val (.int p2), .val (.int (p2 &&& (7 : Int32))), .val (.int (103 : Int32)), .unset, .unset] [])) _
  refine XS.goto X0.here hx rfl (pc0 := 34) (pc' := 51) rfl (hb hby at_34) (by decide) (by decide) ?_
  exact kt

set_option maxRecDepth 65536 in
set_option maxHeartbeats 40000000 in
theorem own_a3 {p : Program} {l : Launch} {e : Env} {s : State} {m : MethodId} {args : Array Value} {below : List Frame} {meth : Method} {c : Code} {T0 : State} {locs : List Loc} {Z : State} {a0 : Array Value} {h0 : Heap} {n0 : Nat} (p1 : Int32) (p2 : Int32)
    (X0 : Stand p l e room_1 s m args below meth c T0 locs 0 0) (hx : p.tables.exec = Jvm.exec) (hZ : Z.Warmed39 s.vm) (hw : ∀ d ∈ tables_1, d.before a0 Z = true) (hby : c.code = code) (hml : c.maxLocals = 6) (hown : s.vm.findClass "com/example/nodewright/nodewright/model/IdTypeForLetterPinLaw" = some m.cls) (e0 : T0.heap = h0) (Z0 : n0 ≤ h0.size) (N0 : Fr n0 locs) (hc6 : ¬ ((p2 &&& (7 : Int32)) = (0 : Int32))) (hc17 : ¬ ((p2 &&& (7 : Int32)) = (1 : Int32))) (hc28 : ¬ ((p2 &&& (7 : Int32)) = (2 : Int32))) (hc39 : (p2 &&& (7 : Int32)) = (3 : Int32)) :
    ∃ (T' : State) (locs' : List Loc) (cc : Int32), Stand p l e room_1 s m args below meth c T' locs' 0 0 ∧ Fr n0 locs' ∧ T'.heap = h0 ∧
      ∀ target, Steps p.tables e below (T'.setTop (mkF m 51 #[.val (.int p1), .val (.int p2), .val (.int (p2 &&& (7 : Int32))), .val (.int cc), .unset, .unset] [])) target → Steps p.tables e below (T0.setTop (mkF m 0 #[.val (.int p1), .val (.int p2), .unset, .unset, .unset, .unset] [])) target := by

  refine ⟨T0, _, (98 : Int32), X0, N0, e0, fun target kt => ?_⟩
  show Steps p.tables e below (T0.setTop (mkF m 0 #[.val (.int p1), .val (.int p2), .unset, .unset, .unset, .unset] [])) _
  refine XS.iloadN X0.here hx rfl (hb hby at_0) rfl ?_
  show Steps p.tables e below (T0.setTop (mkF m 1 #[.val (.int p1), .val (.int p2), .unset, .unset, .unset, .unset] [(.int p2)])) _
  refine XS.bipush X0.here hx rfl (hb hby at_1) ?_
  show Steps p.tables e below (T0.setTop (mkF m 3 #[.val (.int p1), .val (.int p2), .unset, .unset, .unset, .unset] [(.int (7 : Int32)), (.int p2)])) _
  refine XS.iand X0.here hx rfl (hb hby at_3) rfl ?_
  show Steps p.tables e below (T0.setTop (mkF m 4 #[.val (.int p1), .val (.int p2), .unset, .unset, .unset, .unset] [(.int (p2 &&& (7 : Int32)))])) _
  refine XS.istoreN X0.here hx rfl (hb hby at_4) rfl (l' := #[.val (.int p1), .val (.int p2), .val (.int (p2 &&& (7 : Int32))), .unset, .unset, .unset]) rfl ?_
  show Steps p.tables e below (T0.setTop (mkF m 5 #[.val (.int p1), .val (.int p2), .val (.int (p2 &&& (7 : Int32))), .unset, .unset, .unset] [])) _
  refine XS.iloadN X0.here hx rfl (hb hby at_5) rfl ?_
  show Steps p.tables e below (T0.setTop (mkF m 6 #[.val (.int p1), .val (.int p2), .val (.int (p2 &&& (7 : Int32))), .unset, .unset, .unset] [(.int (p2 &&& (7 : Int32)))])) _
  refine XS.ifYes X0.here hx rfl (pc0 := 6) (pc' := 15) rfl (hb hby at_6) rfl ((if0 _ _).trans (feq hc6).2) (by decide) (by decide) ?_
  show Steps p.tables e below (T0.setTop (mkF m 15 #[.val (.int p1), .val (.int p2), .val (.int (p2 &&& (7 : Int32))), .unset, .unset, .unset] [])) _
  refine XS.iloadN X0.here hx rfl (hb hby at_15) rfl ?_
  show Steps p.tables e below (T0.setTop (mkF m 16 #[.val (.int p1), .val (.int p2), .val (.int (p2 &&& (7 : Int32))), .unset, .unset, .unset] [(.int (p2 &&& (7 : Int32)))])) _
  refine XS.iconst X0.here hx rfl (hb hby at_16) ?_
  show Steps p.tables e below (T0.setTop (mkF m 17 #[.val (.int p1), .val (.int p2), .val (.int (p2 &&& (7 : Int32))), .unset, .unset, .unset] [(.int (1 : Int32)), (.int (p2 &&& (7 : Int32)))])) _
  refine XS.icmpYes X0.here hx rfl (pc0 := 17) (pc' := 26) rfl (hb hby at_17) rfl (feq hc17).2 (by decide) (by decide) ?_
  show Steps p.tables e below (T0.setTop (mkF m 26 #[.val (.int p1), .val (.int p2), .val (.int (p2 &&& (7 : Int32))), .unset, .unset, .unset] [])) _
  refine XS.iloadN X0.here hx rfl (hb hby at_26) rfl ?_
  show Steps p.tables e below (T0.setTop (mkF m 27 #[.val (.int p1), .val (.int p2), .val (.int (p2 &&& (7 : Int32))), .unset, .unset, .unset] [(.int (p2 &&& (7 : Int32)))])) _
  refine XS.iconst X0.here hx rfl (hb hby at_27) ?_
  show Steps p.tables e below (T0.setTop (mkF m 28 #[.val (.int p1), .val (.int p2), .val (.int (p2 &&& (7 : Int32))), .unset, .unset, .unset] [(.int (2 : Int32)), (.int (p2 &&& (7 : Int32)))])) _
  refine XS.icmpYes X0.here hx rfl (pc0 := 28) (pc' := 37) rfl (hb hby at_28) rfl (feq hc28).2 (by decide) (by decide) ?_
  show Steps p.tables e below (T0.setTop (mkF m 37 #[.val (.int p1), .val (.int p2), .val (.int (p2 &&& (7 : Int32))), .unset, .unset, .unset] [])) _
  refine XS.iloadN X0.here hx rfl (hb hby at_37) rfl ?_
  show Steps p.tables e below (T0.setTop (mkF m 38 #[.val (.int p1), .val (.int p2), .val (.int (p2 &&& (7 : Int32))), .unset, .unset, .unset] [(.int (p2 &&& (7 : Int32)))])) _
  refine XS.iconst X0.here hx rfl (hb hby at_38) ?_
  show Steps p.tables e below (T0.setTop (mkF m 39 #[.val (.int p1), .val (.int p2), .val (.int (p2 &&& (7 : Int32))), .unset, .unset, .unset] [(.int (3 : Int32)), (.int (p2 &&& (7 : Int32)))])) _
  refine XS.icmpNo X0.here hx rfl (hb hby at_39) rfl (teq hc39).2 ?_
  show Steps p.tables e below (T0.setTop (mkF m 42 #[.val (.int p1), .val (.int p2), .val (.int (p2 &&& (7 : Int32))), .unset, .unset, .unset] [])) _
  refine XS.bipush X0.here hx rfl (hb hby at_42) ?_
  show Steps p.tables e below (T0.setTop (mkF m 44 #[.val (.int p1), .val (.int p2), .val (.int (p2 &&& (7 : Int32))), .unset, .unset, .unset] [(.int (98 : Int32))])) _
  refine XS.istoreN X0.here hx rfl (hb hby at_44) rfl (l' := #[.val (.int p1), .val (.int p2), .val (.int (p2 &&& (7 : Int32))), .val (.int (98 : Int32)), .unset, .unset]) rfl ?_
  show Steps p.tables e below (T0.setTop (mkF m 45 #[.val (.int p1), .val (.int p2), .val (.int (p2 &&& (7 : Int32))), .val (.int (98 : Int32)), .unset, .unset] [])) _
  refine XS.goto X0.here hx rfl (pc0 := 45) (pc' := 51) rfl (hb hby at_45) (by decide) (by decide) ?_
  exact kt

set_option maxRecDepth 65536 in
set_option maxHeartbeats 40000000 in
theorem own_a4 {p : Program} {l : Launch} {e : Env} {s : State} {m : MethodId} {args : Array Value} {below : List Frame} {meth : Method} {c : Code} {T0 : State} {locs : List Loc} {Z : State} {a0 : Array Value} {h0 : Heap} {n0 : Nat} (p1 : Int32) (p2 : Int32)
    (X0 : Stand p l e room_1 s m args below meth c T0 locs 0 0) (hx : p.tables.exec = Jvm.exec) (hZ : Z.Warmed39 s.vm) (hw : ∀ d ∈ tables_1, d.before a0 Z = true) (hby : c.code = code) (hml : c.maxLocals = 6) (hown : s.vm.findClass "com/example/nodewright/nodewright/model/IdTypeForLetterPinLaw" = some m.cls) (e0 : T0.heap = h0) (Z0 : n0 ≤ h0.size) (N0 : Fr n0 locs) (hc6 : ¬ ((p2 &&& (7 : Int32)) = (0 : Int32))) (hc17 : ¬ ((p2 &&& (7 : Int32)) = (1 : Int32))) (hc28 : ¬ ((p2 &&& (7 : Int32)) = (2 : Int32))) (hc39 : ¬ ((p2 &&& (7 : Int32)) = (3 : Int32))) :
    ∃ (T' : State) (locs' : List Loc) (cc : Int32), Stand p l e room_1 s m args below meth c T' locs' 0 0 ∧ Fr n0 locs' ∧ T'.heap = h0 ∧
      ∀ target, Steps p.tables e below (T'.setTop (mkF m 51 #[.val (.int p1), .val (.int p2), .val (.int (p2 &&& (7 : Int32))), .val (.int cc), .unset, .unset] [])) target → Steps p.tables e below (T0.setTop (mkF m 0 #[.val (.int p1), .val (.int p2), .unset, .unset, .unset, .unset] [])) target := by

  refine ⟨T0, _, (p1.toUInt32.toUInt16.toUInt32.toInt32), X0, N0, e0, fun target kt => ?_⟩
  show Steps p.tables e below (T0.setTop (mkF m 0 #[.val (.int p1), .val (.int p2), .unset, .unset, .unset, .unset] [])) _
  refine XS.iloadN X0.here hx rfl (hb hby at_0) rfl ?_
  show Steps p.tables e below (T0.setTop (mkF m 1 #[.val (.int p1), .val (.int p2), .unset, .unset, .unset, .unset] [(.int p2)])) _
  refine XS.bipush X0.here hx rfl (hb hby at_1) ?_
  show Steps p.tables e below (T0.setTop (mkF m 3 #[.val (.int p1), .val (.int p2), .unset, .unset, .unset, .unset] [(.int (7 : Int32)), (.int p2)])) _
  refine XS.iand X0.here hx rfl (hb hby at_3) rfl ?_
  show Steps p.tables e below (T0.setTop (mkF m 4 #[.val (.int p1), .val (.int p2), .unset, .unset, .unset, .unset] [(.int (p2 &&& (7 : Int32)))])) _
  refine XS.istoreN X0.here hx rfl (hb hby at_4) rfl (l' := #[.val (.int p1), .val (.int p2), .val (.int (p2 &&& (7 : Int32))), .unset, .unset, .unset]) rfl ?_
  show Steps p.tables e below (T0.setTop (mkF m 5 #[.val (.int p1), .val (.int p2), .val (.int (p2 &&& (7 : Int32))), .unset, .unset, .unset] [])) _
  refine XS.iloadN X0.here hx rfl (hb hby at_5) rfl ?_
  show Steps p.tables e below (T0.setTop (mkF m 6 #[.val (.int p1), .val (.int p2), .val (.int (p2 &&& (7 : Int32))), .unset, .unset, .unset] [(.int (p2 &&& (7 : Int32)))])) _
  refine XS.ifYes X0.here hx rfl (pc0 := 6) (pc' := 15) rfl (hb hby at_6) rfl ((if0 _ _).trans (feq hc6).2) (by decide) (by decide) ?_
  show Steps p.tables e below (T0.setTop (mkF m 15 #[.val (.int p1), .val (.int p2), .val (.int (p2 &&& (7 : Int32))), .unset, .unset, .unset] [])) _
  refine XS.iloadN X0.here hx rfl (hb hby at_15) rfl ?_
  show Steps p.tables e below (T0.setTop (mkF m 16 #[.val (.int p1), .val (.int p2), .val (.int (p2 &&& (7 : Int32))), .unset, .unset, .unset] [(.int (p2 &&& (7 : Int32)))])) _
  refine XS.iconst X0.here hx rfl (hb hby at_16) ?_
  show Steps p.tables e below (T0.setTop (mkF m 17 #[.val (.int p1), .val (.int p2), .val (.int (p2 &&& (7 : Int32))), .unset, .unset, .unset] [(.int (1 : Int32)), (.int (p2 &&& (7 : Int32)))])) _
  refine XS.icmpYes X0.here hx rfl (pc0 := 17) (pc' := 26) rfl (hb hby at_17) rfl (feq hc17).2 (by decide) (by decide) ?_
  show Steps p.tables e below (T0.setTop (mkF m 26 #[.val (.int p1), .val (.int p2), .val (.int (p2 &&& (7 : Int32))), .unset, .unset, .unset] [])) _
  refine XS.iloadN X0.here hx rfl (hb hby at_26) rfl ?_
  show Steps p.tables e below (T0.setTop (mkF m 27 #[.val (.int p1), .val (.int p2), .val (.int (p2 &&& (7 : Int32))), .unset, .unset, .unset] [(.int (p2 &&& (7 : Int32)))])) _
  refine XS.iconst X0.here hx rfl (hb hby at_27) ?_
  show Steps p.tables e below (T0.setTop (mkF m 28 #[.val (.int p1), .val (.int p2), .val (.int (p2 &&& (7 : Int32))), .unset, .unset, .unset] [(.int (2 : Int32)), (.int (p2 &&& (7 : Int32)))])) _
  refine XS.icmpYes X0.here hx rfl (pc0 := 28) (pc' := 37) rfl (hb hby at_28) rfl (feq hc28).2 (by decide) (by decide) ?_
  show Steps p.tables e below (T0.setTop (mkF m 37 #[.val (.int p1), .val (.int p2), .val (.int (p2 &&& (7 : Int32))), .unset, .unset, .unset] [])) _
  refine XS.iloadN X0.here hx rfl (hb hby at_37) rfl ?_
  show Steps p.tables e below (T0.setTop (mkF m 38 #[.val (.int p1), .val (.int p2), .val (.int (p2 &&& (7 : Int32))), .unset, .unset, .unset] [(.int (p2 &&& (7 : Int32)))])) _
  refine XS.iconst X0.here hx rfl (hb hby at_38) ?_
  show Steps p.tables e below (T0.setTop (mkF m 39 #[.val (.int p1), .val (.int p2), .val (.int (p2 &&& (7 : Int32))), .unset, .unset, .unset] [(.int (3 : Int32)), (.int (p2 &&& (7 : Int32)))])) _
  refine XS.icmpYes X0.here hx rfl (pc0 := 39) (pc' := 48) rfl (hb hby at_39) rfl (feq hc39).2 (by decide) (by decide) ?_
  show Steps p.tables e below (T0.setTop (mkF m 48 #[.val (.int p1), .val (.int p2), .val (.int (p2 &&& (7 : Int32))), .unset, .unset, .unset] [])) _
  refine XS.iloadN X0.here hx rfl (hb hby at_48) rfl ?_
  show Steps p.tables e below (T0.setTop (mkF m 49 #[.val (.int p1), .val (.int p2), .val (.int (p2 &&& (7 : Int32))), .unset, .unset, .unset] [(.int p1)])) _
  refine XS.i2c X0.here hx rfl (hb hby at_49) rfl ?_
  show Steps p.tables e below (T0.setTop (mkF m 50 #[.val (.int p1), .val (.int p2), .val (.int (p2 &&& (7 : Int32))), .unset, .unset, .unset] [(.int (p1.toUInt32.toUInt16.toUInt32.toInt32))])) _
  refine XS.istoreN X0.here hx rfl (hb hby at_50) rfl (l' := #[.val (.int p1), .val (.int p2), .val (.int (p2 &&& (7 : Int32))), .val (.int (p1.toUInt32.toUInt16.toUInt32.toInt32)), .unset, .unset]) rfl ?_
  exact kt
theorem own_a {p : Program} {l : Launch} {e : Env} {s : State} {m : MethodId} {args : Array Value} {below : List Frame} {meth : Method} {c : Code} {T0 : State} {locs : List Loc} {Z : State} {a0 : Array Value} {h0 : Heap} {n0 : Nat} (p1 : Int32) (p2 : Int32)
    (X0 : Stand p l e room_1 s m args below meth c T0 locs 0 0) (hx : p.tables.exec = Jvm.exec) (hZ : Z.Warmed39 s.vm) (hw : ∀ d ∈ tables_1, d.before a0 Z = true) (hby : c.code = code) (hml : c.maxLocals = 6) (hown : s.vm.findClass "com/example/nodewright/nodewright/model/IdTypeForLetterPinLaw" = some m.cls) (e0 : T0.heap = h0) (Z0 : n0 ≤ h0.size) (N0 : Fr n0 locs) :
    ∃ (T' : State) (locs' : List Loc) (cc : Int32), Stand p l e room_1 s m args below meth c T' locs' 0 0 ∧ Fr n0 locs' ∧ T'.heap = h0 ∧
      ∀ target, Steps p.tables e below (T'.setTop (mkF m 51 #[.val (.int p1), .val (.int p2), .val (.int (p2 &&& (7 : Int32))), .val (.int cc), .unset, .unset] [])) target → Steps p.tables e below (T0.setTop (mkF m 0 #[.val (.int p1), .val (.int p2), .unset, .unset, .unset, .unset] [])) target := by
  by_cases q0 : (p2 &&& (7 : Int32)) = (0 : Int32)
  · exact own_a0 p1 p2 X0 hx hZ hw hby hml hown e0 Z0 N0 q0
  by_cases q1 : (p2 &&& (7 : Int32)) = (1 : Int32)
  · exact own_a1 p1 p2 X0 hx hZ hw hby hml hown e0 Z0 N0 q0 q1
  by_cases q2 : (p2 &&& (7 : Int32)) = (2 : Int32)
  · exact own_a2 p1 p2 X0 hx hZ hw hby hml hown e0 Z0 N0 q0 q1 q2
  by_cases q3 : (p2 &&& (7 : Int32)) = (3 : Int32)
  · exact own_a3 p1 p2 X0 hx hZ hw hby hml hown e0 Z0 N0 q0 q1 q2 q3
  exact own_a4 p1 p2 X0 hx hZ hw hby hml hown e0 Z0 N0 q0 q1 q2 q3

set_option maxRecDepth 65536 in
set_option maxHeartbeats 40000000 in
theorem own_b0 {p : Program} {l : Launch} {e : Env} {s : State} {m : MethodId} {args : Array Value} {below : List Frame} {meth : Method} {c : Code} {T0 : State} {locs : List Loc} {Z : State} {a0 : Array Value} {h0 : Heap} {n0 : Nat} (p1 : Int32) (p2 : Int32) (kk : Int32) (cc : Int32) (c0 c1 c2 c3 : Addr)
    (X0 : Stand p l e room_1 s m args below meth c T0 locs 0 0) (hx : p.tables.exec = Jvm.exec) (hZ : Z.Warmed39 s.vm) (hw : ∀ d ∈ tables_1, d.before a0 Z = true) (hby : c.code = code) (hml : c.maxLocals = 6) (hown : s.vm.findClass "com/example/nodewright/nodewright/model/IdTypeForLetterPinLaw" = some m.cls) (e0 : T0.heap = h0) (Z0 : n0 ≤ h0.size) (N0 : Fr n0 locs) (S_NUMERIC : Sta Z h0 "com/example/nodewright/nodewright/model/NodeId$IdType" "NUMERIC" "Lcom/example/nodewright/nodewright/model/NodeId$IdType;" (.ref c0)) (hc54 : cc = (105 : Int32)) :
    ∃ (T' : State) (locs' : List Loc), Stand p l e room_1 s m args below meth c T' locs' 0 0 ∧ Fr n0 locs' ∧ T'.heap = h0 ∧
      ∀ target, Steps p.tables e below (T'.setTop (mkF m 110 #[.val (.int p1), .val (.int p2), .val (.int kk), .val (.int cc), .val (.ref c0), .unset] [])) target → Steps p.tables e below (T0.setTop (mkF m 51 #[.val (.int p1), .val (.int p2), .val (.int kk), .val (.int cc), .unset, .unset] [])) target := by
  obtain ⟨T4, X4, e4, st4⟩ := getS2 X0 hx hZ hown (host := "") (Or.inl (hw _ (List.mem_of_getElem? (i := 32) rfl))) Via.refl e0 S_NUMERIC (g := (mkF m 57 #[.val (.int p1), .val (.int p2), .val (.int kk), .val (.int cc), .unset, .unset] [])) rfl (hb hby at_57)
  refine ⟨T4, _, X4, N0, e4, fun target kt => ?_⟩
  show Steps p.tables e below (T0.setTop (mkF m 51 #[.val (.int p1), .val (.int p2), .val (.int kk), .val (.int cc), .unset, .unset] [])) _
  refine XS.iloadN X0.here hx rfl (hb hby at_51) rfl ?_
  show Steps p.tables e below (T0.setTop (mkF m 52 #[.val (.int p1), .val (.int p2), .val (.int kk), .val (.int cc), .unset, .unset] [(.int cc)])) _
  refine XS.bipush X0.here hx rfl (hb hby at_52) ?_
  show Steps p.tables e below (T0.setTop (mkF m 54 #[.val (.int p1), .val (.int p2), .val (.int kk), .val (.int cc), .unset, .unset] [(.int (105 : Int32)), (.int cc)])) _
  refine XS.icmpNo X0.here hx rfl (hb hby at_54) rfl (teq hc54).2 ?_
  show Steps p.tables e below (T0.setTop (mkF m 57 #[.val (.int p1), .val (.int p2), .val (.int kk), .val (.int cc), .unset, .unset] [])) _
  refine st4 _ ?_
  show Steps p.tables e below (T4.setTop (mkF m 60 #[.val (.int p1), .val (.int p2), .val (.int kk), .val (.int cc), .unset, .unset] [(.ref c0)])) _
  refine XS.astore X4.here hx rfl (hb hby at_60) rfl rfl (l' := #[.val (.int p1), .val (.int p2), .val (.int kk), .val (.int cc), .val (.ref c0), .unset]) rfl ?_
  show Steps p.tables e below (T4.setTop (mkF m 62 #[.val (.int p1), .val (.int p2), .val (.int kk), .val (.int cc), .val (.ref c0), .unset] [])) _
  refine XS.goto X4.here hx rfl (pc0 := 62) (pc' := 110) rfl (hb hby at_62) (by decide) (by decide) ?_
  exact kt

set_option maxRecDepth 65536 in
set_option maxHeartbeats 40000000 in
theorem own_b1 {p : Program} {l : Launch} {e : Env} {s : State} {m : MethodId} {args : Array Value} {below : List Frame} {meth : Method} {c : Code} {T0 : State} {locs : List Loc} {Z : State} {a0 : Array Value} {h0 : Heap} {n0 : Nat} (p1 : Int32) (p2 : Int32) (kk : Int32) (cc : Int32) (c0 c1 c2 c3 : Addr)
    (X0 : Stand p l e room_1 s m args below meth c T0 locs 0 0) (hx : p.tables.exec = Jvm.exec) (hZ : Z.Warmed39 s.vm) (hw : ∀ d ∈ tables_1, d.before a0 Z = true) (hby : c.code = code) (hml : c.maxLocals = 6) (hown : s.vm.findClass "com/example/nodewright/nodewright/model/IdTypeForLetterPinLaw" = some m.cls) (e0 : T0.heap = h0) (Z0 : n0 ≤ h0.size) (N0 : Fr n0 locs) (S_STRING : Sta Z h0 "com/example/nodewright/nodewright/model/NodeId$IdType" "STRING" "Lcom/example/nodewright/nodewright/model/NodeId$IdType;" (.ref c1)) (hc54 : ¬ (cc = (105 : Int32))) (hc68 : cc = (115 : Int32)) :
    ∃ (T' : State) (locs' : List Loc), Stand p l e room_1 s m args below meth c T' locs' 0 0 ∧ Fr n0 locs' ∧ T'.heap = h0 ∧
      ∀ target, Steps p.tables e below (T'.setTop (mkF m 110 #[.val (.int p1), .val (.int p2), .val (.int kk), .val (.int cc), .val (.ref c1), .unset] [])) target → Steps p.tables e below (T0.setTop (mkF m 51 #[.val (.int p1), .val (.int p2), .val (.int kk), .val (.int cc), .unset, .unset] [])) target := by
  obtain ⟨T4, X4, e4, st4⟩ := getS2 X0 hx hZ hown (host := "") (Or.inl (hw _ (List.mem_of_getElem? (i := 31) rfl))) Via.refl e0 S_STRING (g := (mkF m 71 #[.val (.int p1), .val (.int p2), .val (.int kk), .val (.int cc), .unset, .unset] [])) rfl (hb hby at_71)
  refine ⟨T4, _, X4, N0, e4, fun target kt => ?_⟩
  show Steps p.tables e below (T0.setTop (mkF m 51 #[.val (.int p1), .val (.int p2), .val (.int kk), .val (.int cc), .unset, .unset] [])) _
  refine XS.iloadN X0.here hx rfl (hb hby at_51) rfl ?_
  show Steps p.tables e below (T0.setTop (mkF m 52 #[.val (.int p1), .val (.int p2), .val (.int kk), .val (.int cc), .unset, .unset] [(.int cc)])) _
  refine XS.bipush X0.here hx rfl (hb hby at_52) ?_
  show Steps p.tables e below (T0.setTop (mkF m 54 #[.val (.int p1), .val (.int p2), .val (.int kk), .val (.int cc), .unset, .unset] [(.int (105 : Int32)), (.int cc)])) _
  refine XS.icmpYes X0.here hx rfl (pc0 := 54) (pc' := 65) rfl (hb hby at_54) rfl (feq hc54).2 (by decide) (by decide) ?_
  show Steps p.tables e below (T0.setTop (mkF m 65 #[.val (.int p1), .val (.int p2), .val (.int kk), .val (.int cc), .unset, .unset] [])) _
  refine XS.iloadN X0.here hx rfl (hb hby at_65) rfl ?_
  show Steps p.tables e below (T0.setTop (mkF m 66 #[.val (.int p1), .val (.int p2), .val (.int kk), .val (.int cc), .unset, .unset] [(.int cc)])) _
  refine XS.bipush X0.here hx rfl (hb hby at_66) ?_
  show Steps p.tables e below (T0.setTop (mkF m 68 #[.val (.int p1), .val (.int p2), .val (.int kk), .val (.int cc), .unset, .unset] [(.int (115 : Int32)), (.int cc)])) _
  refine XS.icmpNo X0.here hx rfl (hb hby at_68) rfl (teq hc68).2 ?_
  show Steps p.tables e below (T0.setTop (mkF m 71 #[.val (.int p1), .val (.int p2), .val (.int kk), .val (.int cc), .unset, .unset] [])) _
  refine st4 _ ?_
  show Steps p.tables e below (T4.setTop (mkF m 74 #[.val (.int p1), .val (.int p2), .val (.int kk), .val (.int cc), .unset, .unset] [(.ref c1)])) _
  refine XS.astore X4.here hx rfl (hb hby at_74) rfl rfl (l' := #[.val (.int p1), .val (.int p2), .val (.int kk), .val (.int cc), .val (.ref c1), .unset]) rfl ?_
  show Steps p.tables e below (T4.setTop (mkF m 76 #[.val (.int p1), .val (.int p2), .val (.int kk), .val (.int cc), .val (.ref c1), .unset] [])) _
  refine XS.goto X4.here hx rfl (pc0 := 76) (pc' := 110) rfl (hb hby at_76) (by decide) (by decide) ?_
  exact kt

set_option maxRecDepth 65536 in
set_option maxHeartbeats 40000000 in
theorem own_b2 {p : Program} {l : Launch} {e : Env} {s : State} {m : MethodId} {args : Array Value} {below : List Frame} {meth : Method} {c : Code} {T0 : State} {locs : List Loc} {Z : State} {a0 : Array Value} {h0 : Heap} {n0 : Nat} (p1 : Int32) (p2 : Int32) (kk : Int32) (cc : Int32) (c0 c1 c2 c3 : Addr)
    (X0 : Stand p l e room_1 s m args below meth c T0 locs 0 0) (hx : p.tables.exec = Jvm.exec) (hZ : Z.Warmed39 s.vm) (hw : ∀ d ∈ tables_1, d.before a0 Z = true) (hby : c.code = code) (hml : c.maxLocals = 6) (hown : s.vm.findClass "com/example/nodewright/nodewright/model/IdTypeForLetterPinLaw" = some m.cls) (e0 : T0.heap = h0) (Z0 : n0 ≤ h0.size) (N0 : Fr n0 locs) (S_GUID : Sta Z h0 "com/example/nodewright/nodewright/model/NodeId$IdType" "GUID" "Lcom/example/nodewright/nodewright/model/NodeId$IdType;" (.ref c2)) (hc54 : ¬ (cc = (105 : Int32))) (hc68 : ¬ (cc = (115 : Int32))) (hc82 : cc = (103 : Int32)) :
    ∃ (T' : State) (locs' : List Loc), Stand p l e room_1 s m args below meth c T' locs' 0 0 ∧ Fr n0 locs' ∧ T'.heap = h0 ∧
      ∀ target, Steps p.tables e below (T'.setTop (mkF m 110 #[.val (.int p1), .val (.int p2), .val (.int kk), .val (.int cc), .val (.ref c2), .unset] [])) target → Steps p.tables e below (T0.setTop (mkF m 51 #[.val (.int p1), .val (.int p2), .val (.int kk), .val (.int cc), .unset, .unset] [])) target := by
  obtain ⟨T4, X4, e4, st4⟩ := getS2 X0 hx hZ hown (host := "") (Or.inl (hw _ (List.mem_of_getElem? (i := 33) rfl))) Via.refl e0 S_GUID (g := (mkF m 85 #[.val (.int p1), .val (.int p2), .val (.int kk), .val (.int cc), .unset, .unset] [])) rfl (hb hby at_85)
  refine ⟨T4, _, X4, N0, e4, fun target kt => ?_⟩
  show Steps p.tables e below (T0.setTop (mkF m 51 #[.val (.int p1), .val (.int p2), .val (.int kk), .val (.int cc), .unset, .unset] [])) _
  refine XS.iloadN X0.here hx rfl (hb hby at_51) rfl ?_
  show Steps p.tables e below (T0.setTop (mkF m 52 #[.val (.int p1), .val (.int p2), .val (.int kk), .val (.int cc), .unset, .unset] [(.int cc)])) _
  refine XS.bipush X0.here hx rfl (hb hby at_52) ?_
  show Steps p.tables e below (T0.setTop (mkF m 54 #[.val (.int p1), .val (.int p2), .val (.int kk), .val (.int cc), .unset, .unset] [(.int (105 : Int32)), (.int cc)])) _
  refine XS.icmpYes X0.here hx rfl (pc0 := 54) (pc' := 65) rfl (hb hby at_54) rfl (feq hc54).2 (by decide) (by decide) ?_
  show Steps p.tables e below (T0.setTop (mkF m 65 #[.val (.int p1), .val (.int p2), .val (.int kk), .val (.int cc), .unset, .unset] [])) _
  refine XS.iloadN X0.here hx rfl (hb hby at_65) rfl ?_
  show Steps p.tables e below (T0.setTop (mkF m 66 #[.val (.int p1), .val (.int p2), .val (.int kk), .val (.int cc), .unset, .unset] [(.int cc)])) _
  refine XS.bipush X0.here hx rfl (hb hby at_66) ?_
  show Steps p.tables e below (T0.setTop (mkF m 68 #[.val (.int p1), .val (.int p2), .val (.int kk), .val (.int cc), .unset, .unset] [(.int (115 : Int32)), (.int cc)])) _
  refine XS.icmpYes X0.here hx rfl (pc0 := 68) (pc' := 79) rfl (hb hby at_68) rfl (feq hc68).2 (by decide) (by decide) ?_
  show Steps p.tables e below (T0.setTop (mkF m 79 #[.val (.int p1), .val (.int p2), .val (.int kk), .val (.int cc), .unset, .unset] [])) _
  refine XS.iloadN X0.here hx rfl (hb hby at_79) rfl ?_
  show Steps p.tables e below (T0.setTop (mkF m 80 #[.val (.int p1), .val (.int p2), .val (.int kk), .val (.int cc), .unset, .unset] [(.int cc)])) _
  refine XS.bipush X0.here hx rfl (hb hby at_80) ?_
  show Steps p.tables e below (T0.setTop (mkF m 82 #[.val (.int p1), .val (.int p2), .val (.int kk), .val (.int cc), .unset, .unset] [(.int (103 : Int32)), (.int cc)])) _
  refine XS.icmpNo X0.here hx rfl (hb hby at_82) rfl (teq hc82).2 ?_
  show Steps p.tables e below (T0.setTop (mkF m 85 #[.val (.int p1), .val (.int p2), .val (.int kk), .val (.int cc), .unset, .unset] [])) _
  refine st4 _ ?_
  show Steps p.tables e below (T4.setTop (mkF m 88 #[.val (.int p1), .val (.int p2), .val (.int kk), .val (.int cc), .unset, .unset] [(.ref c2)])) _
  refine XS.astore X4.here hx rfl (hb hby at_88) rfl rfl (l' := #[.val (.int p1), .val (.int p2), .val (.int kk), .val (.int cc), .val (.ref c2), .unset]) rfl ?_
  show Steps p.tables e below (T4.setTop (mkF m 90 #[.val (.int p1), .val (.int p2), .val (.int kk), .val (.int cc), .val (.ref c2), .unset] [])) _
  refine XS.goto X4.here hx rfl (pc0 := 90) (pc' := 110) rfl (hb hby at_90) (by decide) (by decide) ?_
  exact kt

set_option maxRecDepth 65536 in
set_option maxHeartbeats 40000000 in
theorem own_b3 {p : Program} {l : Launch} {e : Env} {s : State} {m : MethodId} {args : Array Value} {below : List Frame} {meth : Method} {c : Code} {T0 : State} {locs : List Loc} {Z : State} {a0 : Array Value} {h0 : Heap} {n0 : Nat} (p1 : Int32) (p2 : Int32) (kk : Int32) (cc : Int32) (c0 c1 c2 c3 : Addr)
    (X0 : Stand p l e room_1 s m args below meth c T0 locs 0 0) (hx : p.tables.exec = Jvm.exec) (hZ : Z.Warmed39 s.vm) (hw : ∀ d ∈ tables_1, d.before a0 Z = true) (hby : c.code = code) (hml : c.maxLocals = 6) (hown : s.vm.findClass "com/example/nodewright/nodewright/model/IdTypeForLetterPinLaw" = some m.cls) (e0 : T0.heap = h0) (Z0 : n0 ≤ h0.size) (N0 : Fr n0 locs) (S_OPAQUE : Sta Z h0 "com/example/nodewright/nodewright/model/NodeId$IdType" "OPAQUE" "Lcom/example/nodewright/nodewright/model/NodeId$IdType;" (.ref c3)) (hc54 : ¬ (cc = (105 : Int32))) (hc68 : ¬ (cc = (115 : Int32))) (hc82 : ¬ (cc = (103 : Int32))) (hc96 : cc = (98 : Int32)) :
    ∃ (T' : State) (locs' : List Loc), Stand p l e room_1 s m args below meth c T' locs' 0 0 ∧ Fr n0 locs' ∧ T'.heap = h0 ∧
      ∀ target, Steps p.tables e below (T'.setTop (mkF m 110 #[.val (.int p1), .val (.int p2), .val (.int kk), .val (.int cc), .val (.ref c3), .unset] [])) target → Steps p.tables e below (T0.setTop (mkF m 51 #[.val (.int p1), .val (.int p2), .val (.int kk), .val (.int cc), .unset, .unset] [])) target := by
  obtain ⟨T4, X4, e4, st4⟩ := getS2 X0 hx hZ hown (host := "") (Or.inl (hw _ (List.mem_of_getElem? (i := 0) rfl))) Via.refl e0 S_OPAQUE (g := (mkF m 99 #[.val (.int p1), .val (.int p2), .val (.int kk), .val (.int cc), .unset, .unset] [])) rfl (hb hby at_99)
  refine ⟨T4, _, X4, N0, e4, fun target kt => ?_⟩
  show Steps p.tables e below (T0.setTop (mkF m 51 #[.val (.int p1), .val (.int p2), .val (.int kk), .val (.int cc), .unset, .unset] [])) _
  refine XS.iloadN X0.here hx rfl (hb hby at_51) rfl ?_
  show Steps p.tables e below (T0.setTop (mkF m 52 #[.val (.int p1), .val (.int p2), .val (.int kk), .val (.int cc), .unset, .unset] [(.int cc)])) _
  refine XS.bipush X0.here hx rfl (hb hby at_52) ?_
  show Steps p.tables e below (T0.setTop (mkF m 54 #[.val (.int p1), .val (.int p2), .val (.int kk), .val (.int cc), .unset, .unset] [(.int (105 : Int32)), (.int cc)])) _
  refine XS.icmpYes X0.here hx rfl (pc0 := 54) (pc' := 65) rfl (hb hby at_54) rfl (feq hc54).2 (by decide) (by decide) ?_
  show Steps p.tables e below (T0.setTop (mkF m 65 #[.val (.int p1), .val (.int p2), .val (.int kk), .val (.int cc), .unset, .unset] [])) _
  refine XS.iloadN X0.here hx rfl (hb hby at_65) rfl ?_
  show Steps p.tables e below (T0.setTop (mkF m 66 #[.val (.int p1), .val (.int p2), .val (.int kk), .val (.int cc), .unset, .unset] [(.int cc)])) _
  refine XS.bipush X0.here hx rfl (hb hby at_66) ?_
  show Steps p.tables e below (T0.setTop (mkF m 68 #[.val (.int p1), .val (.int p2), .val (.int kk), .val (.int cc), .unset, .unset] [(.int (115 : Int32)), (.int cc)])) _
  refine XS.icmpYes X0.here hx rfl (pc0 := 68) (pc' := 79) rfl (hb hby at_68) rfl (feq hc68).2 (by decide) (by decide) ?_
  show Steps p.tables e below (T0.setTop (mkF m 79 #[.val (.int p1), .val (.int p2), .val (.int kk), .val (.int cc), .unset, .unset] [])) _
  refine XS.iloadN X0.here hx rfl (hb hby at_79) rfl ?_
  show Steps p.tables e below (T0.setTop (mkF m 80 #[.val (.int p1), .val (.int p2), .val (.int kk), .val (.int cc), .unset, .unset] [(.int cc)])) _
  refine XS.bipush X0.here hx rfl (hb hby at_80) ?_
  show Steps p.tables e below (T0.setTop (mkF m 82 #[.val (.int p1), .val (.int p2), .val (.int kk), .val (.int cc), .unset, .unset] [(.int (103 : Int32)), (.int cc)])) _
  refine XS.icmpYes X0.here hx rfl (pc0 := 82) (pc' := 93) rfl (hb hby at_82) rfl (feq hc82).2 (by decide) (by decide) ?_
  show Steps p.tables e below (T0.setTop (mkF m 93 #[.val (.int p1), .val (.int p2), .val (.int kk), .val (.int cc), .unset, .unset] [])) _
  refine XS.iloadN X0.here hx rfl (hb hby at_93) rfl ?_
  show Steps p.tables e below (T0.setTop (mkF m 94 #[.val (.int p1), .val (.int p2), .val (.int kk), .val (.int cc), .unset, .unset] [(.int cc)])) _
  refine XS.bipush X0.here hx rfl (hb hby at_94) ?_
  show Steps p.tables e below (T0.setTop (mkF m 96 #[.val (.int p1), .val (.int p2), .val (.int kk), .val (.int cc), .unset, .unset] [(.int (98 : Int32)), (.int cc)])) _
  refine XS.icmpNo X0.here hx rfl (hb hby at_96) rfl (teq hc96).2 ?_
  show Steps p.tables e below (T0.setTop (mkF m 99 #[.val (.int p1), .val (.int p2), .val (.int kk), .val (.int cc), .unset, .unset] [])) _
  refine st4 _ ?_
  show Steps p.tables e below (T4.setTop (mkF m 102 #[.val (.int p1), .val (.int p2), .val (.int kk), .val (.int cc), .unset, .unset] [(.ref c3)])) _
  refine XS.astore X4.here hx rfl (hb hby at_102) rfl rfl (l' := #[.val (.int p1), .val (.int p2), .val (.int kk), .val (.int cc), .val (.ref c3), .unset]) rfl ?_
  show Steps p.tables e below (T4.setTop (mkF m 104 #[.val (.int p1), .val (.int p2), .val (.int kk), .val (.int cc), .val (.ref c3), .unset] [])) _
  refine XS.goto X4.here hx rfl (pc0 := 104) (pc' := 110) rfl (hb hby at_104) (by decide) (by decide) ?_
  exact kt

set_option maxRecDepth 65536 in
set_option maxHeartbeats 40000000 in
theorem own_b4 {p : Program} {l : Launch} {e : Env} {s : State} {m : MethodId} {args : Array Value} {below : List Frame} {meth : Method} {c : Code} {T0 : State} {locs : List Loc} {Z : State} {a0 : Array Value} {h0 : Heap} {n0 : Nat} (p1 : Int32) (p2 : Int32) (kk : Int32) (cc : Int32) (c0 c1 c2 c3 : Addr)
    (X0 : Stand p l e room_1 s m args below meth c T0 locs 0 0) (hx : p.tables.exec = Jvm.exec) (hZ : Z.Warmed39 s.vm) (hw : ∀ d ∈ tables_1, d.before a0 Z = true) (hby : c.code = code) (hml : c.maxLocals = 6) (hown : s.vm.findClass "com/example/nodewright/nodewright/model/IdTypeForLetterPinLaw" = some m.cls) (e0 : T0.heap = h0) (Z0 : n0 ≤ h0.size) (N0 : Fr n0 locs) (hc54 : ¬ (cc = (105 : Int32))) (hc68 : ¬ (cc = (115 : Int32))) (hc82 : ¬ (cc = (103 : Int32))) (hc96 : ¬ (cc = (98 : Int32))) :
    ∃ (T' : State) (locs' : List Loc), Stand p l e room_1 s m args below meth c T' locs' 0 0 ∧ Fr n0 locs' ∧ T'.heap = h0 ∧
      ∀ target, Steps p.tables e below (T'.setTop (mkF m 110 #[.val (.int p1), .val (.int p2), .val (.int kk), .val (.int cc), .val .null, .unset] [])) target → Steps p.tables e below (T0.setTop (mkF m 51 #[.val (.int p1), .val (.int p2), .val (.int kk), .val (.int cc), .unset, .unset] [])) target := by

  refine ⟨T0, _, X0, N0, e0, fun target kt => ?_⟩
  show Steps p.tables e below (T0.setTop (mkF m 51 #[.val (.int p1), .val (.int p2), .val (.int kk), .val (.int cc), .unset, .unset] [])) _
  refine XS.iloadN X0.here hx rfl (hb hby at_51) rfl ?_
  show Steps p.tables e below (T0.setTop (mkF m 52 #[.val (.int p1), .val (.int p2), .val (.int kk), .val (.int cc), .unset, .unset] [(.int cc)])) _
  refine XS.bipush X0.here hx rfl (hb hby at_52) ?_
  show Steps p.tables e below (T0.setTop (mkF m 54 #[.val (.int p1), .val (.int p2), .val (.int kk), .val (.int cc), .unset, .unset] [(.int (105 : Int32)), (.int cc)])) _
  refine XS.icmpYes X0.here hx rfl (pc0 := 54) (pc' := 65) rfl (hb hby at_54) rfl (feq hc54).2 (by decide) (by decide) ?_
  show Steps p.tables e below (T0.setTop (mkF m 65 #[.val (.int p1), .val (.int p2), .val (.int kk), .val (.int cc), .unset, .unset] [])) _
  refine XS.iloadN X0.here hx rfl (hb hby at_65) rfl ?_
  show Steps p.tables e below (T0.setTop (mkF m 66 #[.val (.int p1), .val (.int p2), .val (.int kk), .val (.int cc), .unset, .unset] [(.int cc)])) _
  refine XS.bipush X0.here hx rfl (hb hby at_66) ?_
  show Steps p.tables e below (T0.setTop (mkF m 68 #[.val (.int p1), .val (.int p2), .val (.int kk), .val (.int cc), .unset, .unset] [(.int (115 : Int32)), (.int cc)])) _
  refine XS.icmpYes X0.here hx rfl (pc0 := 68) (pc' := 79) rfl (hb hby at_68) rfl (feq hc68).2 (by decide) (by decide) ?_
  show Steps p.tables e below (T0.setTop (mkF m 79 #[.val (.int p1), .val (.int p2), .val (.int kk), .val (.int cc), .unset, .unset] [])) _
  refine XS.iloadN X0.here hx rfl (hb hby at_79) rfl ?_
  show Steps p.tables e below (T0.setTop (mkF m 80 #[.val (.int p1), .val (.int p2), .val (.int kk), .val (.int cc), .unset, .unset] [(.int cc)])) _
  refine XS.bipush X0.here hx rfl (hb hby at_80) ?_
  show Steps p.tables e below (T0.setTop (mkF m 82 #[.val (.int p1), .val (.int p2), .val (.int kk), .val (.int cc), .unset, .unset] [(.int (103 : Int32)), (.int cc)])) _
  refine XS.icmpYes X0.here hx rfl (pc0 := 82) (pc' := 93) rfl (hb hby at_82) rfl (feq hc82).2 (by decide) (by decide) ?_
  show Steps p.tables e below (T0.setTop (mkF m 93 #[.val (.int p1), .val (.int p2), .val (.int kk), .val (.int cc), .unset, .unset] [])) _
  refine XS.iloadN X0.here hx rfl (hb hby at_93) rfl ?_
  show Steps p.tables e below (T0.setTop (mkF m 94 #[.val (.int p1), .val (.int p2), .val (.int kk), .val (.int cc), .unset, .unset] [(.int cc)])) _
  refine XS.bipush X0.here hx rfl (hb hby at_94) ?_
  show Steps p.tables e below (T0.setTop (mkF m 96 #[.val (.int p1), .val (.int p2), .val (.int kk), .val (.int cc), .unset, .unset] [(.int (98 : Int32)), (.int cc)])) _
  refine XS.icmpYes X0.here hx rfl (pc0 := 96) (pc' := 107) rfl (hb hby at_96) rfl (feq hc96).2 (by decide) (by decide) ?_
  show Steps p.tables e below (T0.setTop (mkF m 107 #[.val (.int p1), .val (.int p2), .val (.int kk), .val (.int cc), .unset, .unset] [])) _
  refine XS.aconstNull X0.here hx rfl (hb hby at_107) ?_
  show Steps p.tables e below (T0.setTop (mkF m 108 #[.val (.int p1), .val (.int p2), .val (.int kk), .val (.int cc), .unset, .unset] [.null])) _
  refine XS.astore X0.here hx rfl (hb hby at_108) rfl rfl (l' := #[.val (.int p1), .val (.int p2), .val (.int kk), .val (.int cc), .val .null, .unset]) rfl ?_
  exact kt
theorem own_b {p : Program} {l : Launch} {e : Env} {s : State} {m : MethodId} {args : Array Value} {below : List Frame} {meth : Method} {c : Code} {T0 : State} {locs : List Loc} {Z : State} {a0 : Array Value} {h0 : Heap} {n0 : Nat} (p1 : Int32) (p2 : Int32) (kk : Int32) (cc : Int32) (c0 c1 c2 c3 : Addr)
    (X0 : Stand p l e room_1 s m args below meth c T0 locs 0 0) (hx : p.tables.exec = Jvm.exec) (hZ : Z.Warmed39 s.vm) (hw : ∀ d ∈ tables_1, d.before a0 Z = true) (hby : c.code = code) (hml : c.maxLocals = 6) (hown : s.vm.findClass "com/example/nodewright/nodewright/model/IdTypeForLetterPinLaw" = some m.cls) (e0 : T0.heap = h0) (Z0 : n0 ≤ h0.size) (N0 : Fr n0 locs) (S_NUMERIC : Sta Z h0 "com/example/nodewright/nodewright/model/NodeId$IdType" "NUMERIC" "Lcom/example/nodewright/nodewright/model/NodeId$IdType;" (.ref c0)) (S_STRING : Sta Z h0 "com/example/nodewright/nodewright/model/NodeId$IdType" "STRING" "Lcom/example/nodewright/nodewright/model/NodeId$IdType;" (.ref c1)) (S_GUID : Sta Z h0 "com/example/nodewright/nodewright/model/NodeId$IdType" "GUID" "Lcom/example/nodewright/nodewright/model/NodeId$IdType;" (.ref c2)) (S_OPAQUE : Sta Z h0 "com/example/nodewright/nodewright/model/NodeId$IdType" "OPAQUE" "Lcom/example/nodewright/nodewright/model/NodeId$IdType;" (.ref c3)) :
    ∃ (T' : State) (locs' : List Loc), Stand p l e room_1 s m args below meth c T' locs' 0 0 ∧ Fr n0 locs' ∧ T'.heap = h0 ∧
      ∀ target, Steps p.tables e below (T'.setTop (mkF m 110 #[.val (.int p1), .val (.int p2), .val (.int kk), .val (.int cc), .val (own_find cc [(c0, (105 : Int32)), (c1, (115 : Int32)), (c2, (103 : Int32)), (c3, (98 : Int32))]), .unset] [])) target → Steps p.tables e below (T0.setTop (mkF m 51 #[.val (.int p1), .val (.int p2), .val (.int kk), .val (.int cc), .unset, .unset] [])) target := by
  by_cases q0 : cc = (105 : Int32)
  · rw [own_find_yes q0.symm]; exact own_b0 p1 p2 kk cc c0 c1 c2 c3 X0 hx hZ hw hby hml hown e0 Z0 N0 S_NUMERIC q0
  by_cases q1 : cc = (115 : Int32)
  · rw [own_find_no (fun z => q0 z.symm), own_find_yes q1.symm]; exact own_b1 p1 p2 kk cc c0 c1 c2 c3 X0 hx hZ hw hby hml hown e0 Z0 N0 S_STRING q0 q1
  by_cases q2 : cc = (103 : Int32)
  · rw [own_find_no (fun z => q0 z.symm), own_find_no (fun z => q1 z.symm), own_find_yes q2.symm]; exact own_b2 p1 p2 kk cc c0 c1 c2 c3 X0 hx hZ hw hby hml hown e0 Z0 N0 S_GUID q0 q1 q2
  by_cases q3 : cc = (98 : Int32)
  · rw [own_find_no (fun z => q0 z.symm), own_find_no (fun z => q1 z.symm), own_find_no (fun z => q2 z.symm), own_find_yes q3.symm]; exact own_b3 p1 p2 kk cc c0 c1 c2 c3 X0 hx hZ hw hby hml hown e0 Z0 N0 S_OPAQUE q0 q1 q2 q3
  rw [own_find_no (fun z => q0 z.symm), own_find_no (fun z => q1 z.symm), own_find_no (fun z => q2 z.symm), own_find_no (fun z => q3 z.symm)]; exact own_b4 p1 p2 kk cc c0 c1 c2 c3 X0 hx hZ hw hby hml hown e0 Z0 N0 q0 q1 q2 q3
theorem own_nar4 {r c0 c1 c2 c3 : Addr} {cc : Int32} (h : (r, cc) ∈ [(c0, (105 : Int32)), (c1, (115 : Int32)), (c2, (103 : Int32)), (c3, (98 : Int32))]) : nar .char cc = cc := by
  simp only [List.mem_cons, List.not_mem_nil, or_false, Prod.mk.injEq] at h
  rcases h with ⟨-, rfl⟩ | ⟨-, rfl⟩ | ⟨-, rfl⟩ | ⟨-, rfl⟩ <;> decide
theorem pd_0_0 : parseMethodDescriptor "(C)Lcom/example/nodewright/nodewright/model/NodeId$IdType;" = some ⟨[.char], some (.object "com/example/nodewright/nodewright/model/NodeId$IdType")⟩ := by decide +kernel
theorem pd_0_3 : parseMethodDescriptor "()C" = some ⟨[], some .char⟩ := by decide +kernel
set_option maxRecDepth 65536 in
set_option maxHeartbeats 40000000 in
theorem own_cr {p : Program} {l : Launch} {e : Env} {s : State} {m : MethodId} {args : Array Value} {below : List Frame} {meth : Method} {c : Code} {T0 : State} {locs : List Loc} {Z : State} {a0 : Array Value} {h0 : Heap} {n0 : Nat} (p1 : Int32) (p2 : Int32) (kk : Int32) (cc : Int32) (r : Addr)
    (X0 : Stand p l e room_1 s m args below meth c T0 locs 0 0) (hx : p.tables.exec = Jvm.exec) (hZ : Z.Warmed39 s.vm) (hw : ∀ d ∈ tables_1, d.before a0 Z = true) (hby : c.code = code) (hml : c.maxLocals = 6) (hown : s.vm.findClass "com/example/nodewright/nodewright/model/IdTypeForLetterPinLaw" = some m.cls) (e0 : T0.heap = h0) (Z0 : n0 ≤ h0.size) (N0 : Fr n0 locs) (w1 : Addr) (cl : Cell) (c0 c1 c2 c3 : Addr) (S_V : Sta Z h0 "com/example/nodewright/nodewright/model/NodeId$IdType" "$VALUES" "[Lcom/example/nodewright/nodewright/model/NodeId$IdType;" (.ref w1)) (Ar_w1 : Arr Z h0 w1 cl (.object "com/example/nodewright/nodewright/model/NodeId$IdType")) (E_w1 : Exa Z h0 w1 "[Lcom/example/nodewright/nodewright/model/NodeId$IdType;") (Fc_w1 : FitC Z cl) (sz : cl.slots.size = 4) (Ex : Els Z h0 cl.slots 0 [(c0, (105 : Int32)), (c1, (115 : Int32)), (c2, (103 : Int32)), (c3, (98 : Int32))]) (Ea : ∀ q ∈ [(c0, (105 : Int32)), (c1, (115 : Int32)), (c2, (103 : Int32)), (c3, (98 : Int32))], Exa Z h0 q.1 "com/example/nodewright/nodewright/model/NodeId$IdType") (hv : own_find cc [(c0, (105 : Int32)), (c1, (115 : Int32)), (c2, (103 : Int32)), (c3, (98 : Int32))] = (.ref r)) :
    ∃ (T' : State) (locs' : List Loc), Stand p l e room_1 s m args below meth c T' locs' 1 4 ∧ Fr n0 locs' ∧ True ∧
      ∀ target, Steps p.tables e below (T'.setTop (mkF m 144 #[.val (.int p1), .val (.int p2), .val (.int kk), .val (.int cc), .val (.ref r), .val (.ref r)] [(.int (1 : Int32))])) target → Steps p.tables e below (T0.setTop (mkF m 110 #[.val (.int p1), .val (.int p2), .val (.int kk), .val (.int cc), .val (.ref r), .unset] [])) target := by
  obtain ⟨_, _, ⟨T3, L3, k3, n3⟩, -, X3, ⟨Lc3, hQ3, l3, y3, z3⟩, st3⟩ := Jvm.LawKit.callS X0 hx (y := (⟨"com/example/nodewright/nodewright/model/NodeId$IdType", "forLetter", "(C)Lcom/example/nodewright/nodewright/model/NodeId$IdType;"⟩ : MethodName)) hown (mvT hZ (hw _ (List.mem_of_getElem? (i := 3) rfl))) (mvT hZ (hw _ (List.mem_of_getElem? (i := 4) rfl))) (mvT hZ (hw _ (List.mem_of_getElem? (i := 1) rfl))) (mvT hZ (hw _ (List.mem_of_getElem? (i := 5) rfl))) (by decide) (backOf (W := 0) (rm1 l Z a0 hw [] cc h0 n0 Z0 w1 cl [(c0, (105 : Int32)), (c1, (115 : Int32)), (c2, (103 : Int32)), (c3, (98 : Int32))] S_V Ar_w1 E_w1 Fc_w1 sz Ex rfl) hZ (hw _ (List.mem_of_getElem? (i := 5) rfl)) (hw _ (List.mem_of_getElem? (i := 1) rfl)) (by decide) (by decide)) (g := (mkF m 111 #[.val (.int p1), .val (.int p2), .val (.int kk), .val (.int cc), .val (.ref r), .unset] [(.int cc)])) rfl (by rw [hml]; rfl) (argsL := [(.int cc)]) (rest := []) (lenOf pd_0_0 rfl) rfl (by show 2 * 0 + _ ≤ _; exact Nat.le_of_eq rfl) (hb hby at_111) (fun _ _ => ⟨rfl, e0, (Nat.le_of_ble_eq_true rfl), (Nat.le_of_ble_eq_true rfl)⟩)
  dsimp only [Pt.U, Pt.locs, Pt.cells, Pt.slots] at X3 l3 y3 z3 st3 hQ3
  subst l3 y3 z3
  obtain ⟨rfl, N3q, K3q⟩ := hQ3
  have N3 := Fr.app N0 N3q
  rw [hv] at st3
  have hm := own_find_mem _ hv
  have hc136 : nar .char cc = cc := own_nar4 hm
  have Er := (Ea _ hm).keep K3q
  have Fl := (Els.at _ _ Ex _ hm).keep K3q nin0
  have Zq : n0 ≤ T3.heap.size := Nat.le_trans Z0 K3q.1
  obtain ⟨cq4, kq4, q4a, q4b, q4c⟩ := isOf hZ rfl Er
  obtain ⟨_, _, ⟨T4, L4, k4, n4⟩, -, X4, ⟨Lc4, hQ4, l4, y4, z4⟩, st4⟩ := X3.virtualBack hx (y := (⟨"com/example/nodewright/nodewright/model/NodeId$IdType", "letter", "()C"⟩ : MethodName)) (z := (⟨"com/example/nodewright/nodewright/model/NodeId$IdType", "letter", "()C"⟩ : MethodName)) hown (mvT hZ (hw _ (List.mem_of_getElem? (i := 26) rfl))) (mvT hZ (hw _ (List.mem_of_getElem? (i := 27) rfl))) (notFace_of_selects (args := #[]) (mvT hZ (hw _ (List.mem_of_getElem? (i := 29) rfl)))) (mvT hZ (hw _ (List.mem_of_getElem? (i := 29) rfl))) (mvT hZ (hw _ (List.mem_of_getElem? (i := 28) rfl))) (by decide) (backOf (W := 0) (rm3 l Z a0 hw [] r cc T3.heap n0 Zq Fl) hZ (hw _ (List.mem_of_getElem? (i := 30) rfl)) (hw _ (List.mem_of_getElem? (i := 1) rfl)) (by decide) (by decide)) q4a q4c (g := (mkF m 132 #[.val (.int p1), .val (.int p2), .val (.int kk), .val (.int cc), .val (.ref r), .val (.ref r)] [(.ref r)])) rfl (by rw [hml]; rfl) (Steps.refl _) (argsL := []) (rest := []) (lenOf pd_0_3 rfl) rfl (by show 2 * 0 + _ ≤ _; exact Nat.le_of_eq rfl) (hb hby at_132) (fun _ _ => ⟨rfl, rfl, (Nat.le_of_ble_eq_true rfl), (Nat.le_of_ble_eq_true rfl)⟩)
  dsimp only [Pt.U, Pt.locs, Pt.cells, Pt.slots] at X4 l4 y4 z4 st4 hQ4
  subst l4 y4 z4
  obtain ⟨rfl, N4q, e4q⟩ := hQ4
  have N4 := Fr.app N3 N4q
  refine ⟨T4, _, X4, N4, trivial, fun target kt => ?_⟩
  show Steps p.tables e below (T0.setTop (mkF m 110 #[.val (.int p1), .val (.int p2), .val (.int kk), .val (.int cc), .val (.ref r), .unset] [])) _
  refine XS.iloadN X0.here hx rfl (hb hby at_110) rfl ?_
  show Steps p.tables e below (T0.setTop (mkF m 111 #[.val (.int p1), .val (.int p2), .val (.int kk), .val (.int cc), .val (.ref r), .unset] [(.int cc)])) _
  refine st3 _ ?_
  show Steps p.tables e below (T3.setTop (mkF m 114 #[.val (.int p1), .val (.int p2), .val (.int kk), .val (.int cc), .val (.ref r), .unset] [(.ref r)])) _
  refine XS.astore X3.here hx rfl (hb hby at_114) rfl rfl (l' := #[.val (.int p1), .val (.int p2), .val (.int kk), .val (.int cc), .val (.ref r), .val (.ref r)]) rfl ?_
  show Steps p.tables e below (T3.setTop (mkF m 116 #[.val (.int p1), .val (.int p2), .val (.int kk), .val (.int cc), .val (.ref r), .val (.ref r)] [])) _
  refine XS.aload X3.here hx rfl (hb hby at_116) rfl rfl ?_
  show Steps p.tables e below (T3.setTop (mkF m 118 #[.val (.int p1), .val (.int p2), .val (.int kk), .val (.int cc), .val (.ref r), .val (.ref r)] [(.ref r)])) _
  refine XS.aload X3.here hx rfl (hb hby at_118) rfl rfl ?_
  show Steps p.tables e below (T3.setTop (mkF m 120 #[.val (.int p1), .val (.int p2), .val (.int kk), .val (.int cc), .val (.ref r), .val (.ref r)] [(.ref r), (.ref r)])) _
  refine Jvm.RoadKit.acmp (g := (mkF m 120 #[.val (.int p1), .val (.int p2), .val (.int kk), .val (.int cc), .val (.ref r), .val (.ref r)] [(.ref r), (.ref r)])) X3 hx rfl rfl rfl (pc0 := 120) (pc' := 125) (same := true) rfl (hb hby at_120) rfl (decide_eq_true rfl) (by decide) (by decide) ?_
  show Steps p.tables e below (T3.setTop (mkF m 125 #[.val (.int p1), .val (.int p2), .val (.int kk), .val (.int cc), .val (.ref r), .val (.ref r)] [])) _
  refine XS.aload X3.here hx rfl (hb hby at_125) rfl rfl ?_
  show Steps p.tables e below (T3.setTop (mkF m 127 #[.val (.int p1), .val (.int p2), .val (.int kk), .val (.int cc), .val (.ref r), .val (.ref r)] [(.ref r)])) _
  refine XS.ifnullNo X3.here hx rfl (hb hby at_127) rfl ?_
  show Steps p.tables e below (T3.setTop (mkF m 130 #[.val (.int p1), .val (.int p2), .val (.int kk), .val (.int cc), .val (.ref r), .val (.ref r)] [])) _
  refine XS.aload X3.here hx rfl (hb hby at_130) rfl rfl ?_
  show Steps p.tables e below (T3.setTop (mkF m 132 #[.val (.int p1), .val (.int p2), .val (.int kk), .val (.int cc), .val (.ref r), .val (.ref r)] [(.ref r)])) _
  refine st4.trans ?_
  show Steps p.tables e below (T4.setTop (mkF m 135 #[.val (.int p1), .val (.int p2), .val (.int kk), .val (.int cc), .val (.ref r), .val (.ref r)] [(.int (nar .char cc))])) _
  refine XS.iloadN X4.here hx rfl (hb hby at_135) rfl ?_
  show Steps p.tables e below (T4.setTop (mkF m 136 #[.val (.int p1), .val (.int p2), .val (.int kk), .val (.int cc), .val (.ref r), .val (.ref r)] [(.int cc), (.int (nar .char cc))])) _
  refine XS.icmpNo X4.here hx rfl (hb hby at_136) rfl (teq hc136).2 ?_
  show Steps p.tables e below (T4.setTop (mkF m 139 #[.val (.int p1), .val (.int p2), .val (.int kk), .val (.int cc), .val (.ref r), .val (.ref r)] [])) _
  refine XS.iconst X4.here hx rfl (hb hby at_139) ?_
  show Steps p.tables e below (T4.setTop (mkF m 140 #[.val (.int p1), .val (.int p2), .val (.int kk), .val (.int cc), .val (.ref r), .val (.ref r)] [(.int (1 : Int32))])) _
  refine XS.goto X4.here hx rfl (pc0 := 140) (pc' := 144) rfl (hb hby at_140) (by decide) (by decide) ?_
  exact kt

set_option maxRecDepth 65536 in
set_option maxHeartbeats 40000000 in
theorem own_cn {p : Program} {l : Launch} {e : Env} {s : State} {m : MethodId} {args : Array Value} {below : List Frame} {meth : Method} {c : Code} {T0 : State} {locs : List Loc} {Z : State} {a0 : Array Value} {h0 : Heap} {n0 : Nat} (p1 : Int32) (p2 : Int32) (kk : Int32) (cc : Int32)
    (X0 : Stand p l e room_1 s m args below meth c T0 locs 0 0) (hx : p.tables.exec = Jvm.exec) (hZ : Z.Warmed39 s.vm) (hw : ∀ d ∈ tables_1, d.before a0 Z = true) (hby : c.code = code) (hml : c.maxLocals = 6) (hown : s.vm.findClass "com/example/nodewright/nodewright/model/IdTypeForLetterPinLaw" = some m.cls) (e0 : T0.heap = h0) (Z0 : n0 ≤ h0.size) (N0 : Fr n0 locs) (w1 : Addr) (cl : Cell) (c0 c1 c2 c3 : Addr) (S_V : Sta Z h0 "com/example/nodewright/nodewright/model/NodeId$IdType" "$VALUES" "[Lcom/example/nodewright/nodewright/model/NodeId$IdType;" (.ref w1)) (Ar_w1 : Arr Z h0 w1 cl (.object "com/example/nodewright/nodewright/model/NodeId$IdType")) (E_w1 : Exa Z h0 w1 "[Lcom/example/nodewright/nodewright/model/NodeId$IdType;") (Fc_w1 : FitC Z cl) (sz : cl.slots.size = 4) (Ex : Els Z h0 cl.slots 0 [(c0, (105 : Int32)), (c1, (115 : Int32)), (c2, (103 : Int32)), (c3, (98 : Int32))]) (Ea : ∀ q ∈ [(c0, (105 : Int32)), (c1, (115 : Int32)), (c2, (103 : Int32)), (c3, (98 : Int32))], Exa Z h0 q.1 "com/example/nodewright/nodewright/model/NodeId$IdType") (hv : own_find cc [(c0, (105 : Int32)), (c1, (115 : Int32)), (c2, (103 : Int32)), (c3, (98 : Int32))] = .null) :
    ∃ (T' : State) (locs' : List Loc), Stand p l e room_1 s m args below meth c T' locs' 1 4 ∧ Fr n0 locs' ∧ True ∧
      ∀ target, Steps p.tables e below (T'.setTop (mkF m 144 #[.val (.int p1), .val (.int p2), .val (.int kk), .val (.int cc), .val .null, .val .null] [(.int (1 : Int32))])) target → Steps p.tables e below (T0.setTop (mkF m 110 #[.val (.int p1), .val (.int p2), .val (.int kk), .val (.int cc), .val .null, .unset] [])) target := by
  obtain ⟨_, _, ⟨T3, L3, k3, n3⟩, -, X3, ⟨Lc3, hQ3, l3, y3, z3⟩, st3⟩ := Jvm.LawKit.callS X0 hx (y := (⟨"com/example/nodewright/nodewright/model/NodeId$IdType", "forLetter", "(C)Lcom/example/nodewright/nodewright/model/NodeId$IdType;"⟩ : MethodName)) hown (mvT hZ (hw _ (List.mem_of_getElem? (i := 3) rfl))) (mvT hZ (hw _ (List.mem_of_getElem? (i := 4) rfl))) (mvT hZ (hw _ (List.mem_of_getElem? (i := 1) rfl))) (mvT hZ (hw _ (List.mem_of_getElem? (i := 5) rfl))) (by decide) (backOf (W := 0) (rm1 l Z a0 hw [] cc h0 n0 Z0 w1 cl [(c0, (105 : Int32)), (c1, (115 : Int32)), (c2, (103 : Int32)), (c3, (98 : Int32))] S_V Ar_w1 E_w1 Fc_w1 sz Ex rfl) hZ (hw _ (List.mem_of_getElem? (i := 5) rfl)) (hw _ (List.mem_of_getElem? (i := 1) rfl)) (by decide) (by decide)) (g := (mkF m 111 #[.val (.int p1), .val (.int p2), .val (.int kk), .val (.int cc), .val .null, .unset] [(.int cc)])) rfl (by rw [hml]; rfl) (argsL := [(.int cc)]) (rest := []) (lenOf pd_0_0 rfl) rfl (by show 2 * 0 + _ ≤ _; exact Nat.le_of_eq rfl) (hb hby at_111) (fun _ _ => ⟨rfl, e0, (Nat.le_of_ble_eq_true rfl), (Nat.le_of_ble_eq_true rfl)⟩)
  dsimp only [Pt.U, Pt.locs, Pt.cells, Pt.slots] at X3 l3 y3 z3 st3 hQ3
  subst l3 y3 z3
  obtain ⟨rfl, N3q, K3q⟩ := hQ3
  have N3 := Fr.app N0 N3q
  rw [hv] at st3
  have Zq : n0 ≤ T3.heap.size := Nat.le_trans Z0 K3q.1
  refine ⟨T3, _, X3, N3, trivial, fun target kt => ?_⟩
  show Steps p.tables e below (T0.setTop (mkF m 110 #[.val (.int p1), .val (.int p2), .val (.int kk), .val (.int cc), .val .null, .unset] [])) _
  refine XS.iloadN X0.here hx rfl (hb hby at_110) rfl ?_
  show Steps p.tables e below (T0.setTop (mkF m 111 #[.val (.int p1), .val (.int p2), .val (.int kk), .val (.int cc), .val .null, .unset] [(.int cc)])) _
  refine st3 _ ?_
  show Steps p.tables e below (T3.setTop (mkF m 114 #[.val (.int p1), .val (.int p2), .val (.int kk), .val (.int cc), .val .null, .unset] [.null])) _
  refine XS.astore X3.here hx rfl (hb hby at_114) rfl rfl (l' := #[.val (.int p1), .val (.int p2), .val (.int kk), .val (.int cc), .val .null, .val .null]) rfl ?_
  show Steps p.tables e below (T3.setTop (mkF m 116 #[.val (.int p1), .val (.int p2), .val (.int kk), .val (.int cc), .val .null, .val .null] [])) _
  refine XS.aload X3.here hx rfl (hb hby at_116) rfl rfl ?_
  show Steps p.tables e below (T3.setTop (mkF m 118 #[.val (.int p1), .val (.int p2), .val (.int kk), .val (.int cc), .val .null, .val .null] [.null])) _
  refine XS.aload X3.here hx rfl (hb hby at_118) rfl rfl ?_
  show Steps p.tables e below (T3.setTop (mkF m 120 #[.val (.int p1), .val (.int p2), .val (.int kk), .val (.int cc), .val .null, .val .null] [.null, .null])) _
  refine Jvm.RoadKit.acmp (g := (mkF m 120 #[.val (.int p1), .val (.int p2), .val (.int kk), .val (.int cc), .val .null, .val .null] [.null, .null])) X3 hx rfl rfl rfl (pc0 := 120) (pc' := 125) (same := true) rfl (hb hby at_120) rfl (decide_eq_true rfl) (by decide) (by decide) ?_
  show Steps p.tables e below (T3.setTop (mkF m 125 #[.val (.int p1), .val (.int p2), .val (.int kk), .val (.int cc), .val .null, .val .null] [])) _
  refine XS.aload X3.here hx rfl (hb hby at_125) rfl rfl ?_
  show Steps p.tables e below (T3.setTop (mkF m 127 #[.val (.int p1), .val (.int p2), .val (.int kk), .val (.int cc), .val .null, .val .null] [.null])) _
  refine XS.ifnullYes X3.here hx rfl (pc0 := 127) (pc' := 139) rfl (hb hby at_127) rfl (by decide) (by decide) ?_
  show Steps p.tables e below (T3.setTop (mkF m 139 #[.val (.int p1), .val (.int p2), .val (.int kk), .val (.int cc), .val .null, .val .null] [])) _
  refine XS.iconst X3.here hx rfl (hb hby at_139) ?_
  show Steps p.tables e below (T3.setTop (mkF m 140 #[.val (.int p1), .val (.int p2), .val (.int kk), .val (.int cc), .val .null, .val .null] [(.int (1 : Int32))])) _
  refine XS.goto X3.here hx rfl (pc0 := 140) (pc' := 144) rfl (hb hby at_140) (by decide) (by decide) ?_
  exact kt
theorem pn_0 : plainName "com/example/nodewright/nodewright/model/IdTypeForLetterPinLaw" = true := by first | (simp [plainName, overriddenIn]; done) | decide +kernel
theorem ef_0 (m : MethodId) (x0 : Int32) (x1 : Int32) : entryFrame m #[(.int x0), (.int x1)] maxLocals = mkF m 0 #[.val (.int x0), .val (.int x1), .unset, .unset, .unset, .unset] [] := by first | (simp [entryFrame, mkF, argsToLocals, Value.category, maxLocals]; done) | rfl
def Q0 (Z : State) (p1 : Int32) (p2 : Int32) (h0 : Heap) (n0 : Nat) (v : Option Value) (h : Heap) (L : List Loc) : Prop := v = some (.int (1 : Int32)) ∧ Fr n0 L
set_option maxRecDepth 65536 in
set_option maxHeartbeats 40000000 in
theorem rm0 (l : Launch) (Z : State) (a0 : Array Value) (hw : ∀ d ∈ tables_1, d.before a0 Z = true) (ws : List Jvm.Cond) (p1 : Int32) (p2 : Int32) (h0 : Heap) (n0 : Nat) (Z0 : n0 ≤ h0.size) (w1 : Addr) (cl : Cell) (c0 c1 c2 c3 : Addr) (S_V : Sta Z h0 "com/example/nodewright/nodewright/model/NodeId$IdType" "$VALUES" "[Lcom/example/nodewright/nodewright/model/NodeId$IdType;" (.ref w1)) (Ar_w1 : Arr Z h0 w1 cl (.object "com/example/nodewright/nodewright/model/NodeId$IdType")) (E_w1 : Exa Z h0 w1 "[Lcom/example/nodewright/nodewright/model/NodeId$IdType;") (Fc_w1 : FitC Z cl) (sz : cl.slots.size = 4) (Ex : Els Z h0 cl.slots 0 [(c0, (105 : Int32)), (c1, (115 : Int32)), (c2, (103 : Int32)), (c3, (98 : Int32))]) (Ea : ∀ q ∈ [(c0, (105 : Int32)), (c1, (115 : Int32)), (c2, (103 : Int32)), (c3, (98 : Int32))], Exa Z h0 q.1 "com/example/nodewright/nodewright/model/NodeId$IdType") (S_NUMERIC : Sta Z h0 "com/example/nodewright/nodewright/model/NodeId$IdType" "NUMERIC" "Lcom/example/nodewright/nodewright/model/NodeId$IdType;" (.ref c0)) (S_STRING : Sta Z h0 "com/example/nodewright/nodewright/model/NodeId$IdType" "STRING" "Lcom/example/nodewright/nodewright/model/NodeId$IdType;" (.ref c1)) (S_GUID : Sta Z h0 "com/example/nodewright/nodewright/model/NodeId$IdType" "GUID" "Lcom/example/nodewright/nodewright/model/NodeId$IdType;" (.ref c2)) (S_OPAQUE : Sta Z h0 "com/example/nodewright/nodewright/model/NodeId$IdType" "OPAQUE" "Lcom/example/nodewright/nodewright/model/NodeId$IdType;" (.ref c3)) :
    MetFree l x (head1 (Jvm.Cond.code x code maxLocals ret :: ws) room_1) (fun a U => a = #[(.int p1), (.int p2)] ∧ Z.Warmed39 U.vm ∧ U.heap = h0) (fun _ _ _ _ _ => True) (fun _ U o U' => ∃ v L, o = .returned v ∧ Q0 Z p1 p2 h0 n0 v U'.heap L ∧ FrameEnd U o U' L room_1.cells room_1.slots) := by
  refine MetFree.of_bodySF (plainFor_of_name pn_0) hisR ?_
  intro p e s m args below meth c s₁ Bd hml0 hP hK
  obtain ⟨rfl, hZ, hh⟩ := hP
  have hx := Bd.exec
  have hby := Bd.bytes
  have hml : c.maxLocals = 6 := hml0
  have hown : s.vm.findClass "com/example/nodewright/nodewright/model/IdTypeForLetterPinLaw" = some m.cls := findClass_of_methodNamed Bd.named
  have hnm := (name_of_methodNamed Bd.named Bd.method).1
  have X0 : Stand p l e room_1 s m #[(.int p1), (.int p2)] below meth c s₁ [] 0 0 := Stand.of_body Bd
  have e0 : s₁.heap = h0 := by rw [← hh, Bd.state]; rfl
  have N0 := Fr.nil n0
  have pre0 : ∀ t, Steps p.tables e below (s₁.setTop (mkF m 0 #[.val (.int p1), .val (.int p2), .unset, .unset, .unset, .unset] [])) t → Steps p.tables e below (s₁.setTop (entryFrame m #[(.int p1), (.int p2)] maxLocals)) t := fun t k => castTop (ef_0 m p1 p2) k
  obtain ⟨T1, L1, cc, X1, N1, e1, st1⟩ := own_a p1 p2 X0 hx hZ hw hby hml hown e0 Z0 N0
  obtain ⟨T2, L2, X2, N2, e2, st2⟩ := own_b p1 p2 (p2 &&& (7 : Int32)) cc c0 c1 c2 c3 X1 hx hZ hw hby hml hown e1 Z0 N1 S_NUMERIC S_STRING S_GUID S_OPAQUE
  rcases ref_cases (own_find_ref cc [(c0, (105 : Int32)), (c1, (115 : Int32)), (c2, (103 : Int32)), (c3, (98 : Int32))]) with hv | ⟨r, hv⟩
  · rw [hv] at st2
    obtain ⟨T3, L3, X3, N3, -, st3⟩ := own_cn p1 p2 (p2 &&& (7 : Int32)) cc X2 hx hZ hw hby hml hown e2 Z0 N2 w1 cl c0 c1 c2 c3 S_V Ar_w1 E_w1 Fc_w1 sz Ex Ea hv
    obtain ⟨fs, hr, hrun, hended, hW, hsame⟩ := X3.leave (v := some (.int (1 : Int32))) (fun h => by rw [Bd.returns] at h; cases h)
    refine ⟨_, _, pre0 _ ?_, hrun, hended, _, _, rfl, ?_, ⟨_, rfl⟩, hW, hsame.mono (by decide) (by decide)⟩
    · refine st1 _ ?_
      refine st2 _ ?_
      refine st3 _ ?_
      exact retN X3 hx (t := .boolean) Bd.returns (by simp) (hb hby at_144) hr
    · exact ⟨rfl, N3⟩
  · rw [hv] at st2
    obtain ⟨T3, L3, X3, N3, -, st3⟩ := own_cr p1 p2 (p2 &&& (7 : Int32)) cc r X2 hx hZ hw hby hml hown e2 Z0 N2 w1 cl c0 c1 c2 c3 S_V Ar_w1 E_w1 Fc_w1 sz Ex Ea hv
    obtain ⟨fs, hr, hrun, hended, hW, hsame⟩ := X3.leave (v := some (.int (1 : Int32))) (fun h => by rw [Bd.returns] at h; cases h)
    refine ⟨_, _, pre0 _ ?_, hrun, hended, _, _, rfl, ?_, ⟨_, rfl⟩, hW, hsame.mono (by decide) (by decide)⟩
    · refine st1 _ ?_
      refine st2 _ ?_
      refine st3 _ ?_
      exact retN X3 hx (t := .boolean) Bd.returns (by simp) (hb hby at_144) hr
    · exact ⟨rfl, N3⟩
theorem own_size {s : State} {args : Array Value} {t : Term} {w : Addr} {cl : Cell} {k : Int32} (ew : t.eval args s none [] s = some (.ref w)) (hA : s.arrayAt? w = some cl) (h : (Cond.eq (.length t) (.int k)).value args s none s [] = some true) : cl.slots.size = k.toNatClampNeg := by
  have e3 := eqv_i (Term.int_eval k) h
  by_cases q : cl.slots.size < 2 ^ 31
  · rw [len_f ew hA q] at e3
    have e4 := Value.int.inj (Option.some.inj e3)
    have e5 := len_toInt q
    rw [e4] at e5
    simp only [Int32.toNatClampNeg]; omega
  · simp [Term.eval, ew, hA] at e3
    exact absurd e3.1 (by omega)

set_option maxRecDepth 65536 in
set_option maxHeartbeats 40000000 in
theorem comes_1 {Post : Tables → Env → Array Value → State → Outcome → State → Prop} (hpost : ∀ tb e args s v u, (limb_1_1.after args s (.returned v) u = true ∧ limb_1_2.after args s (.returned v) u = true ∧ True) → FrameEnd s (.returned v) u (Jvm.fieldLocs frame_1_writes args s ++ Jvm.arrayLocs frame_1_arrays args s ++ Jvm.staticLocs frame_1_statics s) 16 128 → Post tb e args s (.returned v) u) :
    ArmFor flags0 classFile x code maxLocals ret World_1 tables_1 room_1 Calls_1 rest_1 Pre_1 Post := by
  intro l hfl _ _ p e ha hc hk s m args below hf hA hF happ hP
  obtain ⟨hcalls, hrest, hpre⟩ := hP
  obtain ⟨-, -, -, hnamed, -, -, -, hat⟩ := (Spec.applies_iff hf).mp happ
  obtain ⟨hg, hn⟩ := and_e (Cond.before_iff.mp (show (Jvm.Cond.and given_1 narrow_1).before args s = true from hpre))
  obtain ⟨g4, g5⟩ := and_e hg
  obtain ⟨g6, g7⟩ := and_e g5
  obtain ⟨w0, w1, rfl⟩ : ∃ w0 w1 : Value, args = #[w0, w1] := by
    have hs : args.size = 2 := by simpa [Cond.value, given_1] using g4
    obtain ⟨L⟩ := args
    match L, hs with
    | [w0, w1], _ => exact ⟨w0, w1, rfl⟩
  have hw := fun d (hd : d ∈ tables_1) => atoms_spec (ws := Jvm.Cond.code x code maxLocals ret :: tables_1) hat d (List.mem_cons_of_mem _ hd)
  have hfit : Fit s := fun {y c} hc i hi => by
    obtain ⟨ha, rfl⟩ := Array.getElem?_eq_some_iff.mp hc
    have q := List.all_eq_true.mp ((Array.all_eq_true_iff_forall_mem.mp hF) _ (Array.getElem_mem ha)) i (List.mem_range.mpr hi)
    simpa [Array.getElem?_eq_getElem hi] using q
  obtain ⟨i0, ei0⟩ := is_v g6
  obtain rfl : w0 = (.int i0) := Option.some.inj ei0
  obtain ⟨i1, ei1⟩ := is_v g7
  obtain rfl : w1 = (.int i1) := Option.some.inj ei1
  obtain ⟨n0, hn⟩ := and_e hn
  obtain ⟨n1, hn⟩ := and_e hn
  obtain ⟨n2, hn⟩ := and_e hn
  obtain ⟨n3, hn⟩ := and_e hn
  obtain ⟨n4, hn⟩ := and_e hn
  obtain ⟨n5, hn⟩ := and_e hn
  obtain ⟨n6, hn⟩ := and_e hn
  obtain ⟨n7, hn⟩ := and_e hn
  obtain ⟨n8, hn⟩ := and_e hn
  obtain ⟨n9, hn⟩ := and_e hn
  obtain ⟨n10, hn⟩ := and_e hn
  obtain ⟨n11, hn⟩ := and_e hn
  obtain ⟨n12, hn⟩ := and_e hn
  obtain ⟨n13, hn⟩ := and_e hn
  have n14 := hn
  obtain ⟨w, ew⟩ := arr_v n1
  obtain ⟨cl, A⟩ := Arr.start ew n1
  obtain ⟨c0, v0⟩ := exa_v n4
  obtain ⟨c1, v1⟩ := exa_v n6
  obtain ⟨c2, v2⟩ := exa_v n8
  obtain ⟨c3, v3⟩ := exa_v n0
  have sz : cl.slots.size = 4 := own_size ew (A.fin (Vm.Alike.refl _)) n3
  have Ea : ∀ q ∈ [(c0, (105 : Int32)), (c1, (115 : Int32)), (c2, (103 : Int32)), (c3, (98 : Int32))], Exa s s.heap q.1 "com/example/nodewright/nodewright/model/NodeId$IdType" := by
    intro q hq
    simp only [List.mem_cons, List.not_mem_nil, or_false] at hq
    rcases hq with rfl | rfl | rfl | rfl
    · exact Exa.start v0 n4
    · exact Exa.start v1 n6
    · exact Exa.start v2 n8
    · exact Exa.start v3 n0
  obtain ⟨n, o, h1, h2, h3, _, L, rfl, ⟨rfl, N⟩, hq⟩ := rm0 l s _ hw tables_1 i0 i1 s.heap s.heap.size (Nat.le_refl _) w cl c0 c1 c2 c3 (Sta.start ew (Or.inl (hw _ (List.mem_of_getElem? (i := 21) rfl)))) A (Exa.start ew n2) (FitC.start hfit A) sz ⟨own_elem ew A.1 v0 n5, own_fldI v0 n11, own_elem ew A.1 v1 n7, own_fldI v1 n12, own_elem ew A.1 v2 n9, own_fldI v2 n13, own_elem ew A.1 v3 n10, own_fldI v3 n14, trivial⟩ Ea (Sta.start v0 (Or.inr ⟨hw _ (List.mem_of_getElem? (i := 1) rfl), hw _ (List.mem_of_getElem? (i := 18) rfl)⟩)) (Sta.start v1 (Or.inr ⟨hw _ (List.mem_of_getElem? (i := 1) rfl), hw _ (List.mem_of_getElem? (i := 19) rfl)⟩)) (Sta.start v2 (Or.inr ⟨hw _ (List.mem_of_getElem? (i := 1) rfl), hw _ (List.mem_of_getElem? (i := 20) rfl)⟩)) (Sta.start v3 (Or.inr ⟨hw _ (List.mem_of_getElem? (i := 1) rfl), hw _ (List.mem_of_getElem? (i := 2) rfl)⟩)) p e ha hc hk s m _ below hf ((Spec.applies_iff_loose hf).mp happ).1 ⟨rfl, State.Warmed39.refl s, rfl⟩ trivial
  refine ⟨n, _, h1, h2, h3, hpost _ _ _ _ _ _ ⟨Cond.after_iff.mpr rfl, Cond.after_iff.mpr (eq_i res_at (Term.int_eval (1)) rfl), trivial⟩ ⟨hq.1, hq.2.1, (hq.2.2.sift fun y hy => Or.inr (N y hy)).mono (by decide) (by decide)⟩⟩
theorem main_1_1 : Claimed_1_1 := comes_1 fun _ _ _ _ _ _ h hF => ⟨h.1, hF⟩
theorem main_1_2 : Claimed_1_2 := comes_1 fun _ _ _ _ _ _ h hF => ⟨h.2.1, hF⟩
end Jvm.Pilot.@@N@@
namespace Jvm.Pilot.@@N@@
open Jvm Jvm.ClassFile Sem Op Lib Jvm.Free Jvm.Stand Jvm.Pilot.@@N@@.Jvm.D
/-! MADE BY PROGRAM (witnessworld.py) out of the Statement's table words and the real class files: 13 classes; the members and pool entries that the words name. The judged class is class 1, her method 1. -/
namespace start1
open Jvm.ClassFile
def u (s : String) : CpInfo := .utf8 (stringToUtf16 s)
/-- a pool by its gaps: so many unusable entries, then the entry; so many at the end -/
def gap : Nat → List CpInfo → List CpInfo
  | 0, r => r
  | n + 1, r => .unusable :: gap n r
def poolList (es : List (Nat × CpInfo)) (last : Nat) : List CpInfo := es.foldr (fun e r => gap e.1 (e.2 :: r)) (gap last [])
def pool (es : List (Nat × CpInfo)) (last : Nat) : Array CpInfo := ⟨poolList es last⟩
def fileOf (pool : Array CpInfo) (this : Nat) (attrs : Array Attribute := #[]) (ms : Array MethodInfo := #[]) (fl : Nat := 33) (sup : Nat := 0) (ifs : Array Nat := #[]) (fds : Array FieldInfo := #[]) : ClassFile where
  minorVersion := 0
  majorVersion := 65
  constantPool := pool
  accessFlags := fl
  thisClass := this
  superClass := sup
  interfaces := ifs
  fields := fds
  methods := ms
  attributes := attrs
def plain (name : String) (sup : Option ClassId) : Class where
  name := name
  kind := .ordinary
  loader := none
  accessFlags := 33
  super := sup
  interfaces := #[]
  cf := none
  fields := #[]
  methods := #[]
  instanceTypes := #[]
  staticTypes := #[]
  resolved := #[]
  callSites := []
  init := .initialized
  statics := none
  mirror := none

def pool0 : Array CpInfo := pool [(5, u "<init>"), (0, u "()V"), (1, .class_ 10), (1, u "java/lang/Object"), (85, u "clone"), (0, u "()Ljava/lang/Object;")] 26

def k0m0 : Method := { name := "<init>", desc := "()V", sig := { parameters := [], returnType := none }, accessFlags := 1, code := none }
def k0m1 : Method := { name := "clone", desc := "()Ljava/lang/Object;", sig := { parameters := [], returnType := some (.object "java/lang/Object") }, accessFlags := 260, code := none }
/-- java/lang/Object -/
def k0 : Class := { plain "java/lang/Object" none with
  accessFlags := 33
  interfaces := #[]
  cf := some (fileOf pool0 8 #[] #[{ accessFlags := 1, nameIndex := 5, descriptorIndex := 6, attributes := #[] }, { accessFlags := 260, nameIndex := 96, descriptorIndex := 97, attributes := #[] }] 33 0 #[] #[])
  fields := #[]
  methods := #[k0m0, k0m1]
  instanceTypes := #[]
  staticTypes := #[]
  resolved := Array.replicate 124 none
  statics := none }

def pool1 : Array CpInfo := pool [(2, .class_ 4), (1, u "java/lang/Object"), (0, u "<init>"), (0, u "()V"), (0, .fieldref 8 9), (0, .class_ 10), (0, .nameAndType 11 12), (0, u "com/example/nodewright/nodewright/model/NodeId$IdType"), (0, u "NUMERIC"), (0, u "Lcom/example/nodewright/nodewright/model/NodeId$IdType;"), (0, .fieldref 8 14), (0, .nameAndType 15 12), (0, u "STRING"), (0, .fieldref 8 17), (0, .nameAndType 18 12), (0, u "GUID"), (0, .fieldref 8 20), (0, .nameAndType 21 12), (0, u "OPAQUE"), (0, .methodref 8 23), (0, .nameAndType 24 25), (0, u "forLetter"), (0, u "(C)Lcom/example/nodewright/nodewright/model/NodeId$IdType;"), (0, .methodref 8 27), (0, .nameAndType 28 29), (0, u "letter"), (0, u "()C"), (0, .class_ 31), (0, u "com/example/nodewright/nodewright/model/IdTypeForLetterPinLaw"), (2, u "law"), (0, u "(II)Z")] 7

def k1m0 : Method := { name := "<init>", desc := "()V", sig := { parameters := [], returnType := none }, accessFlags := 2, code := none }
def k1c1 : Code := { maxStack := 2, maxLocals := 6, code := code, exceptionTable := #[], attributes := #[] }
def k1m1 : Method := { name := "law", desc := "(II)Z", sig := { parameters := [.int, .int], returnType := some .boolean }, accessFlags := 9, code := some k1c1 }
/-- com/example/nodewright/nodewright/model/IdTypeForLetterPinLaw -/
def k1 : Class := { plain "com/example/nodewright/nodewright/model/IdTypeForLetterPinLaw" (some 0) with
  accessFlags := 49
  interfaces := #[]
  cf := some (fileOf pool1 30 #[] #[{ accessFlags := 2, nameIndex := 5, descriptorIndex := 6, attributes := #[] }, { accessFlags := 9, nameIndex := 34, descriptorIndex := 35, attributes := #[] }] 49 2 #[] #[])
  fields := #[]
  methods := #[k1m0, k1m1]
  instanceTypes := #[]
  staticTypes := #[]
  resolved := Array.replicate 43 none
  statics := none }

def pool2 : Array CpInfo := pool [(1, .class_ 2), (0, u "java/lang/constant/Constable"), (0, .class_ 4), (0, u "java/lang/Object")] 6

/-- java/lang/constant/Constable -/
def k2 : Class := { plain "java/lang/constant/Constable" (some 0) with
  accessFlags := 1537
  interfaces := #[]
  cf := some (fileOf pool2 1 #[] #[] 1537 3 #[] #[])
  fields := #[]
  methods := #[]
  instanceTypes := #[]
  staticTypes := #[]
  resolved := Array.replicate 11 none
  statics := none }

def pool3 : Array CpInfo := pool [(1, .class_ 2), (0, u "java/lang/Comparable"), (0, .class_ 4), (0, u "java/lang/Object")] 7

/-- java/lang/Comparable -/
def k3 : Class := { plain "java/lang/Comparable" (some 0) with
  accessFlags := 1537
  interfaces := #[]
  cf := some (fileOf pool3 1 #[] #[] 1537 3 #[] #[])
  fields := #[]
  methods := #[]
  instanceTypes := #[]
  staticTypes := #[]
  resolved := Array.replicate 12 none
  statics := none }

def pool4 : Array CpInfo := pool [(1, .class_ 2), (0, u "java/io/Serializable"), (0, .class_ 4), (0, u "java/lang/Object")] 2

/-- java/io/Serializable -/
def k4 : Class := { plain "java/io/Serializable" (some 0) with
  accessFlags := 1537
  interfaces := #[]
  cf := some (fileOf pool4 1 #[] #[] 1537 3 #[] #[])
  fields := #[]
  methods := #[]
  instanceTypes := #[]
  staticTypes := #[]
  resolved := Array.replicate 7 none
  statics := none }

def pool5 : Array CpInfo := pool [(2, .class_ 4), (1, u "java/lang/Enum"), (0, u "name"), (0, u "Ljava/lang/String;"), (2, u "ordinal"), (0, u "I"), (1, .class_ 14), (1, u "java/lang/Object"), (4, u "hash"), (86, .class_ 108), (1, u "java/lang/Enum$EnumDesc"), (2, .class_ 112), (0, u "java/lang/constant/Constable"), (0, .class_ 114), (0, u "java/lang/Comparable"), (0, .class_ 116), (0, u "java/io/Serializable")] 87

/-- java/lang/Enum -/
def k5 : Class := { plain "java/lang/Enum" (some 0) with
  accessFlags := 1057
  interfaces := #[2, 3, 4]
  cf := some (fileOf pool5 2 #[.nestMembers #[106]] #[] 1057 12 #[111, 113, 115] #[{ accessFlags := 18, nameIndex := 5, descriptorIndex := 6, attributes := #[] }, { accessFlags := 18, nameIndex := 9, descriptorIndex := 10, attributes := #[] }, { accessFlags := 2, nameIndex := 19, descriptorIndex := 10, attributes := #[] }])
  fields := #[{ name := "name", type := (.object "java/lang/String"), accessFlags := 18, slot := 0, constantValue := 0 }, { name := "ordinal", type := .int, accessFlags := 18, slot := 1, constantValue := 0 }, { name := "hash", type := .int, accessFlags := 2, slot := 2, constantValue := 0 }]
  methods := #[]
  instanceTypes := #[(.object "java/lang/String"), .int, .int]
  staticTypes := #[]
  resolved := Array.replicate 204 none
  statics := none }

def pool6 : Array CpInfo := pool [(1, .class_ 2), (0, u "com/example/nodewright/nodewright/model/NodeId$IdType"), (2, u "NUMERIC"), (0, u "Lcom/example/nodewright/nodewright/model/NodeId$IdType;"), (2, u "STRING"), (2, u "GUID"), (2, u "OPAQUE"), (0, .fieldref 1 17), (0, .nameAndType 18 19), (0, u "$VALUES"), (0, u "[Lcom/example/nodewright/nodewright/model/NodeId$IdType;"), (0, .methodref 21 22), (0, .class_ 19), (0, .nameAndType 23 24), (0, u "clone"), (0, u "()Ljava/lang/Object;"), (1, .class_ 28), (1, u "java/lang/Enum"), (6, .fieldref 1 36), (0, .nameAndType 37 38), (0, u "letter"), (0, u "C"), (0, .methodref 1 40), (0, .nameAndType 41 42), (0, u "values"), (0, u "()[Lcom/example/nodewright/nodewright/model/NodeId$IdType;"), (16, u "()C"), (0, u "forLetter"), (0, u "(C)Lcom/example/nodewright/nodewright/model/NodeId$IdType;"), (7, .class_ 70), (0, u "com/example/nodewright/nodewright/model/NodeId")] 2

def k6c0 : Code := { maxStack := 1, maxLocals := 0, code := prog_39_method_1_code, exceptionTable := #[], attributes := #[] }
def k6m0 : Method := { name := "values", desc := "()[Lcom/example/nodewright/nodewright/model/NodeId$IdType;", sig := { parameters := [], returnType := some (.array (.object "com/example/nodewright/nodewright/model/NodeId$IdType")) }, accessFlags := 9, code := some k6c0 }
def k6c1 : Code := { maxStack := 1, maxLocals := 1, code := prog_39_method_4_code, exceptionTable := #[], attributes := #[] }
def k6m1 : Method := { name := "letter", desc := "()C", sig := { parameters := [], returnType := some .char }, accessFlags := 1, code := some k6c1 }
def k6c2 : Code := { maxStack := 2, maxLocals := 5, code := prog_39_method_5_code, exceptionTable := #[], attributes := #[] }
def k6m2 : Method := { name := "forLetter", desc := "(C)Lcom/example/nodewright/nodewright/model/NodeId$IdType;", sig := { parameters := [.char], returnType := some (.object "com/example/nodewright/nodewright/model/NodeId$IdType") }, accessFlags := 8, code := some k6c2 }
/-- com/example/nodewright/nodewright/model/NodeId$IdType -/
def k6 : Class := { plain "com/example/nodewright/nodewright/model/NodeId$IdType" (some 5) with
  accessFlags := 16433
  interfaces := #[]
  cf := some (fileOf pool6 1 #[.nestHost 69] #[{ accessFlags := 9, nameIndex := 41, descriptorIndex := 42, attributes := #[] }, { accessFlags := 1, nameIndex := 37, descriptorIndex := 59, attributes := #[] }, { accessFlags := 8, nameIndex := 60, descriptorIndex := 61, attributes := #[] }] 16433 26 #[] #[{ accessFlags := 16409, nameIndex := 5, descriptorIndex := 6, attributes := #[] }, { accessFlags := 16409, nameIndex := 9, descriptorIndex := 6, attributes := #[] }, { accessFlags := 16409, nameIndex := 12, descriptorIndex := 6, attributes := #[] }, { accessFlags := 16409, nameIndex := 15, descriptorIndex := 6, attributes := #[] }, { accessFlags := 18, nameIndex := 37, descriptorIndex := 38, attributes := #[] }, { accessFlags := 4122, nameIndex := 18, descriptorIndex := 19, attributes := #[] }])
  fields := #[{ name := "NUMERIC", type := (.object "com/example/nodewright/nodewright/model/NodeId$IdType"), accessFlags := 16409, slot := 0, constantValue := 0 }, { name := "STRING", type := (.object "com/example/nodewright/nodewright/model/NodeId$IdType"), accessFlags := 16409, slot := 1, constantValue := 0 }, { name := "GUID", type := (.object "com/example/nodewright/nodewright/model/NodeId$IdType"), accessFlags := 16409, slot := 2, constantValue := 0 }, { name := "OPAQUE", type := (.object "com/example/nodewright/nodewright/model/NodeId$IdType"), accessFlags := 16409, slot := 3, constantValue := 0 }, { name := "letter", type := .char, accessFlags := 18, slot := 3, constantValue := 0 }, { name := "$VALUES", type := (.array (.object "com/example/nodewright/nodewright/model/NodeId$IdType")), accessFlags := 4122, slot := 4, constantValue := 0 }]
  methods := #[k6m0, k6m1, k6m2]
  instanceTypes := #[(.object "java/lang/String"), .int, .int, .char]
  staticTypes := #[(.object "com/example/nodewright/nodewright/model/NodeId$IdType"), (.object "com/example/nodewright/nodewright/model/NodeId$IdType"), (.object "com/example/nodewright/nodewright/model/NodeId$IdType"), (.object "com/example/nodewright/nodewright/model/NodeId$IdType"), (.array (.object "com/example/nodewright/nodewright/model/NodeId$IdType"))]
  resolved := Array.replicate 73 none
  statics := some 0 }

def pool7 : Array CpInfo := pool [(1, .class_ 2), (0, u "java/lang/Cloneable"), (0, .class_ 4), (0, u "java/lang/Object")] 2

/-- java/lang/Cloneable -/
def k7 : Class := { plain "java/lang/Cloneable" (some 0) with
  accessFlags := 1537
  interfaces := #[]
  cf := some (fileOf pool7 1 #[] #[] 1537 3 #[] #[])
  fields := #[]
  methods := #[]
  instanceTypes := #[]
  staticTypes := #[]
  resolved := Array.replicate 7 none
  statics := none }

/-- the primitive byte -/
def k8 : Class := { plain "byte" none with kind := .primitive 'B', accessFlags := 0x411 }
/-- [B -/
def k9 : Class := { plain "[B" (some 0) with kind := .array 8 .byte, interfaces := #[7, 4], accessFlags := 1041 }

/-- the primitive int -/
def k10 : Class := { plain "int" none with kind := .primitive 'I', accessFlags := 0x411 }
/-- [I -/
def k11 : Class := { plain "[I" (some 0) with kind := .array 10 .int, interfaces := #[7, 4], accessFlags := 1041 }

/-- [Lcom/example/nodewright/nodewright/model/NodeId$IdType; -/
def k12 : Class := { plain "[Lcom/example/nodewright/nodewright/model/NodeId$IdType;" (some 0) with kind := .array 6 (.object "com/example/nodewright/nodewright/model/NodeId$IdType"), interfaces := #[7, 4], accessFlags := 1041 }

def heap : Heap := #[{ cls := 6, slots := #[.ref 2, .ref 3, .ref 4, .ref 5, .ref 1], vm := .statics 6 },
  { cls := 12, slots := #[.ref 2, .ref 3, .ref 4, .ref 5], vm := .none },
  { cls := 6, slots := #[.null, .int 0, .int 0, .int 105], vm := .none },
  { cls := 6, slots := #[.null, .int 1, .int 0, .int 115], vm := .none },
  { cls := 6, slots := #[.null, .int 2, .int 0, .int 103], vm := .none },
  { cls := 6, slots := #[.null, .int 3, .int 0, .int 98], vm := .none }]
def classes : Array Class := #[k0, k1, k2, k3, k4, k5, k6, k7, k8, k9, k10, k11, k12]
def interned : List (Array UInt16 × Addr) := []
def slotsUsed : Nat := 25
def theMethod : MethodId := ⟨1, 1⟩
def args0 : Array Value := #[.int 5, .int 0]
def aboutOver (below : List Frame) : State where
  vm := { classes := classes, interned := interned.toArray }
  heap := heap
  slotsUsed := slotsUsed
  threads := #[{ frames := .invoking theMethod args0 :: below }]
def below0 : List Frame := [.native { method := ⟨0, 0⟩, args := #[] }]
def about1 : State := aboutOver below0
def p0 : Program := .bare "" "" ""
def e0 : Env := launch0.env 0 0 0
theorem w_frames : about1.frames = Frame.invoking theMethod args0 :: below0 := rfl
set_option maxRecDepth 65536 in
theorem w_args : argsFit about1.vm theMethod args0 = true := by decide +kernel
set_option maxRecDepth 65536 in
theorem w_heap : heapFits about1 = true := by decide +kernel
set_option maxRecDepth 65536 in
theorem w_runnable : about1.curStatus? = some .runnable := by decide +kernel
set_option maxRecDepth 65536 in
theorem w_alone : about1.alone = true := by decide +kernel
set_option maxRecDepth 65536 in
theorem w_named : about1.methodNamed? x = some theMethod := by decide +kernel
set_option maxRecDepth 65536 in
theorem w_hears : about1.hears theMethod below0 = true := by decide +kernel
set_option maxRecDepth 65536 in
theorem w_ripe : about1.ripe theMethod args0 below0 = true := by decide +kernel
theorem w_running : about1.status = .running := rfl
set_option maxRecDepth 65536 in
theorem w_room : about1.hasRoom e0.platform room_1 = true :=
  launch0.hasRoom_least _ room_1 (by decide +kernel) (by decide +kernel) (by decide +kernel) (by decide +kernel) (by decide +kernel) (by decide +kernel)
theorem allAtoms_all (ts : List Jvm.Cond) (a : Array Jvm.Value) (st : Jvm.State) : (allAtoms ts).before a st = ts.all (fun c => c.before a st) := by
  induction ts with
  | nil => rfl
  | cons c t ih =>
    show (Jvm.Cond.and c (allAtoms t)).before a st = _
    rw [Jvm.Cond.before_and, ih, List.all_cons]
def words1 : List Jvm.Cond := Jvm.Cond.code x code maxLocals ret :: tables_1
/-- a 'code' word, met by the world's own term for the bytes: nothing is compared byte by byte -/
theorem code_word {y : MethodName} {bytes : ByteArray} {mx : Nat} {rt : Option FieldType} {a : Array Value} {s : State} {m : MethodId} {meth : Method} {c : Code} (h1 : s.methodNamed? y = some m) (h2 : s.vm.method? m = some meth) (h3 : meth.code = some c) (h4 : c.code = bytes)
    (h5 : (c.maxLocals == mx && c.exceptionTable.isEmpty && decide (c.maxStack ≤ mostOperands) && decide (meth.sig.returnType = rt) && !meth.locks && decide (parseMethodDescriptor y.desc = some meth.sig)) = true) : (Jvm.Cond.code y bytes mx rt).before a s = true := by
  simp only [Bool.and_eq_true, beq_iff_eq, Bool.not_eq_true', decide_eq_true_eq] at h5
  obtain ⟨⟨⟨⟨⟨g1, g2⟩, g3⟩, g4⟩, g5⟩, g6⟩ := h5
  simp [Cond.before, Cond.holds, Cond.value, h1, h2, h3, h4, g1, g2, g3, g4, g5, g6]
def isCode : Jvm.Cond → Bool
  | .code _ _ _ _ => true
  | _ => false
theorem all_split {L : List Jvm.Cond} {P : Jvm.Cond → Bool} (h1 : L.all (fun c => isCode c || P c) = true) (h2 : ∀ c ∈ L.filter isCode, P c = true) : L.all P = true := by
  refine List.all_eq_true.mpr fun c hc => ?_
  have h := List.all_eq_true.mp h1 c hc
  rcases Bool.eq_false_or_eq_true (isCode c) with hi | hi
  · exact h2 c (List.mem_filter.mpr ⟨hc, hi⟩)
  · simpa [hi] using h
set_option maxRecDepth 65536 in
theorem w_c0 : (Jvm.Cond.code x code maxLocals ret).before args0 about1 = true := code_word (m := ⟨1, 1⟩) (meth := k1m1) (c := k1c1) (by decide +kernel) rfl rfl rfl (by decide +kernel)
set_option maxRecDepth 65536 in
theorem w_c1 : (Jvm.Cond.code ({ cls := "com/example/nodewright/nodewright/model/NodeId$IdType", name := "forLetter", desc := "(C)Lcom/example/nodewright/nodewright/model/NodeId$IdType;" } : Jvm.MethodName) prog_39_method_5_code (5 : Nat) (Option.some (Jvm.ClassFile.FieldType.object "com/example/nodewright/nodewright/model/NodeId$IdType"))).before args0 about1 = true := code_word (m := ⟨6, 2⟩) (meth := k6m2) (c := k6c2) (by decide +kernel) rfl rfl rfl (by decide +kernel)
set_option maxRecDepth 65536 in
theorem w_c2 : (Jvm.Cond.code ({ cls := "com/example/nodewright/nodewright/model/NodeId$IdType", name := "values", desc := "()[Lcom/example/nodewright/nodewright/model/NodeId$IdType;" } : Jvm.MethodName) prog_39_method_1_code (0 : Nat) (Option.some (Jvm.ClassFile.FieldType.array (Jvm.ClassFile.FieldType.object "com/example/nodewright/nodewright/model/NodeId$IdType")))).before args0 about1 = true := code_word (m := ⟨6, 0⟩) (meth := k6m0) (c := k6c0) (by decide +kernel) rfl rfl rfl (by decide +kernel)
set_option maxRecDepth 65536 in
theorem w_c3 : (Jvm.Cond.code ({ cls := "com/example/nodewright/nodewright/model/NodeId$IdType", name := "letter", desc := "()C" } : Jvm.MethodName) prog_39_method_4_code (1 : Nat) (Option.some Jvm.ClassFile.FieldType.char)).before args0 about1 = true := code_word (m := ⟨6, 1⟩) (meth := k6m1) (c := k6c1) (by decide +kernel) rfl rfl rfl (by decide +kernel)
def codes1 : List Jvm.Cond := [Jvm.Cond.code x code maxLocals ret, Jvm.Cond.code ({ cls := "com/example/nodewright/nodewright/model/NodeId$IdType", name := "forLetter", desc := "(C)Lcom/example/nodewright/nodewright/model/NodeId$IdType;" } : Jvm.MethodName) prog_39_method_5_code (5 : Nat) (Option.some (Jvm.ClassFile.FieldType.object "com/example/nodewright/nodewright/model/NodeId$IdType")), Jvm.Cond.code ({ cls := "com/example/nodewright/nodewright/model/NodeId$IdType", name := "values", desc := "()[Lcom/example/nodewright/nodewright/model/NodeId$IdType;" } : Jvm.MethodName) prog_39_method_1_code (0 : Nat) (Option.some (Jvm.ClassFile.FieldType.array (Jvm.ClassFile.FieldType.object "com/example/nodewright/nodewright/model/NodeId$IdType"))), Jvm.Cond.code ({ cls := "com/example/nodewright/nodewright/model/NodeId$IdType", name := "letter", desc := "()C" } : Jvm.MethodName) prog_39_method_4_code (1 : Nat) (Option.some Jvm.ClassFile.FieldType.char)]
set_option maxRecDepth 65536 in
theorem codes_eq : words1.filter isCode = codes1 := rfl
theorem w_codes : ∀ c ∈ words1.filter isCode, c.before args0 about1 = true := by
  rw [codes_eq]
  intro c hc
  simp only [codes1, List.mem_cons, List.not_mem_nil, or_false] at hc
  rcases hc with rfl | rfl | rfl | rfl
  · exact w_c0
  · exact w_c1
  · exact w_c2
  · exact w_c3
set_option maxRecDepth 65536 in
theorem w_t1 : (words1.take 24).all (fun c => isCode c || c.before args0 about1) = true := by decide +kernel
set_option maxRecDepth 65536 in
theorem w_t2 : (words1.drop 24).all (fun c => isCode c || c.before args0 about1) = true := by decide +kernel
theorem w_tables : (allAtoms (Jvm.Cond.code x code maxLocals ret :: tables_1)).before args0 about1 = true := by
  rw [allAtoms_all]
  show words1.all (fun c => c.before args0 about1) = true
  refine all_split ?_ w_codes
  rw [← List.take_append_drop 24 words1, List.all_append, w_t1, w_t2]
  rfl
set_option maxRecDepth 65536 in
theorem w_case : (Jvm.Cond.and given_1 narrow_1).before args0 about1 = true := by decide +kernel
theorem w_applies : (headSpec (Jvm.Cond.code x code maxLocals ret :: tables_1) room_1).applies x e0.platform about1 = true :=
  (Spec.applies_iff w_frames).mpr ⟨w_running, w_runnable, w_alone, w_named, w_hears, w_ripe, w_room, w_tables⟩
theorem atStart : AtStart classFile x code maxLocals ret World_1 tables_1 room_1 Calls_1 rest_1 Pre_1 launch0 p0 e0 about1 theMethod args0 below0 :=
  ⟨lists_1, trivial, launch0.admits_env _ _ _, launch0.least_env, fairChoices_fair.cas, fairChoices_fair.clock, w_frames, w_args, w_heap, w_applies, trivial, trivial, w_case⟩
end start1
theorem witness_1 : WitnessClaimed_1 := ⟨start1.p0, start1.e0, start1.about1, start1.theMethod, start1.args0, start1.below0, start1.atStart⟩
end Jvm.Pilot.@@N@@
