import JvmDerived
import JvmDerived.Pilot.@@N@@Statement
import JvmDerived.Pilot.@@N@@Code
set_option linter.unusedVariables false
set_option linter.unusedSimpArgs false
namespace Jvm.RoadKit
open Sem ClassFile Op Lib Jvm.Stand Jvm.Free Jvm.LawKit
section New
variable {p : Program} {l : Launch} {e : Env} {R : Room} {s : State} {m : MethodId} {args : Array Value} {below : List Frame} {meth : Method} {c : Code} {T : State} {locs : List Loc} {cells slots : Nat}
theorem retI (X : Stand p l e R s m args below meth c T locs cells slots) (hx : p.tables.exec = Jvm.exec) {pc : Nat} {Ls : Array Slot} {z : Int32} {rest : List Value} (hret : meth.sig.returnType = some .int) (hd : decode c.code pc = .ok (.ireturn, 1)) {fs : List Frame}
    (hl : ∀ (f : JFrame) (acts : List Action), f.method = m → f.locked = none → f.entered = [] → (doReturn e (T.setTop f) acts (some (.int z))).1 = T.setFrames fs) : Steps p.tables e below (T.setTop (mkF m pc Ls (.int z :: rest))) (T.setFrames fs) := by
  have hm' : T.vm.method? m = some meth := X.method'
  have hn : narrow .int (.int z) = .int z := rfl
  show Steps p.tables e below (T.setTop { method := m, pc := pc, locals := Ls, stack := _ :: rest, locked := none }) _
  jvm_step X.here [X.here.top, hx, hd, hm', hret, hn]
  first | (intro acts; rw [hl _ acts rfl rfl rfl]) | rw [hl _ _ rfl rfl rfl]
  exact Steps.refl _
end New
end Jvm.RoadKit
namespace Jvm.Pilot.@@N@@
open Jvm Jvm.ClassFile Sem Op Lib Jvm.Free Jvm.Stand Jvm.LawKit Jvm.RoadKit Bundle Jvm.Pilot.@@N@@.Jvm.D
def Els (Z : State) (h : Heap) (sl : Array Value) : Nat → List (Addr × Int32) → Prop
  | _, [] => True
  | i, (a, x) :: r => sl[i]? = some (.ref a) ∧ Fld Z h a "com/example/quorumlog/quorumlog/Compression" "code" "I" (.int x) ∧ Els Z h sl (i + 1) r
theorem Els.ext {Z : State} {h h' : Heap} {sl : Array Value} (E : Ext h h') : ∀ (xs : List (Addr × Int32)) (i : Nat), Els Z h sl i xs → Els Z h' sl i xs
  | [], _, _ => trivial
  | (_, _) :: r, i, H => ⟨H.1, H.2.1.ext E, Els.ext E r (i + 1) H.2.2⟩
def own_find (lo : Int32) : List (Addr × Int32) → Value
  | [] => .null
  | (a, x) :: r => if x = lo then .ref a else own_find lo r
theorem own_find_yes {lo x : Int32} {a : Addr} {r : List (Addr × Int32)} (h : x = lo) : own_find lo ((a, x) :: r) = .ref a := if_pos h
theorem own_find_no {lo x : Int32} {a : Addr} {r : List (Addr × Int32)} (h : ¬ x = lo) : own_find lo ((a, x) :: r) = own_find lo r := if_neg h
theorem own_find_ref (lo : Int32) : ∀ xs : List (Addr × Int32), (own_find lo xs).isRef = true
  | [] => rfl
  | (a, x) :: r => by
    by_cases h : x = lo
    · rw [own_find_yes h]; rfl
    · rw [own_find_no h]; exact own_find_ref lo r
theorem own_ext {h h' : Heap} (K : Keep h h' []) : Ext h h' := ⟨K.1, fun a c q => K.2.1 a c q nin0⟩
theorem own_n32 {n : Nat} (hn : n ≤ 255) : (Int32.ofNat n).toInt = n := Int32.toInt_ofNat_of_lt (by omega)
theorem own_lt {i n : Nat} (h : i < n) (hn : n ≤ 255) : Int32.ofNat i < Int32.ofNat n := by
  rw [Int32.lt_iff_toInt_lt, own_n32 hn, own_n32 (by omega)]; omega
theorem own_nn {n : Nat} (hn : n ≤ 255) : ¬ Int32.ofNat n < 0 := by
  rw [Int32.lt_iff_toInt_lt, own_n32 hn]
  have k : (0 : Int32).toInt = 0 := by decide
  omega
theorem own_clamp {n : Nat} (hn : n ≤ 255) : (Int32.ofNat n).toNatClampNeg = n := by simp only [Int32.toNatClampNeg, own_n32 hn]; omega
theorem own_one (i : Nat) : Int32.ofNat i + (1 : Int32) = Int32.ofNat (i + 1) := (Int32.ofNat_add i 1).symm
theorem own_fldI {s : State} {args : Array Value} {t : Term} {C n d : String} {x : Addr} {k : Int32} (ev : t.eval args s none [] s = some (.ref x)) (h : (Cond.eq (.field t C n d) (.int k)).value args s none s [] = some true) : Fld s s.heap x C n d (.int k) := by
  have eu := eqv_i (Term.int_eval k) h
  rw [fld_at ev] at eu
  exact Fld.start eu
theorem own_elem {s : State} {args : Array Value} {t u : Term} {w x : Addr} {k : Int32} {cl : Cell} (et : t.eval args s none [] s = some (.ref w)) (hc : s.heap[w]? = some cl) (eu : u.eval args s none [] s = some (.ref x)) (h : (Cond.eq (.elem t (.int k)) u).value args s none s [] = some true) : cl.slots[k.toNatClampNeg]? = some (.ref x) := by
  obtain ⟨a, b, ea, eb, k1, k2⟩ := cmp_v (Or.inl h)
  cases eu.symm.trans eb
  have q := gotT (eq_R ea eu k2.2 rfl) h
  subst q
  exact (elem_in ea et (Term.int_eval k) hc).2
theorem d2_0 : decode prog_22_method_1_code 0 = .ok (.getstatic 19, 3) := by decide +kernel
theorem d2_3 : decode prog_22_method_1_code 3 = .ok (.invokevirtual 23, 3) := by decide +kernel
theorem d2_6 : decode prog_22_method_1_code 6 = .ok (.checkcast 24, 3) := by decide +kernel
theorem d2_9 : decode prog_22_method_1_code 9 = .ok (.areturn, 1) := by decide +kernel
theorem pn_2 : plainName "com/example/quorumlog/quorumlog/Compression" = true := by first | (simp [plainName, overriddenIn]; done) | decide +kernel
theorem ef_2 (m : MethodId)  : entryFrame m #[] 0 = mkF m 0 #[] [] := by first | (simp [entryFrame, mkF, argsToLocals, Value.category]; done) | rfl
def Q2 (Z : State) (w1 : Addr) (cl_w1 : Cell) (h0 : Heap) (n0 : Nat) (v : Option Value) (h : Heap) (L : List Loc) : Prop := ∃ b : Addr, v = some (.ref b) ∧ Fr n0 L ∧ Keep h0 h [] ∧ Arr Z h b (cloneOf cl_w1) (.object "com/example/quorumlog/quorumlog/Compression")
set_option maxRecDepth 65536 in
set_option maxHeartbeats 40000000 in
theorem rm2 (l : Launch) (Z : State) (a0 : Array Value) (hw : ∀ d ∈ tables_1, d.before a0 Z = true) (ws : List Jvm.Cond) (w1 : Addr) (cl_w1 : Cell) (h0 : Heap) (n0 : Nat) (Z0 : n0 ≤ h0.size) (S__VALUES : Sta Z h0 "com/example/quorumlog/quorumlog/Compression" "$VALUES" "[Lcom/example/quorumlog/quorumlog/Compression;" (.ref w1)) (Ar_w1 : Arr Z h0 w1 cl_w1 (.object "com/example/quorumlog/quorumlog/Compression")) (E_w1 : Exa Z h0 w1 "[Lcom/example/quorumlog/quorumlog/Compression;") (Fc_w1 : FitC Z cl_w1) (sz : cl_w1.slots.size = 5) :
    MetFree l (⟨"com/example/quorumlog/quorumlog/Compression", "values", "()[Lcom/example/quorumlog/quorumlog/Compression;"⟩ : MethodName) (head1 (Jvm.Cond.code (⟨"com/example/quorumlog/quorumlog/Compression", "values", "()[Lcom/example/quorumlog/quorumlog/Compression;"⟩ : MethodName) prog_22_method_1_code 0 (some (.array (.object "com/example/quorumlog/quorumlog/Compression"))) :: ws) ({ frames := 1, cells := 1, slots := 5, locals := 14 } : Room)) (fun a U => a = #[] ∧ Z.Warmed39 U.vm ∧ U.heap = h0) (fun _ _ _ _ _ => True) (fun _ U o U' => ∃ v L, o = .returned v ∧ Q2 Z w1 cl_w1 h0 n0 v U'.heap L ∧ FrameEnd U o U' L ({ frames := 1, cells := 1, slots := 5, locals := 14 } : Room).cells ({ frames := 1, cells := 1, slots := 5, locals := 14 } : Room).slots) := by
  refine MetFree.of_bodySF (plainFor_of_name pn_2) hisR ?_
  intro p e s m args below meth c s₁ Bd hml0 hP hK
  obtain ⟨rfl, hZ, hh⟩ := hP
  have hx := Bd.exec
  have hby := Bd.bytes
  have hml : c.maxLocals = 0 := hml0
  have hown : s.vm.findClass "com/example/quorumlog/quorumlog/Compression" = some m.cls := findClass_of_methodNamed Bd.named
  have hnm := (name_of_methodNamed Bd.named Bd.method).1
  have X0 : Stand p l e ({ frames := 1, cells := 1, slots := 5, locals := 14 } : Room) s m #[] below meth c s₁ [] 0 0 := Stand.of_body Bd
  have e0 : s₁.heap = h0 := by rw [← hh, Bd.state]; rfl
  have N0 := Fr.nil n0
  have pre0 : ∀ t, Steps p.tables e below (s₁.setTop (mkF m 0 #[] [])) t → Steps p.tables e below (s₁.setTop (entryFrame m #[] 0)) t := fun t k => castTop (ef_2 m ) k
  obtain ⟨T2, X2, e2, st2⟩ := getS2 X0 hx hZ hown (host := "") (Or.inl (hw _ (List.mem_of_getElem? (i := 7) rfl))) Via.refl e0 S__VALUES (g := (mkF m 0 #[] [])) rfl (hb hby d2_0)
  obtain ⟨T3, h3, X3, e3, E3, A3, B3, st3⟩ := cloneA X2 hx hZ hown (hw _ (List.mem_of_getElem? (i := 9) rfl)) (hw _ (List.mem_of_getElem? (i := 10) rfl)) (hw _ (List.mem_of_getElem? (i := 14) rfl)) (hw _ (List.mem_of_getElem? (i := 12) rfl)) (hw _ (List.mem_of_getElem? (i := 13) rfl)) (hw _ (List.mem_of_getElem? (i := 15) rfl)) e2 Ar_w1 E_w1 Fc_w1 (g := (mkF m 3 #[] [(.ref w1)])) rfl (by rw [hml]; rfl) rfl (hb hby d2_3) (by decide) (W := 0) (cap := 5) (by show 2 * 0 + _ ≤ _; exact Nat.le_of_eq rfl) (by decide) (Nat.le_of_eq sz) (by decide) (by decide)
  obtain ⟨b3, g3⟩ : ∃ z, z = h0.size := ⟨_, rfl⟩
  rw [← g3] at A3 B3 st3
  have K3 : Keep h0 h3 [] := (Keep.refl h0 []).ext E3
  obtain ⟨T4, X4, e4, st4⟩ := castY X3 hx hZ hown (hw _ (List.mem_of_getElem? (i := 22) rfl)) e3 (Ins.self B3) (g := (mkF m 6 #[] [(.ref b3)])) rfl rfl (hb hby d2_6)
  obtain ⟨fs, hr, hrun, hended, hW, hsame⟩ := X4.leave (v := some (.ref b3)) (fun h => by rw [Bd.returns] at h; cases h)
  refine ⟨_, _, pre0 _ ?_, hrun, hended, _, _, rfl, ?_, ⟨_, rfl⟩, hW, hsame.mono (by decide) (by decide)⟩
  · show Steps p.tables e below (s₁.setTop (mkF m 0 #[] [])) _
    refine st2 _ ?_
    show Steps p.tables e below (T2.setTop (mkF m 3 #[] [(.ref w1)])) _
    refine st3 _ ?_
    show Steps p.tables e below (T3.setTop (mkF m 6 #[] [(.ref b3)])) _
    refine st4 _ ?_
    show Steps p.tables e below (T4.setTop (mkF m 9 #[] [(.ref b3)])) _
    jvm_step X4.here [X4.here.top, hx, (hb hby d2_9), X4.method', Bd.returns, Value.isRef, FieldType.isReference]
    first | (intro acts; rw [hr _ acts rfl rfl rfl]) | rw [hr _ _ rfl rfl rfl]
    exact Steps.refl _
  · show Q2 Z w1 cl_w1 h0 n0 _ T4.heap _
    rw [e4]
    exact ⟨b3, rfl, N0, K3, A3⟩
theorem d1_15 : decode prog_22_method_4_code 15 = .ok (.iload 4, 2) := by decide +kernel
theorem d1_17 : decode prog_22_method_4_code 17 = .ok (.iload_n 3, 1) := by decide +kernel
theorem d1_18 : decode prog_22_method_4_code 18 = .ok (.if_icmp .ge 27, 3) := by decide +kernel
theorem d1_21 : decode prog_22_method_4_code 21 = .ok (.aload_n 2, 1) := by decide +kernel
theorem d1_22 : decode prog_22_method_4_code 22 = .ok (.iload 4, 2) := by decide +kernel
theorem d1_24 : decode prog_22_method_4_code 24 = .ok (.aaload, 1) := by decide +kernel
theorem d1_25 : decode prog_22_method_4_code 25 = .ok (.astore 5, 2) := by decide +kernel
theorem d1_27 : decode prog_22_method_4_code 27 = .ok (.aload 5, 2) := by decide +kernel
theorem d1_29 : decode prog_22_method_4_code 29 = .ok (.getfield 38, 3) := by decide +kernel
theorem d1_32 : decode prog_22_method_4_code 32 = .ok (.iload_n 1, 1) := by decide +kernel
theorem d1_33 : decode prog_22_method_4_code 33 = .ok (.if_icmp .ne 6, 3) := by decide +kernel
theorem d1_39 : decode prog_22_method_4_code 39 = .ok (.iinc 4 1, 3) := by decide +kernel
theorem d1_42 : decode prog_22_method_4_code 42 = .ok (.goto (-27), 3) := by decide +kernel
theorem os1_25 {z0 : Value} {z1 : Value} {z2 : Value} {z3 : Value} {z4 : Value} {s5 : Slot} {v : Addr} (h : One s5) : storeLocals #[.val z0, .val z1, .val z2, .val z3, .val z4, s5] 5 (.ref v) = some #[.val z0, .val z1, .val z2, .val z3, .val z4, .val (.ref v)] := by
  rcases h with rfl | ⟨w, rfl, hw⟩
  · rfl
  · cases w <;> first | rfl | (simp [Value.category] at hw)
set_option maxRecDepth 65536 in
set_option maxHeartbeats 40000000 in
theorem own_turn {p : Program} {l : Launch} {e : Env} {R : Room} {s : State} {m : MethodId} {args : Array Value} {below : List Frame} {meth : Method} {c : Code} {T0 : State} {locs : List Loc} {cells slots : Nat} {Z : State} {a0 : Array Value} {h0 : Heap} (p1 : Int32) (lo : Int32) (b : Addr) (zn : Int32) (iv : Int32) (s5 : Slot) (w2 : Addr) (cl_b : Cell) (w3 : Int32)
    (X0 : Stand p l e R s m args below meth c T0 locs cells slots) (hx : p.tables.exec = Jvm.exec) (hZ : Z.Warmed39 s.vm) (hw : ∀ d ∈ tables_1, d.before a0 Z = true) (hby : c.code = prog_22_method_4_code) (hml : c.maxLocals = 6) (hown : s.vm.findClass "com/example/quorumlog/quorumlog/Compression" = some m.cls) (e0 : T0.heap = h0) (Ar_b : Arr Z h0 b cl_b (.object "com/example/quorumlog/quorumlog/Compression")) (hin24 : ¬ (iv < 0 ∨ cl_b.slots.size ≤ (iv).toNatClampNeg)) (hat24 : cl_b.slots[(iv).toNatClampNeg]? = some (.ref w2)) (hs5 : One s5) (F_code_w2 : Fld Z h0 w2 "com/example/quorumlog/quorumlog/Compression" "code" "I" (.int w3)) (hc18 : iv < zn) (hc33 : ¬ (w3 = lo)) :
    ∃ (T' : State), Stand p l e R s m args below meth c T' locs cells slots ∧ T'.heap = h0 ∧
      ∀ target, Steps p.tables e below (T'.setTop (mkF m 15 #[.val (.int p1), .val (.int lo), .val (.ref b), .val (.int zn), .val (.int (iv + (1 : Int32))), .val (.ref w2)] [])) target → Steps p.tables e below (T0.setTop (mkF m 15 #[.val (.int p1), .val (.int lo), .val (.ref b), .val (.int zn), .val (.int iv), s5] [])) target := by
  obtain ⟨T4, X4, e4, st4⟩ := getF X0 hx hZ hown (host := "") (Or.inl (hw _ (List.mem_of_getElem? (i := 24) rfl))) Via.refl e0 F_code_w2 (g := (mkF m 29 #[.val (.int p1), .val (.int lo), .val (.ref b), .val (.int zn), .val (.int iv), .val (.ref w2)] [(.ref w2)])) rfl rfl (hb hby d1_29)
  refine ⟨T4, X4, e4, fun target kt => ?_⟩
  show Steps p.tables e below (T0.setTop (mkF m 15 #[.val (.int p1), .val (.int lo), .val (.ref b), .val (.int zn), .val (.int iv), s5] [])) _
  refine XS.iload X0.here hx rfl (hb hby d1_15) rfl ?_
  show Steps p.tables e below (T0.setTop (mkF m 17 #[.val (.int p1), .val (.int lo), .val (.ref b), .val (.int zn), .val (.int iv), s5] [(.int iv)])) _
  refine XS.iloadN X0.here hx rfl (hb hby d1_17) rfl ?_
  show Steps p.tables e below (T0.setTop (mkF m 18 #[.val (.int p1), .val (.int lo), .val (.ref b), .val (.int zn), .val (.int iv), s5] [(.int zn), (.int iv)])) _
  refine XS.icmpNo X0.here hx rfl (hb hby d1_18) rfl (tlt hc18).2.1 ?_
  show Steps p.tables e below (T0.setTop (mkF m 21 #[.val (.int p1), .val (.int lo), .val (.ref b), .val (.int zn), .val (.int iv), s5] [])) _
  refine XS.aloadN X0.here hx rfl (hb hby d1_21) rfl rfl ?_
  show Steps p.tables e below (T0.setTop (mkF m 22 #[.val (.int p1), .val (.int lo), .val (.ref b), .val (.int zn), .val (.int iv), s5] [(.ref b)])) _
  refine XS.iload X0.here hx rfl (hb hby d1_22) rfl ?_
  show Steps p.tables e below (T0.setTop (mkF m 24 #[.val (.int p1), .val (.int lo), .val (.ref b), .val (.int zn), .val (.int iv), s5] [(.int iv), (.ref b)])) _
  refine X0.aaload hx (j := iv) (v := (.ref w2)) (by rw [e0]; exact Ar_b.1) (State.isArrayOf_alike hZ.alike Ar_b.2.1) rfl Ar_b.2.2 hin24 hat24 (g := (mkF m 24 #[.val (.int p1), .val (.int lo), .val (.ref b), .val (.int zn), .val (.int iv), s5] [(.int iv), (.ref b)])) rfl rfl (hb hby d1_24) _ ?_
  show Steps p.tables e below (T0.setTop (mkF m 25 #[.val (.int p1), .val (.int lo), .val (.ref b), .val (.int zn), .val (.int iv), s5] [(.ref w2)])) _
  refine XS.astore X0.here hx rfl (hb hby d1_25) rfl rfl (l' := #[.val (.int p1), .val (.int lo), .val (.ref b), .val (.int zn), .val (.int iv), .val (.ref w2)]) (os1_25 hs5) ?_
  show Steps p.tables e below (T0.setTop (mkF m 27 #[.val (.int p1), .val (.int lo), .val (.ref b), .val (.int zn), .val (.int iv), .val (.ref w2)] [])) _
  refine XS.aload X0.here hx rfl (hb hby d1_27) rfl rfl ?_
  show Steps p.tables e below (T0.setTop (mkF m 29 #[.val (.int p1), .val (.int lo), .val (.ref b), .val (.int zn), .val (.int iv), .val (.ref w2)] [(.ref w2)])) _
  refine st4 _ ?_
  show Steps p.tables e below (T4.setTop (mkF m 32 #[.val (.int p1), .val (.int lo), .val (.ref b), .val (.int zn), .val (.int iv), .val (.ref w2)] [(.int w3)])) _
  refine XS.iloadN X4.here hx rfl (hb hby d1_32) rfl ?_
  show Steps p.tables e below (T4.setTop (mkF m 33 #[.val (.int p1), .val (.int lo), .val (.ref b), .val (.int zn), .val (.int iv), .val (.ref w2)] [(.int lo), (.int w3)])) _
  refine XS.icmpYes X4.here hx rfl (pc0 := 33) (pc' := 39) rfl (hb hby d1_33) rfl (feq hc33).2 (by decide) (by decide) ?_
  show Steps p.tables e below (T4.setTop (mkF m 39 #[.val (.int p1), .val (.int lo), .val (.ref b), .val (.int zn), .val (.int iv), .val (.ref w2)] [])) _
  refine XS.iinc X4.here hx rfl (hb hby d1_39) rfl (l' := #[.val (.int p1), .val (.int lo), .val (.ref b), .val (.int zn), .val (.int (iv + (1 : Int32))), .val (.ref w2)]) rfl ?_
  show Steps p.tables e below (T4.setTop (mkF m 42 #[.val (.int p1), .val (.int lo), .val (.ref b), .val (.int zn), .val (.int (iv + (1 : Int32))), .val (.ref w2)] [])) _
  refine XS.goto X4.here hx rfl (pc0 := 42) (pc' := 15) rfl (hb hby d1_42) (by decide) (by decide) ?_
  exact kt
theorem d1_36 : decode prog_22_method_4_code 36 = .ok (.aload 5, 2) := by decide +kernel
set_option maxRecDepth 65536 in
set_option maxHeartbeats 40000000 in
theorem own_hit {p : Program} {l : Launch} {e : Env} {R : Room} {s : State} {m : MethodId} {args : Array Value} {below : List Frame} {meth : Method} {c : Code} {T0 : State} {locs : List Loc} {cells slots : Nat} {Z : State} {a0 : Array Value} {h0 : Heap} (p1 : Int32) (lo : Int32) (b : Addr) (zn : Int32) (iv : Int32) (s5 : Slot) (w2 : Addr) (cl_b : Cell) (w3 : Int32)
    (X0 : Stand p l e R s m args below meth c T0 locs cells slots) (hx : p.tables.exec = Jvm.exec) (hZ : Z.Warmed39 s.vm) (hw : ∀ d ∈ tables_1, d.before a0 Z = true) (hby : c.code = prog_22_method_4_code) (hml : c.maxLocals = 6) (hown : s.vm.findClass "com/example/quorumlog/quorumlog/Compression" = some m.cls) (e0 : T0.heap = h0) (Ar_b : Arr Z h0 b cl_b (.object "com/example/quorumlog/quorumlog/Compression")) (hin24 : ¬ (iv < 0 ∨ cl_b.slots.size ≤ (iv).toNatClampNeg)) (hat24 : cl_b.slots[(iv).toNatClampNeg]? = some (.ref w2)) (hs5 : One s5) (F_code_w2 : Fld Z h0 w2 "com/example/quorumlog/quorumlog/Compression" "code" "I" (.int w3)) (hc18 : iv < zn) (hc33 : w3 = lo) :
    ∃ (T' : State), Stand p l e R s m args below meth c T' locs cells slots ∧ T'.heap = h0 ∧
      ∀ target, Steps p.tables e below (T'.setTop (mkF m 38 #[.val (.int p1), .val (.int lo), .val (.ref b), .val (.int zn), .val (.int iv), .val (.ref w2)] [(.ref w2)])) target → Steps p.tables e below (T0.setTop (mkF m 15 #[.val (.int p1), .val (.int lo), .val (.ref b), .val (.int zn), .val (.int iv), s5] [])) target := by
  obtain ⟨T4, X4, e4, st4⟩ := getF X0 hx hZ hown (host := "") (Or.inl (hw _ (List.mem_of_getElem? (i := 24) rfl))) Via.refl e0 F_code_w2 (g := (mkF m 29 #[.val (.int p1), .val (.int lo), .val (.ref b), .val (.int zn), .val (.int iv), .val (.ref w2)] [(.ref w2)])) rfl rfl (hb hby d1_29)
  refine ⟨T4, X4, e4, fun target kt => ?_⟩
  show Steps p.tables e below (T0.setTop (mkF m 15 #[.val (.int p1), .val (.int lo), .val (.ref b), .val (.int zn), .val (.int iv), s5] [])) _
  refine XS.iload X0.here hx rfl (hb hby d1_15) rfl ?_
  show Steps p.tables e below (T0.setTop (mkF m 17 #[.val (.int p1), .val (.int lo), .val (.ref b), .val (.int zn), .val (.int iv), s5] [(.int iv)])) _
  refine XS.iloadN X0.here hx rfl (hb hby d1_17) rfl ?_
  show Steps p.tables e below (T0.setTop (mkF m 18 #[.val (.int p1), .val (.int lo), .val (.ref b), .val (.int zn), .val (.int iv), s5] [(.int zn), (.int iv)])) _
  refine XS.icmpNo X0.here hx rfl (hb hby d1_18) rfl (tlt hc18).2.1 ?_
  show Steps p.tables e below (T0.setTop (mkF m 21 #[.val (.int p1), .val (.int lo), .val (.ref b), .val (.int zn), .val (.int iv), s5] [])) _
  refine XS.aloadN X0.here hx rfl (hb hby d1_21) rfl rfl ?_
  show Steps p.tables e below (T0.setTop (mkF m 22 #[.val (.int p1), .val (.int lo), .val (.ref b), .val (.int zn), .val (.int iv), s5] [(.ref b)])) _
  refine XS.iload X0.here hx rfl (hb hby d1_22) rfl ?_
  show Steps p.tables e below (T0.setTop (mkF m 24 #[.val (.int p1), .val (.int lo), .val (.ref b), .val (.int zn), .val (.int iv), s5] [(.int iv), (.ref b)])) _
  refine X0.aaload hx (j := iv) (v := (.ref w2)) (by rw [e0]; exact Ar_b.1) (State.isArrayOf_alike hZ.alike Ar_b.2.1) rfl Ar_b.2.2 hin24 hat24 (g := (mkF m 24 #[.val (.int p1), .val (.int lo), .val (.ref b), .val (.int zn), .val (.int iv), s5] [(.int iv), (.ref b)])) rfl rfl (hb hby d1_24) _ ?_
  show Steps p.tables e below (T0.setTop (mkF m 25 #[.val (.int p1), .val (.int lo), .val (.ref b), .val (.int zn), .val (.int iv), s5] [(.ref w2)])) _
  refine XS.astore X0.here hx rfl (hb hby d1_25) rfl rfl (l' := #[.val (.int p1), .val (.int lo), .val (.ref b), .val (.int zn), .val (.int iv), .val (.ref w2)]) (os1_25 hs5) ?_
  show Steps p.tables e below (T0.setTop (mkF m 27 #[.val (.int p1), .val (.int lo), .val (.ref b), .val (.int zn), .val (.int iv), .val (.ref w2)] [])) _
  refine XS.aload X0.here hx rfl (hb hby d1_27) rfl rfl ?_
  show Steps p.tables e below (T0.setTop (mkF m 29 #[.val (.int p1), .val (.int lo), .val (.ref b), .val (.int zn), .val (.int iv), .val (.ref w2)] [(.ref w2)])) _
  refine st4 _ ?_
  show Steps p.tables e below (T4.setTop (mkF m 32 #[.val (.int p1), .val (.int lo), .val (.ref b), .val (.int zn), .val (.int iv), .val (.ref w2)] [(.int w3)])) _
  refine XS.iloadN X4.here hx rfl (hb hby d1_32) rfl ?_
  show Steps p.tables e below (T4.setTop (mkF m 33 #[.val (.int p1), .val (.int lo), .val (.ref b), .val (.int zn), .val (.int iv), .val (.ref w2)] [(.int lo), (.int w3)])) _
  refine XS.icmpNo X4.here hx rfl (hb hby d1_33) rfl (teq hc33).2 ?_
  show Steps p.tables e below (T4.setTop (mkF m 36 #[.val (.int p1), .val (.int lo), .val (.ref b), .val (.int zn), .val (.int iv), .val (.ref w2)] [])) _
  refine XS.aload X4.here hx rfl (hb hby d1_36) rfl rfl ?_
  exact kt
theorem d1_45 : decode prog_22_method_4_code 45 = .ok (.aconst_null, 1) := by decide +kernel
set_option maxRecDepth 65536 in
set_option maxHeartbeats 40000000 in
theorem own_end {p : Program} {l : Launch} {e : Env} {R : Room} {s : State} {m : MethodId} {args : Array Value} {below : List Frame} {meth : Method} {c : Code} {T0 : State} {locs : List Loc} {cells slots : Nat} {Z : State} {a0 : Array Value} {h0 : Heap} (p1 : Int32) (lo : Int32) (b : Addr) (zn : Int32) (iv : Int32) (s5 : Slot)
    (X0 : Stand p l e R s m args below meth c T0 locs cells slots) (hx : p.tables.exec = Jvm.exec) (hZ : Z.Warmed39 s.vm) (hw : ∀ d ∈ tables_1, d.before a0 Z = true) (hby : c.code = prog_22_method_4_code) (hml : c.maxLocals = 6) (hown : s.vm.findClass "com/example/quorumlog/quorumlog/Compression" = some m.cls) (e0 : T0.heap = h0) (hc18 : ¬ (iv < zn)) :
    ∃ (T' : State), Stand p l e R s m args below meth c T' locs cells slots ∧ T'.heap = h0 ∧
      ∀ target, Steps p.tables e below (T'.setTop (mkF m 46 #[.val (.int p1), .val (.int lo), .val (.ref b), .val (.int zn), .val (.int iv), s5] [.null])) target → Steps p.tables e below (T0.setTop (mkF m 15 #[.val (.int p1), .val (.int lo), .val (.ref b), .val (.int zn), .val (.int iv), s5] [])) target := by

  refine ⟨T0, X0, e0, fun target kt => ?_⟩
  show Steps p.tables e below (T0.setTop (mkF m 15 #[.val (.int p1), .val (.int lo), .val (.ref b), .val (.int zn), .val (.int iv), s5] [])) _
  refine XS.iload X0.here hx rfl (hb hby d1_15) rfl ?_
  show Steps p.tables e below (T0.setTop (mkF m 17 #[.val (.int p1), .val (.int lo), .val (.ref b), .val (.int zn), .val (.int iv), s5] [(.int iv)])) _
  refine XS.iloadN X0.here hx rfl (hb hby d1_17) rfl ?_
  show Steps p.tables e below (T0.setTop (mkF m 18 #[.val (.int p1), .val (.int lo), .val (.ref b), .val (.int zn), .val (.int iv), s5] [(.int zn), (.int iv)])) _
  refine XS.icmpYes X0.here hx rfl (pc0 := 18) (pc' := 45) rfl (hb hby d1_18) rfl (flt hc18).2.1 (by decide) (by decide) ?_
  show Steps p.tables e below (T0.setTop (mkF m 45 #[.val (.int p1), .val (.int lo), .val (.ref b), .val (.int zn), .val (.int iv), s5] [])) _
  refine XS.aconstNull X0.here hx rfl (hb hby d1_45) ?_
  exact kt
theorem d1_38 : decode prog_22_method_4_code 38 = .ok (.areturn, 1) := by decide +kernel
theorem d1_46 : decode prog_22_method_4_code 46 = .ok (.areturn, 1) := by decide +kernel
theorem own_loop {p : Program} {l : Launch} {e : Env} {s : State} {m : MethodId} {args : Array Value} {below : List Frame} {meth : Method} {c : Code} {locs : List Loc} {Z : State} {a0 : Array Value} {h0 : Heap} (p1 lo : Int32) (b : Addr) (cl : Cell) (n : Nat) (hn : n ≤ 255) (hx : p.tables.exec = Jvm.exec) (hZ : Z.Warmed39 s.vm) (hw : ∀ d ∈ tables_1, d.before a0 Z = true) (hby : c.code = prog_22_method_4_code) (hml : c.maxLocals = 6) (hown : s.vm.findClass "com/example/quorumlog/quorumlog/Compression" = some m.cls) (Ar : Arr Z h0 b cl (.object "com/example/quorumlog/quorumlog/Compression")) (sz : cl.slots.size = n) :
    ∀ (xs : List (Addr × Int32)) (i : Nat) (T0 : State) (s5 : Slot), Stand p l e ({ frames := 2, cells := 1, slots := 5, locals := 25 } : Room) s m args below meth c T0 locs 1 5 → T0.heap = h0 → i + xs.length = n → Els Z h0 cl.slots i xs → One s5 →
    ∃ (T' : State) (pcE : Nat) (Ls : Array Slot), Stand p l e ({ frames := 2, cells := 1, slots := 5, locals := 25 } : Room) s m args below meth c T' locs 1 5 ∧ T'.heap = h0 ∧ decode prog_22_method_4_code pcE = .ok (.areturn, 1) ∧
      ∀ target, Steps p.tables e below (T'.setTop (mkF m pcE Ls [own_find lo xs])) target → Steps p.tables e below (T0.setTop (mkF m 15 #[.val (.int p1), .val (.int lo), .val (.ref b), .val (.int (Int32.ofNat n)), .val (.int (Int32.ofNat i)), s5] [])) target := by
  intro xs
  induction xs with
  | nil =>
    intro i T0 s5 X0 e0 hi E hs
    obtain rfl : i = n := by simpa using hi
    obtain ⟨T1, X1, e1, st1⟩ := own_end p1 lo b (Int32.ofNat i) (Int32.ofNat i) s5 X0 hx hZ hw hby hml hown e0 Int32.lt_irrefl
    exact ⟨T1, 46, _, X1, e1, d1_46, st1⟩
  | cons q r ih =>
    obtain ⟨a, x⟩ := q
    intro i T0 s5 X0 e0 hi E hs
    obtain ⟨E1, E2, E3⟩ := E
    have hi' : i + 1 + r.length = n := by rw [List.length_cons] at hi; omega
    have hin : ¬ (Int32.ofNat i < 0 ∨ cl.slots.size ≤ (Int32.ofNat i).toNatClampNeg) := by
      rw [own_clamp (by omega), sz]
      intro h
      rcases h with h | h
      · exact own_nn (by omega) h
      · omega
    have hat : cl.slots[(Int32.ofNat i).toNatClampNeg]? = some (.ref a) := by rw [own_clamp (by omega)]; exact E1
    by_cases hc : x = lo
    · obtain ⟨T1, X1, e1, st1⟩ := own_hit p1 lo b (Int32.ofNat n) (Int32.ofNat i) s5 a cl x X0 hx hZ hw hby hml hown e0 Ar hin hat hs E2 (own_lt (by omega) hn) hc
      rw [own_find_yes hc]
      exact ⟨T1, 38, _, X1, e1, d1_38, st1⟩
    · obtain ⟨T1, X1, e1, st1⟩ := own_turn p1 lo b (Int32.ofNat n) (Int32.ofNat i) s5 a cl x X0 hx hZ hw hby hml hown e0 Ar hin hat hs E2 (own_lt (by omega) hn) hc
      rw [own_find_no hc]
      rw [own_one] at st1
      obtain ⟨T2, pcE, Ls, X2, e2, dE, st2⟩ := ih (i + 1) T1 (.val (.ref a)) X1 e1 hi' E3 (One.val rfl)
      exact ⟨T2, pcE, Ls, X2, e2, dE, fun target k => st1 _ (st2 _ k)⟩
theorem d1_0 : decode prog_22_method_4_code 0 = .ok (.iload_n 0, 1) := by decide +kernel
theorem d1_1 : decode prog_22_method_4_code 1 = .ok (.bipush 7, 2) := by decide +kernel
theorem d1_3 : decode prog_22_method_4_code 3 = .ok (.iand, 1) := by decide +kernel
theorem d1_4 : decode prog_22_method_4_code 4 = .ok (.istore_n 1, 1) := by decide +kernel
theorem d1_5 : decode prog_22_method_4_code 5 = .ok (.invokestatic 50, 3) := by decide +kernel
theorem d1_8 : decode prog_22_method_4_code 8 = .ok (.astore_n 2, 1) := by decide +kernel
theorem d1_9 : decode prog_22_method_4_code 9 = .ok (.aload_n 2, 1) := by decide +kernel
theorem d1_10 : decode prog_22_method_4_code 10 = .ok (.arraylength, 1) := by decide +kernel
theorem d1_11 : decode prog_22_method_4_code 11 = .ok (.istore_n 3, 1) := by decide +kernel
theorem d1_12 : decode prog_22_method_4_code 12 = .ok (.iconst 0, 1) := by decide +kernel
theorem d1_13 : decode prog_22_method_4_code 13 = .ok (.istore 4, 2) := by decide +kernel
theorem pn_1 : plainName "com/example/quorumlog/quorumlog/Compression" = true := by first | (simp [plainName, overriddenIn]; done) | decide +kernel
theorem pd_1_1 : parseMethodDescriptor "()[Lcom/example/quorumlog/quorumlog/Compression;" = some ⟨[], some (.array (.object "com/example/quorumlog/quorumlog/Compression"))⟩ := by decide +kernel
theorem ef_1 (m : MethodId) (x0 : Int32) : entryFrame m #[(.int x0)] 6 = mkF m 0 #[.val (.int x0), .unset, .unset, .unset, .unset, .unset] [] := by first | (simp [entryFrame, mkF, argsToLocals, Value.category]; done) | rfl
def Q1 (Z : State) (p1 : Int32) (xs : List (Addr × Int32)) (h0 : Heap) (n0 : Nat) (v : Option Value) (h : Heap) (L : List Loc) : Prop := v = some (own_find (p1 &&& (7 : Int32)) xs) ∧ Fr n0 L ∧ Keep h0 h []
theorem own_nar {lo : Int32} {C : String} (xs : List (Addr × Int32)) : narrow (.object C) (own_find lo xs) = own_find lo xs := by
  rcases ref_cases (own_find_ref lo xs) with h | ⟨a, h⟩ <;> rw [h] <;> rfl
set_option maxRecDepth 65536 in
set_option maxHeartbeats 40000000 in
theorem rm1 (l : Launch) (Z : State) (a0 : Array Value) (hw : ∀ d ∈ tables_1, d.before a0 Z = true) (ws : List Jvm.Cond) (p1 : Int32) (h0 : Heap) (n0 : Nat) (Z0 : n0 ≤ h0.size) (w1 : Addr) (cl : Cell) (xs : List (Addr × Int32)) (S_V : Sta Z h0 "com/example/quorumlog/quorumlog/Compression" "$VALUES" "[Lcom/example/quorumlog/quorumlog/Compression;" (.ref w1)) (Ar_w1 : Arr Z h0 w1 cl (.object "com/example/quorumlog/quorumlog/Compression")) (E_w1 : Exa Z h0 w1 "[Lcom/example/quorumlog/quorumlog/Compression;") (Fc_w1 : FitC Z cl) (sz : cl.slots.size = 5) (Ex : Els Z h0 cl.slots 0 xs) (hlen : xs.length = 5) :
    MetFree l (⟨"com/example/quorumlog/quorumlog/Compression", "of", "(S)Lcom/example/quorumlog/quorumlog/Compression;"⟩ : MethodName) (head1 (Jvm.Cond.code (⟨"com/example/quorumlog/quorumlog/Compression", "of", "(S)Lcom/example/quorumlog/quorumlog/Compression;"⟩ : MethodName) prog_22_method_4_code 6 (some (.object "com/example/quorumlog/quorumlog/Compression")) :: ws) ({ frames := 2, cells := 1, slots := 5, locals := 25 } : Room)) (fun a U => a = #[(.int p1)] ∧ Z.Warmed39 U.vm ∧ U.heap = h0) (fun _ _ _ _ _ => True) (fun _ U o U' => ∃ v L, o = .returned v ∧ Q1 Z p1 xs h0 n0 v U'.heap L ∧ FrameEnd U o U' L ({ frames := 2, cells := 1, slots := 5, locals := 25 } : Room).cells ({ frames := 2, cells := 1, slots := 5, locals := 25 } : Room).slots) := by
  refine MetFree.of_bodySF (plainFor_of_name pn_1) hisR ?_
  intro p e s m args below meth c s₁ Bd hml0 hP hK
  obtain ⟨rfl, hZ, hh⟩ := hP
  have hx := Bd.exec
  have hby := Bd.bytes
  have hml : c.maxLocals = 6 := hml0
  have hown : s.vm.findClass "com/example/quorumlog/quorumlog/Compression" = some m.cls := findClass_of_methodNamed Bd.named
  have hnm := (name_of_methodNamed Bd.named Bd.method).1
  have X0 : Stand p l e ({ frames := 2, cells := 1, slots := 5, locals := 25 } : Room) s m #[(.int p1)] below meth c s₁ [] 0 0 := Stand.of_body Bd
  have e0 : s₁.heap = h0 := by rw [← hh, Bd.state]; rfl
  have N0 := Fr.nil n0
  have pre0 : ∀ t, Steps p.tables e below (s₁.setTop (mkF m 0 #[.val (.int p1), .unset, .unset, .unset, .unset, .unset] [])) t → Steps p.tables e below (s₁.setTop (entryFrame m #[(.int p1)] 6)) t := fun t k => castTop (ef_1 m p1) k
  obtain ⟨_, _, ⟨T2, L2, k2, n2⟩, -, X2, ⟨Lc2, hQ2, l2, y2, z2⟩, st2⟩ := Jvm.LawKit.callS X0 hx (y := (⟨"com/example/quorumlog/quorumlog/Compression", "values", "()[Lcom/example/quorumlog/quorumlog/Compression;"⟩ : MethodName)) hown (mvT hZ (hw _ (List.mem_of_getElem? (i := 4) rfl))) (mvT hZ (hw _ (List.mem_of_getElem? (i := 5) rfl))) (mvT hZ (hw _ (List.mem_of_getElem? (i := 2) rfl))) (mvT hZ (hw _ (List.mem_of_getElem? (i := 6) rfl))) (by decide) (backOf (W := 0) (rm2 l Z a0 hw [] w1 cl h0 n0 Z0 S_V Ar_w1 E_w1 Fc_w1 sz) hZ (hw _ (List.mem_of_getElem? (i := 6) rfl)) (hw _ (List.mem_of_getElem? (i := 2) rfl)) (by decide) (by decide)) (g := (mkF m 5 #[.val (.int p1), .val (.int (p1 &&& (7 : Int32))), .unset, .unset, .unset, .unset] [])) rfl (by rw [hml]; rfl) (argsL := []) (rest := []) (lenOf pd_1_1 rfl) rfl (by show 2 * 0 + _ ≤ _; exact Nat.le_of_eq rfl) (hb hby d1_5) (fun _ _ => ⟨rfl, e0, (Nat.le_of_ble_eq_true rfl), (Nat.le_of_ble_eq_true rfl)⟩)
  dsimp only [Pt.U, Pt.locs, Pt.cells, Pt.slots] at X2 l2 y2 z2 st2 hQ2
  subst l2 y2 z2
  obtain ⟨b2, rfl, N2q, K2q, A2⟩ := hQ2
  have N2 := Fr.app N0 N2q
  have S2 : (cloneOf cl).slots.size = (Int32.ofNat 5).toNatClampNeg := by rw [own_clamp (by decide)]; exact sz
  obtain ⟨T3, pcE, Ls, X3, e3, dE, st3⟩ := own_loop p1 (p1 &&& (7 : Int32)) b2 (cloneOf cl) 5 (by decide) hx hZ hw hby hml hown A2 sz xs 0 T2 .unset X2 rfl (by omega) (Els.ext (own_ext K2q) xs 0 Ex) One.u
  obtain ⟨fs, hr, hrun, hended, hW, hsame⟩ := X3.leave (v := some (own_find (p1 &&& (7 : Int32)) xs)) (fun h => by rw [Bd.returns] at h; cases h)
  refine ⟨_, _, pre0 _ ?_, hrun, hended, _, _, rfl, ?_, ⟨_, rfl⟩, hW, hsame.mono (by decide) (by decide)⟩
  · show Steps p.tables e below (s₁.setTop (mkF m 0 #[.val (.int p1), .unset, .unset, .unset, .unset, .unset] [])) _
    refine XS.iloadN X0.here hx rfl (hb hby d1_0) rfl ?_
    show Steps p.tables e below (s₁.setTop (mkF m 1 #[.val (.int p1), .unset, .unset, .unset, .unset, .unset] [(.int p1)])) _
    refine XS.bipush X0.here hx rfl (hb hby d1_1) ?_
    show Steps p.tables e below (s₁.setTop (mkF m 3 #[.val (.int p1), .unset, .unset, .unset, .unset, .unset] [(.int (7 : Int32)), (.int p1)])) _
    refine XS.iand X0.here hx rfl (hb hby d1_3) rfl ?_
    show Steps p.tables e below (s₁.setTop (mkF m 4 #[.val (.int p1), .unset, .unset, .unset, .unset, .unset] [(.int (p1 &&& (7 : Int32)))])) _
    refine XS.istoreN X0.here hx rfl (hb hby d1_4) rfl (l' := #[.val (.int p1), .val (.int (p1 &&& (7 : Int32))), .unset, .unset, .unset, .unset]) rfl ?_
    show Steps p.tables e below (s₁.setTop (mkF m 5 #[.val (.int p1), .val (.int (p1 &&& (7 : Int32))), .unset, .unset, .unset, .unset] [])) _
    refine st2 _ ?_
    show Steps p.tables e below (T2.setTop (mkF m 8 #[.val (.int p1), .val (.int (p1 &&& (7 : Int32))), .unset, .unset, .unset, .unset] [(.ref b2)])) _
    refine XS.astoreN X2.here hx rfl (hb hby d1_8) rfl rfl (l' := #[.val (.int p1), .val (.int (p1 &&& (7 : Int32))), .val (.ref b2), .unset, .unset, .unset]) rfl ?_
    show Steps p.tables e below (T2.setTop (mkF m 9 #[.val (.int p1), .val (.int (p1 &&& (7 : Int32))), .val (.ref b2), .unset, .unset, .unset] [])) _
    refine XS.aloadN X2.here hx rfl (hb hby d1_9) rfl rfl ?_
    show Steps p.tables e below (T2.setTop (mkF m 10 #[.val (.int p1), .val (.int (p1 &&& (7 : Int32))), .val (.ref b2), .unset, .unset, .unset] [(.ref b2)])) _
    refine X2.arraylength hx (A2.1) (State.isArrayOf_alike hZ.alike A2.2.1) (g := (mkF m 10 #[.val (.int p1), .val (.int (p1 &&& (7 : Int32))), .val (.ref b2), .unset, .unset, .unset] [(.ref b2)])) rfl rfl (hb hby d1_10) _ ?_
    rw [len_of S2 (own_nn (by decide))]
    show Steps p.tables e below (T2.setTop (mkF m 11 #[.val (.int p1), .val (.int (p1 &&& (7 : Int32))), .val (.ref b2), .unset, .unset, .unset] [(.int (Int32.ofNat 5))])) _
    refine XS.istoreN X2.here hx rfl (hb hby d1_11) rfl (l' := #[.val (.int p1), .val (.int (p1 &&& (7 : Int32))), .val (.ref b2), .val (.int (Int32.ofNat 5)), .unset, .unset]) rfl ?_
    show Steps p.tables e below (T2.setTop (mkF m 12 #[.val (.int p1), .val (.int (p1 &&& (7 : Int32))), .val (.ref b2), .val (.int (Int32.ofNat 5)), .unset, .unset] [])) _
    refine XS.iconst X2.here hx rfl (hb hby d1_12) ?_
    show Steps p.tables e below (T2.setTop (mkF m 13 #[.val (.int p1), .val (.int (p1 &&& (7 : Int32))), .val (.ref b2), .val (.int (Int32.ofNat 5)), .unset, .unset] [(.int (0 : Int32))])) _
    refine XS.istore X2.here hx rfl (hb hby d1_13) rfl (l' := #[.val (.int p1), .val (.int (p1 &&& (7 : Int32))), .val (.ref b2), .val (.int (Int32.ofNat 5)), .val (.int (0 : Int32)), .unset]) rfl ?_
    show Steps p.tables e below (T2.setTop (mkF m 15 #[.val (.int p1), .val (.int (p1 &&& (7 : Int32))), .val (.ref b2), .val (.int (Int32.ofNat 5)), .val (.int (0 : Int32)), .unset] [])) _
    refine st3 _ ?_
    exact retOut X3 hx Bd.returns (own_nar _) (Or.inr (Or.inr (Or.inr (Or.inr ⟨rfl, rfl, own_find_ref _ _⟩)))) (hb hby dE) hr
  · show Q1 Z p1 xs h0 n0 _ T3.heap _
    rw [e3]
    exact ⟨rfl, N2, K2q⟩
def Q3 (Z : State) (p1 : Int32) (c0 c1 c2 c3 c4 : Addr) (h0 : Heap) (n0 : Nat) (v : Option Value) (h : Heap) (L : List Loc) : Prop := v = some (own_find p1 [(c0, (0 : Int32)), (c1, (1 : Int32)), (c2, (2 : Int32)), (c3, (3 : Int32)), (c4, (4 : Int32))]) ∧ Fr n0 L ∧ h = h0
theorem d3_0 : decode method_2_code 0 = .ok (.iload_n 0, 1) := by decide +kernel
theorem d3_1 : decode method_2_code 1 = .ok (.ifCond .ne 7, 3) := by decide +kernel
theorem d3_4 : decode method_2_code 4 = .ok (.getstatic 7, 3) := by decide +kernel
theorem d3_7 : decode method_2_code 7 = .ok (.areturn, 1) := by decide +kernel
theorem pn_3 : plainName "com/example/quorumlog/quorumlog/CompressionOfPinLaw" = true := by first | (simp [plainName, overriddenIn]; done) | decide +kernel
theorem ef_3 (m : MethodId) (x0 : Int32) : entryFrame m #[(.int x0)] 1 = mkF m 0 #[.val (.int x0)] [] := by first | (simp [entryFrame, mkF, argsToLocals, Value.category]; done) | rfl
set_option maxRecDepth 65536 in
set_option maxHeartbeats 40000000 in
theorem rm3_0 (l : Launch) (Z : State) (a0 : Array Value) (hw : ∀ d ∈ tables_1, d.before a0 Z = true) (ws : List Jvm.Cond) (p1 : Int32) (c0 c1 c2 c3 c4 : Addr) (h0 : Heap) (n0 : Nat) (Z0 : n0 ≤ h0.size) (S_NONE : Sta Z h0 "com/example/quorumlog/quorumlog/Compression" "NONE" "Lcom/example/quorumlog/quorumlog/Compression;" (.ref c0)) (hc1 : p1 = (0 : Int32)) :
    MetFree l (⟨"com/example/quorumlog/quorumlog/CompressionOfPinLaw", "expected", "(I)Lcom/example/quorumlog/quorumlog/Compression;"⟩ : MethodName) (head1 (Jvm.Cond.code (⟨"com/example/quorumlog/quorumlog/CompressionOfPinLaw", "expected", "(I)Lcom/example/quorumlog/quorumlog/Compression;"⟩ : MethodName) method_2_code 1 (some (.object "com/example/quorumlog/quorumlog/Compression")) :: ws) ({ frames := 0, cells := 0, slots := 0, locals := 0 } : Room)) (fun a U => a = #[(.int p1)] ∧ Z.Warmed39 U.vm ∧ U.heap = h0) (fun _ _ _ _ _ => True) (fun _ U o U' => ∃ v L, o = .returned v ∧ Q3 Z p1 c0 c1 c2 c3 c4 h0 n0 v U'.heap L ∧ FrameEnd U o U' L ({ frames := 0, cells := 0, slots := 0, locals := 0 } : Room).cells ({ frames := 0, cells := 0, slots := 0, locals := 0 } : Room).slots) := by
  refine MetFree.of_bodySF (plainFor_of_name pn_3) hisR ?_
  intro p e s m args below meth c s₁ Bd hml0 hP hK
  obtain ⟨rfl, hZ, hh⟩ := hP
  have hx := Bd.exec
  have hby := Bd.bytes
  have hml : c.maxLocals = 1 := hml0
  have hown : s.vm.findClass "com/example/quorumlog/quorumlog/CompressionOfPinLaw" = some m.cls := findClass_of_methodNamed Bd.named
  have hnm := (name_of_methodNamed Bd.named Bd.method).1
  have X0 : Stand p l e ({ frames := 0, cells := 0, slots := 0, locals := 0 } : Room) s m #[(.int p1)] below meth c s₁ [] 0 0 := Stand.of_body Bd
  have e0 : s₁.heap = h0 := by rw [← hh, Bd.state]; rfl
  have N0 := Fr.nil n0
  have pre0 : ∀ t, Steps p.tables e below (s₁.setTop (mkF m 0 #[.val (.int p1)] [])) t → Steps p.tables e below (s₁.setTop (entryFrame m #[(.int p1)] 1)) t := fun t k => castTop (ef_3 m p1) k
  obtain ⟨T3, X3, e3, st3⟩ := getS2 X0 hx hZ hown (host := "") (Or.inl (hw _ (List.mem_of_getElem? (i := 30) rfl))) Via.refl e0 S_NONE (g := (mkF m 4 #[.val (.int p1)] [])) rfl (hb hby d3_4)
  obtain ⟨fs, hr, hrun, hended, hW, hsame⟩ := X3.leave (v := some (.ref c0)) (fun h => by rw [Bd.returns] at h; cases h)
  refine ⟨_, _, pre0 _ ?_, hrun, hended, _, _, rfl, ?_, ⟨_, rfl⟩, hW, hsame.mono (by decide) (by decide)⟩
  · show Steps p.tables e below (s₁.setTop (mkF m 0 #[.val (.int p1)] [])) _
    refine XS.iloadN X0.here hx rfl (hb hby d3_0) rfl ?_
    show Steps p.tables e below (s₁.setTop (mkF m 1 #[.val (.int p1)] [(.int p1)])) _
    refine XS.ifNo X0.here hx rfl (hb hby d3_1) rfl ((if0 _ _).trans (teq hc1).2) ?_
    show Steps p.tables e below (s₁.setTop (mkF m 4 #[.val (.int p1)] [])) _
    refine st3 _ ?_
    show Steps p.tables e below (T3.setTop (mkF m 7 #[.val (.int p1)] [(.ref c0)])) _
    jvm_step X3.here [X3.here.top, hx, (hb hby d3_7), X3.method', Bd.returns, Value.isRef, FieldType.isReference]
    first | (intro acts; rw [hr _ acts rfl rfl rfl]) | rw [hr _ _ rfl rfl rfl]
    exact Steps.refl _
  · show Q3 Z p1 c0 c1 c2 c3 c4 h0 n0 _ T3.heap _
    rw [e3]
    exact ⟨by rw [own_find_yes hc1.symm], N0, rfl⟩
theorem d3_8 : decode method_2_code 8 = .ok (.iload_n 0, 1) := by decide +kernel
theorem d3_9 : decode method_2_code 9 = .ok (.iconst 1, 1) := by decide +kernel
theorem d3_10 : decode method_2_code 10 = .ok (.if_icmp .ne 7, 3) := by decide +kernel
theorem d3_13 : decode method_2_code 13 = .ok (.getstatic 13, 3) := by decide +kernel
theorem d3_16 : decode method_2_code 16 = .ok (.areturn, 1) := by decide +kernel
set_option maxRecDepth 65536 in
set_option maxHeartbeats 40000000 in
theorem rm3_1 (l : Launch) (Z : State) (a0 : Array Value) (hw : ∀ d ∈ tables_1, d.before a0 Z = true) (ws : List Jvm.Cond) (p1 : Int32) (c0 c1 c2 c3 c4 : Addr) (h0 : Heap) (n0 : Nat) (Z0 : n0 ≤ h0.size) (S_GZIP : Sta Z h0 "com/example/quorumlog/quorumlog/Compression" "GZIP" "Lcom/example/quorumlog/quorumlog/Compression;" (.ref c1)) (hc1 : ¬ (p1 = (0 : Int32))) (hc10 : p1 = (1 : Int32)) :
    MetFree l (⟨"com/example/quorumlog/quorumlog/CompressionOfPinLaw", "expected", "(I)Lcom/example/quorumlog/quorumlog/Compression;"⟩ : MethodName) (head1 (Jvm.Cond.code (⟨"com/example/quorumlog/quorumlog/CompressionOfPinLaw", "expected", "(I)Lcom/example/quorumlog/quorumlog/Compression;"⟩ : MethodName) method_2_code 1 (some (.object "com/example/quorumlog/quorumlog/Compression")) :: ws) ({ frames := 0, cells := 0, slots := 0, locals := 0 } : Room)) (fun a U => a = #[(.int p1)] ∧ Z.Warmed39 U.vm ∧ U.heap = h0) (fun _ _ _ _ _ => True) (fun _ U o U' => ∃ v L, o = .returned v ∧ Q3 Z p1 c0 c1 c2 c3 c4 h0 n0 v U'.heap L ∧ FrameEnd U o U' L ({ frames := 0, cells := 0, slots := 0, locals := 0 } : Room).cells ({ frames := 0, cells := 0, slots := 0, locals := 0 } : Room).slots) := by
  refine MetFree.of_bodySF (plainFor_of_name pn_3) hisR ?_
  intro p e s m args below meth c s₁ Bd hml0 hP hK
  obtain ⟨rfl, hZ, hh⟩ := hP
  have hx := Bd.exec
  have hby := Bd.bytes
  have hml : c.maxLocals = 1 := hml0
  have hown : s.vm.findClass "com/example/quorumlog/quorumlog/CompressionOfPinLaw" = some m.cls := findClass_of_methodNamed Bd.named
  have hnm := (name_of_methodNamed Bd.named Bd.method).1
  have X0 : Stand p l e ({ frames := 0, cells := 0, slots := 0, locals := 0 } : Room) s m #[(.int p1)] below meth c s₁ [] 0 0 := Stand.of_body Bd
  have e0 : s₁.heap = h0 := by rw [← hh, Bd.state]; rfl
  have N0 := Fr.nil n0
  have pre0 : ∀ t, Steps p.tables e below (s₁.setTop (mkF m 0 #[.val (.int p1)] [])) t → Steps p.tables e below (s₁.setTop (entryFrame m #[(.int p1)] 1)) t := fun t k => castTop (ef_3 m p1) k
  obtain ⟨T3, X3, e3, st3⟩ := getS2 X0 hx hZ hown (host := "") (Or.inl (hw _ (List.mem_of_getElem? (i := 33) rfl))) Via.refl e0 S_GZIP (g := (mkF m 13 #[.val (.int p1)] [])) rfl (hb hby d3_13)
  obtain ⟨fs, hr, hrun, hended, hW, hsame⟩ := X3.leave (v := some (.ref c1)) (fun h => by rw [Bd.returns] at h; cases h)
  refine ⟨_, _, pre0 _ ?_, hrun, hended, _, _, rfl, ?_, ⟨_, rfl⟩, hW, hsame.mono (by decide) (by decide)⟩
  · show Steps p.tables e below (s₁.setTop (mkF m 0 #[.val (.int p1)] [])) _
    refine XS.iloadN X0.here hx rfl (hb hby d3_0) rfl ?_
    show Steps p.tables e below (s₁.setTop (mkF m 1 #[.val (.int p1)] [(.int p1)])) _
    refine XS.ifYes X0.here hx rfl (pc0 := 1) (pc' := 8) rfl (hb hby d3_1) rfl ((if0 _ _).trans (feq hc1).2) (by decide) (by decide) ?_
    show Steps p.tables e below (s₁.setTop (mkF m 8 #[.val (.int p1)] [])) _
    refine XS.iloadN X0.here hx rfl (hb hby d3_8) rfl ?_
    show Steps p.tables e below (s₁.setTop (mkF m 9 #[.val (.int p1)] [(.int p1)])) _
    refine XS.iconst X0.here hx rfl (hb hby d3_9) ?_
    show Steps p.tables e below (s₁.setTop (mkF m 10 #[.val (.int p1)] [(.int (1 : Int32)), (.int p1)])) _
    refine XS.icmpNo X0.here hx rfl (hb hby d3_10) rfl (teq hc10).2 ?_
    show Steps p.tables e below (s₁.setTop (mkF m 13 #[.val (.int p1)] [])) _
    refine st3 _ ?_
    show Steps p.tables e below (T3.setTop (mkF m 16 #[.val (.int p1)] [(.ref c1)])) _
    jvm_step X3.here [X3.here.top, hx, (hb hby d3_16), X3.method', Bd.returns, Value.isRef, FieldType.isReference]
    first | (intro acts; rw [hr _ acts rfl rfl rfl]) | rw [hr _ _ rfl rfl rfl]
    exact Steps.refl _
  · show Q3 Z p1 c0 c1 c2 c3 c4 h0 n0 _ T3.heap _
    rw [e3]
    exact ⟨by rw [own_find_no (fun q => hc1 q.symm), own_find_yes hc10.symm], N0, rfl⟩
theorem d3_17 : decode method_2_code 17 = .ok (.iload_n 0, 1) := by decide +kernel
theorem d3_18 : decode method_2_code 18 = .ok (.iconst 2, 1) := by decide +kernel
theorem d3_19 : decode method_2_code 19 = .ok (.if_icmp .ne 7, 3) := by decide +kernel
theorem d3_22 : decode method_2_code 22 = .ok (.getstatic 16, 3) := by decide +kernel
theorem d3_25 : decode method_2_code 25 = .ok (.areturn, 1) := by decide +kernel
set_option maxRecDepth 65536 in
set_option maxHeartbeats 40000000 in
theorem rm3_2 (l : Launch) (Z : State) (a0 : Array Value) (hw : ∀ d ∈ tables_1, d.before a0 Z = true) (ws : List Jvm.Cond) (p1 : Int32) (c0 c1 c2 c3 c4 : Addr) (h0 : Heap) (n0 : Nat) (Z0 : n0 ≤ h0.size) (S_SNAPPY : Sta Z h0 "com/example/quorumlog/quorumlog/Compression" "SNAPPY" "Lcom/example/quorumlog/quorumlog/Compression;" (.ref c2)) (hc1 : ¬ (p1 = (0 : Int32))) (hc10 : ¬ (p1 = (1 : Int32))) (hc19 : p1 = (2 : Int32)) :
    MetFree l (⟨"com/example/quorumlog/quorumlog/CompressionOfPinLaw", "expected", "(I)Lcom/example/quorumlog/quorumlog/Compression;"⟩ : MethodName) (head1 (Jvm.Cond.code (⟨"com/example/quorumlog/quorumlog/CompressionOfPinLaw", "expected", "(I)Lcom/example/quorumlog/quorumlog/Compression;"⟩ : MethodName) method_2_code 1 (some (.object "com/example/quorumlog/quorumlog/Compression")) :: ws) ({ frames := 0, cells := 0, slots := 0, locals := 0 } : Room)) (fun a U => a = #[(.int p1)] ∧ Z.Warmed39 U.vm ∧ U.heap = h0) (fun _ _ _ _ _ => True) (fun _ U o U' => ∃ v L, o = .returned v ∧ Q3 Z p1 c0 c1 c2 c3 c4 h0 n0 v U'.heap L ∧ FrameEnd U o U' L ({ frames := 0, cells := 0, slots := 0, locals := 0 } : Room).cells ({ frames := 0, cells := 0, slots := 0, locals := 0 } : Room).slots) := by
  refine MetFree.of_bodySF (plainFor_of_name pn_3) hisR ?_
  intro p e s m args below meth c s₁ Bd hml0 hP hK
  obtain ⟨rfl, hZ, hh⟩ := hP
  have hx := Bd.exec
  have hby := Bd.bytes
  have hml : c.maxLocals = 1 := hml0
  have hown : s.vm.findClass "com/example/quorumlog/quorumlog/CompressionOfPinLaw" = some m.cls := findClass_of_methodNamed Bd.named
  have hnm := (name_of_methodNamed Bd.named Bd.method).1
  have X0 : Stand p l e ({ frames := 0, cells := 0, slots := 0, locals := 0 } : Room) s m #[(.int p1)] below meth c s₁ [] 0 0 := Stand.of_body Bd
  have e0 : s₁.heap = h0 := by rw [← hh, Bd.state]; rfl
  have N0 := Fr.nil n0
  have pre0 : ∀ t, Steps p.tables e below (s₁.setTop (mkF m 0 #[.val (.int p1)] [])) t → Steps p.tables e below (s₁.setTop (entryFrame m #[(.int p1)] 1)) t := fun t k => castTop (ef_3 m p1) k
  obtain ⟨T3, X3, e3, st3⟩ := getS2 X0 hx hZ hown (host := "") (Or.inl (hw _ (List.mem_of_getElem? (i := 32) rfl))) Via.refl e0 S_SNAPPY (g := (mkF m 22 #[.val (.int p1)] [])) rfl (hb hby d3_22)
  obtain ⟨fs, hr, hrun, hended, hW, hsame⟩ := X3.leave (v := some (.ref c2)) (fun h => by rw [Bd.returns] at h; cases h)
  refine ⟨_, _, pre0 _ ?_, hrun, hended, _, _, rfl, ?_, ⟨_, rfl⟩, hW, hsame.mono (by decide) (by decide)⟩
  · show Steps p.tables e below (s₁.setTop (mkF m 0 #[.val (.int p1)] [])) _
    refine XS.iloadN X0.here hx rfl (hb hby d3_0) rfl ?_
    show Steps p.tables e below (s₁.setTop (mkF m 1 #[.val (.int p1)] [(.int p1)])) _
    refine XS.ifYes X0.here hx rfl (pc0 := 1) (pc' := 8) rfl (hb hby d3_1) rfl ((if0 _ _).trans (feq hc1).2) (by decide) (by decide) ?_
    show Steps p.tables e below (s₁.setTop (mkF m 8 #[.val (.int p1)] [])) _
    refine XS.iloadN X0.here hx rfl (hb hby d3_8) rfl ?_
    show Steps p.tables e below (s₁.setTop (mkF m 9 #[.val (.int p1)] [(.int p1)])) _
    refine XS.iconst X0.here hx rfl (hb hby d3_9) ?_
    show Steps p.tables e below (s₁.setTop (mkF m 10 #[.val (.int p1)] [(.int (1 : Int32)), (.int p1)])) _
    refine XS.icmpYes X0.here hx rfl (pc0 := 10) (pc' := 17) rfl (hb hby d3_10) rfl (feq hc10).2 (by decide) (by decide) ?_
    show Steps p.tables e below (s₁.setTop (mkF m 17 #[.val (.int p1)] [])) _
    refine XS.iloadN X0.here hx rfl (hb hby d3_17) rfl ?_
    show Steps p.tables e below (s₁.setTop (mkF m 18 #[.val (.int p1)] [(.int p1)])) _
    refine XS.iconst X0.here hx rfl (hb hby d3_18) ?_
    show Steps p.tables e below (s₁.setTop (mkF m 19 #[.val (.int p1)] [(.int (2 : Int32)), (.int p1)])) _
    refine XS.icmpNo X0.here hx rfl (hb hby d3_19) rfl (teq hc19).2 ?_
    show Steps p.tables e below (s₁.setTop (mkF m 22 #[.val (.int p1)] [])) _
    refine st3 _ ?_
    show Steps p.tables e below (T3.setTop (mkF m 25 #[.val (.int p1)] [(.ref c2)])) _
    jvm_step X3.here [X3.here.top, hx, (hb hby d3_25), X3.method', Bd.returns, Value.isRef, FieldType.isReference]
    first | (intro acts; rw [hr _ acts rfl rfl rfl]) | rw [hr _ _ rfl rfl rfl]
    exact Steps.refl _
  · show Q3 Z p1 c0 c1 c2 c3 c4 h0 n0 _ T3.heap _
    rw [e3]
    exact ⟨by rw [own_find_no (fun q => hc1 q.symm), own_find_no (fun q => hc10 q.symm), own_find_yes hc19.symm], N0, rfl⟩
theorem d3_26 : decode method_2_code 26 = .ok (.iload_n 0, 1) := by decide +kernel
theorem d3_27 : decode method_2_code 27 = .ok (.iconst 3, 1) := by decide +kernel
theorem d3_28 : decode method_2_code 28 = .ok (.if_icmp .ne 7, 3) := by decide +kernel
theorem d3_31 : decode method_2_code 31 = .ok (.getstatic 19, 3) := by decide +kernel
theorem d3_34 : decode method_2_code 34 = .ok (.areturn, 1) := by decide +kernel
set_option maxRecDepth 65536 in
set_option maxHeartbeats 40000000 in
theorem rm3_3 (l : Launch) (Z : State) (a0 : Array Value) (hw : ∀ d ∈ tables_1, d.before a0 Z = true) (ws : List Jvm.Cond) (p1 : Int32) (c0 c1 c2 c3 c4 : Addr) (h0 : Heap) (n0 : Nat) (Z0 : n0 ≤ h0.size) (S_LZ4 : Sta Z h0 "com/example/quorumlog/quorumlog/Compression" "LZ4" "Lcom/example/quorumlog/quorumlog/Compression;" (.ref c3)) (hc1 : ¬ (p1 = (0 : Int32))) (hc10 : ¬ (p1 = (1 : Int32))) (hc19 : ¬ (p1 = (2 : Int32))) (hc28 : p1 = (3 : Int32)) :
    MetFree l (⟨"com/example/quorumlog/quorumlog/CompressionOfPinLaw", "expected", "(I)Lcom/example/quorumlog/quorumlog/Compression;"⟩ : MethodName) (head1 (Jvm.Cond.code (⟨"com/example/quorumlog/quorumlog/CompressionOfPinLaw", "expected", "(I)Lcom/example/quorumlog/quorumlog/Compression;"⟩ : MethodName) method_2_code 1 (some (.object "com/example/quorumlog/quorumlog/Compression")) :: ws) ({ frames := 0, cells := 0, slots := 0, locals := 0 } : Room)) (fun a U => a = #[(.int p1)] ∧ Z.Warmed39 U.vm ∧ U.heap = h0) (fun _ _ _ _ _ => True) (fun _ U o U' => ∃ v L, o = .returned v ∧ Q3 Z p1 c0 c1 c2 c3 c4 h0 n0 v U'.heap L ∧ FrameEnd U o U' L ({ frames := 0, cells := 0, slots := 0, locals := 0 } : Room).cells ({ frames := 0, cells := 0, slots := 0, locals := 0 } : Room).slots) := by
  refine MetFree.of_bodySF (plainFor_of_name pn_3) hisR ?_
  intro p e s m args below meth c s₁ Bd hml0 hP hK
  obtain ⟨rfl, hZ, hh⟩ := hP
  have hx := Bd.exec
  have hby := Bd.bytes
  have hml : c.maxLocals = 1 := hml0
  have hown : s.vm.findClass "com/example/quorumlog/quorumlog/CompressionOfPinLaw" = some m.cls := findClass_of_methodNamed Bd.named
  have hnm := (name_of_methodNamed Bd.named Bd.method).1
  have X0 : Stand p l e ({ frames := 0, cells := 0, slots := 0, locals := 0 } : Room) s m #[(.int p1)] below meth c s₁ [] 0 0 := Stand.of_body Bd
  have e0 : s₁.heap = h0 := by rw [← hh, Bd.state]; rfl
  have N0 := Fr.nil n0
  have pre0 : ∀ t, Steps p.tables e below (s₁.setTop (mkF m 0 #[.val (.int p1)] [])) t → Steps p.tables e below (s₁.setTop (entryFrame m #[(.int p1)] 1)) t := fun t k => castTop (ef_3 m p1) k
  obtain ⟨T3, X3, e3, st3⟩ := getS2 X0 hx hZ hown (host := "") (Or.inl (hw _ (List.mem_of_getElem? (i := 31) rfl))) Via.refl e0 S_LZ4 (g := (mkF m 31 #[.val (.int p1)] [])) rfl (hb hby d3_31)
  obtain ⟨fs, hr, hrun, hended, hW, hsame⟩ := X3.leave (v := some (.ref c3)) (fun h => by rw [Bd.returns] at h; cases h)
  refine ⟨_, _, pre0 _ ?_, hrun, hended, _, _, rfl, ?_, ⟨_, rfl⟩, hW, hsame.mono (by decide) (by decide)⟩
  · show Steps p.tables e below (s₁.setTop (mkF m 0 #[.val (.int p1)] [])) _
    refine XS.iloadN X0.here hx rfl (hb hby d3_0) rfl ?_
    show Steps p.tables e below (s₁.setTop (mkF m 1 #[.val (.int p1)] [(.int p1)])) _
    refine XS.ifYes X0.here hx rfl (pc0 := 1) (pc' := 8) rfl (hb hby d3_1) rfl ((if0 _ _).trans (feq hc1).2) (by decide) (by decide) ?_
    show Steps p.tables e below (s₁.setTop (mkF m 8 #[.val (.int p1)] [])) _
    refine XS.iloadN X0.here hx rfl (hb hby d3_8) rfl ?_
    show Steps p.tables e below (s₁.setTop (mkF m 9 #[.val (.int p1)] [(.int p1)])) _
    refine XS.iconst X0.here hx rfl (hb hby d3_9) ?_
    show Steps p.tables e below (s₁.setTop (mkF m 10 #[.val (.int p1)] [(.int (1 : Int32)), (.int p1)])) _
    refine XS.icmpYes X0.here hx rfl (pc0 := 10) (pc' := 17) rfl (hb hby d3_10) rfl (feq hc10).2 (by decide) (by decide) ?_
    show Steps p.tables e below (s₁.setTop (mkF m 17 #[.val (.int p1)] [])) _
    refine XS.iloadN X0.here hx rfl (hb hby d3_17) rfl ?_
    show Steps p.tables e below (s₁.setTop (mkF m 18 #[.val (.int p1)] [(.int p1)])) _
    refine XS.iconst X0.here hx rfl (hb hby d3_18) ?_
    show Steps p.tables e below (s₁.setTop (mkF m 19 #[.val (.int p1)] [(.int (2 : Int32)), (.int p1)])) _
    refine XS.icmpYes X0.here hx rfl (pc0 := 19) (pc' := 26) rfl (hb hby d3_19) rfl (feq hc19).2 (by decide) (by decide) ?_
    show Steps p.tables e below (s₁.setTop (mkF m 26 #[.val (.int p1)] [])) _
    refine XS.iloadN X0.here hx rfl (hb hby d3_26) rfl ?_
    show Steps p.tables e below (s₁.setTop (mkF m 27 #[.val (.int p1)] [(.int p1)])) _
    refine XS.iconst X0.here hx rfl (hb hby d3_27) ?_
    show Steps p.tables e below (s₁.setTop (mkF m 28 #[.val (.int p1)] [(.int (3 : Int32)), (.int p1)])) _
    refine XS.icmpNo X0.here hx rfl (hb hby d3_28) rfl (teq hc28).2 ?_
    show Steps p.tables e below (s₁.setTop (mkF m 31 #[.val (.int p1)] [])) _
    refine st3 _ ?_
    show Steps p.tables e below (T3.setTop (mkF m 34 #[.val (.int p1)] [(.ref c3)])) _
    jvm_step X3.here [X3.here.top, hx, (hb hby d3_34), X3.method', Bd.returns, Value.isRef, FieldType.isReference]
    first | (intro acts; rw [hr _ acts rfl rfl rfl]) | rw [hr _ _ rfl rfl rfl]
    exact Steps.refl _
  · show Q3 Z p1 c0 c1 c2 c3 c4 h0 n0 _ T3.heap _
    rw [e3]
    exact ⟨by rw [own_find_no (fun q => hc1 q.symm), own_find_no (fun q => hc10 q.symm), own_find_no (fun q => hc19 q.symm), own_find_yes hc28.symm], N0, rfl⟩
theorem d3_35 : decode method_2_code 35 = .ok (.iload_n 0, 1) := by decide +kernel
theorem d3_36 : decode method_2_code 36 = .ok (.iconst 4, 1) := by decide +kernel
theorem d3_37 : decode method_2_code 37 = .ok (.if_icmp .ne 7, 3) := by decide +kernel
theorem d3_40 : decode method_2_code 40 = .ok (.getstatic 22, 3) := by decide +kernel
theorem d3_43 : decode method_2_code 43 = .ok (.areturn, 1) := by decide +kernel
set_option maxRecDepth 65536 in
set_option maxHeartbeats 40000000 in
theorem rm3_4 (l : Launch) (Z : State) (a0 : Array Value) (hw : ∀ d ∈ tables_1, d.before a0 Z = true) (ws : List Jvm.Cond) (p1 : Int32) (c0 c1 c2 c3 c4 : Addr) (h0 : Heap) (n0 : Nat) (Z0 : n0 ≤ h0.size) (S_ZSTD : Sta Z h0 "com/example/quorumlog/quorumlog/Compression" "ZSTD" "Lcom/example/quorumlog/quorumlog/Compression;" (.ref c4)) (hc1 : ¬ (p1 = (0 : Int32))) (hc10 : ¬ (p1 = (1 : Int32))) (hc19 : ¬ (p1 = (2 : Int32))) (hc28 : ¬ (p1 = (3 : Int32))) (hc37 : p1 = (4 : Int32)) :
    MetFree l (⟨"com/example/quorumlog/quorumlog/CompressionOfPinLaw", "expected", "(I)Lcom/example/quorumlog/quorumlog/Compression;"⟩ : MethodName) (head1 (Jvm.Cond.code (⟨"com/example/quorumlog/quorumlog/CompressionOfPinLaw", "expected", "(I)Lcom/example/quorumlog/quorumlog/Compression;"⟩ : MethodName) method_2_code 1 (some (.object "com/example/quorumlog/quorumlog/Compression")) :: ws) ({ frames := 0, cells := 0, slots := 0, locals := 0 } : Room)) (fun a U => a = #[(.int p1)] ∧ Z.Warmed39 U.vm ∧ U.heap = h0) (fun _ _ _ _ _ => True) (fun _ U o U' => ∃ v L, o = .returned v ∧ Q3 Z p1 c0 c1 c2 c3 c4 h0 n0 v U'.heap L ∧ FrameEnd U o U' L ({ frames := 0, cells := 0, slots := 0, locals := 0 } : Room).cells ({ frames := 0, cells := 0, slots := 0, locals := 0 } : Room).slots) := by
  refine MetFree.of_bodySF (plainFor_of_name pn_3) hisR ?_
  intro p e s m args below meth c s₁ Bd hml0 hP hK
  obtain ⟨rfl, hZ, hh⟩ := hP
  have hx := Bd.exec
  have hby := Bd.bytes
  have hml : c.maxLocals = 1 := hml0
  have hown : s.vm.findClass "com/example/quorumlog/quorumlog/CompressionOfPinLaw" = some m.cls := findClass_of_methodNamed Bd.named
  have hnm := (name_of_methodNamed Bd.named Bd.method).1
  have X0 : Stand p l e ({ frames := 0, cells := 0, slots := 0, locals := 0 } : Room) s m #[(.int p1)] below meth c s₁ [] 0 0 := Stand.of_body Bd
  have e0 : s₁.heap = h0 := by rw [← hh, Bd.state]; rfl
  have N0 := Fr.nil n0
  have pre0 : ∀ t, Steps p.tables e below (s₁.setTop (mkF m 0 #[.val (.int p1)] [])) t → Steps p.tables e below (s₁.setTop (entryFrame m #[(.int p1)] 1)) t := fun t k => castTop (ef_3 m p1) k
  obtain ⟨T3, X3, e3, st3⟩ := getS2 X0 hx hZ hown (host := "") (Or.inl (hw _ (List.mem_of_getElem? (i := 34) rfl))) Via.refl e0 S_ZSTD (g := (mkF m 40 #[.val (.int p1)] [])) rfl (hb hby d3_40)
  obtain ⟨fs, hr, hrun, hended, hW, hsame⟩ := X3.leave (v := some (.ref c4)) (fun h => by rw [Bd.returns] at h; cases h)
  refine ⟨_, _, pre0 _ ?_, hrun, hended, _, _, rfl, ?_, ⟨_, rfl⟩, hW, hsame.mono (by decide) (by decide)⟩
  · show Steps p.tables e below (s₁.setTop (mkF m 0 #[.val (.int p1)] [])) _
    refine XS.iloadN X0.here hx rfl (hb hby d3_0) rfl ?_
    show Steps p.tables e below (s₁.setTop (mkF m 1 #[.val (.int p1)] [(.int p1)])) _
    refine XS.ifYes X0.here hx rfl (pc0 := 1) (pc' := 8) rfl (hb hby d3_1) rfl ((if0 _ _).trans (feq hc1).2) (by decide) (by decide) ?_
    show Steps p.tables e below (s₁.setTop (mkF m 8 #[.val (.int p1)] [])) _
    refine XS.iloadN X0.here hx rfl (hb hby d3_8) rfl ?_
    show Steps p.tables e below (s₁.setTop (mkF m 9 #[.val (.int p1)] [(.int p1)])) _
    refine XS.iconst X0.here hx rfl (hb hby d3_9) ?_
    show Steps p.tables e below (s₁.setTop (mkF m 10 #[.val (.int p1)] [(.int (1 : Int32)), (.int p1)])) _
    refine XS.icmpYes X0.here hx rfl (pc0 := 10) (pc' := 17) rfl (hb hby d3_10) rfl (feq hc10).2 (by decide) (by decide) ?_
    show Steps p.tables e below (s₁.setTop (mkF m 17 #[.val (.int p1)] [])) _
    refine XS.iloadN X0.here hx rfl (hb hby d3_17) rfl ?_
    show Steps p.tables e below (s₁.setTop (mkF m 18 #[.val (.int p1)] [(.int p1)])) _
    refine XS.iconst X0.here hx rfl (hb hby d3_18) ?_
    show Steps p.tables e below (s₁.setTop (mkF m 19 #[.val (.int p1)] [(.int (2 : Int32)), (.int p1)])) _
    refine XS.icmpYes X0.here hx rfl (pc0 := 19) (pc' := 26) rfl (hb hby d3_19) rfl (feq hc19).2 (by decide) (by decide) ?_
    show Steps p.tables e below (s₁.setTop (mkF m 26 #[.val (.int p1)] [])) _
    refine XS.iloadN X0.here hx rfl (hb hby d3_26) rfl ?_
    show Steps p.tables e below (s₁.setTop (mkF m 27 #[.val (.int p1)] [(.int p1)])) _
    refine XS.iconst X0.here hx rfl (hb hby d3_27) ?_
    show Steps p.tables e below (s₁.setTop (mkF m 28 #[.val (.int p1)] [(.int (3 : Int32)), (.int p1)])) _
    refine XS.icmpYes X0.here hx rfl (pc0 := 28) (pc' := 35) rfl (hb hby d3_28) rfl (feq hc28).2 (by decide) (by decide) ?_
    show Steps p.tables e below (s₁.setTop (mkF m 35 #[.val (.int p1)] [])) _
    refine XS.iloadN X0.here hx rfl (hb hby d3_35) rfl ?_
    show Steps p.tables e below (s₁.setTop (mkF m 36 #[.val (.int p1)] [(.int p1)])) _
    refine XS.iconst X0.here hx rfl (hb hby d3_36) ?_
    show Steps p.tables e below (s₁.setTop (mkF m 37 #[.val (.int p1)] [(.int (4 : Int32)), (.int p1)])) _
    refine XS.icmpNo X0.here hx rfl (hb hby d3_37) rfl (teq hc37).2 ?_
    show Steps p.tables e below (s₁.setTop (mkF m 40 #[.val (.int p1)] [])) _
    refine st3 _ ?_
    show Steps p.tables e below (T3.setTop (mkF m 43 #[.val (.int p1)] [(.ref c4)])) _
    jvm_step X3.here [X3.here.top, hx, (hb hby d3_43), X3.method', Bd.returns, Value.isRef, FieldType.isReference]
    first | (intro acts; rw [hr _ acts rfl rfl rfl]) | rw [hr _ _ rfl rfl rfl]
    exact Steps.refl _
  · show Q3 Z p1 c0 c1 c2 c3 c4 h0 n0 _ T3.heap _
    rw [e3]
    exact ⟨by rw [own_find_no (fun q => hc1 q.symm), own_find_no (fun q => hc10 q.symm), own_find_no (fun q => hc19 q.symm), own_find_no (fun q => hc28 q.symm), own_find_yes hc37.symm], N0, rfl⟩
theorem d3_44 : decode method_2_code 44 = .ok (.aconst_null, 1) := by decide +kernel
theorem d3_45 : decode method_2_code 45 = .ok (.areturn, 1) := by decide +kernel
set_option maxRecDepth 65536 in
set_option maxHeartbeats 40000000 in
theorem rm3_5 (l : Launch) (Z : State) (a0 : Array Value) (hw : ∀ d ∈ tables_1, d.before a0 Z = true) (ws : List Jvm.Cond) (p1 : Int32) (c0 c1 c2 c3 c4 : Addr) (h0 : Heap) (n0 : Nat) (Z0 : n0 ≤ h0.size) (hc1 : ¬ (p1 = (0 : Int32))) (hc10 : ¬ (p1 = (1 : Int32))) (hc19 : ¬ (p1 = (2 : Int32))) (hc28 : ¬ (p1 = (3 : Int32))) (hc37 : ¬ (p1 = (4 : Int32))) :
    MetFree l (⟨"com/example/quorumlog/quorumlog/CompressionOfPinLaw", "expected", "(I)Lcom/example/quorumlog/quorumlog/Compression;"⟩ : MethodName) (head1 (Jvm.Cond.code (⟨"com/example/quorumlog/quorumlog/CompressionOfPinLaw", "expected", "(I)Lcom/example/quorumlog/quorumlog/Compression;"⟩ : MethodName) method_2_code 1 (some (.object "com/example/quorumlog/quorumlog/Compression")) :: ws) ({ frames := 0, cells := 0, slots := 0, locals := 0 } : Room)) (fun a U => a = #[(.int p1)] ∧ Z.Warmed39 U.vm ∧ U.heap = h0) (fun _ _ _ _ _ => True) (fun _ U o U' => ∃ v L, o = .returned v ∧ Q3 Z p1 c0 c1 c2 c3 c4 h0 n0 v U'.heap L ∧ FrameEnd U o U' L ({ frames := 0, cells := 0, slots := 0, locals := 0 } : Room).cells ({ frames := 0, cells := 0, slots := 0, locals := 0 } : Room).slots) := by
  refine MetFree.of_bodySF (plainFor_of_name pn_3) hisR ?_
  intro p e s m args below meth c s₁ Bd hml0 hP hK
  obtain ⟨rfl, hZ, hh⟩ := hP
  have hx := Bd.exec
  have hby := Bd.bytes
  have hml : c.maxLocals = 1 := hml0
  have hown : s.vm.findClass "com/example/quorumlog/quorumlog/CompressionOfPinLaw" = some m.cls := findClass_of_methodNamed Bd.named
  have hnm := (name_of_methodNamed Bd.named Bd.method).1
  have X0 : Stand p l e ({ frames := 0, cells := 0, slots := 0, locals := 0 } : Room) s m #[(.int p1)] below meth c s₁ [] 0 0 := Stand.of_body Bd
  have e0 : s₁.heap = h0 := by rw [← hh, Bd.state]; rfl
  have N0 := Fr.nil n0
  have pre0 : ∀ t, Steps p.tables e below (s₁.setTop (mkF m 0 #[.val (.int p1)] [])) t → Steps p.tables e below (s₁.setTop (entryFrame m #[(.int p1)] 1)) t := fun t k => castTop (ef_3 m p1) k

  obtain ⟨fs, hr, hrun, hended, hW, hsame⟩ := X0.leave (v := some .null) (fun h => by rw [Bd.returns] at h; cases h)
  refine ⟨_, _, pre0 _ ?_, hrun, hended, _, _, rfl, ?_, ⟨_, rfl⟩, hW, hsame.mono (by decide) (by decide)⟩
  · show Steps p.tables e below (s₁.setTop (mkF m 0 #[.val (.int p1)] [])) _
    refine XS.iloadN X0.here hx rfl (hb hby d3_0) rfl ?_
    show Steps p.tables e below (s₁.setTop (mkF m 1 #[.val (.int p1)] [(.int p1)])) _
    refine XS.ifYes X0.here hx rfl (pc0 := 1) (pc' := 8) rfl (hb hby d3_1) rfl ((if0 _ _).trans (feq hc1).2) (by decide) (by decide) ?_
    show Steps p.tables e below (s₁.setTop (mkF m 8 #[.val (.int p1)] [])) _
    refine XS.iloadN X0.here hx rfl (hb hby d3_8) rfl ?_
    show Steps p.tables e below (s₁.setTop (mkF m 9 #[.val (.int p1)] [(.int p1)])) _
    refine XS.iconst X0.here hx rfl (hb hby d3_9) ?_
    show Steps p.tables e below (s₁.setTop (mkF m 10 #[.val (.int p1)] [(.int (1 : Int32)), (.int p1)])) _
    refine XS.icmpYes X0.here hx rfl (pc0 := 10) (pc' := 17) rfl (hb hby d3_10) rfl (feq hc10).2 (by decide) (by decide) ?_
    show Steps p.tables e below (s₁.setTop (mkF m 17 #[.val (.int p1)] [])) _
    refine XS.iloadN X0.here hx rfl (hb hby d3_17) rfl ?_
    show Steps p.tables e below (s₁.setTop (mkF m 18 #[.val (.int p1)] [(.int p1)])) _
    refine XS.iconst X0.here hx rfl (hb hby d3_18) ?_
    show Steps p.tables e below (s₁.setTop (mkF m 19 #[.val (.int p1)] [(.int (2 : Int32)), (.int p1)])) _
    refine XS.icmpYes X0.here hx rfl (pc0 := 19) (pc' := 26) rfl (hb hby d3_19) rfl (feq hc19).2 (by decide) (by decide) ?_
    show Steps p.tables e below (s₁.setTop (mkF m 26 #[.val (.int p1)] [])) _
    refine XS.iloadN X0.here hx rfl (hb hby d3_26) rfl ?_
    show Steps p.tables e below (s₁.setTop (mkF m 27 #[.val (.int p1)] [(.int p1)])) _
    refine XS.iconst X0.here hx rfl (hb hby d3_27) ?_
    show Steps p.tables e below (s₁.setTop (mkF m 28 #[.val (.int p1)] [(.int (3 : Int32)), (.int p1)])) _
    refine XS.icmpYes X0.here hx rfl (pc0 := 28) (pc' := 35) rfl (hb hby d3_28) rfl (feq hc28).2 (by decide) (by decide) ?_
    show Steps p.tables e below (s₁.setTop (mkF m 35 #[.val (.int p1)] [])) _
    refine XS.iloadN X0.here hx rfl (hb hby d3_35) rfl ?_
    show Steps p.tables e below (s₁.setTop (mkF m 36 #[.val (.int p1)] [(.int p1)])) _
    refine XS.iconst X0.here hx rfl (hb hby d3_36) ?_
    show Steps p.tables e below (s₁.setTop (mkF m 37 #[.val (.int p1)] [(.int (4 : Int32)), (.int p1)])) _
    refine XS.icmpYes X0.here hx rfl (pc0 := 37) (pc' := 44) rfl (hb hby d3_37) rfl (feq hc37).2 (by decide) (by decide) ?_
    show Steps p.tables e below (s₁.setTop (mkF m 44 #[.val (.int p1)] [])) _
    refine XS.aconstNull X0.here hx rfl (hb hby d3_44) ?_
    show Steps p.tables e below (s₁.setTop (mkF m 45 #[.val (.int p1)] [.null])) _
    jvm_step X0.here [X0.here.top, hx, (hb hby d3_45), X0.method', Bd.returns, Value.isRef, FieldType.isReference]
    first | (intro acts; rw [hr _ acts rfl rfl rfl]) | rw [hr _ _ rfl rfl rfl]
    exact Steps.refl _
  · show Q3 Z p1 c0 c1 c2 c3 c4 h0 n0 _ s₁.heap _
    rw [e0]
    exact ⟨by rw [own_find_no (fun q => hc1 q.symm), own_find_no (fun q => hc10 q.symm), own_find_no (fun q => hc19 q.symm), own_find_no (fun q => hc28 q.symm), own_find_no (fun q => hc37 q.symm)]; rfl, N0, rfl⟩
theorem rm3 (l : Launch) (Z : State) (a0 : Array Value) (hw : ∀ d ∈ tables_1, d.before a0 Z = true) (ws : List Jvm.Cond) (p1 : Int32) (c0 c1 c2 c3 c4 : Addr) (h0 : Heap) (n0 : Nat) (Z0 : n0 ≤ h0.size) (S_NONE : Sta Z h0 "com/example/quorumlog/quorumlog/Compression" "NONE" "Lcom/example/quorumlog/quorumlog/Compression;" (.ref c0)) (S_GZIP : Sta Z h0 "com/example/quorumlog/quorumlog/Compression" "GZIP" "Lcom/example/quorumlog/quorumlog/Compression;" (.ref c1)) (S_SNAPPY : Sta Z h0 "com/example/quorumlog/quorumlog/Compression" "SNAPPY" "Lcom/example/quorumlog/quorumlog/Compression;" (.ref c2)) (S_LZ4 : Sta Z h0 "com/example/quorumlog/quorumlog/Compression" "LZ4" "Lcom/example/quorumlog/quorumlog/Compression;" (.ref c3)) (S_ZSTD : Sta Z h0 "com/example/quorumlog/quorumlog/Compression" "ZSTD" "Lcom/example/quorumlog/quorumlog/Compression;" (.ref c4)) :
    MetFree l (⟨"com/example/quorumlog/quorumlog/CompressionOfPinLaw", "expected", "(I)Lcom/example/quorumlog/quorumlog/Compression;"⟩ : MethodName) (head1 (Jvm.Cond.code (⟨"com/example/quorumlog/quorumlog/CompressionOfPinLaw", "expected", "(I)Lcom/example/quorumlog/quorumlog/Compression;"⟩ : MethodName) method_2_code 1 (some (.object "com/example/quorumlog/quorumlog/Compression")) :: ws) ({ frames := 0, cells := 0, slots := 0, locals := 0 } : Room)) (fun a U => a = #[(.int p1)] ∧ Z.Warmed39 U.vm ∧ U.heap = h0) (fun _ _ _ _ _ => True) (fun _ U o U' => ∃ v L, o = .returned v ∧ Q3 Z p1 c0 c1 c2 c3 c4 h0 n0 v U'.heap L ∧ FrameEnd U o U' L ({ frames := 0, cells := 0, slots := 0, locals := 0 } : Room).cells ({ frames := 0, cells := 0, slots := 0, locals := 0 } : Room).slots) := by
  by_cases q0 : p1 = (0 : Int32)
  · exact rm3_0 l Z a0 hw ws p1 c0 c1 c2 c3 c4 h0 n0 Z0 S_NONE q0
  by_cases q1 : p1 = (1 : Int32)
  · exact rm3_1 l Z a0 hw ws p1 c0 c1 c2 c3 c4 h0 n0 Z0 S_GZIP q0 q1
  by_cases q2 : p1 = (2 : Int32)
  · exact rm3_2 l Z a0 hw ws p1 c0 c1 c2 c3 c4 h0 n0 Z0 S_SNAPPY q0 q1 q2
  by_cases q3 : p1 = (3 : Int32)
  · exact rm3_3 l Z a0 hw ws p1 c0 c1 c2 c3 c4 h0 n0 Z0 S_LZ4 q0 q1 q2 q3
  by_cases q4 : p1 = (4 : Int32)
  · exact rm3_4 l Z a0 hw ws p1 c0 c1 c2 c3 c4 h0 n0 Z0 S_ZSTD q0 q1 q2 q3 q4
  exact rm3_5 l Z a0 hw ws p1 c0 c1 c2 c3 c4 h0 n0 Z0 q0 q1 q2 q3 q4
theorem own_low (p : Int32) : (p.toInt16.toInt32 &&& (7 : Int32)) = (p &&& (7 : Int32)) := by
  apply Int32.toInt_inj.mp
  have h1 := c_mask p.toInt16.toInt32 7 3 (by decide) (by decide)
  have h2 := c_mask p 7 3 (by decide) (by decide)
  have h3 := (c_i2s p).1
  omega
theorem pn_0 : plainName "com/example/quorumlog/quorumlog/CompressionOfPinLaw" = true := by first | (simp [plainName, overriddenIn]; done) | decide +kernel
theorem pd_0_0 : parseMethodDescriptor "(S)Lcom/example/quorumlog/quorumlog/Compression;" = some ⟨[.short], some (.object "com/example/quorumlog/quorumlog/Compression")⟩ := by decide +kernel
theorem pd_0_3 : parseMethodDescriptor "(I)Lcom/example/quorumlog/quorumlog/Compression;" = some ⟨[.int], some (.object "com/example/quorumlog/quorumlog/Compression")⟩ := by decide +kernel
theorem ef_0 (m : MethodId) (x0 : Int32) : entryFrame m #[(.int x0)] maxLocals = mkF m 0 #[.val (.int x0), .unset, .unset, .unset] [] := by first | (simp [entryFrame, mkF, argsToLocals, Value.category, maxLocals]; done) | rfl
def Q0 (Z : State) (p1 : Int32) (h0 : Heap) (n0 : Nat) (v : Option Value) (h : Heap) (L : List Loc) : Prop := v = some (.int (1 : Int32)) ∧ Fr n0 L
set_option maxRecDepth 65536 in
set_option maxHeartbeats 40000000 in
theorem rm0r (l : Launch) (Z : State) (a0 : Array Value) (hw : ∀ d ∈ tables_1, d.before a0 Z = true) (ws : List Jvm.Cond) (p1 : Int32) (h0 : Heap) (n0 : Nat) (Z0 : n0 ≤ h0.size) (w1 : Addr) (cl : Cell) (c0 c1 c2 c3 c4 : Addr) (S_V : Sta Z h0 "com/example/quorumlog/quorumlog/Compression" "$VALUES" "[Lcom/example/quorumlog/quorumlog/Compression;" (.ref w1)) (Ar_w1 : Arr Z h0 w1 cl (.object "com/example/quorumlog/quorumlog/Compression")) (E_w1 : Exa Z h0 w1 "[Lcom/example/quorumlog/quorumlog/Compression;") (Fc_w1 : FitC Z cl) (sz : cl.slots.size = 5) (Ex : Els Z h0 cl.slots 0 [(c0, (0 : Int32)), (c1, (1 : Int32)), (c2, (2 : Int32)), (c3, (3 : Int32)), (c4, (4 : Int32))]) (S_NONE : Sta Z h0 "com/example/quorumlog/quorumlog/Compression" "NONE" "Lcom/example/quorumlog/quorumlog/Compression;" (.ref c0)) (S_GZIP : Sta Z h0 "com/example/quorumlog/quorumlog/Compression" "GZIP" "Lcom/example/quorumlog/quorumlog/Compression;" (.ref c1)) (S_SNAPPY : Sta Z h0 "com/example/quorumlog/quorumlog/Compression" "SNAPPY" "Lcom/example/quorumlog/quorumlog/Compression;" (.ref c2)) (S_LZ4 : Sta Z h0 "com/example/quorumlog/quorumlog/Compression" "LZ4" "Lcom/example/quorumlog/quorumlog/Compression;" (.ref c3)) (S_ZSTD : Sta Z h0 "com/example/quorumlog/quorumlog/Compression" "ZSTD" "Lcom/example/quorumlog/quorumlog/Compression;" (.ref c4)) (r : Addr) (hv : own_find (p1 &&& (7 : Int32)) [(c0, (0 : Int32)), (c1, (1 : Int32)), (c2, (2 : Int32)), (c3, (3 : Int32)), (c4, (4 : Int32))] = (.ref r)) :
    MetFree l x (head1 (Jvm.Cond.code x code maxLocals ret :: ws) room_1) (fun a U => a = #[(.int p1)] ∧ Z.Warmed39 U.vm ∧ U.heap = h0) (fun _ _ _ _ _ => True) (fun _ U o U' => ∃ v L, o = .returned v ∧ Q0 Z p1 h0 n0 v U'.heap L ∧ FrameEnd U o U' L room_1.cells room_1.slots) := by
  refine MetFree.of_bodySF (plainFor_of_name pn_0) hisR ?_
  intro p e s m args below meth c s₁ Bd hml0 hP hK
  obtain ⟨rfl, hZ, hh⟩ := hP
  have hx := Bd.exec
  have hby := Bd.bytes
  have hml : c.maxLocals = 4 := hml0
  have hown : s.vm.findClass "com/example/quorumlog/quorumlog/CompressionOfPinLaw" = some m.cls := findClass_of_methodNamed Bd.named
  have hnm := (name_of_methodNamed Bd.named Bd.method).1
  have X0 : Stand p l e room_1 s m #[(.int p1)] below meth c s₁ [] 0 0 := Stand.of_body Bd
  have e0 : s₁.heap = h0 := by rw [← hh, Bd.state]; rfl
  have N0 := Fr.nil n0
  have pre0 : ∀ t, Steps p.tables e below (s₁.setTop (mkF m 0 #[.val (.int p1), .unset, .unset, .unset] [])) t → Steps p.tables e below (s₁.setTop (entryFrame m #[(.int p1)] maxLocals)) t := fun t k => castTop (ef_0 m p1) k
  obtain ⟨_, _, ⟨T2, L2, k2, n2⟩, -, X2, ⟨Lc2, hQ2, l2, y2, z2⟩, st2⟩ := Jvm.LawKit.callS X0 hx (y := (⟨"com/example/quorumlog/quorumlog/Compression", "of", "(S)Lcom/example/quorumlog/quorumlog/Compression;"⟩ : MethodName)) hown (mvT hZ (hw _ (List.mem_of_getElem? (i := 0) rfl))) (mvT hZ (hw _ (List.mem_of_getElem? (i := 1) rfl))) (mvT hZ (hw _ (List.mem_of_getElem? (i := 2) rfl))) (mvT hZ (hw _ (List.mem_of_getElem? (i := 3) rfl))) (by decide) (backOf (W := 0) (rm1 l Z a0 hw [] p1.toInt16.toInt32 h0 n0 Z0 w1 cl [(c0, (0 : Int32)), (c1, (1 : Int32)), (c2, (2 : Int32)), (c3, (3 : Int32)), (c4, (4 : Int32))] S_V Ar_w1 E_w1 Fc_w1 sz Ex rfl) hZ (hw _ (List.mem_of_getElem? (i := 3) rfl)) (hw _ (List.mem_of_getElem? (i := 2) rfl)) (by decide) (by decide)) (g := (mkF m 4 #[.val (.int p1), .val (.int (p1.toInt16.toInt32)), .unset, .unset] [(.int (p1.toInt16.toInt32))])) rfl (by rw [hml]; rfl) (argsL := [(.int (p1.toInt16.toInt32))]) (rest := []) (lenOf pd_0_0 rfl) rfl (by show 2 * 0 + _ ≤ _; exact Nat.le_of_eq rfl) (hb hby at_4) (fun _ _ => ⟨rfl, e0, (Nat.le_of_ble_eq_true rfl), (Nat.le_of_ble_eq_true rfl)⟩)
  dsimp only [Pt.U, Pt.locs, Pt.cells, Pt.slots] at X2 l2 y2 z2 st2 hQ2
  subst l2 y2 z2
  obtain ⟨rfl, N2q, K2q⟩ := hQ2
  have N2 := Fr.app N0 N2q
  rw [own_low, hv] at st2
  have Eq := own_ext K2q
  have Zq : n0 ≤ T2.heap.size := Nat.le_trans Z0 K2q.1
  obtain ⟨_, _, ⟨T3, L3, k3, n3⟩, -, X3, ⟨Lc3, hQ3, l3, y3, z3⟩, st3⟩ := Jvm.LawKit.callS X2 hx (y := (⟨"com/example/quorumlog/quorumlog/CompressionOfPinLaw", "expected", "(I)Lcom/example/quorumlog/quorumlog/Compression;"⟩ : MethodName)) hown (mvT hZ (hw _ (List.mem_of_getElem? (i := 26) rfl))) (mvT hZ (hw _ (List.mem_of_getElem? (i := 27) rfl))) (mvT hZ (hw _ (List.mem_of_getElem? (i := 28) rfl))) (mvT hZ (hw _ (List.mem_of_getElem? (i := 29) rfl))) (by decide) (backOf (W := 0) (rm3 l Z a0 hw [] (p1 &&& (7 : Int32)) c0 c1 c2 c3 c4 T2.heap n0 Zq (S_NONE.ext Eq) (S_GZIP.ext Eq) (S_SNAPPY.ext Eq) (S_LZ4.ext Eq) (S_ZSTD.ext Eq)) hZ (hw _ (List.mem_of_getElem? (i := 29) rfl)) (hw _ (List.mem_of_getElem? (i := 28) rfl)) (by decide) (by decide)) (g := (mkF m 12 #[.val (.int p1), .val (.int (p1.toInt16.toInt32)), .val (.ref r), .unset] [(.int (p1 &&& (7 : Int32)))])) rfl (by rw [hml]; rfl) (argsL := [(.int (p1 &&& (7 : Int32)))]) (rest := []) (lenOf pd_0_3 rfl) rfl (by show 2 * 0 + _ ≤ _; exact Nat.le_of_eq rfl) (hb hby at_12) (fun _ _ => ⟨rfl, rfl, (Nat.le_of_ble_eq_true rfl), (Nat.le_of_ble_eq_true rfl)⟩)
  dsimp only [Pt.U, Pt.locs, Pt.cells, Pt.slots] at X3 l3 y3 z3 st3 hQ3
  subst l3 y3 z3
  obtain ⟨rfl, N3q, e3q⟩ := hQ3
  have N3 := Fr.app N2 N3q
  rw [hv] at st3
  obtain ⟨fs, hr, hrun, hended, hW, hsame⟩ := X3.leave (v := some (.int (1 : Int32))) (fun h => by rw [Bd.returns] at h; cases h)
  refine ⟨_, _, pre0 _ ?_, hrun, hended, _, _, rfl, ?_, ⟨_, rfl⟩, hW, hsame.mono (by decide) (by decide)⟩
  · show Steps p.tables e below (s₁.setTop (mkF m 0 #[.val (.int p1), .unset, .unset, .unset] [])) _
    refine XS.iloadN X0.here hx rfl (hb hby at_0) rfl ?_
    show Steps p.tables e below (s₁.setTop (mkF m 1 #[.val (.int p1), .unset, .unset, .unset] [(.int p1)])) _
    refine XS.i2s X0.here hx rfl (hb hby at_1) rfl ?_
    show Steps p.tables e below (s₁.setTop (mkF m 2 #[.val (.int p1), .unset, .unset, .unset] [(.int (p1.toInt16.toInt32))])) _
    refine XS.istoreN X0.here hx rfl (hb hby at_2) rfl (l' := #[.val (.int p1), .val (.int (p1.toInt16.toInt32)), .unset, .unset]) rfl ?_
    show Steps p.tables e below (s₁.setTop (mkF m 3 #[.val (.int p1), .val (.int (p1.toInt16.toInt32)), .unset, .unset] [])) _
    refine XS.iloadN X0.here hx rfl (hb hby at_3) rfl ?_
    show Steps p.tables e below (s₁.setTop (mkF m 4 #[.val (.int p1), .val (.int (p1.toInt16.toInt32)), .unset, .unset] [(.int (p1.toInt16.toInt32))])) _
    refine st2 _ ?_
    show Steps p.tables e below (T2.setTop (mkF m 7 #[.val (.int p1), .val (.int (p1.toInt16.toInt32)), .unset, .unset] [(.ref r)])) _
    refine XS.astoreN X2.here hx rfl (hb hby at_7) rfl rfl (l' := #[.val (.int p1), .val (.int (p1.toInt16.toInt32)), .val (.ref r), .unset]) rfl ?_
    show Steps p.tables e below (T2.setTop (mkF m 8 #[.val (.int p1), .val (.int (p1.toInt16.toInt32)), .val (.ref r), .unset] [])) _
    refine XS.iloadN X2.here hx rfl (hb hby at_8) rfl ?_
    show Steps p.tables e below (T2.setTop (mkF m 9 #[.val (.int p1), .val (.int (p1.toInt16.toInt32)), .val (.ref r), .unset] [(.int p1)])) _
    refine XS.bipush X2.here hx rfl (hb hby at_9) ?_
    show Steps p.tables e below (T2.setTop (mkF m 11 #[.val (.int p1), .val (.int (p1.toInt16.toInt32)), .val (.ref r), .unset] [(.int (7 : Int32)), (.int p1)])) _
    refine XS.iand X2.here hx rfl (hb hby at_11) rfl ?_
    show Steps p.tables e below (T2.setTop (mkF m 12 #[.val (.int p1), .val (.int (p1.toInt16.toInt32)), .val (.ref r), .unset] [(.int (p1 &&& (7 : Int32)))])) _
    refine st3 _ ?_
    show Steps p.tables e below (T3.setTop (mkF m 15 #[.val (.int p1), .val (.int (p1.toInt16.toInt32)), .val (.ref r), .unset] [(.ref r)])) _
    refine XS.astoreN X3.here hx rfl (hb hby at_15) rfl rfl (l' := #[.val (.int p1), .val (.int (p1.toInt16.toInt32)), .val (.ref r), .val (.ref r)]) rfl ?_
    show Steps p.tables e below (T3.setTop (mkF m 16 #[.val (.int p1), .val (.int (p1.toInt16.toInt32)), .val (.ref r), .val (.ref r)] [])) _
    refine XS.aloadN X3.here hx rfl (hb hby at_16) rfl rfl ?_
    show Steps p.tables e below (T3.setTop (mkF m 17 #[.val (.int p1), .val (.int (p1.toInt16.toInt32)), .val (.ref r), .val (.ref r)] [(.ref r)])) _
    refine XS.aloadN X3.here hx rfl (hb hby at_17) rfl rfl ?_
    show Steps p.tables e below (T3.setTop (mkF m 18 #[.val (.int p1), .val (.int (p1.toInt16.toInt32)), .val (.ref r), .val (.ref r)] [(.ref r), (.ref r)])) _
    refine Jvm.RoadKit.acmp (g := (mkF m 18 #[.val (.int p1), .val (.int (p1.toInt16.toInt32)), .val (.ref r), .val (.ref r)] [(.ref r), (.ref r)])) X3 hx rfl rfl rfl (pc0 := 18) (pc' := 21) (same := true) rfl (hb hby at_18) rfl (decide_eq_true rfl) (by decide) (by decide) ?_
    show Steps p.tables e below (T3.setTop (mkF m 21 #[.val (.int p1), .val (.int (p1.toInt16.toInt32)), .val (.ref r), .val (.ref r)] [])) _
    refine XS.iconst X3.here hx rfl (hb hby at_21) ?_
    show Steps p.tables e below (T3.setTop (mkF m 22 #[.val (.int p1), .val (.int (p1.toInt16.toInt32)), .val (.ref r), .val (.ref r)] [(.int (1 : Int32))])) _
    refine XS.goto X3.here hx rfl (pc0 := 22) (pc' := 26) rfl (hb hby at_22) (by decide) (by decide) ?_
    show Steps p.tables e below (T3.setTop (mkF m 26 #[.val (.int p1), .val (.int (p1.toInt16.toInt32)), .val (.ref r), .val (.ref r)] [(.int (1 : Int32))])) _
    exact retN X3 hx (t := .boolean) Bd.returns (by simp) (hb hby at_26) hr
  · show Q0 Z p1 h0 n0 _ T3.heap _
    exact ⟨rfl, N3⟩

set_option maxRecDepth 65536 in
set_option maxHeartbeats 40000000 in
theorem rm0n (l : Launch) (Z : State) (a0 : Array Value) (hw : ∀ d ∈ tables_1, d.before a0 Z = true) (ws : List Jvm.Cond) (p1 : Int32) (h0 : Heap) (n0 : Nat) (Z0 : n0 ≤ h0.size) (w1 : Addr) (cl : Cell) (c0 c1 c2 c3 c4 : Addr) (S_V : Sta Z h0 "com/example/quorumlog/quorumlog/Compression" "$VALUES" "[Lcom/example/quorumlog/quorumlog/Compression;" (.ref w1)) (Ar_w1 : Arr Z h0 w1 cl (.object "com/example/quorumlog/quorumlog/Compression")) (E_w1 : Exa Z h0 w1 "[Lcom/example/quorumlog/quorumlog/Compression;") (Fc_w1 : FitC Z cl) (sz : cl.slots.size = 5) (Ex : Els Z h0 cl.slots 0 [(c0, (0 : Int32)), (c1, (1 : Int32)), (c2, (2 : Int32)), (c3, (3 : Int32)), (c4, (4 : Int32))]) (S_NONE : Sta Z h0 "com/example/quorumlog/quorumlog/Compression" "NONE" "Lcom/example/quorumlog/quorumlog/Compression;" (.ref c0)) (S_GZIP : Sta Z h0 "com/example/quorumlog/quorumlog/Compression" "GZIP" "Lcom/example/quorumlog/quorumlog/Compression;" (.ref c1)) (S_SNAPPY : Sta Z h0 "com/example/quorumlog/quorumlog/Compression" "SNAPPY" "Lcom/example/quorumlog/quorumlog/Compression;" (.ref c2)) (S_LZ4 : Sta Z h0 "com/example/quorumlog/quorumlog/Compression" "LZ4" "Lcom/example/quorumlog/quorumlog/Compression;" (.ref c3)) (S_ZSTD : Sta Z h0 "com/example/quorumlog/quorumlog/Compression" "ZSTD" "Lcom/example/quorumlog/quorumlog/Compression;" (.ref c4)) (hv : own_find (p1 &&& (7 : Int32)) [(c0, (0 : Int32)), (c1, (1 : Int32)), (c2, (2 : Int32)), (c3, (3 : Int32)), (c4, (4 : Int32))] = .null) :
    MetFree l x (head1 (Jvm.Cond.code x code maxLocals ret :: ws) room_1) (fun a U => a = #[(.int p1)] ∧ Z.Warmed39 U.vm ∧ U.heap = h0) (fun _ _ _ _ _ => True) (fun _ U o U' => ∃ v L, o = .returned v ∧ Q0 Z p1 h0 n0 v U'.heap L ∧ FrameEnd U o U' L room_1.cells room_1.slots) := by
  refine MetFree.of_bodySF (plainFor_of_name pn_0) hisR ?_
  intro p e s m args below meth c s₁ Bd hml0 hP hK
  obtain ⟨rfl, hZ, hh⟩ := hP
  have hx := Bd.exec
  have hby := Bd.bytes
  have hml : c.maxLocals = 4 := hml0
  have hown : s.vm.findClass "com/example/quorumlog/quorumlog/CompressionOfPinLaw" = some m.cls := findClass_of_methodNamed Bd.named
  have hnm := (name_of_methodNamed Bd.named Bd.method).1
  have X0 : Stand p l e room_1 s m #[(.int p1)] below meth c s₁ [] 0 0 := Stand.of_body Bd
  have e0 : s₁.heap = h0 := by rw [← hh, Bd.state]; rfl
  have N0 := Fr.nil n0
  have pre0 : ∀ t, Steps p.tables e below (s₁.setTop (mkF m 0 #[.val (.int p1), .unset, .unset, .unset] [])) t → Steps p.tables e below (s₁.setTop (entryFrame m #[(.int p1)] maxLocals)) t := fun t k => castTop (ef_0 m p1) k
  obtain ⟨_, _, ⟨T2, L2, k2, n2⟩, -, X2, ⟨Lc2, hQ2, l2, y2, z2⟩, st2⟩ := Jvm.LawKit.callS X0 hx (y := (⟨"com/example/quorumlog/quorumlog/Compression", "of", "(S)Lcom/example/quorumlog/quorumlog/Compression;"⟩ : MethodName)) hown (mvT hZ (hw _ (List.mem_of_getElem? (i := 0) rfl))) (mvT hZ (hw _ (List.mem_of_getElem? (i := 1) rfl))) (mvT hZ (hw _ (List.mem_of_getElem? (i := 2) rfl))) (mvT hZ (hw _ (List.mem_of_getElem? (i := 3) rfl))) (by decide) (backOf (W := 0) (rm1 l Z a0 hw [] p1.toInt16.toInt32 h0 n0 Z0 w1 cl [(c0, (0 : Int32)), (c1, (1 : Int32)), (c2, (2 : Int32)), (c3, (3 : Int32)), (c4, (4 : Int32))] S_V Ar_w1 E_w1 Fc_w1 sz Ex rfl) hZ (hw _ (List.mem_of_getElem? (i := 3) rfl)) (hw _ (List.mem_of_getElem? (i := 2) rfl)) (by decide) (by decide)) (g := (mkF m 4 #[.val (.int p1), .val (.int (p1.toInt16.toInt32)), .unset, .unset] [(.int (p1.toInt16.toInt32))])) rfl (by rw [hml]; rfl) (argsL := [(.int (p1.toInt16.toInt32))]) (rest := []) (lenOf pd_0_0 rfl) rfl (by show 2 * 0 + _ ≤ _; exact Nat.le_of_eq rfl) (hb hby at_4) (fun _ _ => ⟨rfl, e0, (Nat.le_of_ble_eq_true rfl), (Nat.le_of_ble_eq_true rfl)⟩)
  dsimp only [Pt.U, Pt.locs, Pt.cells, Pt.slots] at X2 l2 y2 z2 st2 hQ2
  subst l2 y2 z2
  obtain ⟨rfl, N2q, K2q⟩ := hQ2
  have N2 := Fr.app N0 N2q
  rw [own_low, hv] at st2
  have Eq := own_ext K2q
  have Zq : n0 ≤ T2.heap.size := Nat.le_trans Z0 K2q.1
  obtain ⟨_, _, ⟨T3, L3, k3, n3⟩, -, X3, ⟨Lc3, hQ3, l3, y3, z3⟩, st3⟩ := Jvm.LawKit.callS X2 hx (y := (⟨"com/example/quorumlog/quorumlog/CompressionOfPinLaw", "expected", "(I)Lcom/example/quorumlog/quorumlog/Compression;"⟩ : MethodName)) hown (mvT hZ (hw _ (List.mem_of_getElem? (i := 26) rfl))) (mvT hZ (hw _ (List.mem_of_getElem? (i := 27) rfl))) (mvT hZ (hw _ (List.mem_of_getElem? (i := 28) rfl))) (mvT hZ (hw _ (List.mem_of_getElem? (i := 29) rfl))) (by decide) (backOf (W := 0) (rm3 l Z a0 hw [] (p1 &&& (7 : Int32)) c0 c1 c2 c3 c4 T2.heap n0 Zq (S_NONE.ext Eq) (S_GZIP.ext Eq) (S_SNAPPY.ext Eq) (S_LZ4.ext Eq) (S_ZSTD.ext Eq)) hZ (hw _ (List.mem_of_getElem? (i := 29) rfl)) (hw _ (List.mem_of_getElem? (i := 28) rfl)) (by decide) (by decide)) (g := (mkF m 12 #[.val (.int p1), .val (.int (p1.toInt16.toInt32)), .val .null, .unset] [(.int (p1 &&& (7 : Int32)))])) rfl (by rw [hml]; rfl) (argsL := [(.int (p1 &&& (7 : Int32)))]) (rest := []) (lenOf pd_0_3 rfl) rfl (by show 2 * 0 + _ ≤ _; exact Nat.le_of_eq rfl) (hb hby at_12) (fun _ _ => ⟨rfl, rfl, (Nat.le_of_ble_eq_true rfl), (Nat.le_of_ble_eq_true rfl)⟩)
  dsimp only [Pt.U, Pt.locs, Pt.cells, Pt.slots] at X3 l3 y3 z3 st3 hQ3
  subst l3 y3 z3
  obtain ⟨rfl, N3q, e3q⟩ := hQ3
  have N3 := Fr.app N2 N3q
  rw [hv] at st3
  obtain ⟨fs, hr, hrun, hended, hW, hsame⟩ := X3.leave (v := some (.int (1 : Int32))) (fun h => by rw [Bd.returns] at h; cases h)
  refine ⟨_, _, pre0 _ ?_, hrun, hended, _, _, rfl, ?_, ⟨_, rfl⟩, hW, hsame.mono (by decide) (by decide)⟩
  · show Steps p.tables e below (s₁.setTop (mkF m 0 #[.val (.int p1), .unset, .unset, .unset] [])) _
    refine XS.iloadN X0.here hx rfl (hb hby at_0) rfl ?_
    show Steps p.tables e below (s₁.setTop (mkF m 1 #[.val (.int p1), .unset, .unset, .unset] [(.int p1)])) _
    refine XS.i2s X0.here hx rfl (hb hby at_1) rfl ?_
    show Steps p.tables e below (s₁.setTop (mkF m 2 #[.val (.int p1), .unset, .unset, .unset] [(.int (p1.toInt16.toInt32))])) _
    refine XS.istoreN X0.here hx rfl (hb hby at_2) rfl (l' := #[.val (.int p1), .val (.int (p1.toInt16.toInt32)), .unset, .unset]) rfl ?_
    show Steps p.tables e below (s₁.setTop (mkF m 3 #[.val (.int p1), .val (.int (p1.toInt16.toInt32)), .unset, .unset] [])) _
    refine XS.iloadN X0.here hx rfl (hb hby at_3) rfl ?_
    show Steps p.tables e below (s₁.setTop (mkF m 4 #[.val (.int p1), .val (.int (p1.toInt16.toInt32)), .unset, .unset] [(.int (p1.toInt16.toInt32))])) _
    refine st2 _ ?_
    show Steps p.tables e below (T2.setTop (mkF m 7 #[.val (.int p1), .val (.int (p1.toInt16.toInt32)), .unset, .unset] [.null])) _
    refine XS.astoreN X2.here hx rfl (hb hby at_7) rfl rfl (l' := #[.val (.int p1), .val (.int (p1.toInt16.toInt32)), .val .null, .unset]) rfl ?_
    show Steps p.tables e below (T2.setTop (mkF m 8 #[.val (.int p1), .val (.int (p1.toInt16.toInt32)), .val .null, .unset] [])) _
    refine XS.iloadN X2.here hx rfl (hb hby at_8) rfl ?_
    show Steps p.tables e below (T2.setTop (mkF m 9 #[.val (.int p1), .val (.int (p1.toInt16.toInt32)), .val .null, .unset] [(.int p1)])) _
    refine XS.bipush X2.here hx rfl (hb hby at_9) ?_
    show Steps p.tables e below (T2.setTop (mkF m 11 #[.val (.int p1), .val (.int (p1.toInt16.toInt32)), .val .null, .unset] [(.int (7 : Int32)), (.int p1)])) _
    refine XS.iand X2.here hx rfl (hb hby at_11) rfl ?_
    show Steps p.tables e below (T2.setTop (mkF m 12 #[.val (.int p1), .val (.int (p1.toInt16.toInt32)), .val .null, .unset] [(.int (p1 &&& (7 : Int32)))])) _
    refine st3 _ ?_
    show Steps p.tables e below (T3.setTop (mkF m 15 #[.val (.int p1), .val (.int (p1.toInt16.toInt32)), .val .null, .unset] [.null])) _
    refine XS.astoreN X3.here hx rfl (hb hby at_15) rfl rfl (l' := #[.val (.int p1), .val (.int (p1.toInt16.toInt32)), .val .null, .val .null]) rfl ?_
    show Steps p.tables e below (T3.setTop (mkF m 16 #[.val (.int p1), .val (.int (p1.toInt16.toInt32)), .val .null, .val .null] [])) _
    refine XS.aloadN X3.here hx rfl (hb hby at_16) rfl rfl ?_
    show Steps p.tables e below (T3.setTop (mkF m 17 #[.val (.int p1), .val (.int (p1.toInt16.toInt32)), .val .null, .val .null] [.null])) _
    refine XS.aloadN X3.here hx rfl (hb hby at_17) rfl rfl ?_
    show Steps p.tables e below (T3.setTop (mkF m 18 #[.val (.int p1), .val (.int (p1.toInt16.toInt32)), .val .null, .val .null] [.null, .null])) _
    refine Jvm.RoadKit.acmp (g := (mkF m 18 #[.val (.int p1), .val (.int (p1.toInt16.toInt32)), .val .null, .val .null] [.null, .null])) X3 hx rfl rfl rfl (pc0 := 18) (pc' := 21) (same := true) rfl (hb hby at_18) rfl (decide_eq_true rfl) (by decide) (by decide) ?_
    show Steps p.tables e below (T3.setTop (mkF m 21 #[.val (.int p1), .val (.int (p1.toInt16.toInt32)), .val .null, .val .null] [])) _
    refine XS.iconst X3.here hx rfl (hb hby at_21) ?_
    show Steps p.tables e below (T3.setTop (mkF m 22 #[.val (.int p1), .val (.int (p1.toInt16.toInt32)), .val .null, .val .null] [(.int (1 : Int32))])) _
    refine XS.goto X3.here hx rfl (pc0 := 22) (pc' := 26) rfl (hb hby at_22) (by decide) (by decide) ?_
    show Steps p.tables e below (T3.setTop (mkF m 26 #[.val (.int p1), .val (.int (p1.toInt16.toInt32)), .val .null, .val .null] [(.int (1 : Int32))])) _
    exact retN X3 hx (t := .boolean) Bd.returns (by simp) (hb hby at_26) hr
  · show Q0 Z p1 h0 n0 _ T3.heap _
    exact ⟨rfl, N3⟩
theorem rm0 (l : Launch) (Z : State) (a0 : Array Value) (hw : ∀ d ∈ tables_1, d.before a0 Z = true) (ws : List Jvm.Cond) (p1 : Int32) (h0 : Heap) (n0 : Nat) (Z0 : n0 ≤ h0.size) (w1 : Addr) (cl : Cell) (c0 c1 c2 c3 c4 : Addr) (S_V : Sta Z h0 "com/example/quorumlog/quorumlog/Compression" "$VALUES" "[Lcom/example/quorumlog/quorumlog/Compression;" (.ref w1)) (Ar_w1 : Arr Z h0 w1 cl (.object "com/example/quorumlog/quorumlog/Compression")) (E_w1 : Exa Z h0 w1 "[Lcom/example/quorumlog/quorumlog/Compression;") (Fc_w1 : FitC Z cl) (sz : cl.slots.size = 5) (Ex : Els Z h0 cl.slots 0 [(c0, (0 : Int32)), (c1, (1 : Int32)), (c2, (2 : Int32)), (c3, (3 : Int32)), (c4, (4 : Int32))]) (S_NONE : Sta Z h0 "com/example/quorumlog/quorumlog/Compression" "NONE" "Lcom/example/quorumlog/quorumlog/Compression;" (.ref c0)) (S_GZIP : Sta Z h0 "com/example/quorumlog/quorumlog/Compression" "GZIP" "Lcom/example/quorumlog/quorumlog/Compression;" (.ref c1)) (S_SNAPPY : Sta Z h0 "com/example/quorumlog/quorumlog/Compression" "SNAPPY" "Lcom/example/quorumlog/quorumlog/Compression;" (.ref c2)) (S_LZ4 : Sta Z h0 "com/example/quorumlog/quorumlog/Compression" "LZ4" "Lcom/example/quorumlog/quorumlog/Compression;" (.ref c3)) (S_ZSTD : Sta Z h0 "com/example/quorumlog/quorumlog/Compression" "ZSTD" "Lcom/example/quorumlog/quorumlog/Compression;" (.ref c4)) :
    MetFree l x (head1 (Jvm.Cond.code x code maxLocals ret :: ws) room_1) (fun a U => a = #[(.int p1)] ∧ Z.Warmed39 U.vm ∧ U.heap = h0) (fun _ _ _ _ _ => True) (fun _ U o U' => ∃ v L, o = .returned v ∧ Q0 Z p1 h0 n0 v U'.heap L ∧ FrameEnd U o U' L room_1.cells room_1.slots) := by
  rcases ref_cases (own_find_ref (p1 &&& (7 : Int32)) [(c0, (0 : Int32)), (c1, (1 : Int32)), (c2, (2 : Int32)), (c3, (3 : Int32)), (c4, (4 : Int32))]) with h | ⟨r, h⟩
  · exact rm0n l Z a0 hw ws p1 h0 n0 Z0 w1 cl c0 c1 c2 c3 c4 S_V Ar_w1 E_w1 Fc_w1 sz Ex S_NONE S_GZIP S_SNAPPY S_LZ4 S_ZSTD h
  · exact rm0r l Z a0 hw ws p1 h0 n0 Z0 w1 cl c0 c1 c2 c3 c4 S_V Ar_w1 E_w1 Fc_w1 sz Ex S_NONE S_GZIP S_SNAPPY S_LZ4 S_ZSTD r h
theorem own_size {s : State} {args : Array Value} {t : Term} {w : Addr} {cl : Cell} {k : Int32} (ew : t.eval args s none [] s = some (.ref w)) (hA : s.arrayAt? w = some cl) (h : (Cond.eq (.length t) (.int k)).value args s none s [] = some true) : cl.slots.size = k.toNatClampNeg := by
  have e3 := eqv_i (Term.int_eval k) h
  by_cases q : cl.slots.size < 2 ^ 31
  · rw [len_f ew hA q] at e3
    have e4 := Value.int.inj (Option.some.inj e3)
    have e5 := len_toInt q
    rw [e4] at e5
    simp only [Int32.toNatClampNeg]; omega
  · simp [Term.eval, ew, hA] at e3
    exact absurd e3.1 (by omega)

set_option maxRecDepth 65536 in
set_option maxHeartbeats 40000000 in
theorem comes_1 {Post : Tables → Env → Array Value → State → Outcome → State → Prop} (hpost : ∀ tb e args s v u, (limb_1_1.after args s (.returned v) u = true ∧ limb_1_2.after args s (.returned v) u = true ∧ True) → FrameEnd s (.returned v) u (Jvm.fieldLocs frame_1_writes args s ++ Jvm.arrayLocs frame_1_arrays args s ++ Jvm.staticLocs frame_1_statics s) 16 128 → Post tb e args s (.returned v) u) :
    ArmFor flags0 classFile x code maxLocals ret World_1 tables_1 room_1 Calls_1 rest_1 Pre_1 Post := by
  intro l hfl _ _ p e ha hc hk s m args below hf hA hF happ hP
  obtain ⟨hcalls, hrest, hpre⟩ := hP
  obtain ⟨-, -, -, hnamed, -, -, -, hat⟩ := (Spec.applies_iff hf).mp happ
  obtain ⟨hg, hn⟩ := and_e (Cond.before_iff.mp (show (Jvm.Cond.and given_1 narrow_1).before args s = true from hpre))
  obtain ⟨g4, g5⟩ := and_e hg
  obtain ⟨w0, rfl⟩ : ∃ w0 : Value, args = #[w0] := by
    have hs : args.size = 1 := by simpa [Cond.value, given_1] using g4
    obtain ⟨L⟩ := args
    match L, hs with
    | [w0], _ => exact ⟨w0, rfl⟩
  have hw := fun d (hd : d ∈ tables_1) => atoms_spec (ws := Jvm.Cond.code x code maxLocals ret :: tables_1) hat d (List.mem_cons_of_mem _ hd)
  have hfit : Fit s := fun {y c} hc i hi => by
    obtain ⟨ha, rfl⟩ := Array.getElem?_eq_some_iff.mp hc
    have q := List.all_eq_true.mp ((Array.all_eq_true_iff_forall_mem.mp hF) _ (Array.getElem_mem ha)) i (List.mem_range.mpr hi)
    simpa [Array.getElem?_eq_getElem hi] using q
  obtain ⟨i0, ei0⟩ := is_v g5
  obtain rfl : w0 = (.int i0) := Option.some.inj ei0
  obtain ⟨nA, hn⟩ := and_e hn
  obtain ⟨nX, hn⟩ := and_e hn
  obtain ⟨nL, hn⟩ := and_e hn
  obtain ⟨x0, hn⟩ := and_e hn
  obtain ⟨y0, hn⟩ := and_e hn
  obtain ⟨x1, hn⟩ := and_e hn
  obtain ⟨y1, hn⟩ := and_e hn
  obtain ⟨x2, hn⟩ := and_e hn
  obtain ⟨y2, hn⟩ := and_e hn
  obtain ⟨x3, hn⟩ := and_e hn
  obtain ⟨y3, hn⟩ := and_e hn
  obtain ⟨x4, hn⟩ := and_e hn
  obtain ⟨y4, hn⟩ := and_e hn
  obtain ⟨f0, hn⟩ := and_e hn
  obtain ⟨f1, hn⟩ := and_e hn
  obtain ⟨f2, hn⟩ := and_e hn
  obtain ⟨f3, hn⟩ := and_e hn
  have f4 := hn
  obtain ⟨w, ew⟩ := arr_v nA
  obtain ⟨cl, A⟩ := Arr.start ew nA
  obtain ⟨c0, v0⟩ := exa_v x0
  obtain ⟨c1, v1⟩ := exa_v x1
  obtain ⟨c2, v2⟩ := exa_v x2
  obtain ⟨c3, v3⟩ := exa_v x3
  obtain ⟨c4, v4⟩ := exa_v x4
  have sz : cl.slots.size = 5 := own_size ew (A.fin (Vm.Alike.refl _)) nL
  obtain ⟨n, o, h1, h2, h3, _, L, rfl, ⟨rfl, N⟩, hq⟩ := rm0 l s _ hw tables_1 i0 s.heap s.heap.size (Nat.le_refl _) w cl c0 c1 c2 c3 c4 (Sta.start ew (Or.inl (hw _ (List.mem_of_getElem? (i := 21) rfl)))) A (Exa.start ew nX) (FitC.start hfit A) sz ⟨own_elem ew A.1 v0 y0, own_fldI v0 f0, own_elem ew A.1 v1 y1, own_fldI v1 f1, own_elem ew A.1 v2 y2, own_fldI v2 f2, own_elem ew A.1 v3 y3, own_fldI v3 f3, own_elem ew A.1 v4 y4, own_fldI v4 f4, trivial⟩ (Sta.start v0 (Or.inr ⟨hw _ (List.mem_of_getElem? (i := 2) rfl), hw _ (List.mem_of_getElem? (i := 16) rfl)⟩)) (Sta.start v1 (Or.inr ⟨hw _ (List.mem_of_getElem? (i := 2) rfl), hw _ (List.mem_of_getElem? (i := 17) rfl)⟩)) (Sta.start v2 (Or.inr ⟨hw _ (List.mem_of_getElem? (i := 2) rfl), hw _ (List.mem_of_getElem? (i := 18) rfl)⟩)) (Sta.start v3 (Or.inr ⟨hw _ (List.mem_of_getElem? (i := 2) rfl), hw _ (List.mem_of_getElem? (i := 19) rfl)⟩)) (Sta.start v4 (Or.inr ⟨hw _ (List.mem_of_getElem? (i := 2) rfl), hw _ (List.mem_of_getElem? (i := 20) rfl)⟩)) p e ha hc hk s m _ below hf ((Spec.applies_iff_loose hf).mp happ).1 ⟨rfl, State.Warmed39.refl s, rfl⟩ trivial
  refine ⟨n, _, h1, h2, h3, hpost _ _ _ _ _ _ ⟨Cond.after_iff.mpr rfl, Cond.after_iff.mpr (eq_i res_at (Term.int_eval (1)) rfl), trivial⟩ ⟨hq.1, hq.2.1, (hq.2.2.sift fun y hy => Or.inr (N y hy)).mono (by decide) (by decide)⟩⟩
theorem main_1_1 : Claimed_1_1 := comes_1 fun _ _ _ _ _ _ h hF => ⟨h.1, hF⟩
theorem main_1_2 : Claimed_1_2 := comes_1 fun _ _ _ _ _ _ h hF => ⟨h.2.1, hF⟩
end Jvm.Pilot.@@N@@
namespace Jvm.Pilot.@@N@@
open Jvm Jvm.ClassFile Sem Op Lib Jvm.Free Jvm.Stand Jvm.Pilot.@@N@@.Jvm.D
/-! MADE BY PROGRAM (witnessworld.py) out of the Statement's table words and the real class files: 13 classes; the members and pool entries that the words name. The judged class is class 1, her method 2. -/
namespace start1
open Jvm.ClassFile
def u (s : String) : CpInfo := .utf8 (stringToUtf16 s)
/-- a pool by its gaps: so many unusable entries, then the entry; so many at the end -/
def gap : Nat → List CpInfo → List CpInfo
  | 0, r => r
  | n + 1, r => .unusable :: gap n r
def poolList (es : List (Nat × CpInfo)) (last : Nat) : List CpInfo := es.foldr (fun e r => gap e.1 (e.2 :: r)) (gap last [])
def pool (es : List (Nat × CpInfo)) (last : Nat) : Array CpInfo := ⟨poolList es last⟩
def fileOf (pool : Array CpInfo) (this : Nat) (attrs : Array Attribute := #[]) (ms : Array MethodInfo := #[]) (fl : Nat := 33) (sup : Nat := 0) (ifs : Array Nat := #[]) (fds : Array FieldInfo := #[]) : ClassFile where
  minorVersion := 0
  majorVersion := 65
  constantPool := pool
  accessFlags := fl
  thisClass := this
  superClass := sup
  interfaces := ifs
  fields := fds
  methods := ms
  attributes := attrs
def plain (name : String) (sup : Option ClassId) : Class where
  name := name
  kind := .ordinary
  loader := none
  accessFlags := 33
  super := sup
  interfaces := #[]
  cf := none
  fields := #[]
  methods := #[]
  instanceTypes := #[]
  staticTypes := #[]
  resolved := #[]
  callSites := []
  init := .initialized
  statics := none
  mirror := none

def pool0 : Array CpInfo := pool [(5, u "<init>"), (0, u "()V"), (1, .class_ 10), (1, u "java/lang/Object"), (85, u "clone"), (0, u "()Ljava/lang/Object;")] 26

def k0m0 : Method := { name := "<init>", desc := "()V", sig := { parameters := [], returnType := none }, accessFlags := 1, code := none }
def k0m1 : Method := { name := "clone", desc := "()Ljava/lang/Object;", sig := { parameters := [], returnType := some (.object "java/lang/Object") }, accessFlags := 260, code := none }
/-- java/lang/Object -/
def k0 : Class := { plain "java/lang/Object" none with
  accessFlags := 33
  interfaces := #[]
  cf := some (fileOf pool0 8 #[] #[{ accessFlags := 1, nameIndex := 5, descriptorIndex := 6, attributes := #[] }, { accessFlags := 260, nameIndex := 96, descriptorIndex := 97, attributes := #[] }] 33 0 #[] #[])
  fields := #[]
  methods := #[k0m0, k0m1]
  instanceTypes := #[]
  staticTypes := #[]
  resolved := Array.replicate 124 none
  statics := none }

def pool1 : Array CpInfo := pool [(2, .class_ 4), (1, u "java/lang/Object"), (0, u "<init>"), (0, u "()V"), (0, .fieldref 8 9), (0, .class_ 10), (0, .nameAndType 11 12), (0, u "com/example/quorumlog/quorumlog/Compression"), (0, u "NONE"), (0, u "Lcom/example/quorumlog/quorumlog/Compression;"), (0, .fieldref 8 14), (0, .nameAndType 15 12), (0, u "GZIP"), (0, .fieldref 8 17), (0, .nameAndType 18 12), (0, u "SNAPPY"), (0, .fieldref 8 20), (0, .nameAndType 21 12), (0, u "LZ4"), (0, .fieldref 8 23), (0, .nameAndType 24 12), (0, u "ZSTD"), (0, .methodref 8 26), (0, .nameAndType 27 28), (0, u "of"), (0, u "(S)Lcom/example/quorumlog/quorumlog/Compression;"), (0, .methodref 30 31), (0, .class_ 32), (0, .nameAndType 33 34), (0, u "com/example/quorumlog/quorumlog/CompressionOfPinLaw"), (0, u "expected"), (0, u "(I)Lcom/example/quorumlog/quorumlog/Compression;"), (3, u "law"), (0, u "(I)Z")] 2

def k1m0 : Method := { name := "<init>", desc := "()V", sig := { parameters := [], returnType := none }, accessFlags := 2, code := none }
def k1c1 : Code := { maxStack := 2, maxLocals := 1, code := method_2_code, exceptionTable := #[], attributes := #[] }
def k1m1 : Method := { name := "expected", desc := "(I)Lcom/example/quorumlog/quorumlog/Compression;", sig := { parameters := [.int], returnType := some (.object "com/example/quorumlog/quorumlog/Compression") }, accessFlags := 10, code := some k1c1 }
def k1c2 : Code := { maxStack := 2, maxLocals := 4, code := code, exceptionTable := #[], attributes := #[] }
def k1m2 : Method := { name := "law", desc := "(I)Z", sig := { parameters := [.int], returnType := some .boolean }, accessFlags := 9, code := some k1c2 }
/-- com/example/quorumlog/quorumlog/CompressionOfPinLaw -/
def k1 : Class := { plain "com/example/quorumlog/quorumlog/CompressionOfPinLaw" (some 0) with
  accessFlags := 49
  interfaces := #[]
  cf := some (fileOf pool1 30 #[] #[{ accessFlags := 2, nameIndex := 5, descriptorIndex := 6, attributes := #[] }, { accessFlags := 10, nameIndex := 33, descriptorIndex := 34, attributes := #[] }, { accessFlags := 9, nameIndex := 38, descriptorIndex := 39, attributes := #[] }] 49 2 #[] #[])
  fields := #[]
  methods := #[k1m0, k1m1, k1m2]
  instanceTypes := #[]
  staticTypes := #[]
  resolved := Array.replicate 42 none
  statics := none }

def pool2 : Array CpInfo := pool [(1, .class_ 2), (0, u "java/lang/constant/Constable"), (0, .class_ 4), (0, u "java/lang/Object")] 6

/-- java/lang/constant/Constable -/
def k2 : Class := { plain "java/lang/constant/Constable" (some 0) with
  accessFlags := 1537
  interfaces := #[]
  cf := some (fileOf pool2 1 #[] #[] 1537 3 #[] #[])
  fields := #[]
  methods := #[]
  instanceTypes := #[]
  staticTypes := #[]
  resolved := Array.replicate 11 none
  statics := none }

def pool3 : Array CpInfo := pool [(1, .class_ 2), (0, u "java/lang/Comparable"), (0, .class_ 4), (0, u "java/lang/Object")] 7

/-- java/lang/Comparable -/
def k3 : Class := { plain "java/lang/Comparable" (some 0) with
  accessFlags := 1537
  interfaces := #[]
  cf := some (fileOf pool3 1 #[] #[] 1537 3 #[] #[])
  fields := #[]
  methods := #[]
  instanceTypes := #[]
  staticTypes := #[]
  resolved := Array.replicate 12 none
  statics := none }

def pool4 : Array CpInfo := pool [(1, .class_ 2), (0, u "java/io/Serializable"), (0, .class_ 4), (0, u "java/lang/Object")] 2

/-- java/io/Serializable -/
def k4 : Class := { plain "java/io/Serializable" (some 0) with
  accessFlags := 1537
  interfaces := #[]
  cf := some (fileOf pool4 1 #[] #[] 1537 3 #[] #[])
  fields := #[]
  methods := #[]
  instanceTypes := #[]
  staticTypes := #[]
  resolved := Array.replicate 7 none
  statics := none }

def pool5 : Array CpInfo := pool [(2, .class_ 4), (1, u "java/lang/Enum"), (0, u "name"), (0, u "Ljava/lang/String;"), (2, u "ordinal"), (0, u "I"), (1, .class_ 14), (1, u "java/lang/Object"), (4, u "hash"), (86, .class_ 108), (1, u "java/lang/Enum$EnumDesc"), (2, .class_ 112), (0, u "java/lang/constant/Constable"), (0, .class_ 114), (0, u "java/lang/Comparable"), (0, .class_ 116), (0, u "java/io/Serializable")] 87

/-- java/lang/Enum -/
def k5 : Class := { plain "java/lang/Enum" (some 0) with
  accessFlags := 1057
  interfaces := #[2, 3, 4]
  cf := some (fileOf pool5 2 #[.nestMembers #[106]] #[] 1057 12 #[111, 113, 115] #[{ accessFlags := 18, nameIndex := 5, descriptorIndex := 6, attributes := #[] }, { accessFlags := 18, nameIndex := 9, descriptorIndex := 10, attributes := #[] }, { accessFlags := 2, nameIndex := 19, descriptorIndex := 10, attributes := #[] }])
  fields := #[{ name := "name", type := (.object "java/lang/String"), accessFlags := 18, slot := 0, constantValue := 0 }, { name := "ordinal", type := .int, accessFlags := 18, slot := 1, constantValue := 0 }, { name := "hash", type := .int, accessFlags := 2, slot := 2, constantValue := 0 }]
  methods := #[]
  instanceTypes := #[(.object "java/lang/String"), .int, .int]
  staticTypes := #[]
  resolved := Array.replicate 204 none
  statics := none }

def pool6 : Array CpInfo := pool [(1, .class_ 2), (0, u "com/example/quorumlog/quorumlog/Compression"), (2, u "NONE"), (0, u "Lcom/example/quorumlog/quorumlog/Compression;"), (2, u "GZIP"), (2, u "SNAPPY"), (2, u "LZ4"), (2, u "ZSTD"), (0, .fieldref 1 20), (0, .nameAndType 21 22), (0, u "$VALUES"), (0, u "[Lcom/example/quorumlog/quorumlog/Compression;"), (0, .methodref 24 25), (0, .class_ 22), (0, .nameAndType 26 27), (0, u "clone"), (0, u "()Ljava/lang/Object;"), (1, .class_ 31), (1, u "java/lang/Enum"), (6, .fieldref 1 39), (0, .nameAndType 40 41), (0, u "code"), (0, u "I"), (2, u "label"), (0, u "Ljava/lang/String;"), (2, u "decoder"), (0, u "Lcom/example/quorumlog/quorumlog/Compression$Decoder;"), (0, .methodref 1 51), (0, .nameAndType 52 53), (0, u "values"), (0, u "()[Lcom/example/quorumlog/quorumlog/Compression;"), (1, .class_ 57), (1, u "com/example/quorumlog/quorumlog/Compression$Decoder"), (30, u "ATTRIBUTE_BITS"), (8, u "of"), (0, u "(S)Lcom/example/quorumlog/quorumlog/Compression;")] 47

def k6c0 : Code := { maxStack := 1, maxLocals := 0, code := prog_22_method_1_code, exceptionTable := #[], attributes := #[] }
def k6m0 : Method := { name := "values", desc := "()[Lcom/example/quorumlog/quorumlog/Compression;", sig := { parameters := [], returnType := some (.array (.object "com/example/quorumlog/quorumlog/Compression")) }, accessFlags := 9, code := some k6c0 }
def k6c1 : Code := { maxStack := 2, maxLocals := 6, code := prog_22_method_4_code, exceptionTable := #[], attributes := #[] }
def k6m1 : Method := { name := "of", desc := "(S)Lcom/example/quorumlog/quorumlog/Compression;", sig := { parameters := [.short], returnType := some (.object "com/example/quorumlog/quorumlog/Compression") }, accessFlags := 8, code := some k6c1 }
/-- com/example/quorumlog/quorumlog/Compression -/
def k6 : Class := { plain "com/example/quorumlog/quorumlog/Compression" (some 5) with
  accessFlags := 16432
  interfaces := #[]
  cf := some (fileOf pool6 1 #[.nestMembers #[55]] #[{ accessFlags := 9, nameIndex := 52, descriptorIndex := 53, attributes := #[] }, { accessFlags := 8, nameIndex := 97, descriptorIndex := 98, attributes := #[] }] 16432 29 #[] #[{ accessFlags := 16409, nameIndex := 5, descriptorIndex := 6, attributes := #[] }, { accessFlags := 16409, nameIndex := 9, descriptorIndex := 6, attributes := #[] }, { accessFlags := 16409, nameIndex := 12, descriptorIndex := 6, attributes := #[] }, { accessFlags := 16409, nameIndex := 15, descriptorIndex := 6, attributes := #[] }, { accessFlags := 16409, nameIndex := 18, descriptorIndex := 6, attributes := #[] }, { accessFlags := 24, nameIndex := 88, descriptorIndex := 41, attributes := #[] }, { accessFlags := 18, nameIndex := 40, descriptorIndex := 41, attributes := #[] }, { accessFlags := 18, nameIndex := 44, descriptorIndex := 45, attributes := #[] }, { accessFlags := 18, nameIndex := 48, descriptorIndex := 49, attributes := #[] }, { accessFlags := 4122, nameIndex := 21, descriptorIndex := 22, attributes := #[] }])
  fields := #[{ name := "NONE", type := (.object "com/example/quorumlog/quorumlog/Compression"), accessFlags := 16409, slot := 0, constantValue := 0 }, { name := "GZIP", type := (.object "com/example/quorumlog/quorumlog/Compression"), accessFlags := 16409, slot := 1, constantValue := 0 }, { name := "SNAPPY", type := (.object "com/example/quorumlog/quorumlog/Compression"), accessFlags := 16409, slot := 2, constantValue := 0 }, { name := "LZ4", type := (.object "com/example/quorumlog/quorumlog/Compression"), accessFlags := 16409, slot := 3, constantValue := 0 }, { name := "ZSTD", type := (.object "com/example/quorumlog/quorumlog/Compression"), accessFlags := 16409, slot := 4, constantValue := 0 }, { name := "ATTRIBUTE_BITS", type := .int, accessFlags := 24, slot := 5, constantValue := 0 }, { name := "code", type := .int, accessFlags := 18, slot := 3, constantValue := 0 }, { name := "label", type := (.object "java/lang/String"), accessFlags := 18, slot := 4, constantValue := 0 }, { name := "decoder", type := (.object "com/example/quorumlog/quorumlog/Compression$Decoder"), accessFlags := 18, slot := 5, constantValue := 0 }, { name := "$VALUES", type := (.array (.object "com/example/quorumlog/quorumlog/Compression")), accessFlags := 4122, slot := 6, constantValue := 0 }]
  methods := #[k6m0, k6m1]
  instanceTypes := #[(.object "java/lang/String"), .int, .int, .int, (.object "java/lang/String"), (.object "com/example/quorumlog/quorumlog/Compression$Decoder")]
  staticTypes := #[(.object "com/example/quorumlog/quorumlog/Compression"), (.object "com/example/quorumlog/quorumlog/Compression"), (.object "com/example/quorumlog/quorumlog/Compression"), (.object "com/example/quorumlog/quorumlog/Compression"), (.object "com/example/quorumlog/quorumlog/Compression"), .int, (.array (.object "com/example/quorumlog/quorumlog/Compression"))]
  resolved := Array.replicate 146 none
  statics := some 0 }

def pool7 : Array CpInfo := pool [(1, .class_ 2), (0, u "java/lang/Cloneable"), (0, .class_ 4), (0, u "java/lang/Object")] 2

/-- java/lang/Cloneable -/
def k7 : Class := { plain "java/lang/Cloneable" (some 0) with
  accessFlags := 1537
  interfaces := #[]
  cf := some (fileOf pool7 1 #[] #[] 1537 3 #[] #[])
  fields := #[]
  methods := #[]
  instanceTypes := #[]
  staticTypes := #[]
  resolved := Array.replicate 7 none
  statics := none }

/-- the primitive byte -/
def k8 : Class := { plain "byte" none with kind := .primitive 'B', accessFlags := 0x411 }
/-- [B -/
def k9 : Class := { plain "[B" (some 0) with kind := .array 8 .byte, interfaces := #[7, 4], accessFlags := 1041 }

/-- the primitive int -/
def k10 : Class := { plain "int" none with kind := .primitive 'I', accessFlags := 0x411 }
/-- [I -/
def k11 : Class := { plain "[I" (some 0) with kind := .array 10 .int, interfaces := #[7, 4], accessFlags := 1041 }

/-- [Lcom/example/quorumlog/quorumlog/Compression; -/
def k12 : Class := { plain "[Lcom/example/quorumlog/quorumlog/Compression;" (some 0) with kind := .array 6 (.object "com/example/quorumlog/quorumlog/Compression"), interfaces := #[7, 4], accessFlags := 1041 }

def heap : Heap := #[{ cls := 6, slots := #[.ref 2, .ref 3, .ref 4, .ref 5, .ref 6, .int 0, .ref 1], vm := .statics 6 },
  { cls := 12, slots := #[.ref 2, .ref 3, .ref 4, .ref 5, .ref 6], vm := .none },
  { cls := 6, slots := #[.null, .int 0, .int 0, .int 0, .null, .null], vm := .none },
  { cls := 6, slots := #[.null, .int 1, .int 0, .int 1, .null, .null], vm := .none },
  { cls := 6, slots := #[.null, .int 2, .int 0, .int 2, .null, .null], vm := .none },
  { cls := 6, slots := #[.null, .int 3, .int 0, .int 3, .null, .null], vm := .none },
  { cls := 6, slots := #[.null, .int 4, .int 0, .int 4, .null, .null], vm := .none }]
def classes : Array Class := #[k0, k1, k2, k3, k4, k5, k6, k7, k8, k9, k10, k11, k12]
def interned : List (Array UInt16 × Addr) := []
def slotsUsed : Nat := 42
def theMethod : MethodId := ⟨1, 2⟩
def args0 : Array Value := #[.int 5]
def aboutOver (below : List Frame) : State where
  vm := { classes := classes, interned := interned.toArray }
  heap := heap
  slotsUsed := slotsUsed
  threads := #[{ frames := .invoking theMethod args0 :: below }]
def below0 : List Frame := [.native { method := ⟨0, 0⟩, args := #[] }]
def about1 : State := aboutOver below0
def p0 : Program := .bare "" "" ""
def e0 : Env := launch0.env 0 0 0
theorem w_frames : about1.frames = Frame.invoking theMethod args0 :: below0 := rfl
set_option maxRecDepth 65536 in
theorem w_args : argsFit about1.vm theMethod args0 = true := by decide +kernel
set_option maxRecDepth 65536 in
theorem w_heap : heapFits about1 = true := by decide +kernel
set_option maxRecDepth 65536 in
theorem w_runnable : about1.curStatus? = some .runnable := by decide +kernel
set_option maxRecDepth 65536 in
theorem w_alone : about1.alone = true := by decide +kernel
set_option maxRecDepth 65536 in
theorem w_named : about1.methodNamed? x = some theMethod := by decide +kernel
set_option maxRecDepth 65536 in
theorem w_hears : about1.hears theMethod below0 = true := by decide +kernel
set_option maxRecDepth 65536 in
theorem w_ripe : about1.ripe theMethod args0 below0 = true := by decide +kernel
theorem w_running : about1.status = .running := rfl
set_option maxRecDepth 65536 in
theorem w_room : about1.hasRoom e0.platform room_1 = true :=
  launch0.hasRoom_least _ room_1 (by decide +kernel) (by decide +kernel) (by decide +kernel) (by decide +kernel) (by decide +kernel) (by decide +kernel)
theorem allAtoms_all (ts : List Jvm.Cond) (a : Array Jvm.Value) (st : Jvm.State) : (allAtoms ts).before a st = ts.all (fun c => c.before a st) := by
  induction ts with
  | nil => rfl
  | cons c t ih =>
    show (Jvm.Cond.and c (allAtoms t)).before a st = _
    rw [Jvm.Cond.before_and, ih, List.all_cons]
def words1 : List Jvm.Cond := Jvm.Cond.code x code maxLocals ret :: tables_1
/-- a 'code' word, met by the world's own term for the bytes: nothing is compared byte by byte -/
theorem code_word {y : MethodName} {bytes : ByteArray} {mx : Nat} {rt : Option FieldType} {a : Array Value} {s : State} {m : MethodId} {meth : Method} {c : Code} (h1 : s.methodNamed? y = some m) (h2 : s.vm.method? m = some meth) (h3 : meth.code = some c) (h4 : c.code = bytes)
    (h5 : (c.maxLocals == mx && c.exceptionTable.isEmpty && decide (c.maxStack ≤ mostOperands) && decide (meth.sig.returnType = rt) && !meth.locks && decide (parseMethodDescriptor y.desc = some meth.sig)) = true) : (Jvm.Cond.code y bytes mx rt).before a s = true := by
  simp only [Bool.and_eq_true, beq_iff_eq, Bool.not_eq_true', decide_eq_true_eq] at h5
  obtain ⟨⟨⟨⟨⟨g1, g2⟩, g3⟩, g4⟩, g5⟩, g6⟩ := h5
  simp [Cond.before, Cond.holds, Cond.value, h1, h2, h3, h4, g1, g2, g3, g4, g5, g6]
def isCode : Jvm.Cond → Bool
  | .code _ _ _ _ => true
  | _ => false
theorem all_split {L : List Jvm.Cond} {P : Jvm.Cond → Bool} (h1 : L.all (fun c => isCode c || P c) = true) (h2 : ∀ c ∈ L.filter isCode, P c = true) : L.all P = true := by
  refine List.all_eq_true.mpr fun c hc => ?_
  have h := List.all_eq_true.mp h1 c hc
  rcases Bool.eq_false_or_eq_true (isCode c) with hi | hi
  · exact h2 c (List.mem_filter.mpr ⟨hc, hi⟩)
  · simpa [hi] using h
set_option maxRecDepth 65536 in
theorem w_c0 : (Jvm.Cond.code x code maxLocals ret).before args0 about1 = true := code_word (m := ⟨1, 2⟩) (meth := k1m2) (c := k1c2) (by decide +kernel) rfl rfl rfl (by decide +kernel)
set_option maxRecDepth 65536 in
theorem w_c1 : (Jvm.Cond.code ({ cls := "com/example/quorumlog/quorumlog/Compression", name := "of", desc := "(S)Lcom/example/quorumlog/quorumlog/Compression;" } : Jvm.MethodName) prog_22_method_4_code (6 : Nat) (Option.some (Jvm.ClassFile.FieldType.object "com/example/quorumlog/quorumlog/Compression"))).before args0 about1 = true := code_word (m := ⟨6, 1⟩) (meth := k6m1) (c := k6c1) (by decide +kernel) rfl rfl rfl (by decide +kernel)
set_option maxRecDepth 65536 in
theorem w_c2 : (Jvm.Cond.code ({ cls := "com/example/quorumlog/quorumlog/Compression", name := "values", desc := "()[Lcom/example/quorumlog/quorumlog/Compression;" } : Jvm.MethodName) prog_22_method_1_code (0 : Nat) (Option.some (Jvm.ClassFile.FieldType.array (Jvm.ClassFile.FieldType.object "com/example/quorumlog/quorumlog/Compression")))).before args0 about1 = true := code_word (m := ⟨6, 0⟩) (meth := k6m0) (c := k6c0) (by decide +kernel) rfl rfl rfl (by decide +kernel)
set_option maxRecDepth 65536 in
theorem w_c3 : (Jvm.Cond.code ({ cls := "com/example/quorumlog/quorumlog/CompressionOfPinLaw", name := "expected", desc := "(I)Lcom/example/quorumlog/quorumlog/Compression;" } : Jvm.MethodName) method_2_code (1 : Nat) (Option.some (Jvm.ClassFile.FieldType.object "com/example/quorumlog/quorumlog/Compression"))).before args0 about1 = true := code_word (m := ⟨1, 1⟩) (meth := k1m1) (c := k1c1) (by decide +kernel) rfl rfl rfl (by decide +kernel)
def codes1 : List Jvm.Cond := [Jvm.Cond.code x code maxLocals ret, Jvm.Cond.code ({ cls := "com/example/quorumlog/quorumlog/Compression", name := "of", desc := "(S)Lcom/example/quorumlog/quorumlog/Compression;" } : Jvm.MethodName) prog_22_method_4_code (6 : Nat) (Option.some (Jvm.ClassFile.FieldType.object "com/example/quorumlog/quorumlog/Compression")), Jvm.Cond.code ({ cls := "com/example/quorumlog/quorumlog/Compression", name := "values", desc := "()[Lcom/example/quorumlog/quorumlog/Compression;" } : Jvm.MethodName) prog_22_method_1_code (0 : Nat) (Option.some (Jvm.ClassFile.FieldType.array (Jvm.ClassFile.FieldType.object "com/example/quorumlog/quorumlog/Compression"))), Jvm.Cond.code ({ cls := "com/example/quorumlog/quorumlog/CompressionOfPinLaw", name := "expected", desc := "(I)Lcom/example/quorumlog/quorumlog/Compression;" } : Jvm.MethodName) method_2_code (1 : Nat) (Option.some (Jvm.ClassFile.FieldType.object "com/example/quorumlog/quorumlog/Compression"))]
set_option maxRecDepth 65536 in
theorem codes_eq : words1.filter isCode = codes1 := rfl
theorem w_codes : ∀ c ∈ words1.filter isCode, c.before args0 about1 = true := by
  rw [codes_eq]
  intro c hc
  simp only [codes1, List.mem_cons, List.not_mem_nil, or_false] at hc
  rcases hc with rfl | rfl | rfl | rfl
  · exact w_c0
  · exact w_c1
  · exact w_c2
  · exact w_c3
set_option maxRecDepth 65536 in
theorem w_t1 : (words1.take 24).all (fun c => isCode c || c.before args0 about1) = true := by decide +kernel
set_option maxRecDepth 65536 in
theorem w_t2 : (words1.drop 24).all (fun c => isCode c || c.before args0 about1) = true := by decide +kernel
theorem w_tables : (allAtoms (Jvm.Cond.code x code maxLocals ret :: tables_1)).before args0 about1 = true := by
  rw [allAtoms_all]
  show words1.all (fun c => c.before args0 about1) = true
  refine all_split ?_ w_codes
  rw [← List.take_append_drop 24 words1, List.all_append, w_t1, w_t2]
  rfl
set_option maxRecDepth 65536 in
theorem w_case : (Jvm.Cond.and given_1 narrow_1).before args0 about1 = true := by decide +kernel
theorem w_applies : (headSpec (Jvm.Cond.code x code maxLocals ret :: tables_1) room_1).applies x e0.platform about1 = true :=
  (Spec.applies_iff w_frames).mpr ⟨w_running, w_runnable, w_alone, w_named, w_hears, w_ripe, w_room, w_tables⟩
theorem atStart : AtStart classFile x code maxLocals ret World_1 tables_1 room_1 Calls_1 rest_1 Pre_1 launch0 p0 e0 about1 theMethod args0 below0 :=
  ⟨lists_1, trivial, launch0.admits_env _ _ _, launch0.least_env, fairChoices_fair.cas, fairChoices_fair.clock, w_frames, w_args, w_heap, w_applies, trivial, trivial, w_case⟩
end start1
theorem witness_1 : WitnessClaimed_1 := ⟨start1.p0, start1.e0, start1.about1, start1.theMethod, start1.args0, start1.below0, start1.atStart⟩
end Jvm.Pilot.@@N@@
