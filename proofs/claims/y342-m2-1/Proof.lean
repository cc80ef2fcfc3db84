import JvmDerived
import JvmDerived.Pilot.@@N@@Statement
import JvmDerived.Pilot.@@N@@Code
set_option linter.unusedVariables false
set_option linter.unusedSimpArgs false
@@BLOCK:NumsL.lean.txt@@
namespace Jvm.RoadKit
open Sem ClassFile Op Lib Jvm.Stand Jvm.Free Jvm.LawKit
section New
variable {p : Program} {l : Launch} {e : Env} {R : Room} {s : State} {m : MethodId} {args : Array Value} {below : List Frame} {meth : Method} {c : Code} {T : State} {locs : List Loc} {cells slots : Nat}
theorem retI (X : Stand p l e R s m args below meth c T locs cells slots) (hx : p.tables.exec = Jvm.exec) {pc : Nat} {Ls : Array Slot} {z : Int32} {rest : List Value} (hret : meth.sig.returnType = some .int) (hd : decode c.code pc = .ok (.ireturn, 1)) {fs : List Frame}
    (hl : ∀ (f : JFrame) (acts : List Action), f.method = m → f.locked = none → f.entered = [] → (doReturn e (T.setTop f) acts (some (.int z))).1 = T.setFrames fs) : Steps p.tables e below (T.setTop (mkF m pc Ls (.int z :: rest))) (T.setFrames fs) := by
  have hm' : T.vm.method? m = some meth := X.method'
  have hn : narrow .int (.int z) = .int z := rfl
  show Steps p.tables e below (T.setTop { method := m, pc := pc, locals := Ls, stack := _ :: rest, locked := none }) _
  jvm_step X.here [X.here.top, hx, hd, hm', hret, hn]
  first | (intro acts; rw [hl _ acts rfl rfl rfl]) | rw [hl _ _ rfl rfl rfl]
  exact Steps.refl _
end New
end Jvm.RoadKit
namespace Jvm.Pilot.@@N@@
open Jvm Jvm.ClassFile Sem Op Lib Jvm.Free Jvm.Stand Jvm.LawKit Jvm.RoadKit Bundle Jvm.Pilot.@@N@@.Jvm.D
theorem own_lwN {x y : Int64} (h : ¬ x = y) : ¬ lcmpW x y = 0 := fun q => h ((lw_eq x y).mp q)
theorem own_lwE {x y : Int64} (h : x = y) : lcmpW x y = 0 := (lw_eq x y).mpr h
theorem own_lwL {x y : Int64} (h : x < y) : lcmpW x y < 0 := (lw_lt x y).mpr h
theorem own_lwM {x y : Int64} (h : ¬ x < y) : ¬ lcmpW x y < 0 := fun q => h ((lw_lt x y).mp q)
theorem own_lwG {x y : Int64} (h : y < x) : 0 < lcmpW x y := (lw_gt x y).mpr h
theorem own_lwH {x y : Int64} (h : ¬ y < x) : ¬ 0 < lcmpW x y := fun q => h ((lw_gt x y).mp q)
theorem own_F {Z : State} {h : Heap} {a : Addr} {C n d : String} {v w : Value} (q : v = w) (F : Fld Z h a C n d v) : Fld Z h a C n d w := q ▸ F
theorem own_rI {x y : Int32} (q : x = y) : (some (Value.int x)) = some (.int y) := by rw [q]
theorem own_rJ {x y : Int64} (q : x = y) : (some (Value.long x)) = some (.long y) := by rw [q]
theorem d1_0 : decode jdk_29_method_65_code 0 = .ok (.iload_n 0, 1) := by decide +kernel
theorem d1_1 : decode jdk_29_method_65_code 1 = .ok (.iload_n 1, 1) := by decide +kernel
theorem d1_2 : decode jdk_29_method_65_code 2 = .ok (.if_icmp .lt 7, 3) := by decide +kernel
theorem d1_5 : decode jdk_29_method_65_code 5 = .ok (.iload_n 0, 1) := by decide +kernel
theorem d1_6 : decode jdk_29_method_65_code 6 = .ok (.goto 4, 3) := by decide +kernel
theorem d1_9 : decode jdk_29_method_65_code 9 = .ok (.iload_n 1, 1) := by decide +kernel
theorem d1_10 : decode jdk_29_method_65_code 10 = .ok (.ireturn, 1) := by decide +kernel
theorem ef_1 (m : MethodId) (p0 : Int32) (p1 : Int32) : entryFrame m #[(.int p0), (.int p1)] 2 = mkF m 0 #[.val (.int p0), .val (.int p1)] [] := by first | (simp [entryFrame, mkF, argsToLocals, Value.category]; done) | rfl
def Q1 (Z : State) (p0 : Int32) (p1 : Int32) (h0 : Heap) (n0 : Nat) (v : Option Value) (h : Heap) (L : List Loc) : Prop := v = some (.int (if p0 < p1 then p1 else p0)) ∧ Fr n0 L ∧ h = h0
set_option maxRecDepth 65536 in
set_option maxHeartbeats 40000000 in
theorem rm1 (l : Launch) (Z : State) (aq : Array Value) (hw : ∀ d ∈ tables_1, d.before aq Z = true) (ws : List Jvm.Cond) (p0 : Int32) (p1 : Int32) (h0 : Heap) (n0 : Nat) (Z0 : n0 ≤ h0.size) :
    MetFree l (⟨"java/lang/Math", "max", "(II)I"⟩ : MethodName) (head1 (Jvm.Cond.code (⟨"java/lang/Math", "max", "(II)I"⟩ : MethodName) jdk_29_method_65_code 2 (some .int) :: ws) ({ frames := 0, cells := 0, slots := 0, locals := 0 } : Room)) (fun a U => a = #[(.int p0), (.int p1)] ∧ Z.Warmed39 U.vm ∧ U.heap = h0) (fun _ _ _ _ _ => True) (fun _ U o U' => ∃ v L, o = .returned v ∧ Q1 Z p0 p1 h0 n0 v U'.heap L ∧ FrameEnd U o U' L ({ frames := 0, cells := 0, slots := 0, locals := 0 } : Room).cells ({ frames := 0, cells := 0, slots := 0, locals := 0 } : Room).slots) := by
  refine MetFree.of_bodySF (Jvm.Free.JP.mathPlain rfl (by decide +kernel)) hisR ?_
  intro p e s m args below meth c s₁ Bd hml0 hP hK
  obtain ⟨rfl, hZ, hh⟩ := hP
  have hx := Bd.exec
  have hby := Bd.bytes
  have hml : c.maxLocals = 2 := hml0
  have hown : s.vm.findClass "java/lang/Math" = some m.cls := findClass_of_methodNamed Bd.named
  have hnm := (name_of_methodNamed Bd.named Bd.method).1
  have X0 : Stand p l e ({ frames := 0, cells := 0, slots := 0, locals := 0 } : Room) s m #[(.int p0), (.int p1)] below meth c s₁ [] 0 0 := Stand.of_body Bd
  have e0 : s₁.heap = h0 := by rw [← hh, Bd.state]; rfl
  have N0 := Fr.nil n0
  have pre0 : ∀ t, Steps p.tables e below (s₁.setTop (mkF m 0 #[.val (.int p0), .val (.int p1)] [])) t → Steps p.tables e below (s₁.setTop (entryFrame m #[(.int p0), (.int p1)] 2)) t := fun t k => castTop (ef_1 m p0 p1) k
  have pre3 : ∀ t, Steps p.tables e below (s₁.setTop (mkF m 2 #[.val (.int p0), .val (.int p1)] [(.int p1), (.int p0)])) t → Steps p.tables e below (s₁.setTop (entryFrame m #[(.int p0), (.int p1)] 2)) t := fun t kt => by
    refine pre0 _ ?_
    show Steps p.tables e below (s₁.setTop (mkF m 0 #[.val (.int p0), .val (.int p1)] [])) _
    refine XS.iloadN X0.here hx rfl (hb hby d1_0) rfl ?_
    show Steps p.tables e below (s₁.setTop (mkF m 1 #[.val (.int p0), .val (.int p1)] [(.int p0)])) _
    refine XS.iloadN X0.here hx rfl (hb hby d1_1) rfl ?_
    show Steps p.tables e below (s₁.setTop (mkF m 2 #[.val (.int p0), .val (.int p1)] [(.int p1), (.int p0)])) _
    exact kt
  by_cases hc4 : p0 < p1
  · skip
    have pre5 : ∀ t, Steps p.tables e below (s₁.setTop (mkF m 10 #[.val (.int p0), .val (.int p1)] [(.int p1)])) t → Steps p.tables e below (s₁.setTop (entryFrame m #[(.int p0), (.int p1)] 2)) t := fun t kt => by
      refine pre3 _ ?_
      show Steps p.tables e below (s₁.setTop (mkF m 2 #[.val (.int p0), .val (.int p1)] [(.int p1), (.int p0)])) _
      refine XS.icmpYes X0.here hx rfl (pc0 := 2) (pc' := 9) rfl (hb hby d1_2) rfl (tlt hc4).1 (by decide) (by decide) ?_
      show Steps p.tables e below (s₁.setTop (mkF m 9 #[.val (.int p0), .val (.int p1)] [])) _
      refine XS.iloadN X0.here hx rfl (hb hby d1_9) rfl ?_
      show Steps p.tables e below (s₁.setTop (mkF m 10 #[.val (.int p0), .val (.int p1)] [(.int p1)])) _
      exact kt
    obtain ⟨fs, hr, hrun, hended, hW, hsame⟩ := X0.leave (v := some (.int p1)) (fun h => by rw [Bd.returns] at h; cases h)
    refine ⟨_, _, pre5 _ ?_, hrun, hended, _, _, rfl, ?_, ⟨_, rfl⟩, hW, hsame.mono (by decide) (by decide)⟩
    · exact retI X0 hx Bd.returns (hb hby d1_10) hr
    · show Q1 Z p0 p1 h0 n0 _ s₁.heap _
      rw [e0]
      exact ⟨(own_rI (by rw [if_pos hc4] : p1 = (if p0 < p1 then p1 else p0))), N0, rfl⟩
  · skip
    have pre6 : ∀ t, Steps p.tables e below (s₁.setTop (mkF m 10 #[.val (.int p0), .val (.int p1)] [(.int p0)])) t → Steps p.tables e below (s₁.setTop (entryFrame m #[(.int p0), (.int p1)] 2)) t := fun t kt => by
      refine pre3 _ ?_
      show Steps p.tables e below (s₁.setTop (mkF m 2 #[.val (.int p0), .val (.int p1)] [(.int p1), (.int p0)])) _
      refine XS.icmpNo X0.here hx rfl (hb hby d1_2) rfl (flt hc4).1 ?_
      show Steps p.tables e below (s₁.setTop (mkF m 5 #[.val (.int p0), .val (.int p1)] [])) _
      refine XS.iloadN X0.here hx rfl (hb hby d1_5) rfl ?_
      show Steps p.tables e below (s₁.setTop (mkF m 6 #[.val (.int p0), .val (.int p1)] [(.int p0)])) _
      refine XS.goto X0.here hx rfl (pc0 := 6) (pc' := 10) rfl (hb hby d1_6) (by decide) (by decide) ?_
      show Steps p.tables e below (s₁.setTop (mkF m 10 #[.val (.int p0), .val (.int p1)] [(.int p0)])) _
      exact kt
    obtain ⟨fs, hr, hrun, hended, hW, hsame⟩ := X0.leave (v := some (.int p0)) (fun h => by rw [Bd.returns] at h; cases h)
    refine ⟨_, _, pre6 _ ?_, hrun, hended, _, _, rfl, ?_, ⟨_, rfl⟩, hW, hsame.mono (by decide) (by decide)⟩
    · exact retI X0 hx Bd.returns (hb hby d1_10) hr
    · show Q1 Z p0 p1 h0 n0 _ s₁.heap _
      rw [e0]
      exact ⟨(own_rI (by rw [if_neg hc4] : p0 = (if p0 < p1 then p1 else p0))), N0, rfl⟩
theorem d2_0 : decode method_2_code 0 = .ok (.iconst 1, 1) := by decide +kernel
theorem d2_1 : decode method_2_code 1 = .ok (.iload_n 0, 1) := by decide +kernel
theorem d2_2 : decode method_2_code 2 = .ok (.ldc 7, 2) := by decide +kernel
theorem d2_4 : decode method_2_code 4 = .ok (.iand, 1) := by decide +kernel
theorem d2_5 : decode method_2_code 5 = .ok (.iload_n 1, 1) := by decide +kernel
theorem d2_6 : decode method_2_code 6 = .ok (.irem, 1) := by decide +kernel
theorem d2_7 : decode method_2_code 7 = .ok (.iadd, 1) := by decide +kernel
theorem d2_8 : decode method_2_code 8 = .ok (.ireturn, 1) := by decide +kernel
theorem pn38865221 : plainName "com/example/packwright/packwright/core/bins/NextFitBinsPlacePinLaw" = true := by first | (simp [plainName, overriddenIn]; done) | decide +kernel
theorem ef_2 (m : MethodId) (p0 : Int32) (p1 : Int32) : entryFrame m #[(.int p0), (.int p1)] 2 = mkF m 0 #[.val (.int p0), .val (.int p1)] [] := by first | (simp [entryFrame, mkF, argsToLocals, Value.category]; done) | rfl
def Q2 (Z : State) (p0 : Int32) (p1 : Int32) (h0 : Heap) (n0 : Nat) (v : Option Value) (h : Heap) (L : List Loc) : Prop := v = some (.int ((1 : Int32) + ((p0 &&& (2147483647 : Int32)) % p1))) ∧ Fr n0 L ∧ h = h0
set_option maxRecDepth 65536 in
set_option maxHeartbeats 40000000 in
theorem rm2 (l : Launch) (Z : State) (aq : Array Value) (hw : ∀ d ∈ tables_1, d.before aq Z = true) (ws : List Jvm.Cond) (p0 : Int32) (p1 : Int32) (h0 : Heap) (n0 : Nat) (Z0 : n0 ≤ h0.size) (hnz : ¬ p1 = (0 : Int32)) :
    MetFree l (⟨"com/example/packwright/packwright/core/bins/NextFitBinsPlacePinLaw", "size", "(II)I"⟩ : MethodName) (head1 (Jvm.Cond.code (⟨"com/example/packwright/packwright/core/bins/NextFitBinsPlacePinLaw", "size", "(II)I"⟩ : MethodName) method_2_code 2 (some .int) :: ws) ({ frames := 0, cells := 0, slots := 0, locals := 0 } : Room)) (fun a U => a = #[(.int p0), (.int p1)] ∧ Z.Warmed39 U.vm ∧ U.heap = h0) (fun _ _ _ _ _ => True) (fun _ U o U' => ∃ v L, o = .returned v ∧ Q2 Z p0 p1 h0 n0 v U'.heap L ∧ FrameEnd U o U' L ({ frames := 0, cells := 0, slots := 0, locals := 0 } : Room).cells ({ frames := 0, cells := 0, slots := 0, locals := 0 } : Room).slots) := by
  refine MetFree.of_bodySF (plainFor_of_name pn38865221) hisR ?_
  intro p e s m args below meth c s₁ Bd hml0 hP hK
  obtain ⟨rfl, hZ, hh⟩ := hP
  have hx := Bd.exec
  have hby := Bd.bytes
  have hml : c.maxLocals = 2 := hml0
  have hown : s.vm.findClass "com/example/packwright/packwright/core/bins/NextFitBinsPlacePinLaw" = some m.cls := findClass_of_methodNamed Bd.named
  have hnm := (name_of_methodNamed Bd.named Bd.method).1
  have X0 : Stand p l e ({ frames := 0, cells := 0, slots := 0, locals := 0 } : Room) s m #[(.int p0), (.int p1)] below meth c s₁ [] 0 0 := Stand.of_body Bd
  have e0 : s₁.heap = h0 := by rw [← hh, Bd.state]; rfl
  have N0 := Fr.nil n0
  have pre0 : ∀ t, Steps p.tables e below (s₁.setTop (mkF m 0 #[.val (.int p0), .val (.int p1)] [])) t → Steps p.tables e below (s₁.setTop (entryFrame m #[(.int p0), (.int p1)] 2)) t := fun t k => castTop (ef_2 m p0 p1) k
  have pre7 : ∀ t, Steps p.tables e below (s₁.setTop (mkF m 8 #[.val (.int p0), .val (.int p1)] [(.int ((1 : Int32) + ((p0 &&& (2147483647 : Int32)) % p1)))])) t → Steps p.tables e below (s₁.setTop (entryFrame m #[(.int p0), (.int p1)] 2)) t := fun t kt => by
    refine pre0 _ ?_
    show Steps p.tables e below (s₁.setTop (mkF m 0 #[.val (.int p0), .val (.int p1)] [])) _
    refine XS.iconst X0.here hx rfl (hb hby d2_0) ?_
    show Steps p.tables e below (s₁.setTop (mkF m 1 #[.val (.int p0), .val (.int p1)] [(.int (1 : Int32))])) _
    refine XS.iloadN X0.here hx rfl (hb hby d2_1) rfl ?_
    show Steps p.tables e below (s₁.setTop (mkF m 2 #[.val (.int p0), .val (.int p1)] [(.int p0), (.int (1 : Int32))])) _
    refine X0.ldcInt hx hown (mvT hZ (hw _ (List.mem_of_getElem? (i := 0) rfl))) (g := (mkF m 2 #[.val (.int p0), .val (.int p1)] [(.int p0), (.int (1 : Int32))])) rfl (hb hby d2_2) _ ?_
    show Steps p.tables e below (s₁.setTop (mkF m 4 #[.val (.int p0), .val (.int p1)] [(.int (2147483647 : Int32)), (.int p0), (.int (1 : Int32))])) _
    refine XS.iand X0.here hx rfl (hb hby d2_4) rfl ?_
    show Steps p.tables e below (s₁.setTop (mkF m 5 #[.val (.int p0), .val (.int p1)] [(.int (p0 &&& (2147483647 : Int32))), (.int (1 : Int32))])) _
    refine XS.iloadN X0.here hx rfl (hb hby d2_5) rfl ?_
    show Steps p.tables e below (s₁.setTop (mkF m 6 #[.val (.int p0), .val (.int p1)] [(.int p1), (.int (p0 &&& (2147483647 : Int32))), (.int (1 : Int32))])) _
    refine iremM X0 hx rfl (hb hby d2_6) rfl hnz ?_
    show Steps p.tables e below (s₁.setTop (mkF m 7 #[.val (.int p0), .val (.int p1)] [(.int ((p0 &&& (2147483647 : Int32)) % p1)), (.int (1 : Int32))])) _
    refine XS.iadd X0.here hx rfl (hb hby d2_7) rfl ?_
    show Steps p.tables e below (s₁.setTop (mkF m 8 #[.val (.int p0), .val (.int p1)] [(.int ((1 : Int32) + ((p0 &&& (2147483647 : Int32)) % p1)))])) _
    exact kt
  obtain ⟨fs, hr, hrun, hended, hW, hsame⟩ := X0.leave (v := some (.int ((1 : Int32) + ((p0 &&& (2147483647 : Int32)) % p1)))) (fun h => by rw [Bd.returns] at h; cases h)
  refine ⟨_, _, pre7 _ ?_, hrun, hended, _, _, rfl, ?_, ⟨_, rfl⟩, hW, hsame.mono (by decide) (by decide)⟩
  · exact retI X0 hx Bd.returns (hb hby d2_8) hr
  · show Q2 Z p0 p1 h0 n0 _ s₁.heap _
    rw [e0]
    exact ⟨rfl, N0, rfl⟩
theorem own_nz64 {x : Int32} (h : ¬ x < (1 : Int32)) : x.toInt64 ≠ (0 : Int64) := fun q => by
  have e := congrArg Int64.toInt q
  rw [Jvm.Kit.i64_of_i32, Int64.toInt_zero] at e
  rw [Int32.lt_iff_toInt_lt, e] at h
  exact h (by decide)
theorem d3_0 : decode prog_43_method_1_code 0 = .ok (.aload_n 0, 1) := by decide +kernel
theorem d3_1 : decode prog_43_method_1_code 1 = .ok (.invokespecial 1, 3) := by decide +kernel
theorem d3_4 : decode prog_43_method_1_code 4 = .ok (.iload_n 1, 1) := by decide +kernel
theorem d3_5 : decode prog_43_method_1_code 5 = .ok (.iconst 1, 1) := by decide +kernel
theorem d3_6 : decode prog_43_method_1_code 6 = .ok (.if_icmp .ge 17, 3) := by decide +kernel
theorem d3_9 : decode prog_43_method_1_code 9 = .ok (.new 7, 3) := by decide +kernel
theorem d3_12 : decode prog_43_method_1_code 12 = .ok (.dup, 1) := by decide +kernel
theorem d3_13 : decode prog_43_method_1_code 13 = .ok (.iload_n 1, 1) := by decide +kernel
theorem d3_19 : decode prog_43_method_1_code 19 = .ok (.invokespecial 13, 3) := by decide +kernel
theorem d3_22 : decode prog_43_method_1_code 22 = .ok (.athrow, 1) := by decide +kernel
theorem d3_23 : decode prog_43_method_1_code 23 = .ok (.lconst 0, 1) := by decide +kernel
theorem d3_24 : decode prog_43_method_1_code 24 = .ok (.lstore_n 3, 1) := by decide +kernel
theorem d3_25 : decode prog_43_method_1_code 25 = .ok (.iconst 0, 1) := by decide +kernel
theorem d3_26 : decode prog_43_method_1_code 26 = .ok (.istore 5, 2) := by decide +kernel
theorem d3_28 : decode prog_43_method_1_code 28 = .ok (.iload 5, 2) := by decide +kernel
theorem d3_30 : decode prog_43_method_1_code 30 = .ok (.aload_n 2, 1) := by decide +kernel
theorem d3_31 : decode prog_43_method_1_code 31 = .ok (.arraylength, 1) := by decide +kernel
theorem d3_32 : decode prog_43_method_1_code 32 = .ok (.if_icmp .ge 53, 3) := by decide +kernel
theorem d3_35 : decode prog_43_method_1_code 35 = .ok (.aload_n 2, 1) := by decide +kernel
theorem d3_36 : decode prog_43_method_1_code 36 = .ok (.iload 5, 2) := by decide +kernel
theorem d3_38 : decode prog_43_method_1_code 38 = .ok (.iaload, 1) := by decide +kernel
theorem d3_39 : decode prog_43_method_1_code 39 = .ok (.istore 6, 2) := by decide +kernel
theorem d3_41 : decode prog_43_method_1_code 41 = .ok (.iload 6, 2) := by decide +kernel
theorem d3_43 : decode prog_43_method_1_code 43 = .ok (.iconst 1, 1) := by decide +kernel
theorem d3_44 : decode prog_43_method_1_code 44 = .ok (.if_icmp .lt 9, 3) := by decide +kernel
theorem d3_47 : decode prog_43_method_1_code 47 = .ok (.iload 6, 2) := by decide +kernel
theorem d3_49 : decode prog_43_method_1_code 49 = .ok (.iload_n 1, 1) := by decide +kernel
theorem d3_50 : decode prog_43_method_1_code 50 = .ok (.if_icmp .le 23, 3) := by decide +kernel
theorem d3_53 : decode prog_43_method_1_code 53 = .ok (.new 7, 3) := by decide +kernel
theorem d3_56 : decode prog_43_method_1_code 56 = .ok (.dup, 1) := by decide +kernel
theorem d3_57 : decode prog_43_method_1_code 57 = .ok (.iload 5, 2) := by decide +kernel
theorem d3_59 : decode prog_43_method_1_code 59 = .ok (.iconst 1, 1) := by decide +kernel
theorem d3_60 : decode prog_43_method_1_code 60 = .ok (.iadd, 1) := by decide +kernel
theorem d3_61 : decode prog_43_method_1_code 61 = .ok (.iload 6, 2) := by decide +kernel
theorem d3_63 : decode prog_43_method_1_code 63 = .ok (.iload_n 1, 1) := by decide +kernel
theorem d3_69 : decode prog_43_method_1_code 69 = .ok (.invokespecial 13, 3) := by decide +kernel
theorem d3_72 : decode prog_43_method_1_code 72 = .ok (.athrow, 1) := by decide +kernel
theorem d3_73 : decode prog_43_method_1_code 73 = .ok (.lload_n 3, 1) := by decide +kernel
theorem d3_74 : decode prog_43_method_1_code 74 = .ok (.iload 6, 2) := by decide +kernel
theorem d3_76 : decode prog_43_method_1_code 76 = .ok (.i2l, 1) := by decide +kernel
theorem d3_77 : decode prog_43_method_1_code 77 = .ok (.ladd, 1) := by decide +kernel
theorem d3_78 : decode prog_43_method_1_code 78 = .ok (.lstore_n 3, 1) := by decide +kernel
theorem d3_79 : decode prog_43_method_1_code 79 = .ok (.iinc 5 1, 3) := by decide +kernel
theorem d3_82 : decode prog_43_method_1_code 82 = .ok (.goto (-54), 3) := by decide +kernel
theorem d3_85 : decode prog_43_method_1_code 85 = .ok (.aload_n 0, 1) := by decide +kernel
theorem d3_86 : decode prog_43_method_1_code 86 = .ok (.iload_n 1, 1) := by decide +kernel
theorem d3_87 : decode prog_43_method_1_code 87 = .ok (.putfield 19, 3) := by decide +kernel
theorem d3_90 : decode prog_43_method_1_code 90 = .ok (.aload_n 0, 1) := by decide +kernel
theorem d3_91 : decode prog_43_method_1_code 91 = .ok (.aload_n 2, 1) := by decide +kernel
theorem d3_92 : decode prog_43_method_1_code 92 = .ok (.invokevirtual 25, 3) := by decide +kernel
theorem d3_95 : decode prog_43_method_1_code 95 = .ok (.checkcast 26, 3) := by decide +kernel
theorem d3_98 : decode prog_43_method_1_code 98 = .ok (.putfield 31, 3) := by decide +kernel
theorem d3_101 : decode prog_43_method_1_code 101 = .ok (.aload_n 0, 1) := by decide +kernel
theorem d3_102 : decode prog_43_method_1_code 102 = .ok (.lload_n 3, 1) := by decide +kernel
theorem d3_103 : decode prog_43_method_1_code 103 = .ok (.iload_n 1, 1) := by decide +kernel
theorem d3_104 : decode prog_43_method_1_code 104 = .ok (.i2l, 1) := by decide +kernel
theorem d3_105 : decode prog_43_method_1_code 105 = .ok (.ladd, 1) := by decide +kernel
theorem d3_106 : decode prog_43_method_1_code 106 = .ok (.lconst 1, 1) := by decide +kernel
theorem d3_107 : decode prog_43_method_1_code 107 = .ok (.lsub, 1) := by decide +kernel
theorem d3_108 : decode prog_43_method_1_code 108 = .ok (.iload_n 1, 1) := by decide +kernel
theorem d3_109 : decode prog_43_method_1_code 109 = .ok (.i2l, 1) := by decide +kernel
theorem d3_110 : decode prog_43_method_1_code 110 = .ok (.ldiv, 1) := by decide +kernel
theorem d3_111 : decode prog_43_method_1_code 111 = .ok (.l2i, 1) := by decide +kernel
theorem d3_112 : decode prog_43_method_1_code 112 = .ok (.putfield 34, 3) := by decide +kernel
theorem d3_115 : decode prog_43_method_1_code 115 = .ok (.return_, 1) := by decide +kernel
theorem pn18630421 : plainName "com/example/packwright/packwright/core/bins/BinInstance" = true := by first | (simp [plainName, overriddenIn]; done) | decide +kernel
theorem pd62477782 : parseMethodDescriptor "()Ljava/lang/Object;" = some ⟨[], some (.object "java/lang/Object")⟩ := by decide +kernel
theorem ef_3 (m : MethodId) (a0 : Addr) (p1 : Int32) (a2 : Addr) : entryFrame m #[(.ref a0), (.int p1), (.ref a2)] 7 = mkF m 0 #[.val (.ref a0), .val (.int p1), .val (.ref a2), .unset, .unset, .unset, .unset] [] := by first | (simp [entryFrame, mkF, argsToLocals, Value.category]; done) | rfl
def Q3 (Z : State) (a0 : Addr) (p1 : Int32) (a2 : Addr) (u_capacity : Int32) (u_lowerBound : Int32) (k_a2 : ClassId) (h0 : Heap) (n0 : Nat) (v : Option Value) (h : Heap) (L : List Loc) : Prop := ∃ r_ : Addr, v = none ∧ Fr n0 L ∧ Keep h0 h [a0] ∧ Exa Z h a0 "com/example/packwright/packwright/core/bins/BinInstance" ∧ Fld Z h a0 "com/example/packwright/packwright/core/bins/BinInstance" "capacity" "I" (.int p1) ∧ Fld Z h a0 "com/example/packwright/packwright/core/bins/BinInstance" "sizes" "[I" (.ref r_) ∧ Fld Z h a0 "com/example/packwright/packwright/core/bins/BinInstance" "lowerBound" "I" (.int (((((0 : Int64) + (p1.toInt64)) - (1 : Int64)) / (p1.toInt64)).toInt32))
set_option maxRecDepth 65536 in
set_option maxHeartbeats 40000000 in
theorem rm3 (l : Launch) (Z : State) (aq : Array Value) (hw : ∀ d ∈ tables_1, d.before aq Z = true) (ws : List Jvm.Cond) (a0 : Addr) (p1 : Int32) (a2 : Addr) (u_capacity : Int32) (u_lowerBound : Int32) (k_a2 : ClassId) (h0 : Heap) (n0 : Nat) (Z0 : n0 ≤ h0.size) (E_a0 : Exa Z h0 a0 "com/example/packwright/packwright/core/bins/BinInstance") (F_capacity : Fld Z h0 a0 "com/example/packwright/packwright/core/bins/BinInstance" "capacity" "I" (.int u_capacity)) (F_sizes : Fld Z h0 a0 "com/example/packwright/packwright/core/bins/BinInstance" "sizes" "[I" .null) (F_lowerBound : Fld Z h0 a0 "com/example/packwright/packwright/core/bins/BinInstance" "lowerBound" "I" (.int u_lowerBound)) (g_a0 : n0 ≤ a0) (V_a2 : Arv Z h0 a2 k_a2 .int (0 : Int32) [] (.int (0 : Int32))) (E_a2 : Exa Z h0 a2 "[I") (ne_a2 : a2 ≠ a0) (hcap : ¬ p1 < (1 : Int32)) :
    MetFree l (⟨"com/example/packwright/packwright/core/bins/BinInstance", "<init>", "(I[I)V"⟩ : MethodName) (head1 (Jvm.Cond.code (⟨"com/example/packwright/packwright/core/bins/BinInstance", "<init>", "(I[I)V"⟩ : MethodName) prog_43_method_1_code 7 none :: ws) ({ frames := 1, cells := 1, slots := 0, locals := 15 } : Room)) (fun a U => a = #[(.ref a0), (.int p1), (.ref a2)] ∧ Z.Warmed39 U.vm ∧ U.heap = h0) (fun _ _ _ _ _ => True) (fun _ U o U' => ∃ v L, o = .returned v ∧ Q3 Z a0 p1 a2 u_capacity u_lowerBound k_a2 h0 n0 v U'.heap L ∧ FrameEnd U o U' L ({ frames := 1, cells := 1, slots := 0, locals := 15 } : Room).cells ({ frames := 1, cells := 1, slots := 0, locals := 15 } : Room).slots) := by
  refine MetFree.of_bodySF (plainFor_of_name pn18630421) hisR ?_
  intro p e s m args below meth c s₁ Bd hml0 hP hK
  obtain ⟨rfl, hZ, hh⟩ := hP
  have hx := Bd.exec
  have hby := Bd.bytes
  have hml : c.maxLocals = 7 := hml0
  have hown : s.vm.findClass "com/example/packwright/packwright/core/bins/BinInstance" = some m.cls := findClass_of_methodNamed Bd.named
  have hnm := (name_of_methodNamed Bd.named Bd.method).1
  have X0 : Stand p l e ({ frames := 1, cells := 1, slots := 0, locals := 15 } : Room) s m #[(.ref a0), (.int p1), (.ref a2)] below meth c s₁ [] 0 0 := Stand.of_body Bd
  have e0 : s₁.heap = h0 := by rw [← hh, Bd.state]; rfl
  have N0 := Fr.nil n0
  have K0 : Keep h0 h0 [a0] := Keep.refl _ _
  have pre0 : ∀ t, Steps p.tables e below (s₁.setTop (mkF m 0 #[.val (.ref a0), .val (.int p1), .val (.ref a2), .unset, .unset, .unset, .unset] [])) t → Steps p.tables e below (s₁.setTop (entryFrame m #[(.ref a0), (.int p1), (.ref a2)] 7)) t := fun t k => castTop (ef_3 m a0 p1 a2) k
  obtain ⟨T53, X53, e53, st53⟩ := initO X0 hx hZ hown (hw _ (List.mem_of_getElem? (i := 19) rfl)) (hw _ (List.mem_of_getElem? (i := 20) rfl)) (hw _ (List.mem_of_getElem? (i := 21) rfl)) e0 (g := (mkF m 1 #[.val (.ref a0), .val (.int p1), .val (.ref a2), .unset, .unset, .unset, .unset] [(.ref a0)])) rfl (by rw [hml]; rfl) rfl (hb hby d3_1) (by decide) (W := 0) (by show 2 * 0 + _ ≤ _; exact Nat.le_of_eq rfl) (by decide)
  obtain ⟨cl54, Ar54, -, S54, N54, -, -⟩ := (id V_a2)
  obtain ⟨T55, h55, X55, e55, W55, st55⟩ := putF X53 hx hZ hown (host := "") (Or.inl (hw _ (List.mem_of_getElem? (i := 22) rfl))) Via.refl e53 F_capacity E_a0 (Or.inr ⟨(hw _ (List.mem_of_getElem? (i := 23) rfl)), rfl, hnm⟩) (hw _ (List.mem_of_getElem? (i := 13) rfl)) (ty := .int) (by decide) rfl rfl (g := (mkF m 87 #[.val (.ref a0), .val (.int p1), .val (.ref a2), .val (.long (0 : Int64)), .second, .val (.int (0 : Int32)), .unset] [(.int p1), (.ref a0)])) rfl rfl (hb hby d3_87)
  have E56 := E_a0.wr W55
  have F57 : Fld Z h55 a0 "com/example/packwright/packwright/core/bins/BinInstance" "capacity" "I" (.int p1) := F_capacity.same W55
  have F58 := F_sizes.other W55 (Or.inr (slot_ne (Or.inr (hw _ (List.mem_of_getElem? (i := 34) rfl))) (Or.inr (hw _ (List.mem_of_getElem? (i := 23) rfl))) (by decide) (t := (.array .int)) (t' := .int) (by decide) (by decide)))
  have F59 := F_lowerBound.other W55 (Or.inr (slot_ne (Or.inr (hw _ (List.mem_of_getElem? (i := 36) rfl))) (Or.inr (hw _ (List.mem_of_getElem? (i := 23) rfl))) (by decide) (t := .int) (t' := .int) (by decide) (by decide)))
  have V60 := V_a2.other W55 ne_a2
  have E61 := E_a2.wr W55
  have N62 := Fr.snoc X55 N0 g_a0
  have K63 : Keep h0 h55 [a0] := K0.wr W55 (Or.inl (List.mem_of_getElem? (i := 0) rfl))
  have Z64 : n0 ≤ h55.size := Nat.le_trans Z0 (Keep.of_wr W55).1
  obtain ⟨cl65, Ar65, qc65, S65, N65, H65, G65⟩ := (id V60)
  obtain ⟨T66, h66, X66, e66, E66, A66, EE66, st66⟩ := cloneA X55 hx hZ hown (hw _ (List.mem_of_getElem? (i := 24) rfl)) (hw _ (List.mem_of_getElem? (i := 25) rfl)) (hw _ (List.mem_of_getElem? (i := 29) rfl)) (hw _ (List.mem_of_getElem? (i := 27) rfl)) (hw _ (List.mem_of_getElem? (i := 28) rfl)) (hw _ (List.mem_of_getElem? (i := 30) rfl)) e55 Ar65 E61 (fitC_of Ar65 fun i hi v hv => by rw [H65 i hi] at hv; cases hv; exact G65 i hi) (g := (mkF m 92 #[.val (.ref a0), .val (.int p1), .val (.ref a2), .val (.long (0 : Int64)), .second, .val (.int (0 : Int32)), .unset] [(.ref a2), (.ref a0)])) rfl (by rw [hml]; rfl) rfl (hb hby d3_92) (by decide) (W := 1) (cap := 0) (by show 2 * 0 + _ ≤ _; exact Nat.le_of_eq rfl) (by decide) (by rw [S65]; decide) (by decide) (by decide)
  obtain ⟨b66, g66⟩ : ∃ z, z = h55.size := ⟨_, rfl⟩
  rw [← g66] at A66 EE66 st66
  have ne_a0_b66 : a0 ≠ b66 := Nat.ne_of_lt (Nat.lt_of_lt_of_le E56.lt (Nat.le_of_eq g66.symm))
  have ne_a2_b66 : a2 ≠ b66 := Nat.ne_of_lt (Nat.lt_of_lt_of_le V60.lt (Nat.le_of_eq g66.symm))
  have g_b66 : n0 ≤ b66 := Nat.le_trans Z64 (Nat.le_of_eq g66.symm)
  have sz_b66 : h0.size ≤ b66 := Nat.le_trans K63.1 (Nat.le_of_eq g66.symm)
  have E67 := E56.ext E66
  have F68 := F57.ext E66
  have F69 := F58.ext E66
  have F70 := F59.ext E66
  have V71 := V60.ext E66
  have E72 := E61.ext E66
  have K73 : Keep h0 h66 [a0] := K63.ext E66
  have Z74 : n0 ≤ h66.size := Nat.le_trans Z64 E66.1
  obtain ⟨T75, X75, e75, st75⟩ := castY X66 hx hZ hown (hw _ (List.mem_of_getElem? (i := 31) rfl)) e66 (Ins.self EE66) (g := (mkF m 95 #[.val (.ref a0), .val (.int p1), .val (.ref a2), .val (.long (0 : Int64)), .second, .val (.int (0 : Int32)), .unset] [(.ref b66), (.ref a0)])) rfl rfl (hb hby d3_95)
  obtain ⟨T76, h76, X76, e76, W76, st76⟩ := putF X75 hx hZ hown (host := "") (Or.inl (hw _ (List.mem_of_getElem? (i := 33) rfl))) Via.refl e75 F69 E67 (Or.inr ⟨(hw _ (List.mem_of_getElem? (i := 34) rfl)), rfl, hnm⟩) (hw _ (List.mem_of_getElem? (i := 13) rfl)) (ty := (.array .int)) (by decide) rfl rfl (g := (mkF m 98 #[.val (.ref a0), .val (.int p1), .val (.ref a2), .val (.long (0 : Int64)), .second, .val (.int (0 : Int32)), .unset] [(.ref b66), (.ref a0)])) rfl rfl (hb hby d3_98)
  have E77 := E67.wr W76
  have F78 := F68.other W76 (Or.inr (slot_ne (Or.inr (hw _ (List.mem_of_getElem? (i := 23) rfl))) (Or.inr (hw _ (List.mem_of_getElem? (i := 34) rfl))) (by decide) (t := .int) (t' := (.array .int)) (by decide) (by decide)))
  have F79 : Fld Z h76 a0 "com/example/packwright/packwright/core/bins/BinInstance" "sizes" "[I" (.ref b66) := F69.same W76
  have F80 := F70.other W76 (Or.inr (slot_ne (Or.inr (hw _ (List.mem_of_getElem? (i := 36) rfl))) (Or.inr (hw _ (List.mem_of_getElem? (i := 34) rfl))) (by decide) (t := .int) (t' := (.array .int)) (by decide) (by decide)))
  have V81 := V71.other W76 ne_a2
  have E82 := E72.wr W76
  have E83 := EE66.wr W76
  have N84 := Fr.snoc X76 N62 g_a0
  have K85 : Keep h0 h76 [a0] := K73.wr W76 (Or.inl (List.mem_of_getElem? (i := 0) rfl))
  have Z86 : n0 ≤ h76.size := Nat.le_trans Z74 (Keep.of_wr W76).1
  obtain ⟨T87, h87, X87, e87, W87, st87⟩ := putF X76 hx hZ hown (host := "") (Or.inl (hw _ (List.mem_of_getElem? (i := 35) rfl))) Via.refl e76 F80 E77 (Or.inr ⟨(hw _ (List.mem_of_getElem? (i := 36) rfl)), rfl, hnm⟩) (hw _ (List.mem_of_getElem? (i := 13) rfl)) (ty := .int) (by decide) rfl rfl (g := (mkF m 112 #[.val (.ref a0), .val (.int p1), .val (.ref a2), .val (.long (0 : Int64)), .second, .val (.int (0 : Int32)), .unset] [(.int (((((0 : Int64) + (p1.toInt64)) - (1 : Int64)) / (p1.toInt64)).toInt32)), (.ref a0)])) rfl rfl (hb hby d3_112)
  have E88 := E77.wr W87
  have F89 := F78.other W87 (Or.inr (slot_ne (Or.inr (hw _ (List.mem_of_getElem? (i := 23) rfl))) (Or.inr (hw _ (List.mem_of_getElem? (i := 36) rfl))) (by decide) (t := .int) (t' := .int) (by decide) (by decide)))
  have F90 := F79.other W87 (Or.inr (slot_ne (Or.inr (hw _ (List.mem_of_getElem? (i := 34) rfl))) (Or.inr (hw _ (List.mem_of_getElem? (i := 36) rfl))) (by decide) (t := (.array .int)) (t' := .int) (by decide) (by decide)))
  have F91 : Fld Z h87 a0 "com/example/packwright/packwright/core/bins/BinInstance" "lowerBound" "I" (.int (((((0 : Int64) + (p1.toInt64)) - (1 : Int64)) / (p1.toInt64)).toInt32)) := F80.same W87
  have V92 := V81.other W87 ne_a2
  have E93 := E82.wr W87
  have E94 := E83.wr W87
  have N95 := Fr.snoc X87 N84 g_a0
  have K96 : Keep h0 h87 [a0] := K85.wr W87 (Or.inl (List.mem_of_getElem? (i := 0) rfl))
  have Z97 : n0 ≤ h87.size := Nat.le_trans Z86 (Keep.of_wr W87).1
  have pre98 : ∀ t, Steps p.tables e below (T87.setTop (mkF m 115 #[.val (.ref a0), .val (.int p1), .val (.ref a2), .val (.long (0 : Int64)), .second, .val (.int (0 : Int32)), .unset] [])) t → Steps p.tables e below (s₁.setTop (entryFrame m #[(.ref a0), (.int p1), (.ref a2)] 7)) t := fun t kt => by
    refine pre0 _ ?_
    show Steps p.tables e below (s₁.setTop (mkF m 0 #[.val (.ref a0), .val (.int p1), .val (.ref a2), .unset, .unset, .unset, .unset] [])) _
    refine XS.aloadN X0.here hx rfl (hb hby d3_0) rfl rfl ?_
    show Steps p.tables e below (s₁.setTop (mkF m 1 #[.val (.ref a0), .val (.int p1), .val (.ref a2), .unset, .unset, .unset, .unset] [(.ref a0)])) _
    refine st53 _ ?_
    show Steps p.tables e below (T53.setTop (mkF m 4 #[.val (.ref a0), .val (.int p1), .val (.ref a2), .unset, .unset, .unset, .unset] [])) _
    refine XS.iloadN X53.here hx rfl (hb hby d3_4) rfl ?_
    show Steps p.tables e below (T53.setTop (mkF m 5 #[.val (.ref a0), .val (.int p1), .val (.ref a2), .unset, .unset, .unset, .unset] [(.int p1)])) _
    refine XS.iconst X53.here hx rfl (hb hby d3_5) ?_
    show Steps p.tables e below (T53.setTop (mkF m 6 #[.val (.ref a0), .val (.int p1), .val (.ref a2), .unset, .unset, .unset, .unset] [(.int (1 : Int32)), (.int p1)])) _
    refine XS.icmpYes X53.here hx rfl (pc0 := 6) (pc' := 23) rfl (hb hby d3_6) rfl (flt hcap).2.1 (by decide) (by decide) ?_
    show Steps p.tables e below (T53.setTop (mkF m 23 #[.val (.ref a0), .val (.int p1), .val (.ref a2), .unset, .unset, .unset, .unset] [])) _
    refine XS.lconst X53.here hx rfl (hb hby d3_23) ?_
    show Steps p.tables e below (T53.setTop (mkF m 24 #[.val (.ref a0), .val (.int p1), .val (.ref a2), .unset, .unset, .unset, .unset] [(.long (0 : Int64))])) _
    refine XS.lstoreN X53.here hx rfl (hb hby d3_24) rfl (l' := #[.val (.ref a0), .val (.int p1), .val (.ref a2), .val (.long (0 : Int64)), .second, .unset, .unset]) rfl ?_
    show Steps p.tables e below (T53.setTop (mkF m 25 #[.val (.ref a0), .val (.int p1), .val (.ref a2), .val (.long (0 : Int64)), .second, .unset, .unset] [])) _
    refine XS.iconst X53.here hx rfl (hb hby d3_25) ?_
    show Steps p.tables e below (T53.setTop (mkF m 26 #[.val (.ref a0), .val (.int p1), .val (.ref a2), .val (.long (0 : Int64)), .second, .unset, .unset] [(.int (0 : Int32))])) _
    refine XS.istore X53.here hx rfl (hb hby d3_26) rfl (l' := #[.val (.ref a0), .val (.int p1), .val (.ref a2), .val (.long (0 : Int64)), .second, .val (.int (0 : Int32)), .unset]) rfl ?_
    show Steps p.tables e below (T53.setTop (mkF m 28 #[.val (.ref a0), .val (.int p1), .val (.ref a2), .val (.long (0 : Int64)), .second, .val (.int (0 : Int32)), .unset] [])) _
    refine XS.iload X53.here hx rfl (hb hby d3_28) rfl ?_
    show Steps p.tables e below (T53.setTop (mkF m 30 #[.val (.ref a0), .val (.int p1), .val (.ref a2), .val (.long (0 : Int64)), .second, .val (.int (0 : Int32)), .unset] [(.int (0 : Int32))])) _
    refine XS.aloadN X53.here hx rfl (hb hby d3_30) rfl rfl ?_
    show Steps p.tables e below (T53.setTop (mkF m 31 #[.val (.ref a0), .val (.int p1), .val (.ref a2), .val (.long (0 : Int64)), .second, .val (.int (0 : Int32)), .unset] [(.ref a2), (.int (0 : Int32))])) _
    refine X53.arraylength hx (by rw [e53]; exact Ar54.1) (State.isArrayOf_alike hZ.alike Ar54.2.1) (g := (mkF m 31 #[.val (.ref a0), .val (.int p1), .val (.ref a2), .val (.long (0 : Int64)), .second, .val (.int (0 : Int32)), .unset] [(.ref a2), (.int (0 : Int32))])) rfl rfl (hb hby d3_31) _ ?_
    rw [len_of S54 N54]
    show Steps p.tables e below (T53.setTop (mkF m 32 #[.val (.ref a0), .val (.int p1), .val (.ref a2), .val (.long (0 : Int64)), .second, .val (.int (0 : Int32)), .unset] [(.int (0 : Int32)), (.int (0 : Int32))])) _
    refine XS.icmpYes X53.here hx rfl (pc0 := 32) (pc' := 85) rfl (hb hby d3_32) rfl (flt (by decide : ¬ ((0 : Int32) < (0 : Int32)))).2.1 (by decide) (by decide) ?_
    show Steps p.tables e below (T53.setTop (mkF m 85 #[.val (.ref a0), .val (.int p1), .val (.ref a2), .val (.long (0 : Int64)), .second, .val (.int (0 : Int32)), .unset] [])) _
    refine XS.aloadN X53.here hx rfl (hb hby d3_85) rfl rfl ?_
    show Steps p.tables e below (T53.setTop (mkF m 86 #[.val (.ref a0), .val (.int p1), .val (.ref a2), .val (.long (0 : Int64)), .second, .val (.int (0 : Int32)), .unset] [(.ref a0)])) _
    refine XS.iloadN X53.here hx rfl (hb hby d3_86) rfl ?_
    show Steps p.tables e below (T53.setTop (mkF m 87 #[.val (.ref a0), .val (.int p1), .val (.ref a2), .val (.long (0 : Int64)), .second, .val (.int (0 : Int32)), .unset] [(.int p1), (.ref a0)])) _
    refine st55 _ ?_
    show Steps p.tables e below (T55.setTop (mkF m 90 #[.val (.ref a0), .val (.int p1), .val (.ref a2), .val (.long (0 : Int64)), .second, .val (.int (0 : Int32)), .unset] [])) _
    refine XS.aloadN X55.here hx rfl (hb hby d3_90) rfl rfl ?_
    show Steps p.tables e below (T55.setTop (mkF m 91 #[.val (.ref a0), .val (.int p1), .val (.ref a2), .val (.long (0 : Int64)), .second, .val (.int (0 : Int32)), .unset] [(.ref a0)])) _
    refine XS.aloadN X55.here hx rfl (hb hby d3_91) rfl rfl ?_
    show Steps p.tables e below (T55.setTop (mkF m 92 #[.val (.ref a0), .val (.int p1), .val (.ref a2), .val (.long (0 : Int64)), .second, .val (.int (0 : Int32)), .unset] [(.ref a2), (.ref a0)])) _
    refine st66 _ ?_
    show Steps p.tables e below (T66.setTop (mkF m 95 #[.val (.ref a0), .val (.int p1), .val (.ref a2), .val (.long (0 : Int64)), .second, .val (.int (0 : Int32)), .unset] [(.ref b66), (.ref a0)])) _
    refine st75 _ ?_
    show Steps p.tables e below (T75.setTop (mkF m 98 #[.val (.ref a0), .val (.int p1), .val (.ref a2), .val (.long (0 : Int64)), .second, .val (.int (0 : Int32)), .unset] [(.ref b66), (.ref a0)])) _
    refine st76 _ ?_
    show Steps p.tables e below (T76.setTop (mkF m 101 #[.val (.ref a0), .val (.int p1), .val (.ref a2), .val (.long (0 : Int64)), .second, .val (.int (0 : Int32)), .unset] [])) _
    refine XS.aloadN X76.here hx rfl (hb hby d3_101) rfl rfl ?_
    show Steps p.tables e below (T76.setTop (mkF m 102 #[.val (.ref a0), .val (.int p1), .val (.ref a2), .val (.long (0 : Int64)), .second, .val (.int (0 : Int32)), .unset] [(.ref a0)])) _
    refine XS.lloadN X76.here hx rfl (hb hby d3_102) rfl ?_
    show Steps p.tables e below (T76.setTop (mkF m 103 #[.val (.ref a0), .val (.int p1), .val (.ref a2), .val (.long (0 : Int64)), .second, .val (.int (0 : Int32)), .unset] [(.long (0 : Int64)), (.ref a0)])) _
    refine XS.iloadN X76.here hx rfl (hb hby d3_103) rfl ?_
    show Steps p.tables e below (T76.setTop (mkF m 104 #[.val (.ref a0), .val (.int p1), .val (.ref a2), .val (.long (0 : Int64)), .second, .val (.int (0 : Int32)), .unset] [(.int p1), (.long (0 : Int64)), (.ref a0)])) _
    refine XS.i2l X76.here hx rfl (hb hby d3_104) rfl ?_
    show Steps p.tables e below (T76.setTop (mkF m 105 #[.val (.ref a0), .val (.int p1), .val (.ref a2), .val (.long (0 : Int64)), .second, .val (.int (0 : Int32)), .unset] [(.long (p1.toInt64)), (.long (0 : Int64)), (.ref a0)])) _
    refine XS.ladd X76.here hx rfl (hb hby d3_105) rfl ?_
    show Steps p.tables e below (T76.setTop (mkF m 106 #[.val (.ref a0), .val (.int p1), .val (.ref a2), .val (.long (0 : Int64)), .second, .val (.int (0 : Int32)), .unset] [(.long ((0 : Int64) + (p1.toInt64))), (.ref a0)])) _
    refine XS.lconst X76.here hx rfl (hb hby d3_106) ?_
    show Steps p.tables e below (T76.setTop (mkF m 107 #[.val (.ref a0), .val (.int p1), .val (.ref a2), .val (.long (0 : Int64)), .second, .val (.int (0 : Int32)), .unset] [(.long (1 : Int64)), (.long ((0 : Int64) + (p1.toInt64))), (.ref a0)])) _
    refine XS.lsub X76.here hx rfl (hb hby d3_107) rfl ?_
    show Steps p.tables e below (T76.setTop (mkF m 108 #[.val (.ref a0), .val (.int p1), .val (.ref a2), .val (.long (0 : Int64)), .second, .val (.int (0 : Int32)), .unset] [(.long (((0 : Int64) + (p1.toInt64)) - (1 : Int64))), (.ref a0)])) _
    refine XS.iloadN X76.here hx rfl (hb hby d3_108) rfl ?_
    show Steps p.tables e below (T76.setTop (mkF m 109 #[.val (.ref a0), .val (.int p1), .val (.ref a2), .val (.long (0 : Int64)), .second, .val (.int (0 : Int32)), .unset] [(.int p1), (.long (((0 : Int64) + (p1.toInt64)) - (1 : Int64))), (.ref a0)])) _
    refine XS.i2l X76.here hx rfl (hb hby d3_109) rfl ?_
    show Steps p.tables e below (T76.setTop (mkF m 110 #[.val (.ref a0), .val (.int p1), .val (.ref a2), .val (.long (0 : Int64)), .second, .val (.int (0 : Int32)), .unset] [(.long (p1.toInt64)), (.long (((0 : Int64) + (p1.toInt64)) - (1 : Int64))), (.ref a0)])) _
    refine XS.ldiv X76.here hx rfl (hb hby d3_110) rfl (own_nz64 hcap) ?_
    show Steps p.tables e below (T76.setTop (mkF m 111 #[.val (.ref a0), .val (.int p1), .val (.ref a2), .val (.long (0 : Int64)), .second, .val (.int (0 : Int32)), .unset] [(.long ((((0 : Int64) + (p1.toInt64)) - (1 : Int64)) / (p1.toInt64))), (.ref a0)])) _
    refine XS.l2i X76.here hx rfl (hb hby d3_111) rfl ?_
    show Steps p.tables e below (T76.setTop (mkF m 112 #[.val (.ref a0), .val (.int p1), .val (.ref a2), .val (.long (0 : Int64)), .second, .val (.int (0 : Int32)), .unset] [(.int (((((0 : Int64) + (p1.toInt64)) - (1 : Int64)) / (p1.toInt64)).toInt32)), (.ref a0)])) _
    refine st87 _ ?_
    show Steps p.tables e below (T87.setTop (mkF m 115 #[.val (.ref a0), .val (.int p1), .val (.ref a2), .val (.long (0 : Int64)), .second, .val (.int (0 : Int32)), .unset] [])) _
    exact kt
  obtain ⟨fs, hr, hrun, hended, hW, hsame⟩ := X87.leave (v := none) (fun _ => rfl)
  refine ⟨_, _, pre98 _ ?_, hrun, hended, _, _, rfl, ?_, ⟨_, rfl⟩, hW, hsame.mono (by decide) (by decide)⟩
  · exact X87.returnOut hx Bd.returns (hb hby d3_115) hr
  · show Q3 Z a0 p1 a2 u_capacity u_lowerBound k_a2 h0 n0 _ T87.heap _
    rw [e87]
    exact ⟨b66, rfl, N95, K96, E88, F89, F90, F91⟩
theorem d6_0 : decode prog_43_method_5_code 0 = .ok (.aload_n 0, 1) := by decide +kernel
theorem d6_1 : decode prog_43_method_5_code 1 = .ok (.getfield 19, 3) := by decide +kernel
theorem d6_4 : decode prog_43_method_5_code 4 = .ok (.ireturn, 1) := by decide +kernel
theorem ef_6 (m : MethodId) (a0 : Addr) : entryFrame m #[(.ref a0)] 1 = mkF m 0 #[.val (.ref a0)] [] := by first | (simp [entryFrame, mkF, argsToLocals, Value.category]; done) | rfl
def Q6 (Z : State) (a0 : Addr) (u_capacity : Int32) (h0 : Heap) (n0 : Nat) (v : Option Value) (h : Heap) (L : List Loc) : Prop := v = some (.int u_capacity) ∧ Fr n0 L ∧ h = h0
set_option maxRecDepth 65536 in
set_option maxHeartbeats 40000000 in
theorem rm6 (l : Launch) (Z : State) (aq : Array Value) (hw : ∀ d ∈ tables_1, d.before aq Z = true) (ws : List Jvm.Cond) (a0 : Addr) (u_capacity : Int32) (h0 : Heap) (n0 : Nat) (Z0 : n0 ≤ h0.size) (E_a0 : Exa Z h0 a0 "com/example/packwright/packwright/core/bins/BinInstance") (F_capacity : Fld Z h0 a0 "com/example/packwright/packwright/core/bins/BinInstance" "capacity" "I" (.int u_capacity)) :
    MetFree l (⟨"com/example/packwright/packwright/core/bins/BinInstance", "capacity", "()I"⟩ : MethodName) (head1 (Jvm.Cond.code (⟨"com/example/packwright/packwright/core/bins/BinInstance", "capacity", "()I"⟩ : MethodName) prog_43_method_5_code 1 (some .int) :: ws) ({ frames := 0, cells := 0, slots := 0, locals := 0 } : Room)) (fun a U => a = #[(.ref a0)] ∧ Z.Warmed39 U.vm ∧ U.heap = h0) (fun _ _ _ _ _ => True) (fun _ U o U' => ∃ v L, o = .returned v ∧ Q6 Z a0 u_capacity h0 n0 v U'.heap L ∧ FrameEnd U o U' L ({ frames := 0, cells := 0, slots := 0, locals := 0 } : Room).cells ({ frames := 0, cells := 0, slots := 0, locals := 0 } : Room).slots) := by
  refine MetFree.of_bodySF (plainFor_of_name pn18630421) hisR ?_
  intro p e s m args below meth c s₁ Bd hml0 hP hK
  obtain ⟨rfl, hZ, hh⟩ := hP
  have hx := Bd.exec
  have hby := Bd.bytes
  have hml : c.maxLocals = 1 := hml0
  have hown : s.vm.findClass "com/example/packwright/packwright/core/bins/BinInstance" = some m.cls := findClass_of_methodNamed Bd.named
  have hnm := (name_of_methodNamed Bd.named Bd.method).1
  have X0 : Stand p l e ({ frames := 0, cells := 0, slots := 0, locals := 0 } : Room) s m #[(.ref a0)] below meth c s₁ [] 0 0 := Stand.of_body Bd
  have e0 : s₁.heap = h0 := by rw [← hh, Bd.state]; rfl
  have N0 := Fr.nil n0
  have pre0 : ∀ t, Steps p.tables e below (s₁.setTop (mkF m 0 #[.val (.ref a0)] [])) t → Steps p.tables e below (s₁.setTop (entryFrame m #[(.ref a0)] 1)) t := fun t k => castTop (ef_6 m a0) k
  obtain ⟨T100, X100, e100, st100⟩ := getF X0 hx hZ hown (host := "") (Or.inl (hw _ (List.mem_of_getElem? (i := 22) rfl))) Via.refl e0 F_capacity (g := (mkF m 1 #[.val (.ref a0)] [(.ref a0)])) rfl rfl (hb hby d6_1)
  have pre101 : ∀ t, Steps p.tables e below (T100.setTop (mkF m 4 #[.val (.ref a0)] [(.int u_capacity)])) t → Steps p.tables e below (s₁.setTop (entryFrame m #[(.ref a0)] 1)) t := fun t kt => by
    refine pre0 _ ?_
    show Steps p.tables e below (s₁.setTop (mkF m 0 #[.val (.ref a0)] [])) _
    refine XS.aloadN X0.here hx rfl (hb hby d6_0) rfl rfl ?_
    show Steps p.tables e below (s₁.setTop (mkF m 1 #[.val (.ref a0)] [(.ref a0)])) _
    refine st100 _ ?_
    show Steps p.tables e below (T100.setTop (mkF m 4 #[.val (.ref a0)] [(.int u_capacity)])) _
    exact kt
  obtain ⟨fs, hr, hrun, hended, hW, hsame⟩ := X100.leave (v := some (.int u_capacity)) (fun h => by rw [Bd.returns] at h; cases h)
  refine ⟨_, _, pre101 _ ?_, hrun, hended, _, _, rfl, ?_, ⟨_, rfl⟩, hW, hsame.mono (by decide) (by decide)⟩
  · exact retI X100 hx Bd.returns (hb hby d6_4) hr
  · show Q6 Z a0 u_capacity h0 n0 _ T100.heap _
    rw [e100]
    exact ⟨rfl, N0, rfl⟩
theorem d5_0 : decode prog_59_method_1_code 0 = .ok (.aload_n 0, 1) := by decide +kernel
theorem d5_1 : decode prog_59_method_1_code 1 = .ok (.invokespecial 1, 3) := by decide +kernel
theorem d5_4 : decode prog_59_method_1_code 4 = .ok (.aload_n 0, 1) := by decide +kernel
theorem d5_5 : decode prog_59_method_1_code 5 = .ok (.iconst (-1), 1) := by decide +kernel
theorem d5_6 : decode prog_59_method_1_code 6 = .ok (.putfield 7, 3) := by decide +kernel
theorem d5_9 : decode prog_59_method_1_code 9 = .ok (.aload_n 0, 1) := by decide +kernel
theorem d5_10 : decode prog_59_method_1_code 10 = .ok (.aload_n 1, 1) := by decide +kernel
theorem d5_11 : decode prog_59_method_1_code 11 = .ok (.invokevirtual 13, 3) := by decide +kernel
theorem d5_14 : decode prog_59_method_1_code 14 = .ok (.putfield 19, 3) := by decide +kernel
theorem d5_17 : decode prog_59_method_1_code 17 = .ok (.return_, 1) := by decide +kernel
theorem pn20650101 : plainName "com/example/packwright/packwright/core/bins/NextFitBins" = true := by first | (simp [plainName, overriddenIn]; done) | decide +kernel
theorem pd93421983 : parseMethodDescriptor "()I" = some ⟨[], some .int⟩ := by decide +kernel
theorem ef_5 (m : MethodId) (a0 : Addr) (a1 : Addr) : entryFrame m #[(.ref a0), (.ref a1)] 2 = mkF m 0 #[.val (.ref a0), .val (.ref a1)] [] := by first | (simp [entryFrame, mkF, argsToLocals, Value.category]; done) | rfl
def Q5 (Z : State) (a0 : Addr) (a1 : Addr) (u_open : Int32) (u_capacity : Int32) (u_free : Int32) (u_a1_capacity : Int32) (h0 : Heap) (n0 : Nat) (v : Option Value) (h : Heap) (L : List Loc) : Prop := v = none ∧ Fr n0 L ∧ Keep h0 h [a0] ∧ Exa Z h a0 "com/example/packwright/packwright/core/bins/NextFitBins" ∧ Fld Z h a0 "com/example/packwright/packwright/core/bins/NextFitBins" "open" "I" (.int (-1 : Int32)) ∧ Fld Z h a0 "com/example/packwright/packwright/core/bins/NextFitBins" "capacity" "I" (.int u_a1_capacity) ∧ Fld Z h a0 "com/example/packwright/packwright/core/bins/NextFitBins" "free" "I" (.int u_free)
set_option maxRecDepth 65536 in
set_option maxHeartbeats 40000000 in
theorem rm5 (l : Launch) (Z : State) (aq : Array Value) (hw : ∀ d ∈ tables_1, d.before aq Z = true) (ws : List Jvm.Cond) (a0 : Addr) (a1 : Addr) (u_open : Int32) (u_capacity : Int32) (u_free : Int32) (u_a1_capacity : Int32) (h0 : Heap) (n0 : Nat) (Z0 : n0 ≤ h0.size) (E_a0 : Exa Z h0 a0 "com/example/packwright/packwright/core/bins/NextFitBins") (F_open : Fld Z h0 a0 "com/example/packwright/packwright/core/bins/NextFitBins" "open" "I" (.int u_open)) (F_capacity : Fld Z h0 a0 "com/example/packwright/packwright/core/bins/NextFitBins" "capacity" "I" (.int u_capacity)) (F_free : Fld Z h0 a0 "com/example/packwright/packwright/core/bins/NextFitBins" "free" "I" (.int u_free)) (g_a0 : n0 ≤ a0) (E_a1 : Exa Z h0 a1 "com/example/packwright/packwright/core/bins/BinInstance") (F_a1_capacity : Fld Z h0 a1 "com/example/packwright/packwright/core/bins/BinInstance" "capacity" "I" (.int u_a1_capacity)) (ne_a1 : a1 ≠ a0) :
    MetFree l (⟨"com/example/packwright/packwright/core/bins/NextFitBins", "<init>", "(Lcom/example/packwright/packwright/core/bins/BinInstance;)V"⟩ : MethodName) (head1 (Jvm.Cond.code (⟨"com/example/packwright/packwright/core/bins/NextFitBins", "<init>", "(Lcom/example/packwright/packwright/core/bins/BinInstance;)V"⟩ : MethodName) prog_59_method_1_code 2 none :: ws) ({ frames := 1, cells := 0, slots := 0, locals := 13 } : Room)) (fun a U => a = #[(.ref a0), (.ref a1)] ∧ Z.Warmed39 U.vm ∧ U.heap = h0) (fun _ _ _ _ _ => True) (fun _ U o U' => ∃ v L, o = .returned v ∧ Q5 Z a0 a1 u_open u_capacity u_free u_a1_capacity h0 n0 v U'.heap L ∧ FrameEnd U o U' L ({ frames := 1, cells := 0, slots := 0, locals := 13 } : Room).cells ({ frames := 1, cells := 0, slots := 0, locals := 13 } : Room).slots) := by
  refine MetFree.of_bodySF (plainFor_of_name pn20650101) hisR ?_
  intro p e s m args below meth c s₁ Bd hml0 hP hK
  obtain ⟨rfl, hZ, hh⟩ := hP
  have hx := Bd.exec
  have hby := Bd.bytes
  have hml : c.maxLocals = 2 := hml0
  have hown : s.vm.findClass "com/example/packwright/packwright/core/bins/NextFitBins" = some m.cls := findClass_of_methodNamed Bd.named
  have hnm := (name_of_methodNamed Bd.named Bd.method).1
  have X0 : Stand p l e ({ frames := 1, cells := 0, slots := 0, locals := 13 } : Room) s m #[(.ref a0), (.ref a1)] below meth c s₁ [] 0 0 := Stand.of_body Bd
  have e0 : s₁.heap = h0 := by rw [← hh, Bd.state]; rfl
  have N0 := Fr.nil n0
  have K0 : Keep h0 h0 [a0] := Keep.refl _ _
  have pre0 : ∀ t, Steps p.tables e below (s₁.setTop (mkF m 0 #[.val (.ref a0), .val (.ref a1)] [])) t → Steps p.tables e below (s₁.setTop (entryFrame m #[(.ref a0), (.ref a1)] 2)) t := fun t k => castTop (ef_5 m a0 a1) k
  obtain ⟨T125, X125, e125, st125⟩ := initO X0 hx hZ hown (hw _ (List.mem_of_getElem? (i := 40) rfl)) (hw _ (List.mem_of_getElem? (i := 20) rfl)) (hw _ (List.mem_of_getElem? (i := 21) rfl)) e0 (g := (mkF m 1 #[.val (.ref a0), .val (.ref a1)] [(.ref a0)])) rfl (by rw [hml]; rfl) rfl (hb hby d5_1) (by decide) (W := 0) (by show 2 * 0 + _ ≤ _; exact Nat.le_of_eq rfl) (by decide)
  obtain ⟨T126, h126, X126, e126, W126, st126⟩ := putF X125 hx hZ hown (host := "") (Or.inl (hw _ (List.mem_of_getElem? (i := 41) rfl))) Via.refl e125 F_open E_a0 (Or.inl (hw _ (List.mem_of_getElem? (i := 42) rfl))) (hw _ (List.mem_of_getElem? (i := 10) rfl)) (ty := .int) (by decide) rfl rfl (g := (mkF m 6 #[.val (.ref a0), .val (.ref a1)] [(.int (-1 : Int32)), (.ref a0)])) rfl rfl (hb hby d5_6)
  have E127 := E_a0.wr W126
  have F128 : Fld Z h126 a0 "com/example/packwright/packwright/core/bins/NextFitBins" "open" "I" (.int (-1 : Int32)) := F_open.same W126
  have F129 := F_capacity.other W126 (Or.inr (slot_ne (Or.inr (hw _ (List.mem_of_getElem? (i := 49) rfl))) (Or.inl (hw _ (List.mem_of_getElem? (i := 42) rfl))) (by decide) (t := .int) (t' := .int) (by decide) (by decide)))
  have F130 := F_free.other W126 (Or.inr (slot_ne (Or.inl (hw _ (List.mem_of_getElem? (i := 56) rfl))) (Or.inl (hw _ (List.mem_of_getElem? (i := 42) rfl))) (by decide) (t := .int) (t' := .int) (by decide) (by decide)))
  have E131 := E_a1.wr W126
  have F132 := F_a1_capacity.other W126 (Or.inl ne_a1)
  have N133 := Fr.snoc X126 N0 g_a0
  have K134 : Keep h0 h126 [a0] := K0.wr W126 (Or.inl (List.mem_of_getElem? (i := 0) rfl))
  have Z135 : n0 ≤ h126.size := Nat.le_trans Z0 (Keep.of_wr W126).1
  obtain ⟨cq136, kq136, q136a, q136b, q136c⟩ := isOf hZ e126 E131
  obtain ⟨_, _, ⟨T136, L136, k136, n136⟩, -, X136, ⟨Lc136, hQ136, l136, y136, z136⟩, st136⟩ := X126.virtualBack hx (y := (⟨"com/example/packwright/packwright/core/bins/BinInstance", "capacity", "()I"⟩ : MethodName)) (z := (⟨"com/example/packwright/packwright/core/bins/BinInstance", "capacity", "()I"⟩ : MethodName)) hown (mvT hZ (hw _ (List.mem_of_getElem? (i := 43) rfl))) (mvT hZ (hw _ (List.mem_of_getElem? (i := 44) rfl))) (notFace_of_selects (args := #[]) (mvT hZ (hw _ (List.mem_of_getElem? (i := 46) rfl)))) (mvT hZ (hw _ (List.mem_of_getElem? (i := 46) rfl))) (mvT hZ (hw _ (List.mem_of_getElem? (i := 45) rfl))) (by decide) (backOf (W := 1) (rm6 l Z aq hw [] a1 u_a1_capacity h126 n0 Z135 E131 F132) hZ (hw _ (List.mem_of_getElem? (i := 47) rfl)) (hw _ (List.mem_of_getElem? (i := 14) rfl)) (by decide) (by decide)) q136a q136c (g := (mkF m 11 #[.val (.ref a0), .val (.ref a1)] [(.ref a1), (.ref a0)])) rfl (by rw [hml]; rfl) (Steps.refl _) (argsL := []) (rest := [(.ref a0)]) (lenOf pd93421983 rfl) rfl (by show 2 * 0 + _ ≤ _; exact Nat.le_of_eq rfl) (hb hby d5_11) (fun _ _ => ⟨rfl, e126, (by decide : 0 + 0 ≤ _), (by decide : 0 + 0 ≤ _)⟩)
  dsimp only [Pt.U, Pt.locs, Pt.cells, Pt.slots] at X136 l136 y136 z136 st136 hQ136
  subst l136 y136 z136
  obtain ⟨rfl, N136q, e136⟩ := hQ136
  have N137 := Fr.app N133 N136q
  obtain ⟨T138, h138, X138, e138, W138, st138⟩ := putF X136 hx hZ hown (host := "") (Or.inl (hw _ (List.mem_of_getElem? (i := 48) rfl))) Via.refl e136 F129 E127 (Or.inr ⟨(hw _ (List.mem_of_getElem? (i := 49) rfl)), rfl, hnm⟩) (hw _ (List.mem_of_getElem? (i := 10) rfl)) (ty := .int) (by decide) rfl rfl (g := (mkF m 14 #[.val (.ref a0), .val (.ref a1)] [(.int u_a1_capacity), (.ref a0)])) rfl rfl (hb hby d5_14)
  have E139 := E127.wr W138
  have F140 := F128.other W138 (Or.inr (slot_ne (Or.inl (hw _ (List.mem_of_getElem? (i := 42) rfl))) (Or.inr (hw _ (List.mem_of_getElem? (i := 49) rfl))) (by decide) (t := .int) (t' := .int) (by decide) (by decide)))
  have F141 : Fld Z h138 a0 "com/example/packwright/packwright/core/bins/NextFitBins" "capacity" "I" (.int u_a1_capacity) := F129.same W138
  have F142 := F130.other W138 (Or.inr (slot_ne (Or.inl (hw _ (List.mem_of_getElem? (i := 56) rfl))) (Or.inr (hw _ (List.mem_of_getElem? (i := 49) rfl))) (by decide) (t := .int) (t' := .int) (by decide) (by decide)))
  have E143 := E131.wr W138
  have F144 := F132.other W138 (Or.inl ne_a1)
  have N145 := Fr.snoc X138 N137 g_a0
  have K146 : Keep h0 h138 [a0] := K134.wr W138 (Or.inl (List.mem_of_getElem? (i := 0) rfl))
  have Z147 : n0 ≤ h138.size := Nat.le_trans Z135 (Keep.of_wr W138).1
  have pre148 : ∀ t, Steps p.tables e below (T138.setTop (mkF m 17 #[.val (.ref a0), .val (.ref a1)] [])) t → Steps p.tables e below (s₁.setTop (entryFrame m #[(.ref a0), (.ref a1)] 2)) t := fun t kt => by
    refine pre0 _ ?_
    show Steps p.tables e below (s₁.setTop (mkF m 0 #[.val (.ref a0), .val (.ref a1)] [])) _
    refine XS.aloadN X0.here hx rfl (hb hby d5_0) rfl rfl ?_
    show Steps p.tables e below (s₁.setTop (mkF m 1 #[.val (.ref a0), .val (.ref a1)] [(.ref a0)])) _
    refine st125 _ ?_
    show Steps p.tables e below (T125.setTop (mkF m 4 #[.val (.ref a0), .val (.ref a1)] [])) _
    refine XS.aloadN X125.here hx rfl (hb hby d5_4) rfl rfl ?_
    show Steps p.tables e below (T125.setTop (mkF m 5 #[.val (.ref a0), .val (.ref a1)] [(.ref a0)])) _
    refine XS.iconst X125.here hx rfl (hb hby d5_5) ?_
    show Steps p.tables e below (T125.setTop (mkF m 6 #[.val (.ref a0), .val (.ref a1)] [(.int (-1 : Int32)), (.ref a0)])) _
    refine st126 _ ?_
    show Steps p.tables e below (T126.setTop (mkF m 9 #[.val (.ref a0), .val (.ref a1)] [])) _
    refine XS.aloadN X126.here hx rfl (hb hby d5_9) rfl rfl ?_
    show Steps p.tables e below (T126.setTop (mkF m 10 #[.val (.ref a0), .val (.ref a1)] [(.ref a0)])) _
    refine XS.aloadN X126.here hx rfl (hb hby d5_10) rfl rfl ?_
    show Steps p.tables e below (T126.setTop (mkF m 11 #[.val (.ref a0), .val (.ref a1)] [(.ref a1), (.ref a0)])) _
    refine st136.trans ?_
    show Steps p.tables e below (T136.setTop (mkF m 14 #[.val (.ref a0), .val (.ref a1)] [(.int u_a1_capacity), (.ref a0)])) _
    refine st138 _ ?_
    show Steps p.tables e below (T138.setTop (mkF m 17 #[.val (.ref a0), .val (.ref a1)] [])) _
    exact kt
  obtain ⟨fs, hr, hrun, hended, hW, hsame⟩ := X138.leave (v := none) (fun _ => rfl)
  refine ⟨_, _, pre148 _ ?_, hrun, hended, _, _, rfl, ?_, ⟨_, rfl⟩, hW, hsame.mono (by decide) (by decide)⟩
  · exact X138.returnOut hx Bd.returns (hb hby d5_17) hr
  · show Q5 Z a0 a1 u_open u_capacity u_free u_a1_capacity h0 n0 _ T138.heap _
    rw [e138]
    exact ⟨rfl, N145, K146, E139, F140, F141, F142⟩
theorem d7_0 : decode prog_59_method_2_code 0 = .ok (.iload_n 1, 1) := by decide +kernel
theorem d7_1 : decode prog_59_method_2_code 1 = .ok (.aload_n 0, 1) := by decide +kernel
theorem d7_2 : decode prog_59_method_2_code 2 = .ok (.getfield 21, 3) := by decide +kernel
theorem d7_5 : decode prog_59_method_2_code 5 = .ok (.if_icmp .le 21, 3) := by decide +kernel
theorem d7_8 : decode prog_59_method_2_code 8 = .ok (.aload_n 0, 1) := by decide +kernel
theorem d7_9 : decode prog_59_method_2_code 9 = .ok (.dup, 1) := by decide +kernel
theorem d7_10 : decode prog_59_method_2_code 10 = .ok (.getfield 7, 3) := by decide +kernel
theorem d7_13 : decode prog_59_method_2_code 13 = .ok (.iconst 1, 1) := by decide +kernel
theorem d7_14 : decode prog_59_method_2_code 14 = .ok (.iadd, 1) := by decide +kernel
theorem d7_15 : decode prog_59_method_2_code 15 = .ok (.putfield 7, 3) := by decide +kernel
theorem d7_18 : decode prog_59_method_2_code 18 = .ok (.aload_n 0, 1) := by decide +kernel
theorem d7_19 : decode prog_59_method_2_code 19 = .ok (.aload_n 0, 1) := by decide +kernel
theorem d7_20 : decode prog_59_method_2_code 20 = .ok (.getfield 19, 3) := by decide +kernel
theorem d7_23 : decode prog_59_method_2_code 23 = .ok (.putfield 21, 3) := by decide +kernel
theorem d7_26 : decode prog_59_method_2_code 26 = .ok (.aload_n 0, 1) := by decide +kernel
theorem d7_27 : decode prog_59_method_2_code 27 = .ok (.dup, 1) := by decide +kernel
theorem d7_28 : decode prog_59_method_2_code 28 = .ok (.getfield 21, 3) := by decide +kernel
theorem d7_31 : decode prog_59_method_2_code 31 = .ok (.iload_n 1, 1) := by decide +kernel
theorem d7_32 : decode prog_59_method_2_code 32 = .ok (.isub, 1) := by decide +kernel
theorem d7_33 : decode prog_59_method_2_code 33 = .ok (.putfield 21, 3) := by decide +kernel
theorem d7_36 : decode prog_59_method_2_code 36 = .ok (.aload_n 0, 1) := by decide +kernel
theorem d7_37 : decode prog_59_method_2_code 37 = .ok (.getfield 7, 3) := by decide +kernel
theorem d7_40 : decode prog_59_method_2_code 40 = .ok (.ireturn, 1) := by decide +kernel
theorem ef_7 (m : MethodId) (a0 : Addr) (p1 : Int32) : entryFrame m #[(.ref a0), (.int p1)] 2 = mkF m 0 #[.val (.ref a0), .val (.int p1)] [] := by first | (simp [entryFrame, mkF, argsToLocals, Value.category]; done) | rfl
def Q7 (Z : State) (a0 : Addr) (p1 : Int32) (u_open : Int32) (u_capacity : Int32) (u_free : Int32) (h0 : Heap) (n0 : Nat) (v : Option Value) (h : Heap) (L : List Loc) : Prop := v = some (.int (if u_free < p1 then (u_open + (1 : Int32)) else u_open)) ∧ Fr n0 L ∧ Keep h0 h [a0] ∧ Exa Z h a0 "com/example/packwright/packwright/core/bins/NextFitBins" ∧ Fld Z h a0 "com/example/packwright/packwright/core/bins/NextFitBins" "open" "I" (.int (if u_free < p1 then (u_open + (1 : Int32)) else u_open)) ∧ Fld Z h a0 "com/example/packwright/packwright/core/bins/NextFitBins" "capacity" "I" (.int u_capacity) ∧ Fld Z h a0 "com/example/packwright/packwright/core/bins/NextFitBins" "free" "I" (.int (if u_free < p1 then (u_capacity - p1) else (u_free - p1)))
set_option maxRecDepth 65536 in
set_option maxHeartbeats 40000000 in
theorem rm7 (l : Launch) (Z : State) (aq : Array Value) (hw : ∀ d ∈ tables_1, d.before aq Z = true) (ws : List Jvm.Cond) (a0 : Addr) (p1 : Int32) (u_open : Int32) (u_capacity : Int32) (u_free : Int32) (h0 : Heap) (n0 : Nat) (Z0 : n0 ≤ h0.size) (E_a0 : Exa Z h0 a0 "com/example/packwright/packwright/core/bins/NextFitBins") (F_open : Fld Z h0 a0 "com/example/packwright/packwright/core/bins/NextFitBins" "open" "I" (.int u_open)) (F_capacity : Fld Z h0 a0 "com/example/packwright/packwright/core/bins/NextFitBins" "capacity" "I" (.int u_capacity)) (F_free : Fld Z h0 a0 "com/example/packwright/packwright/core/bins/NextFitBins" "free" "I" (.int u_free)) (g_a0 : n0 ≤ a0) :
    MetFree l (⟨"com/example/packwright/packwright/core/bins/NextFitBins", "place", "(I)I"⟩ : MethodName) (head1 (Jvm.Cond.code (⟨"com/example/packwright/packwright/core/bins/NextFitBins", "place", "(I)I"⟩ : MethodName) prog_59_method_2_code 2 (some .int) :: ws) ({ frames := 0, cells := 0, slots := 0, locals := 0 } : Room)) (fun a U => a = #[(.ref a0), (.int p1)] ∧ Z.Warmed39 U.vm ∧ U.heap = h0) (fun _ _ _ _ _ => True) (fun _ U o U' => ∃ v L, o = .returned v ∧ Q7 Z a0 p1 u_open u_capacity u_free h0 n0 v U'.heap L ∧ FrameEnd U o U' L ({ frames := 0, cells := 0, slots := 0, locals := 0 } : Room).cells ({ frames := 0, cells := 0, slots := 0, locals := 0 } : Room).slots) := by
  refine MetFree.of_bodySF (plainFor_of_name pn20650101) hisR ?_
  intro p e s m args below meth c s₁ Bd hml0 hP hK
  obtain ⟨rfl, hZ, hh⟩ := hP
  have hx := Bd.exec
  have hby := Bd.bytes
  have hml : c.maxLocals = 2 := hml0
  have hown : s.vm.findClass "com/example/packwright/packwright/core/bins/NextFitBins" = some m.cls := findClass_of_methodNamed Bd.named
  have hnm := (name_of_methodNamed Bd.named Bd.method).1
  have X0 : Stand p l e ({ frames := 0, cells := 0, slots := 0, locals := 0 } : Room) s m #[(.ref a0), (.int p1)] below meth c s₁ [] 0 0 := Stand.of_body Bd
  have e0 : s₁.heap = h0 := by rw [← hh, Bd.state]; rfl
  have N0 := Fr.nil n0
  have K0 : Keep h0 h0 [a0] := Keep.refl _ _
  have pre0 : ∀ t, Steps p.tables e below (s₁.setTop (mkF m 0 #[.val (.ref a0), .val (.int p1)] [])) t → Steps p.tables e below (s₁.setTop (entryFrame m #[(.ref a0), (.int p1)] 2)) t := fun t k => castTop (ef_7 m a0 p1) k
  obtain ⟨T190, X190, e190, st190⟩ := getF X0 hx hZ hown (host := "") (Or.inl (hw _ (List.mem_of_getElem? (i := 55) rfl))) Via.refl e0 F_free (g := (mkF m 2 #[.val (.ref a0), .val (.int p1)] [(.ref a0), (.int p1)])) rfl rfl (hb hby d7_2)
  have pre191 : ∀ t, Steps p.tables e below (T190.setTop (mkF m 5 #[.val (.ref a0), .val (.int p1)] [(.int u_free), (.int p1)])) t → Steps p.tables e below (s₁.setTop (entryFrame m #[(.ref a0), (.int p1)] 2)) t := fun t kt => by
    refine pre0 _ ?_
    show Steps p.tables e below (s₁.setTop (mkF m 0 #[.val (.ref a0), .val (.int p1)] [])) _
    refine XS.iloadN X0.here hx rfl (hb hby d7_0) rfl ?_
    show Steps p.tables e below (s₁.setTop (mkF m 1 #[.val (.ref a0), .val (.int p1)] [(.int p1)])) _
    refine XS.aloadN X0.here hx rfl (hb hby d7_1) rfl rfl ?_
    show Steps p.tables e below (s₁.setTop (mkF m 2 #[.val (.ref a0), .val (.int p1)] [(.ref a0), (.int p1)])) _
    refine st190 _ ?_
    show Steps p.tables e below (T190.setTop (mkF m 5 #[.val (.ref a0), .val (.int p1)] [(.int u_free), (.int p1)])) _
    exact kt
  by_cases hc192 : u_free < p1
  · skip
    obtain ⟨T193, X193, e193, st193⟩ := getF X190 hx hZ hown (host := "") (Or.inl (hw _ (List.mem_of_getElem? (i := 41) rfl))) Via.refl e190 F_open (g := (mkF m 10 #[.val (.ref a0), .val (.int p1)] [(.ref a0), (.ref a0)])) rfl rfl (hb hby d7_10)
    obtain ⟨T194, h194, X194, e194, W194, st194⟩ := putF X193 hx hZ hown (host := "") (Or.inl (hw _ (List.mem_of_getElem? (i := 41) rfl))) Via.refl e193 F_open E_a0 (Or.inl (hw _ (List.mem_of_getElem? (i := 42) rfl))) (hw _ (List.mem_of_getElem? (i := 10) rfl)) (ty := .int) (by decide) rfl rfl (g := (mkF m 15 #[.val (.ref a0), .val (.int p1)] [(.int (u_open + (1 : Int32))), (.ref a0)])) rfl rfl (hb hby d7_15)
    have E195 := E_a0.wr W194
    have F196 : Fld Z h194 a0 "com/example/packwright/packwright/core/bins/NextFitBins" "open" "I" (.int (u_open + (1 : Int32))) := F_open.same W194
    have F197 := F_capacity.other W194 (Or.inr (slot_ne (Or.inr (hw _ (List.mem_of_getElem? (i := 49) rfl))) (Or.inl (hw _ (List.mem_of_getElem? (i := 42) rfl))) (by decide) (t := .int) (t' := .int) (by decide) (by decide)))
    have F198 := F_free.other W194 (Or.inr (slot_ne (Or.inl (hw _ (List.mem_of_getElem? (i := 56) rfl))) (Or.inl (hw _ (List.mem_of_getElem? (i := 42) rfl))) (by decide) (t := .int) (t' := .int) (by decide) (by decide)))
    have N199 := Fr.snoc X194 N0 g_a0
    have K200 : Keep h0 h194 [a0] := K0.wr W194 (Or.inl (List.mem_of_getElem? (i := 0) rfl))
    have Z201 : n0 ≤ h194.size := Nat.le_trans Z0 (Keep.of_wr W194).1
    obtain ⟨T202, X202, e202, st202⟩ := getF X194 hx hZ hown (host := "") (Or.inl (hw _ (List.mem_of_getElem? (i := 48) rfl))) Via.refl e194 F197 (g := (mkF m 20 #[.val (.ref a0), .val (.int p1)] [(.ref a0), (.ref a0)])) rfl rfl (hb hby d7_20)
    obtain ⟨T203, h203, X203, e203, W203, st203⟩ := putF X202 hx hZ hown (host := "") (Or.inl (hw _ (List.mem_of_getElem? (i := 55) rfl))) Via.refl e202 F198 E195 (Or.inl (hw _ (List.mem_of_getElem? (i := 56) rfl))) (hw _ (List.mem_of_getElem? (i := 10) rfl)) (ty := .int) (by decide) rfl rfl (g := (mkF m 23 #[.val (.ref a0), .val (.int p1)] [(.int u_capacity), (.ref a0)])) rfl rfl (hb hby d7_23)
    have E204 := E195.wr W203
    have F205 := F196.other W203 (Or.inr (slot_ne (Or.inl (hw _ (List.mem_of_getElem? (i := 42) rfl))) (Or.inl (hw _ (List.mem_of_getElem? (i := 56) rfl))) (by decide) (t := .int) (t' := .int) (by decide) (by decide)))
    have F206 := F197.other W203 (Or.inr (slot_ne (Or.inr (hw _ (List.mem_of_getElem? (i := 49) rfl))) (Or.inl (hw _ (List.mem_of_getElem? (i := 56) rfl))) (by decide) (t := .int) (t' := .int) (by decide) (by decide)))
    have F207 : Fld Z h203 a0 "com/example/packwright/packwright/core/bins/NextFitBins" "free" "I" (.int u_capacity) := F198.same W203
    have N208 := Fr.snoc X203 N199 g_a0
    have K209 : Keep h0 h203 [a0] := K200.wr W203 (Or.inl (List.mem_of_getElem? (i := 0) rfl))
    have Z210 : n0 ≤ h203.size := Nat.le_trans Z201 (Keep.of_wr W203).1
    obtain ⟨T211, X211, e211, st211⟩ := getF X203 hx hZ hown (host := "") (Or.inl (hw _ (List.mem_of_getElem? (i := 55) rfl))) Via.refl e203 F207 (g := (mkF m 28 #[.val (.ref a0), .val (.int p1)] [(.ref a0), (.ref a0)])) rfl rfl (hb hby d7_28)
    obtain ⟨T212, h212, X212, e212, W212, st212⟩ := putF X211 hx hZ hown (host := "") (Or.inl (hw _ (List.mem_of_getElem? (i := 55) rfl))) Via.refl e211 F207 E204 (Or.inl (hw _ (List.mem_of_getElem? (i := 56) rfl))) (hw _ (List.mem_of_getElem? (i := 10) rfl)) (ty := .int) (by decide) rfl rfl (g := (mkF m 33 #[.val (.ref a0), .val (.int p1)] [(.int (u_capacity - p1)), (.ref a0)])) rfl rfl (hb hby d7_33)
    have E213 := E204.wr W212
    have F214 := F205.other W212 (Or.inr (slot_ne (Or.inl (hw _ (List.mem_of_getElem? (i := 42) rfl))) (Or.inl (hw _ (List.mem_of_getElem? (i := 56) rfl))) (by decide) (t := .int) (t' := .int) (by decide) (by decide)))
    have F215 := F206.other W212 (Or.inr (slot_ne (Or.inr (hw _ (List.mem_of_getElem? (i := 49) rfl))) (Or.inl (hw _ (List.mem_of_getElem? (i := 56) rfl))) (by decide) (t := .int) (t' := .int) (by decide) (by decide)))
    have F216 : Fld Z h212 a0 "com/example/packwright/packwright/core/bins/NextFitBins" "free" "I" (.int (u_capacity - p1)) := F207.same W212
    have N217 := Fr.snoc X212 N208 g_a0
    have K218 : Keep h0 h212 [a0] := K209.wr W212 (Or.inl (List.mem_of_getElem? (i := 0) rfl))
    have Z219 : n0 ≤ h212.size := Nat.le_trans Z210 (Keep.of_wr W212).1
    obtain ⟨T220, X220, e220, st220⟩ := getF X212 hx hZ hown (host := "") (Or.inl (hw _ (List.mem_of_getElem? (i := 41) rfl))) Via.refl e212 F214 (g := (mkF m 37 #[.val (.ref a0), .val (.int p1)] [(.ref a0)])) rfl rfl (hb hby d7_37)
    have pre221 : ∀ t, Steps p.tables e below (T220.setTop (mkF m 40 #[.val (.ref a0), .val (.int p1)] [(.int (u_open + (1 : Int32)))])) t → Steps p.tables e below (s₁.setTop (entryFrame m #[(.ref a0), (.int p1)] 2)) t := fun t kt => by
      refine pre191 _ ?_
      show Steps p.tables e below (T190.setTop (mkF m 5 #[.val (.ref a0), .val (.int p1)] [(.int u_free), (.int p1)])) _
      refine XS.icmpNo X190.here hx rfl (hb hby d7_5) rfl (tlt hc192).2.2.2 ?_
      show Steps p.tables e below (T190.setTop (mkF m 8 #[.val (.ref a0), .val (.int p1)] [])) _
      refine XS.aloadN X190.here hx rfl (hb hby d7_8) rfl rfl ?_
      show Steps p.tables e below (T190.setTop (mkF m 9 #[.val (.ref a0), .val (.int p1)] [(.ref a0)])) _
      refine XS.dup X190.here hx rfl (hb hby d7_9) rfl rfl ?_
      show Steps p.tables e below (T190.setTop (mkF m 10 #[.val (.ref a0), .val (.int p1)] [(.ref a0), (.ref a0)])) _
      refine st193 _ ?_
      show Steps p.tables e below (T193.setTop (mkF m 13 #[.val (.ref a0), .val (.int p1)] [(.int u_open), (.ref a0)])) _
      refine XS.iconst X193.here hx rfl (hb hby d7_13) ?_
      show Steps p.tables e below (T193.setTop (mkF m 14 #[.val (.ref a0), .val (.int p1)] [(.int (1 : Int32)), (.int u_open), (.ref a0)])) _
      refine XS.iadd X193.here hx rfl (hb hby d7_14) rfl ?_
      show Steps p.tables e below (T193.setTop (mkF m 15 #[.val (.ref a0), .val (.int p1)] [(.int (u_open + (1 : Int32))), (.ref a0)])) _
      refine st194 _ ?_
      show Steps p.tables e below (T194.setTop (mkF m 18 #[.val (.ref a0), .val (.int p1)] [])) _
      refine XS.aloadN X194.here hx rfl (hb hby d7_18) rfl rfl ?_
      show Steps p.tables e below (T194.setTop (mkF m 19 #[.val (.ref a0), .val (.int p1)] [(.ref a0)])) _
      refine XS.aloadN X194.here hx rfl (hb hby d7_19) rfl rfl ?_
      show Steps p.tables e below (T194.setTop (mkF m 20 #[.val (.ref a0), .val (.int p1)] [(.ref a0), (.ref a0)])) _
      refine st202 _ ?_
      show Steps p.tables e below (T202.setTop (mkF m 23 #[.val (.ref a0), .val (.int p1)] [(.int u_capacity), (.ref a0)])) _
      refine st203 _ ?_
      show Steps p.tables e below (T203.setTop (mkF m 26 #[.val (.ref a0), .val (.int p1)] [])) _
      refine XS.aloadN X203.here hx rfl (hb hby d7_26) rfl rfl ?_
      show Steps p.tables e below (T203.setTop (mkF m 27 #[.val (.ref a0), .val (.int p1)] [(.ref a0)])) _
      refine XS.dup X203.here hx rfl (hb hby d7_27) rfl rfl ?_
      show Steps p.tables e below (T203.setTop (mkF m 28 #[.val (.ref a0), .val (.int p1)] [(.ref a0), (.ref a0)])) _
      refine st211 _ ?_
      show Steps p.tables e below (T211.setTop (mkF m 31 #[.val (.ref a0), .val (.int p1)] [(.int u_capacity), (.ref a0)])) _
      refine XS.iloadN X211.here hx rfl (hb hby d7_31) rfl ?_
      show Steps p.tables e below (T211.setTop (mkF m 32 #[.val (.ref a0), .val (.int p1)] [(.int p1), (.int u_capacity), (.ref a0)])) _
      refine XS.isub X211.here hx rfl (hb hby d7_32) rfl ?_
      show Steps p.tables e below (T211.setTop (mkF m 33 #[.val (.ref a0), .val (.int p1)] [(.int (u_capacity - p1)), (.ref a0)])) _
      refine st212 _ ?_
      show Steps p.tables e below (T212.setTop (mkF m 36 #[.val (.ref a0), .val (.int p1)] [])) _
      refine XS.aloadN X212.here hx rfl (hb hby d7_36) rfl rfl ?_
      show Steps p.tables e below (T212.setTop (mkF m 37 #[.val (.ref a0), .val (.int p1)] [(.ref a0)])) _
      refine st220 _ ?_
      show Steps p.tables e below (T220.setTop (mkF m 40 #[.val (.ref a0), .val (.int p1)] [(.int (u_open + (1 : Int32)))])) _
      exact kt
    obtain ⟨fs, hr, hrun, hended, hW, hsame⟩ := X220.leave (v := some (.int (u_open + (1 : Int32)))) (fun h => by rw [Bd.returns] at h; cases h)
    refine ⟨_, _, pre221 _ ?_, hrun, hended, _, _, rfl, ?_, ⟨_, rfl⟩, hW, hsame.mono (by decide) (by decide)⟩
    · exact retI X220 hx Bd.returns (hb hby d7_40) hr
    · show Q7 Z a0 p1 u_open u_capacity u_free h0 n0 _ T220.heap _
      rw [e220]
      exact ⟨(own_rI (by rw [if_pos hc192] : (u_open + (1 : Int32)) = (if u_free < p1 then (u_open + (1 : Int32)) else u_open))), N217, K218, E213, (own_F (congrArg Value.int (by rw [if_pos hc192] : (u_open + (1 : Int32)) = (if u_free < p1 then (u_open + (1 : Int32)) else u_open))) F214), F215, (own_F (congrArg Value.int (by rw [if_pos hc192] : (u_capacity - p1) = (if u_free < p1 then (u_capacity - p1) else (u_free - p1)))) F216)⟩
  · skip
    obtain ⟨T222, X222, e222, st222⟩ := getF X190 hx hZ hown (host := "") (Or.inl (hw _ (List.mem_of_getElem? (i := 55) rfl))) Via.refl e190 F_free (g := (mkF m 28 #[.val (.ref a0), .val (.int p1)] [(.ref a0), (.ref a0)])) rfl rfl (hb hby d7_28)
    obtain ⟨T223, h223, X223, e223, W223, st223⟩ := putF X222 hx hZ hown (host := "") (Or.inl (hw _ (List.mem_of_getElem? (i := 55) rfl))) Via.refl e222 F_free E_a0 (Or.inl (hw _ (List.mem_of_getElem? (i := 56) rfl))) (hw _ (List.mem_of_getElem? (i := 10) rfl)) (ty := .int) (by decide) rfl rfl (g := (mkF m 33 #[.val (.ref a0), .val (.int p1)] [(.int (u_free - p1)), (.ref a0)])) rfl rfl (hb hby d7_33)
    have E224 := E_a0.wr W223
    have F225 := F_open.other W223 (Or.inr (slot_ne (Or.inl (hw _ (List.mem_of_getElem? (i := 42) rfl))) (Or.inl (hw _ (List.mem_of_getElem? (i := 56) rfl))) (by decide) (t := .int) (t' := .int) (by decide) (by decide)))
    have F226 := F_capacity.other W223 (Or.inr (slot_ne (Or.inr (hw _ (List.mem_of_getElem? (i := 49) rfl))) (Or.inl (hw _ (List.mem_of_getElem? (i := 56) rfl))) (by decide) (t := .int) (t' := .int) (by decide) (by decide)))
    have F227 : Fld Z h223 a0 "com/example/packwright/packwright/core/bins/NextFitBins" "free" "I" (.int (u_free - p1)) := F_free.same W223
    have N228 := Fr.snoc X223 N0 g_a0
    have K229 : Keep h0 h223 [a0] := K0.wr W223 (Or.inl (List.mem_of_getElem? (i := 0) rfl))
    have Z230 : n0 ≤ h223.size := Nat.le_trans Z0 (Keep.of_wr W223).1
    obtain ⟨T231, X231, e231, st231⟩ := getF X223 hx hZ hown (host := "") (Or.inl (hw _ (List.mem_of_getElem? (i := 41) rfl))) Via.refl e223 F225 (g := (mkF m 37 #[.val (.ref a0), .val (.int p1)] [(.ref a0)])) rfl rfl (hb hby d7_37)
    have pre232 : ∀ t, Steps p.tables e below (T231.setTop (mkF m 40 #[.val (.ref a0), .val (.int p1)] [(.int u_open)])) t → Steps p.tables e below (s₁.setTop (entryFrame m #[(.ref a0), (.int p1)] 2)) t := fun t kt => by
      refine pre191 _ ?_
      show Steps p.tables e below (T190.setTop (mkF m 5 #[.val (.ref a0), .val (.int p1)] [(.int u_free), (.int p1)])) _
      refine XS.icmpYes X190.here hx rfl (pc0 := 5) (pc' := 26) rfl (hb hby d7_5) rfl (flt hc192).2.2.2 (by decide) (by decide) ?_
      show Steps p.tables e below (T190.setTop (mkF m 26 #[.val (.ref a0), .val (.int p1)] [])) _
      refine XS.aloadN X190.here hx rfl (hb hby d7_26) rfl rfl ?_
      show Steps p.tables e below (T190.setTop (mkF m 27 #[.val (.ref a0), .val (.int p1)] [(.ref a0)])) _
      refine XS.dup X190.here hx rfl (hb hby d7_27) rfl rfl ?_
      show Steps p.tables e below (T190.setTop (mkF m 28 #[.val (.ref a0), .val (.int p1)] [(.ref a0), (.ref a0)])) _
      refine st222 _ ?_
      show Steps p.tables e below (T222.setTop (mkF m 31 #[.val (.ref a0), .val (.int p1)] [(.int u_free), (.ref a0)])) _
      refine XS.iloadN X222.here hx rfl (hb hby d7_31) rfl ?_
      show Steps p.tables e below (T222.setTop (mkF m 32 #[.val (.ref a0), .val (.int p1)] [(.int p1), (.int u_free), (.ref a0)])) _
      refine XS.isub X222.here hx rfl (hb hby d7_32) rfl ?_
      show Steps p.tables e below (T222.setTop (mkF m 33 #[.val (.ref a0), .val (.int p1)] [(.int (u_free - p1)), (.ref a0)])) _
      refine st223 _ ?_
      show Steps p.tables e below (T223.setTop (mkF m 36 #[.val (.ref a0), .val (.int p1)] [])) _
      refine XS.aloadN X223.here hx rfl (hb hby d7_36) rfl rfl ?_
      show Steps p.tables e below (T223.setTop (mkF m 37 #[.val (.ref a0), .val (.int p1)] [(.ref a0)])) _
      refine st231 _ ?_
      show Steps p.tables e below (T231.setTop (mkF m 40 #[.val (.ref a0), .val (.int p1)] [(.int u_open)])) _
      exact kt
    obtain ⟨fs, hr, hrun, hended, hW, hsame⟩ := X231.leave (v := some (.int u_open)) (fun h => by rw [Bd.returns] at h; cases h)
    refine ⟨_, _, pre232 _ ?_, hrun, hended, _, _, rfl, ?_, ⟨_, rfl⟩, hW, hsame.mono (by decide) (by decide)⟩
    · exact retI X231 hx Bd.returns (hb hby d7_40) hr
    · show Q7 Z a0 p1 u_open u_capacity u_free h0 n0 _ T231.heap _
      rw [e231]
      exact ⟨(own_rI (by rw [if_neg hc192] : u_open = (if u_free < p1 then (u_open + (1 : Int32)) else u_open))), N228, K229, E224, (own_F (congrArg Value.int (by rw [if_neg hc192] : u_open = (if u_free < p1 then (u_open + (1 : Int32)) else u_open))) F225), F226, (own_F (congrArg Value.int (by rw [if_neg hc192] : (u_free - p1) = (if u_free < p1 then (u_capacity - p1) else (u_free - p1)))) F227)⟩
theorem pd84293393 : parseMethodDescriptor "(II)I" = some ⟨[.int, .int], some .int⟩ := by decide +kernel
theorem pd87395417 : parseMethodDescriptor "(I[I)V" = some ⟨[.int, (.array .int)], none⟩ := by decide +kernel
theorem pd49015619 : parseMethodDescriptor "(Lcom/example/packwright/packwright/core/bins/BinInstance;)V" = some ⟨[(.object "com/example/packwright/packwright/core/bins/BinInstance")], none⟩ := by decide +kernel
theorem pd87992008 : parseMethodDescriptor "(I)I" = some ⟨[.int], some .int⟩ := by decide +kernel
theorem own_cap (x v : Int32) (h : v = (if (1 : Int32) < x then x else (1 : Int32))) : 1 ≤ v.toInt := by
  rw [h]
  split
  · rename_i q
    rw [Int32.lt_iff_toInt_lt] at q
    have c1 : (1 : Int32).toInt = 1 := rfl
    omega
  · decide
theorem own_size {c x v : Int32} (hc : 1 ≤ c.toInt) (h : v = ((1 : Int32) + ((x &&& (2147483647 : Int32)) % c))) : 1 ≤ v.toInt ∧ v.toInt ≤ c.toInt := by
  have m := Jvm.Kit.i32_mask x 2147483647 (k := 31) (by decide) (by decide)
  have c1 : (1 : Int32).toInt = 1 := rfl
  have hb := c.toInt_lt
  have r : ((x &&& (2147483647 : Int32)) % c).toInt = (x &&& (2147483647 : Int32)).toInt % c.toInt := Jvm.Kit.i32_rem_nonneg (by rw [m]; omega)
  have r1 := Int.emod_nonneg (x &&& (2147483647 : Int32)).toInt (b := c.toInt) (by omega)
  have r2 := Int.emod_lt_of_pos (x &&& (2147483647 : Int32)).toInt (b := c.toInt) (by omega)
  rw [h, Jvm.Kit.i32_add (by rw [r, c1]; omega) (by rw [r, c1]; omega), r, c1]
  omega
theorem own_step {c f s f' : Int32} {l l' : Int64} (hc : 1 ≤ c.toInt) (hs : 1 ≤ s.toInt ∧ s.toInt ≤ c.toInt) (hf : 0 ≤ f.toInt) (hl : 0 ≤ l.toInt) (h : f.toInt + l.toInt = c.toInt)
    (hf' : f' = (if f < s then (c - s) else (f - s))) (hl' : l' = (if (c.toInt64) < (l + (s.toInt64)) then (s.toInt64) else (l + (s.toInt64)))) :
    (f < s ↔ (c.toInt64) < (l + (s.toInt64))) ∧ 0 ≤ f'.toInt ∧ 0 ≤ l'.toInt ∧ f'.toInt + l'.toInt = c.toInt := by
  have hb := c.toInt_lt
  have e1 : (l + (s.toInt64)).toInt = l.toInt + s.toInt := by rw [Jvm.Kit.i64_add (by rw [Jvm.Kit.i64_of_i32]; omega) (by rw [Jvm.Kit.i64_of_i32]; omega), Jvm.Kit.i64_of_i32]
  have k : f < s ↔ (c.toInt64) < (l + (s.toInt64)) := by
    rw [Int32.lt_iff_toInt_lt, Int64.lt_iff_toInt_lt, e1, Jvm.Kit.i64_of_i32]; omega
  refine ⟨k, ?_⟩
  by_cases q : f < s
  · rw [if_pos q] at hf'
    rw [if_pos (k.mp q)] at hl'
    rw [hf', hl', Jvm.Kit.i64_of_i32, Jvm.Kit.i32_sub (by omega) (by omega)]
    omega
  · rw [if_neg q] at hf'
    rw [if_neg (fun z => q (k.mpr z))] at hl'
    rw [Int32.lt_iff_toInt_lt] at q
    rw [hf', hl', e1, Jvm.Kit.i32_sub (by omega) (by omega)]
    omega

theorem own_plain0 (p0 : Int32) (p1 : Int32) (p2 : Int32) (p3 : Int32) (p4 : Int32) (p5 : Int32)
    (v1 : Int32) (hv1 : v1 = (if (1 : Int32) < (p0 &&& (2147483647 : Int32)) then (p0 &&& (2147483647 : Int32)) else (1 : Int32))) : ¬ v1 = (0 : Int32) := by
  intro q
  have h := own_cap _ _ hv1
  rw [q] at h
  exact absurd h (by decide)
theorem own_plain1 (p0 : Int32) (p1 : Int32) (p2 : Int32) (p3 : Int32) (p4 : Int32) (p5 : Int32)
    (v1 : Int32) (hv1 : v1 = (if (1 : Int32) < (p0 &&& (2147483647 : Int32)) then (p0 &&& (2147483647 : Int32)) else (1 : Int32)))
    (v2 : Int32) (hv2 : v2 = ((1 : Int32) + ((p1 &&& (2147483647 : Int32)) % v1))) : ¬ v1 = (0 : Int32) := by
  intro q
  have h := own_cap _ _ hv1
  rw [q] at h
  exact absurd h (by decide)
theorem own_plain2 (p0 : Int32) (p1 : Int32) (p2 : Int32) (p3 : Int32) (p4 : Int32) (p5 : Int32)
    (v1 : Int32) (hv1 : v1 = (if (1 : Int32) < (p0 &&& (2147483647 : Int32)) then (p0 &&& (2147483647 : Int32)) else (1 : Int32)))
    (v2 : Int32) (hv2 : v2 = ((1 : Int32) + ((p1 &&& (2147483647 : Int32)) % v1)))
    (v3 : Int32) (hv3 : v3 = ((1 : Int32) + ((p2 &&& (2147483647 : Int32)) % v1))) : ¬ v1 = (0 : Int32) := by
  intro q
  have h := own_cap _ _ hv1
  rw [q] at h
  exact absurd h (by decide)
theorem own_plain3 (p0 : Int32) (p1 : Int32) (p2 : Int32) (p3 : Int32) (p4 : Int32) (p5 : Int32)
    (v1 : Int32) (hv1 : v1 = (if (1 : Int32) < (p0 &&& (2147483647 : Int32)) then (p0 &&& (2147483647 : Int32)) else (1 : Int32)))
    (v2 : Int32) (hv2 : v2 = ((1 : Int32) + ((p1 &&& (2147483647 : Int32)) % v1)))
    (v3 : Int32) (hv3 : v3 = ((1 : Int32) + ((p2 &&& (2147483647 : Int32)) % v1)))
    (v4 : Int32) (hv4 : v4 = ((1 : Int32) + ((p3 &&& (2147483647 : Int32)) % v1))) : ¬ v1 = (0 : Int32) := by
  intro q
  have h := own_cap _ _ hv1
  rw [q] at h
  exact absurd h (by decide)
theorem own_plain4 (p0 : Int32) (p1 : Int32) (p2 : Int32) (p3 : Int32) (p4 : Int32) (p5 : Int32)
    (v1 : Int32) (hv1 : v1 = (if (1 : Int32) < (p0 &&& (2147483647 : Int32)) then (p0 &&& (2147483647 : Int32)) else (1 : Int32)))
    (v2 : Int32) (hv2 : v2 = ((1 : Int32) + ((p1 &&& (2147483647 : Int32)) % v1)))
    (v3 : Int32) (hv3 : v3 = ((1 : Int32) + ((p2 &&& (2147483647 : Int32)) % v1)))
    (v4 : Int32) (hv4 : v4 = ((1 : Int32) + ((p3 &&& (2147483647 : Int32)) % v1)))
    (v5 : Int32) (hv5 : v5 = ((1 : Int32) + ((p4 &&& (2147483647 : Int32)) % v1))) : ¬ v1 = (0 : Int32) := by
  intro q
  have h := own_cap _ _ hv1
  rw [q] at h
  exact absurd h (by decide)
theorem own_plain5 (p0 : Int32) (p1 : Int32) (p2 : Int32) (p3 : Int32) (p4 : Int32) (p5 : Int32)
    (v1 : Int32) (hv1 : v1 = (if (1 : Int32) < (p0 &&& (2147483647 : Int32)) then (p0 &&& (2147483647 : Int32)) else (1 : Int32)))
    (v2 : Int32) (hv2 : v2 = ((1 : Int32) + ((p1 &&& (2147483647 : Int32)) % v1)))
    (v3 : Int32) (hv3 : v3 = ((1 : Int32) + ((p2 &&& (2147483647 : Int32)) % v1)))
    (v4 : Int32) (hv4 : v4 = ((1 : Int32) + ((p3 &&& (2147483647 : Int32)) % v1)))
    (v5 : Int32) (hv5 : v5 = ((1 : Int32) + ((p4 &&& (2147483647 : Int32)) % v1)))
    (v6 : Int32) (hv6 : v6 = ((1 : Int32) + ((p5 &&& (2147483647 : Int32)) % v1))) : ¬ v1 < (1 : Int32) := by
  rw [Int32.lt_iff_toInt_lt]
  have h := own_cap _ _ hv1
  show ¬ v1.toInt < 1
  omega
theorem own_plain6 (p0 : Int32) (p1 : Int32) (p2 : Int32) (p3 : Int32) (p4 : Int32) (p5 : Int32)
    (v1 : Int32) (hv1 : v1 = (if (1 : Int32) < (p0 &&& (2147483647 : Int32)) then (p0 &&& (2147483647 : Int32)) else (1 : Int32)))
    (v2 : Int32) (hv2 : v2 = ((1 : Int32) + ((p1 &&& (2147483647 : Int32)) % v1)))
    (v3 : Int32) (hv3 : v3 = ((1 : Int32) + ((p2 &&& (2147483647 : Int32)) % v1)))
    (v4 : Int32) (hv4 : v4 = ((1 : Int32) + ((p3 &&& (2147483647 : Int32)) % v1)))
    (v5 : Int32) (hv5 : v5 = ((1 : Int32) + ((p4 &&& (2147483647 : Int32)) % v1)))
    (v6 : Int32) (hv6 : v6 = ((1 : Int32) + ((p5 &&& (2147483647 : Int32)) % v1)))
    (v7 : Int32) (hv7 : v7 = (if (0 : Int32) < v2 then ((-1 : Int32) + (1 : Int32)) else (-1 : Int32)))
    (v8 : Int32) (hv8 : v8 = (if (0 : Int32) < v2 then (v1 - v2) else ((0 : Int32) - v2)))
    (v9 : Int32) (hv9 : v9 = (if v8 < v3 then (v7 + (1 : Int32)) else v7))
    (v10 : Int32) (hv10 : v10 = (if v8 < v3 then (v1 - v3) else (v8 - v3)))
    (v11 : Int32) (hv11 : v11 = (if v10 < v4 then (v9 + (1 : Int32)) else v9))
    (v12 : Int32) (hv12 : v12 = (if v10 < v4 then (v1 - v4) else (v10 - v4)))
    (v13 : Int32) (hv13 : v13 = (if v12 < v5 then (v11 + (1 : Int32)) else v11))
    (v14 : Int32) (hv14 : v14 = (if v12 < v5 then (v1 - v5) else (v12 - v5)))
    (v15 : Int32) (hv15 : v15 = (if v14 < v6 then (v13 + (1 : Int32)) else v13))
    (v16 : Int32) (hv16 : v16 = (if v14 < v6 then (v1 - v6) else (v14 - v6)))
    (v17 : Int32) (hv17 : v17 = (if (v1.toInt64) < ((v2.toInt64) + (v3.toInt64)) then ((0 : Int32) + (1 : Int32)) else (0 : Int32)))
    (v18 : Int64) (hv18 : v18 = (if (v1.toInt64) < ((v2.toInt64) + (v3.toInt64)) then (v3.toInt64) else ((v2.toInt64) + (v3.toInt64))))
    (v19 : Int32) (hv19 : v19 = (if (v1.toInt64) < (v18 + (v4.toInt64)) then (v17 + (1 : Int32)) else v17))
    (v20 : Int64) (hv20 : v20 = (if (v1.toInt64) < (v18 + (v4.toInt64)) then (v4.toInt64) else (v18 + (v4.toInt64))))
    (v21 : Int32) (hv21 : v21 = (if (v1.toInt64) < (v20 + (v5.toInt64)) then (v19 + (1 : Int32)) else v19))
    (v22 : Int64) (hv22 : v22 = (if (v1.toInt64) < (v20 + (v5.toInt64)) then (v5.toInt64) else (v20 + (v5.toInt64))))
    (v23 : Int32) (hv23 : v23 = (if (v1.toInt64) < (v22 + (v6.toInt64)) then (v21 + (1 : Int32)) else v21))
    (v24 : Int32) (hv24 : v24 = (if v7 = (0 : Int32) then (if v9 = v17 then (if v11 = v19 then (if v13 = v21 then (if v15 = v23 then (1 : Int32) else (0 : Int32)) else (0 : Int32)) else (0 : Int32)) else (0 : Int32)) else (0 : Int32))) : v24 = 1 := by
  have hc := own_cap _ _ hv1
  have S2 := own_size hc hv2
  have S3 := own_size hc hv3
  have S4 := own_size hc hv4
  have S5 := own_size hc hv5
  have S6 := own_size hc hv6
  clear hv1 hv2 hv3 hv4 hv5 hv6
  have hb := v1.toInt_lt
  have p1 : (0 : Int32) < v2 := by
    rw [Int32.lt_iff_toInt_lt, Int32.toInt_zero]; omega
  rw [if_pos p1] at hv7 hv8
  have o1 : v7 = 0 := by rw [hv7]; rfl
  have f1 : v8.toInt = v1.toInt - v2.toInt := by rw [hv8, Jvm.Kit.i32_sub (by omega) (by omega)]
  obtain ⟨k2, a2, b2, t2⟩ := own_step (l := v2.toInt64) hc S3 (by omega) (by rw [Jvm.Kit.i64_of_i32]; omega) (by rw [Jvm.Kit.i64_of_i32]; omega) hv10 hv18
  obtain ⟨k3, a3, b3, t3⟩ := own_step hc S4 a2 b2 t2 hv12 hv20
  obtain ⟨k4, a4, b4, t4⟩ := own_step hc S5 a3 b3 t3 hv14 hv22
  obtain ⟨k5, -⟩ := own_step hc S6 a4 b4 t4 hv16 rfl
  have e2 : v9 = v17 := by
    rw [hv9, hv17, o1]; simp only [k2]
  have e3 : v11 = v19 := by
    rw [hv11, hv19, e2]; simp only [k3]
  have e4 : v13 = v21 := by
    rw [hv13, hv21, e3]; simp only [k4]
  have e5 : v15 = v23 := by
    rw [hv15, hv23, e4]; simp only [k5]
  rw [hv24, if_pos o1, if_pos e2, if_pos e3, if_pos e4, if_pos e5]
theorem ef_0 (m : MethodId) (p0 : Int32) (p1 : Int32) (p2 : Int32) (p3 : Int32) (p4 : Int32) (p5 : Int32) : entryFrame m #[(.int p0), (.int p1), (.int p2), (.int p3), (.int p4), (.int p5)] maxLocals = mkF m 0 #[.val (.int p0), .val (.int p1), .val (.int p2), .val (.int p3), .val (.int p4), .val (.int p5), .unset, .unset, .unset, .unset, .unset, .unset, .unset, .unset, .unset, .unset, .unset, .unset, .unset, .unset, .unset, .unset, .unset, .unset, .unset, .unset, .unset, .unset, .unset, .unset, .unset, .unset, .unset] [] := by first | (simp [entryFrame, mkF, argsToLocals, Value.category, maxLocals]; done) | rfl
def Q0 (n0 : Nat) (v : Option Value) (L : List Loc) : Prop := v = some (.int (1 : Int32)) ∧ Fr n0 L
set_option maxRecDepth 65536 in
set_option maxHeartbeats 40000000 in
theorem rm0 (l : Launch) (Z : State) (aq : Array Value) (hw : ∀ d ∈ tables_1, d.before aq Z = true) (ws : List Jvm.Cond) (p0 : Int32) (p1 : Int32) (p2 : Int32) (p3 : Int32) (p4 : Int32) (p5 : Int32) (h0 : Heap) (n0 : Nat) (Z0 : n0 ≤ h0.size) :
    MetFree l x (head1 (Jvm.Cond.code x code maxLocals ret :: ws) room_1) (fun a U => a = #[(.int p0), (.int p1), (.int p2), (.int p3), (.int p4), (.int p5)] ∧ Z.Warmed39 U.vm ∧ U.heap = h0) (fun _ _ _ _ _ => True) (fun _ U o U' => ∃ v L, o = .returned v ∧ Q0 n0 v L ∧ FrameEnd U o U' L room_1.cells room_1.slots) := by
  refine MetFree.of_bodySF (plainFor_of_name pn38865221) hisR ?_
  intro p e s m args below meth c s₁ Bd hml0 hP hK
  obtain ⟨rfl, hZ, hh⟩ := hP
  have hx := Bd.exec
  have hby := Bd.bytes
  have hml : c.maxLocals = 33 := hml0
  have hown : s.vm.findClass "com/example/packwright/packwright/core/bins/NextFitBinsPlacePinLaw" = some m.cls := findClass_of_methodNamed Bd.named
  have X0 : Stand p l e room_1 s m #[(.int p0), (.int p1), (.int p2), (.int p3), (.int p4), (.int p5)] below meth c s₁ [] 0 0 := Stand.of_body Bd
  have e0 : s₁.heap = h0 := by rw [← hh, Bd.state]; rfl
  have N0 := Fr.nil n0
  have pre0 : ∀ t, Steps p.tables e below (s₁.setTop (mkF m 0 #[.val (.int p0), .val (.int p1), .val (.int p2), .val (.int p3), .val (.int p4), .val (.int p5), .unset, .unset, .unset, .unset, .unset, .unset, .unset, .unset, .unset, .unset, .unset, .unset, .unset, .unset, .unset, .unset, .unset, .unset, .unset, .unset, .unset, .unset, .unset, .unset, .unset, .unset, .unset] [])) t → Steps p.tables e below (s₁.setTop (entryFrame m #[(.int p0), (.int p1), (.int p2), (.int p3), (.int p4), (.int p5)] maxLocals)) t := fun t k => castTop (ef_0 m p0 p1 p2 p3 p4 p5) k
  obtain ⟨_, _, ⟨T233, L233, k233, n233⟩, -, X233, ⟨Lc233, hQ233, l233, y233, z233⟩, st233⟩ := Jvm.LawKit.callS X0 hx (y := (⟨"java/lang/Math", "max", "(II)I"⟩ : MethodName)) hown (mvT hZ (hw _ (List.mem_of_getElem? (i := 1) rfl))) (mvT hZ (hw _ (List.mem_of_getElem? (i := 2) rfl))) (mvT hZ (hw _ (List.mem_of_getElem? (i := 3) rfl))) (mvT hZ (hw _ (List.mem_of_getElem? (i := 4) rfl))) (by decide) (backOf (W := 0) (rm1 l Z aq hw [] (1 : Int32) (p0 &&& (2147483647 : Int32)) h0 n0 Z0 ) hZ (hw _ (List.mem_of_getElem? (i := 4) rfl)) (hw _ (List.mem_of_getElem? (i := 3) rfl)) (by decide) (by decide)) (g := (mkF m 5 #[.val (.int p0), .val (.int p1), .val (.int p2), .val (.int p3), .val (.int p4), .val (.int p5), .unset, .unset, .unset, .unset, .unset, .unset, .unset, .unset, .unset, .unset, .unset, .unset, .unset, .unset, .unset, .unset, .unset, .unset, .unset, .unset, .unset, .unset, .unset, .unset, .unset, .unset, .unset] [(.int (p0 &&& (2147483647 : Int32))), (.int (1 : Int32))])) rfl (by rw [hml]; rfl) (argsL := [(.int (1 : Int32)), (.int (p0 &&& (2147483647 : Int32)))]) (rest := []) (lenOf pd84293393 rfl) rfl (by show 2 * 0 + _ ≤ _; exact Nat.le_of_eq rfl) (hb hby at_5) (fun _ _ => ⟨rfl, e0, (by decide : 0 + 0 ≤ _), (by decide : 0 + 0 ≤ _)⟩)
  dsimp only [Pt.U, Pt.locs, Pt.cells, Pt.slots] at X233 l233 y233 z233 st233 hQ233
  subst l233 y233 z233
  obtain ⟨rfl, N233q, e233⟩ := hQ233
  have N234 := Fr.app N0 N233q
  have pre235 : ∀ t, Steps p.tables e below (T233.setTop (mkF m 10 #[.val (.int p0), .val (.int p1), .val (.int p2), .val (.int p3), .val (.int p4), .val (.int p5), .val (.int (if (1 : Int32) < (p0 &&& (2147483647 : Int32)) then (p0 &&& (2147483647 : Int32)) else (1 : Int32))), .unset, .unset, .unset, .unset, .unset, .unset, .unset, .unset, .unset, .unset, .unset, .unset, .unset, .unset, .unset, .unset, .unset, .unset, .unset, .unset, .unset, .unset, .unset, .unset, .unset, .unset] [])) t → Steps p.tables e below (s₁.setTop (entryFrame m #[(.int p0), (.int p1), (.int p2), (.int p3), (.int p4), (.int p5)] maxLocals)) t := fun t kt => by
    refine pre0 _ ?_
    show Steps p.tables e below (s₁.setTop (mkF m 0 #[.val (.int p0), .val (.int p1), .val (.int p2), .val (.int p3), .val (.int p4), .val (.int p5), .unset, .unset, .unset, .unset, .unset, .unset, .unset, .unset, .unset, .unset, .unset, .unset, .unset, .unset, .unset, .unset, .unset, .unset, .unset, .unset, .unset, .unset, .unset, .unset, .unset, .unset, .unset] [])) _
    refine XS.iconst X0.here hx rfl (hb hby at_0) ?_
    show Steps p.tables e below (s₁.setTop (mkF m 1 #[.val (.int p0), .val (.int p1), .val (.int p2), .val (.int p3), .val (.int p4), .val (.int p5), .unset, .unset, .unset, .unset, .unset, .unset, .unset, .unset, .unset, .unset, .unset, .unset, .unset, .unset, .unset, .unset, .unset, .unset, .unset, .unset, .unset, .unset, .unset, .unset, .unset, .unset, .unset] [(.int (1 : Int32))])) _
    refine XS.iloadN X0.here hx rfl (hb hby at_1) rfl ?_
    show Steps p.tables e below (s₁.setTop (mkF m 2 #[.val (.int p0), .val (.int p1), .val (.int p2), .val (.int p3), .val (.int p4), .val (.int p5), .unset, .unset, .unset, .unset, .unset, .unset, .unset, .unset, .unset, .unset, .unset, .unset, .unset, .unset, .unset, .unset, .unset, .unset, .unset, .unset, .unset, .unset, .unset, .unset, .unset, .unset, .unset] [(.int p0), (.int (1 : Int32))])) _
    refine X0.ldcInt hx hown (mvT hZ (hw _ (List.mem_of_getElem? (i := 0) rfl))) (g := (mkF m 2 #[.val (.int p0), .val (.int p1), .val (.int p2), .val (.int p3), .val (.int p4), .val (.int p5), .unset, .unset, .unset, .unset, .unset, .unset, .unset, .unset, .unset, .unset, .unset, .unset, .unset, .unset, .unset, .unset, .unset, .unset, .unset, .unset, .unset, .unset, .unset, .unset, .unset, .unset, .unset] [(.int p0), (.int (1 : Int32))])) rfl (hb hby at_2) _ ?_
    show Steps p.tables e below (s₁.setTop (mkF m 4 #[.val (.int p0), .val (.int p1), .val (.int p2), .val (.int p3), .val (.int p4), .val (.int p5), .unset, .unset, .unset, .unset, .unset, .unset, .unset, .unset, .unset, .unset, .unset, .unset, .unset, .unset, .unset, .unset, .unset, .unset, .unset, .unset, .unset, .unset, .unset, .unset, .unset, .unset, .unset] [(.int (2147483647 : Int32)), (.int p0), (.int (1 : Int32))])) _
    refine XS.iand X0.here hx rfl (hb hby at_4) rfl ?_
    show Steps p.tables e below (s₁.setTop (mkF m 5 #[.val (.int p0), .val (.int p1), .val (.int p2), .val (.int p3), .val (.int p4), .val (.int p5), .unset, .unset, .unset, .unset, .unset, .unset, .unset, .unset, .unset, .unset, .unset, .unset, .unset, .unset, .unset, .unset, .unset, .unset, .unset, .unset, .unset, .unset, .unset, .unset, .unset, .unset, .unset] [(.int (p0 &&& (2147483647 : Int32))), (.int (1 : Int32))])) _
    refine st233 _ ?_
    show Steps p.tables e below (T233.setTop (mkF m 8 #[.val (.int p0), .val (.int p1), .val (.int p2), .val (.int p3), .val (.int p4), .val (.int p5), .unset, .unset, .unset, .unset, .unset, .unset, .unset, .unset, .unset, .unset, .unset, .unset, .unset, .unset, .unset, .unset, .unset, .unset, .unset, .unset, .unset, .unset, .unset, .unset, .unset, .unset, .unset] [(.int (if (1 : Int32) < (p0 &&& (2147483647 : Int32)) then (p0 &&& (2147483647 : Int32)) else (1 : Int32)))])) _
    refine XS.istore X233.here hx rfl (hb hby at_8) rfl (l' := #[.val (.int p0), .val (.int p1), .val (.int p2), .val (.int p3), .val (.int p4), .val (.int p5), .val (.int (if (1 : Int32) < (p0 &&& (2147483647 : Int32)) then (p0 &&& (2147483647 : Int32)) else (1 : Int32))), .unset, .unset, .unset, .unset, .unset, .unset, .unset, .unset, .unset, .unset, .unset, .unset, .unset, .unset, .unset, .unset, .unset, .unset, .unset, .unset, .unset, .unset, .unset, .unset, .unset, .unset]) rfl ?_
    show Steps p.tables e below (T233.setTop (mkF m 10 #[.val (.int p0), .val (.int p1), .val (.int p2), .val (.int p3), .val (.int p4), .val (.int p5), .val (.int (if (1 : Int32) < (p0 &&& (2147483647 : Int32)) then (p0 &&& (2147483647 : Int32)) else (1 : Int32))), .unset, .unset, .unset, .unset, .unset, .unset, .unset, .unset, .unset, .unset, .unset, .unset, .unset, .unset, .unset, .unset, .unset, .unset, .unset, .unset, .unset, .unset, .unset, .unset, .unset, .unset] [])) _
    exact kt
  obtain ⟨v1, hv1⟩ : ∃ z : Int32, z = (if (1 : Int32) < (p0 &&& (2147483647 : Int32)) then (p0 &&& (2147483647 : Int32)) else (1 : Int32)) := ⟨_, rfl⟩
  have pre236 : ∀ t, Steps p.tables e below (T233.setTop (mkF m 10 #[.val (.int p0), .val (.int p1), .val (.int p2), .val (.int p3), .val (.int p4), .val (.int p5), .val (.int v1), .unset, .unset, .unset, .unset, .unset, .unset, .unset, .unset, .unset, .unset, .unset, .unset, .unset, .unset, .unset, .unset, .unset, .unset, .unset, .unset, .unset, .unset, .unset, .unset, .unset, .unset] [])) t → Steps p.tables e below (s₁.setTop (entryFrame m #[(.int p0), (.int p1), (.int p2), (.int p3), (.int p4), (.int p5)] maxLocals)) t := fun t kt => pre235 t (by rw [hv1] at kt; exact kt)
  obtain ⟨_, _, ⟨T237, L237, k237, n237⟩, -, X237, ⟨Lc237, hQ237, l237, y237, z237⟩, st237⟩ := Jvm.LawKit.callS X233 hx (y := (⟨"com/example/packwright/packwright/core/bins/NextFitBinsPlacePinLaw", "size", "(II)I"⟩ : MethodName)) hown (mvT hZ (hw _ (List.mem_of_getElem? (i := 5) rfl))) (mvT hZ (hw _ (List.mem_of_getElem? (i := 6) rfl))) (mvT hZ (hw _ (List.mem_of_getElem? (i := 7) rfl))) (mvT hZ (hw _ (List.mem_of_getElem? (i := 8) rfl))) (by decide) (backOf (W := 0) (rm2 l Z aq hw [] p1 v1 h0 n0 Z0 (own_plain0 p0 p1 p2 p3 p4 p5 v1 hv1)) hZ (hw _ (List.mem_of_getElem? (i := 8) rfl)) (hw _ (List.mem_of_getElem? (i := 7) rfl)) (by decide) (by decide)) (g := (mkF m 13 #[.val (.int p0), .val (.int p1), .val (.int p2), .val (.int p3), .val (.int p4), .val (.int p5), .val (.int v1), .unset, .unset, .unset, .unset, .unset, .unset, .unset, .unset, .unset, .unset, .unset, .unset, .unset, .unset, .unset, .unset, .unset, .unset, .unset, .unset, .unset, .unset, .unset, .unset, .unset, .unset] [(.int v1), (.int p1)])) rfl (by rw [hml]; rfl) (argsL := [(.int p1), (.int v1)]) (rest := []) (lenOf pd84293393 rfl) rfl (by show 2 * 0 + _ ≤ _; exact Nat.le_of_eq rfl) (hb hby at_13) (fun _ _ => ⟨rfl, e233, (by decide : 0 + 0 ≤ _), (by decide : 0 + 0 ≤ _)⟩)
  dsimp only [Pt.U, Pt.locs, Pt.cells, Pt.slots] at X237 l237 y237 z237 st237 hQ237
  subst l237 y237 z237
  obtain ⟨rfl, N237q, e237⟩ := hQ237
  have N238 := Fr.app N234 N237q
  have pre239 : ∀ t, Steps p.tables e below (T237.setTop (mkF m 18 #[.val (.int p0), .val (.int p1), .val (.int p2), .val (.int p3), .val (.int p4), .val (.int p5), .val (.int v1), .val (.int ((1 : Int32) + ((p1 &&& (2147483647 : Int32)) % v1))), .unset, .unset, .unset, .unset, .unset, .unset, .unset, .unset, .unset, .unset, .unset, .unset, .unset, .unset, .unset, .unset, .unset, .unset, .unset, .unset, .unset, .unset, .unset, .unset, .unset] [])) t → Steps p.tables e below (s₁.setTop (entryFrame m #[(.int p0), (.int p1), (.int p2), (.int p3), (.int p4), (.int p5)] maxLocals)) t := fun t kt => by
    refine pre236 _ ?_
    show Steps p.tables e below (T233.setTop (mkF m 10 #[.val (.int p0), .val (.int p1), .val (.int p2), .val (.int p3), .val (.int p4), .val (.int p5), .val (.int v1), .unset, .unset, .unset, .unset, .unset, .unset, .unset, .unset, .unset, .unset, .unset, .unset, .unset, .unset, .unset, .unset, .unset, .unset, .unset, .unset, .unset, .unset, .unset, .unset, .unset, .unset] [])) _
    refine XS.iloadN X233.here hx rfl (hb hby at_10) rfl ?_
    show Steps p.tables e below (T233.setTop (mkF m 11 #[.val (.int p0), .val (.int p1), .val (.int p2), .val (.int p3), .val (.int p4), .val (.int p5), .val (.int v1), .unset, .unset, .unset, .unset, .unset, .unset, .unset, .unset, .unset, .unset, .unset, .unset, .unset, .unset, .unset, .unset, .unset, .unset, .unset, .unset, .unset, .unset, .unset, .unset, .unset, .unset] [(.int p1)])) _
    refine XS.iload X233.here hx rfl (hb hby at_11) rfl ?_
    show Steps p.tables e below (T233.setTop (mkF m 13 #[.val (.int p0), .val (.int p1), .val (.int p2), .val (.int p3), .val (.int p4), .val (.int p5), .val (.int v1), .unset, .unset, .unset, .unset, .unset, .unset, .unset, .unset, .unset, .unset, .unset, .unset, .unset, .unset, .unset, .unset, .unset, .unset, .unset, .unset, .unset, .unset, .unset, .unset, .unset, .unset] [(.int v1), (.int p1)])) _
    refine st237 _ ?_
    show Steps p.tables e below (T237.setTop (mkF m 16 #[.val (.int p0), .val (.int p1), .val (.int p2), .val (.int p3), .val (.int p4), .val (.int p5), .val (.int v1), .unset, .unset, .unset, .unset, .unset, .unset, .unset, .unset, .unset, .unset, .unset, .unset, .unset, .unset, .unset, .unset, .unset, .unset, .unset, .unset, .unset, .unset, .unset, .unset, .unset, .unset] [(.int ((1 : Int32) + ((p1 &&& (2147483647 : Int32)) % v1)))])) _
    refine XS.istore X237.here hx rfl (hb hby at_16) rfl (l' := #[.val (.int p0), .val (.int p1), .val (.int p2), .val (.int p3), .val (.int p4), .val (.int p5), .val (.int v1), .val (.int ((1 : Int32) + ((p1 &&& (2147483647 : Int32)) % v1))), .unset, .unset, .unset, .unset, .unset, .unset, .unset, .unset, .unset, .unset, .unset, .unset, .unset, .unset, .unset, .unset, .unset, .unset, .unset, .unset, .unset, .unset, .unset, .unset, .unset]) rfl ?_
    show Steps p.tables e below (T237.setTop (mkF m 18 #[.val (.int p0), .val (.int p1), .val (.int p2), .val (.int p3), .val (.int p4), .val (.int p5), .val (.int v1), .val (.int ((1 : Int32) + ((p1 &&& (2147483647 : Int32)) % v1))), .unset, .unset, .unset, .unset, .unset, .unset, .unset, .unset, .unset, .unset, .unset, .unset, .unset, .unset, .unset, .unset, .unset, .unset, .unset, .unset, .unset, .unset, .unset, .unset, .unset] [])) _
    exact kt
  obtain ⟨v2, hv2⟩ : ∃ z : Int32, z = ((1 : Int32) + ((p1 &&& (2147483647 : Int32)) % v1)) := ⟨_, rfl⟩
  have pre240 : ∀ t, Steps p.tables e below (T237.setTop (mkF m 18 #[.val (.int p0), .val (.int p1), .val (.int p2), .val (.int p3), .val (.int p4), .val (.int p5), .val (.int v1), .val (.int v2), .unset, .unset, .unset, .unset, .unset, .unset, .unset, .unset, .unset, .unset, .unset, .unset, .unset, .unset, .unset, .unset, .unset, .unset, .unset, .unset, .unset, .unset, .unset, .unset, .unset] [])) t → Steps p.tables e below (s₁.setTop (entryFrame m #[(.int p0), (.int p1), (.int p2), (.int p3), (.int p4), (.int p5)] maxLocals)) t := fun t kt => pre239 t (by rw [hv2] at kt; exact kt)
  obtain ⟨_, _, ⟨T241, L241, k241, n241⟩, -, X241, ⟨Lc241, hQ241, l241, y241, z241⟩, st241⟩ := Jvm.LawKit.callS X237 hx (y := (⟨"com/example/packwright/packwright/core/bins/NextFitBinsPlacePinLaw", "size", "(II)I"⟩ : MethodName)) hown (mvT hZ (hw _ (List.mem_of_getElem? (i := 5) rfl))) (mvT hZ (hw _ (List.mem_of_getElem? (i := 6) rfl))) (mvT hZ (hw _ (List.mem_of_getElem? (i := 7) rfl))) (mvT hZ (hw _ (List.mem_of_getElem? (i := 8) rfl))) (by decide) (backOf (W := 0) (rm2 l Z aq hw [] p2 v1 h0 n0 Z0 (own_plain1 p0 p1 p2 p3 p4 p5 v1 hv1 v2 hv2)) hZ (hw _ (List.mem_of_getElem? (i := 8) rfl)) (hw _ (List.mem_of_getElem? (i := 7) rfl)) (by decide) (by decide)) (g := (mkF m 21 #[.val (.int p0), .val (.int p1), .val (.int p2), .val (.int p3), .val (.int p4), .val (.int p5), .val (.int v1), .val (.int v2), .unset, .unset, .unset, .unset, .unset, .unset, .unset, .unset, .unset, .unset, .unset, .unset, .unset, .unset, .unset, .unset, .unset, .unset, .unset, .unset, .unset, .unset, .unset, .unset, .unset] [(.int v1), (.int p2)])) rfl (by rw [hml]; rfl) (argsL := [(.int p2), (.int v1)]) (rest := []) (lenOf pd84293393 rfl) rfl (by show 2 * 0 + _ ≤ _; exact Nat.le_of_eq rfl) (hb hby at_21) (fun _ _ => ⟨rfl, e237, (by decide : 0 + 0 ≤ _), (by decide : 0 + 0 ≤ _)⟩)
  dsimp only [Pt.U, Pt.locs, Pt.cells, Pt.slots] at X241 l241 y241 z241 st241 hQ241
  subst l241 y241 z241
  obtain ⟨rfl, N241q, e241⟩ := hQ241
  have N242 := Fr.app N238 N241q
  have pre243 : ∀ t, Steps p.tables e below (T241.setTop (mkF m 26 #[.val (.int p0), .val (.int p1), .val (.int p2), .val (.int p3), .val (.int p4), .val (.int p5), .val (.int v1), .val (.int v2), .val (.int ((1 : Int32) + ((p2 &&& (2147483647 : Int32)) % v1))), .unset, .unset, .unset, .unset, .unset, .unset, .unset, .unset, .unset, .unset, .unset, .unset, .unset, .unset, .unset, .unset, .unset, .unset, .unset, .unset, .unset, .unset, .unset, .unset] [])) t → Steps p.tables e below (s₁.setTop (entryFrame m #[(.int p0), (.int p1), (.int p2), (.int p3), (.int p4), (.int p5)] maxLocals)) t := fun t kt => by
    refine pre240 _ ?_
    show Steps p.tables e below (T237.setTop (mkF m 18 #[.val (.int p0), .val (.int p1), .val (.int p2), .val (.int p3), .val (.int p4), .val (.int p5), .val (.int v1), .val (.int v2), .unset, .unset, .unset, .unset, .unset, .unset, .unset, .unset, .unset, .unset, .unset, .unset, .unset, .unset, .unset, .unset, .unset, .unset, .unset, .unset, .unset, .unset, .unset, .unset, .unset] [])) _
    refine XS.iloadN X237.here hx rfl (hb hby at_18) rfl ?_
    show Steps p.tables e below (T237.setTop (mkF m 19 #[.val (.int p0), .val (.int p1), .val (.int p2), .val (.int p3), .val (.int p4), .val (.int p5), .val (.int v1), .val (.int v2), .unset, .unset, .unset, .unset, .unset, .unset, .unset, .unset, .unset, .unset, .unset, .unset, .unset, .unset, .unset, .unset, .unset, .unset, .unset, .unset, .unset, .unset, .unset, .unset, .unset] [(.int p2)])) _
    refine XS.iload X237.here hx rfl (hb hby at_19) rfl ?_
    show Steps p.tables e below (T237.setTop (mkF m 21 #[.val (.int p0), .val (.int p1), .val (.int p2), .val (.int p3), .val (.int p4), .val (.int p5), .val (.int v1), .val (.int v2), .unset, .unset, .unset, .unset, .unset, .unset, .unset, .unset, .unset, .unset, .unset, .unset, .unset, .unset, .unset, .unset, .unset, .unset, .unset, .unset, .unset, .unset, .unset, .unset, .unset] [(.int v1), (.int p2)])) _
    refine st241 _ ?_
    show Steps p.tables e below (T241.setTop (mkF m 24 #[.val (.int p0), .val (.int p1), .val (.int p2), .val (.int p3), .val (.int p4), .val (.int p5), .val (.int v1), .val (.int v2), .unset, .unset, .unset, .unset, .unset, .unset, .unset, .unset, .unset, .unset, .unset, .unset, .unset, .unset, .unset, .unset, .unset, .unset, .unset, .unset, .unset, .unset, .unset, .unset, .unset] [(.int ((1 : Int32) + ((p2 &&& (2147483647 : Int32)) % v1)))])) _
    refine XS.istore X241.here hx rfl (hb hby at_24) rfl (l' := #[.val (.int p0), .val (.int p1), .val (.int p2), .val (.int p3), .val (.int p4), .val (.int p5), .val (.int v1), .val (.int v2), .val (.int ((1 : Int32) + ((p2 &&& (2147483647 : Int32)) % v1))), .unset, .unset, .unset, .unset, .unset, .unset, .unset, .unset, .unset, .unset, .unset, .unset, .unset, .unset, .unset, .unset, .unset, .unset, .unset, .unset, .unset, .unset, .unset, .unset]) rfl ?_
    show Steps p.tables e below (T241.setTop (mkF m 26 #[.val (.int p0), .val (.int p1), .val (.int p2), .val (.int p3), .val (.int p4), .val (.int p5), .val (.int v1), .val (.int v2), .val (.int ((1 : Int32) + ((p2 &&& (2147483647 : Int32)) % v1))), .unset, .unset, .unset, .unset, .unset, .unset, .unset, .unset, .unset, .unset, .unset, .unset, .unset, .unset, .unset, .unset, .unset, .unset, .unset, .unset, .unset, .unset, .unset, .unset] [])) _
    exact kt
  obtain ⟨v3, hv3⟩ : ∃ z : Int32, z = ((1 : Int32) + ((p2 &&& (2147483647 : Int32)) % v1)) := ⟨_, rfl⟩
  have pre244 : ∀ t, Steps p.tables e below (T241.setTop (mkF m 26 #[.val (.int p0), .val (.int p1), .val (.int p2), .val (.int p3), .val (.int p4), .val (.int p5), .val (.int v1), .val (.int v2), .val (.int v3), .unset, .unset, .unset, .unset, .unset, .unset, .unset, .unset, .unset, .unset, .unset, .unset, .unset, .unset, .unset, .unset, .unset, .unset, .unset, .unset, .unset, .unset, .unset, .unset] [])) t → Steps p.tables e below (s₁.setTop (entryFrame m #[(.int p0), (.int p1), (.int p2), (.int p3), (.int p4), (.int p5)] maxLocals)) t := fun t kt => pre243 t (by rw [hv3] at kt; exact kt)
  obtain ⟨_, _, ⟨T245, L245, k245, n245⟩, -, X245, ⟨Lc245, hQ245, l245, y245, z245⟩, st245⟩ := Jvm.LawKit.callS X241 hx (y := (⟨"com/example/packwright/packwright/core/bins/NextFitBinsPlacePinLaw", "size", "(II)I"⟩ : MethodName)) hown (mvT hZ (hw _ (List.mem_of_getElem? (i := 5) rfl))) (mvT hZ (hw _ (List.mem_of_getElem? (i := 6) rfl))) (mvT hZ (hw _ (List.mem_of_getElem? (i := 7) rfl))) (mvT hZ (hw _ (List.mem_of_getElem? (i := 8) rfl))) (by decide) (backOf (W := 0) (rm2 l Z aq hw [] p3 v1 h0 n0 Z0 (own_plain2 p0 p1 p2 p3 p4 p5 v1 hv1 v2 hv2 v3 hv3)) hZ (hw _ (List.mem_of_getElem? (i := 8) rfl)) (hw _ (List.mem_of_getElem? (i := 7) rfl)) (by decide) (by decide)) (g := (mkF m 29 #[.val (.int p0), .val (.int p1), .val (.int p2), .val (.int p3), .val (.int p4), .val (.int p5), .val (.int v1), .val (.int v2), .val (.int v3), .unset, .unset, .unset, .unset, .unset, .unset, .unset, .unset, .unset, .unset, .unset, .unset, .unset, .unset, .unset, .unset, .unset, .unset, .unset, .unset, .unset, .unset, .unset, .unset] [(.int v1), (.int p3)])) rfl (by rw [hml]; rfl) (argsL := [(.int p3), (.int v1)]) (rest := []) (lenOf pd84293393 rfl) rfl (by show 2 * 0 + _ ≤ _; exact Nat.le_of_eq rfl) (hb hby at_29) (fun _ _ => ⟨rfl, e241, (by decide : 0 + 0 ≤ _), (by decide : 0 + 0 ≤ _)⟩)
  dsimp only [Pt.U, Pt.locs, Pt.cells, Pt.slots] at X245 l245 y245 z245 st245 hQ245
  subst l245 y245 z245
  obtain ⟨rfl, N245q, e245⟩ := hQ245
  have N246 := Fr.app N242 N245q
  have pre247 : ∀ t, Steps p.tables e below (T245.setTop (mkF m 34 #[.val (.int p0), .val (.int p1), .val (.int p2), .val (.int p3), .val (.int p4), .val (.int p5), .val (.int v1), .val (.int v2), .val (.int v3), .val (.int ((1 : Int32) + ((p3 &&& (2147483647 : Int32)) % v1))), .unset, .unset, .unset, .unset, .unset, .unset, .unset, .unset, .unset, .unset, .unset, .unset, .unset, .unset, .unset, .unset, .unset, .unset, .unset, .unset, .unset, .unset, .unset] [])) t → Steps p.tables e below (s₁.setTop (entryFrame m #[(.int p0), (.int p1), (.int p2), (.int p3), (.int p4), (.int p5)] maxLocals)) t := fun t kt => by
    refine pre244 _ ?_
    show Steps p.tables e below (T241.setTop (mkF m 26 #[.val (.int p0), .val (.int p1), .val (.int p2), .val (.int p3), .val (.int p4), .val (.int p5), .val (.int v1), .val (.int v2), .val (.int v3), .unset, .unset, .unset, .unset, .unset, .unset, .unset, .unset, .unset, .unset, .unset, .unset, .unset, .unset, .unset, .unset, .unset, .unset, .unset, .unset, .unset, .unset, .unset, .unset] [])) _
    refine XS.iloadN X241.here hx rfl (hb hby at_26) rfl ?_
    show Steps p.tables e below (T241.setTop (mkF m 27 #[.val (.int p0), .val (.int p1), .val (.int p2), .val (.int p3), .val (.int p4), .val (.int p5), .val (.int v1), .val (.int v2), .val (.int v3), .unset, .unset, .unset, .unset, .unset, .unset, .unset, .unset, .unset, .unset, .unset, .unset, .unset, .unset, .unset, .unset, .unset, .unset, .unset, .unset, .unset, .unset, .unset, .unset] [(.int p3)])) _
    refine XS.iload X241.here hx rfl (hb hby at_27) rfl ?_
    show Steps p.tables e below (T241.setTop (mkF m 29 #[.val (.int p0), .val (.int p1), .val (.int p2), .val (.int p3), .val (.int p4), .val (.int p5), .val (.int v1), .val (.int v2), .val (.int v3), .unset, .unset, .unset, .unset, .unset, .unset, .unset, .unset, .unset, .unset, .unset, .unset, .unset, .unset, .unset, .unset, .unset, .unset, .unset, .unset, .unset, .unset, .unset, .unset] [(.int v1), (.int p3)])) _
    refine st245 _ ?_
    show Steps p.tables e below (T245.setTop (mkF m 32 #[.val (.int p0), .val (.int p1), .val (.int p2), .val (.int p3), .val (.int p4), .val (.int p5), .val (.int v1), .val (.int v2), .val (.int v3), .unset, .unset, .unset, .unset, .unset, .unset, .unset, .unset, .unset, .unset, .unset, .unset, .unset, .unset, .unset, .unset, .unset, .unset, .unset, .unset, .unset, .unset, .unset, .unset] [(.int ((1 : Int32) + ((p3 &&& (2147483647 : Int32)) % v1)))])) _
    refine XS.istore X245.here hx rfl (hb hby at_32) rfl (l' := #[.val (.int p0), .val (.int p1), .val (.int p2), .val (.int p3), .val (.int p4), .val (.int p5), .val (.int v1), .val (.int v2), .val (.int v3), .val (.int ((1 : Int32) + ((p3 &&& (2147483647 : Int32)) % v1))), .unset, .unset, .unset, .unset, .unset, .unset, .unset, .unset, .unset, .unset, .unset, .unset, .unset, .unset, .unset, .unset, .unset, .unset, .unset, .unset, .unset, .unset, .unset]) rfl ?_
    show Steps p.tables e below (T245.setTop (mkF m 34 #[.val (.int p0), .val (.int p1), .val (.int p2), .val (.int p3), .val (.int p4), .val (.int p5), .val (.int v1), .val (.int v2), .val (.int v3), .val (.int ((1 : Int32) + ((p3 &&& (2147483647 : Int32)) % v1))), .unset, .unset, .unset, .unset, .unset, .unset, .unset, .unset, .unset, .unset, .unset, .unset, .unset, .unset, .unset, .unset, .unset, .unset, .unset, .unset, .unset, .unset, .unset] [])) _
    exact kt
  obtain ⟨v4, hv4⟩ : ∃ z : Int32, z = ((1 : Int32) + ((p3 &&& (2147483647 : Int32)) % v1)) := ⟨_, rfl⟩
  have pre248 : ∀ t, Steps p.tables e below (T245.setTop (mkF m 34 #[.val (.int p0), .val (.int p1), .val (.int p2), .val (.int p3), .val (.int p4), .val (.int p5), .val (.int v1), .val (.int v2), .val (.int v3), .val (.int v4), .unset, .unset, .unset, .unset, .unset, .unset, .unset, .unset, .unset, .unset, .unset, .unset, .unset, .unset, .unset, .unset, .unset, .unset, .unset, .unset, .unset, .unset, .unset] [])) t → Steps p.tables e below (s₁.setTop (entryFrame m #[(.int p0), (.int p1), (.int p2), (.int p3), (.int p4), (.int p5)] maxLocals)) t := fun t kt => pre247 t (by rw [hv4] at kt; exact kt)
  obtain ⟨_, _, ⟨T249, L249, k249, n249⟩, -, X249, ⟨Lc249, hQ249, l249, y249, z249⟩, st249⟩ := Jvm.LawKit.callS X245 hx (y := (⟨"com/example/packwright/packwright/core/bins/NextFitBinsPlacePinLaw", "size", "(II)I"⟩ : MethodName)) hown (mvT hZ (hw _ (List.mem_of_getElem? (i := 5) rfl))) (mvT hZ (hw _ (List.mem_of_getElem? (i := 6) rfl))) (mvT hZ (hw _ (List.mem_of_getElem? (i := 7) rfl))) (mvT hZ (hw _ (List.mem_of_getElem? (i := 8) rfl))) (by decide) (backOf (W := 0) (rm2 l Z aq hw [] p4 v1 h0 n0 Z0 (own_plain3 p0 p1 p2 p3 p4 p5 v1 hv1 v2 hv2 v3 hv3 v4 hv4)) hZ (hw _ (List.mem_of_getElem? (i := 8) rfl)) (hw _ (List.mem_of_getElem? (i := 7) rfl)) (by decide) (by decide)) (g := (mkF m 38 #[.val (.int p0), .val (.int p1), .val (.int p2), .val (.int p3), .val (.int p4), .val (.int p5), .val (.int v1), .val (.int v2), .val (.int v3), .val (.int v4), .unset, .unset, .unset, .unset, .unset, .unset, .unset, .unset, .unset, .unset, .unset, .unset, .unset, .unset, .unset, .unset, .unset, .unset, .unset, .unset, .unset, .unset, .unset] [(.int v1), (.int p4)])) rfl (by rw [hml]; rfl) (argsL := [(.int p4), (.int v1)]) (rest := []) (lenOf pd84293393 rfl) rfl (by show 2 * 0 + _ ≤ _; exact Nat.le_of_eq rfl) (hb hby at_38) (fun _ _ => ⟨rfl, e245, (by decide : 0 + 0 ≤ _), (by decide : 0 + 0 ≤ _)⟩)
  dsimp only [Pt.U, Pt.locs, Pt.cells, Pt.slots] at X249 l249 y249 z249 st249 hQ249
  subst l249 y249 z249
  obtain ⟨rfl, N249q, e249⟩ := hQ249
  have N250 := Fr.app N246 N249q
  have pre251 : ∀ t, Steps p.tables e below (T249.setTop (mkF m 43 #[.val (.int p0), .val (.int p1), .val (.int p2), .val (.int p3), .val (.int p4), .val (.int p5), .val (.int v1), .val (.int v2), .val (.int v3), .val (.int v4), .val (.int ((1 : Int32) + ((p4 &&& (2147483647 : Int32)) % v1))), .unset, .unset, .unset, .unset, .unset, .unset, .unset, .unset, .unset, .unset, .unset, .unset, .unset, .unset, .unset, .unset, .unset, .unset, .unset, .unset, .unset, .unset] [])) t → Steps p.tables e below (s₁.setTop (entryFrame m #[(.int p0), (.int p1), (.int p2), (.int p3), (.int p4), (.int p5)] maxLocals)) t := fun t kt => by
    refine pre248 _ ?_
    show Steps p.tables e below (T245.setTop (mkF m 34 #[.val (.int p0), .val (.int p1), .val (.int p2), .val (.int p3), .val (.int p4), .val (.int p5), .val (.int v1), .val (.int v2), .val (.int v3), .val (.int v4), .unset, .unset, .unset, .unset, .unset, .unset, .unset, .unset, .unset, .unset, .unset, .unset, .unset, .unset, .unset, .unset, .unset, .unset, .unset, .unset, .unset, .unset, .unset] [])) _
    refine XS.iload X245.here hx rfl (hb hby at_34) rfl ?_
    show Steps p.tables e below (T245.setTop (mkF m 36 #[.val (.int p0), .val (.int p1), .val (.int p2), .val (.int p3), .val (.int p4), .val (.int p5), .val (.int v1), .val (.int v2), .val (.int v3), .val (.int v4), .unset, .unset, .unset, .unset, .unset, .unset, .unset, .unset, .unset, .unset, .unset, .unset, .unset, .unset, .unset, .unset, .unset, .unset, .unset, .unset, .unset, .unset, .unset] [(.int p4)])) _
    refine XS.iload X245.here hx rfl (hb hby at_36) rfl ?_
    show Steps p.tables e below (T245.setTop (mkF m 38 #[.val (.int p0), .val (.int p1), .val (.int p2), .val (.int p3), .val (.int p4), .val (.int p5), .val (.int v1), .val (.int v2), .val (.int v3), .val (.int v4), .unset, .unset, .unset, .unset, .unset, .unset, .unset, .unset, .unset, .unset, .unset, .unset, .unset, .unset, .unset, .unset, .unset, .unset, .unset, .unset, .unset, .unset, .unset] [(.int v1), (.int p4)])) _
    refine st249 _ ?_
    show Steps p.tables e below (T249.setTop (mkF m 41 #[.val (.int p0), .val (.int p1), .val (.int p2), .val (.int p3), .val (.int p4), .val (.int p5), .val (.int v1), .val (.int v2), .val (.int v3), .val (.int v4), .unset, .unset, .unset, .unset, .unset, .unset, .unset, .unset, .unset, .unset, .unset, .unset, .unset, .unset, .unset, .unset, .unset, .unset, .unset, .unset, .unset, .unset, .unset] [(.int ((1 : Int32) + ((p4 &&& (2147483647 : Int32)) % v1)))])) _
    refine XS.istore X249.here hx rfl (hb hby at_41) rfl (l' := #[.val (.int p0), .val (.int p1), .val (.int p2), .val (.int p3), .val (.int p4), .val (.int p5), .val (.int v1), .val (.int v2), .val (.int v3), .val (.int v4), .val (.int ((1 : Int32) + ((p4 &&& (2147483647 : Int32)) % v1))), .unset, .unset, .unset, .unset, .unset, .unset, .unset, .unset, .unset, .unset, .unset, .unset, .unset, .unset, .unset, .unset, .unset, .unset, .unset, .unset, .unset, .unset]) rfl ?_
    show Steps p.tables e below (T249.setTop (mkF m 43 #[.val (.int p0), .val (.int p1), .val (.int p2), .val (.int p3), .val (.int p4), .val (.int p5), .val (.int v1), .val (.int v2), .val (.int v3), .val (.int v4), .val (.int ((1 : Int32) + ((p4 &&& (2147483647 : Int32)) % v1))), .unset, .unset, .unset, .unset, .unset, .unset, .unset, .unset, .unset, .unset, .unset, .unset, .unset, .unset, .unset, .unset, .unset, .unset, .unset, .unset, .unset, .unset] [])) _
    exact kt
  obtain ⟨v5, hv5⟩ : ∃ z : Int32, z = ((1 : Int32) + ((p4 &&& (2147483647 : Int32)) % v1)) := ⟨_, rfl⟩
  have pre252 : ∀ t, Steps p.tables e below (T249.setTop (mkF m 43 #[.val (.int p0), .val (.int p1), .val (.int p2), .val (.int p3), .val (.int p4), .val (.int p5), .val (.int v1), .val (.int v2), .val (.int v3), .val (.int v4), .val (.int v5), .unset, .unset, .unset, .unset, .unset, .unset, .unset, .unset, .unset, .unset, .unset, .unset, .unset, .unset, .unset, .unset, .unset, .unset, .unset, .unset, .unset, .unset] [])) t → Steps p.tables e below (s₁.setTop (entryFrame m #[(.int p0), (.int p1), (.int p2), (.int p3), (.int p4), (.int p5)] maxLocals)) t := fun t kt => pre251 t (by rw [hv5] at kt; exact kt)
  obtain ⟨_, _, ⟨T253, L253, k253, n253⟩, -, X253, ⟨Lc253, hQ253, l253, y253, z253⟩, st253⟩ := Jvm.LawKit.callS X249 hx (y := (⟨"com/example/packwright/packwright/core/bins/NextFitBinsPlacePinLaw", "size", "(II)I"⟩ : MethodName)) hown (mvT hZ (hw _ (List.mem_of_getElem? (i := 5) rfl))) (mvT hZ (hw _ (List.mem_of_getElem? (i := 6) rfl))) (mvT hZ (hw _ (List.mem_of_getElem? (i := 7) rfl))) (mvT hZ (hw _ (List.mem_of_getElem? (i := 8) rfl))) (by decide) (backOf (W := 0) (rm2 l Z aq hw [] p5 v1 h0 n0 Z0 (own_plain4 p0 p1 p2 p3 p4 p5 v1 hv1 v2 hv2 v3 hv3 v4 hv4 v5 hv5)) hZ (hw _ (List.mem_of_getElem? (i := 8) rfl)) (hw _ (List.mem_of_getElem? (i := 7) rfl)) (by decide) (by decide)) (g := (mkF m 47 #[.val (.int p0), .val (.int p1), .val (.int p2), .val (.int p3), .val (.int p4), .val (.int p5), .val (.int v1), .val (.int v2), .val (.int v3), .val (.int v4), .val (.int v5), .unset, .unset, .unset, .unset, .unset, .unset, .unset, .unset, .unset, .unset, .unset, .unset, .unset, .unset, .unset, .unset, .unset, .unset, .unset, .unset, .unset, .unset] [(.int v1), (.int p5)])) rfl (by rw [hml]; rfl) (argsL := [(.int p5), (.int v1)]) (rest := []) (lenOf pd84293393 rfl) rfl (by show 2 * 0 + _ ≤ _; exact Nat.le_of_eq rfl) (hb hby at_47) (fun _ _ => ⟨rfl, e249, (by decide : 0 + 0 ≤ _), (by decide : 0 + 0 ≤ _)⟩)
  dsimp only [Pt.U, Pt.locs, Pt.cells, Pt.slots] at X253 l253 y253 z253 st253 hQ253
  subst l253 y253 z253
  obtain ⟨rfl, N253q, e253⟩ := hQ253
  have N254 := Fr.app N250 N253q
  have pre255 : ∀ t, Steps p.tables e below (T253.setTop (mkF m 52 #[.val (.int p0), .val (.int p1), .val (.int p2), .val (.int p3), .val (.int p4), .val (.int p5), .val (.int v1), .val (.int v2), .val (.int v3), .val (.int v4), .val (.int v5), .val (.int ((1 : Int32) + ((p5 &&& (2147483647 : Int32)) % v1))), .unset, .unset, .unset, .unset, .unset, .unset, .unset, .unset, .unset, .unset, .unset, .unset, .unset, .unset, .unset, .unset, .unset, .unset, .unset, .unset, .unset] [])) t → Steps p.tables e below (s₁.setTop (entryFrame m #[(.int p0), (.int p1), (.int p2), (.int p3), (.int p4), (.int p5)] maxLocals)) t := fun t kt => by
    refine pre252 _ ?_
    show Steps p.tables e below (T249.setTop (mkF m 43 #[.val (.int p0), .val (.int p1), .val (.int p2), .val (.int p3), .val (.int p4), .val (.int p5), .val (.int v1), .val (.int v2), .val (.int v3), .val (.int v4), .val (.int v5), .unset, .unset, .unset, .unset, .unset, .unset, .unset, .unset, .unset, .unset, .unset, .unset, .unset, .unset, .unset, .unset, .unset, .unset, .unset, .unset, .unset, .unset] [])) _
    refine XS.iload X249.here hx rfl (hb hby at_43) rfl ?_
    show Steps p.tables e below (T249.setTop (mkF m 45 #[.val (.int p0), .val (.int p1), .val (.int p2), .val (.int p3), .val (.int p4), .val (.int p5), .val (.int v1), .val (.int v2), .val (.int v3), .val (.int v4), .val (.int v5), .unset, .unset, .unset, .unset, .unset, .unset, .unset, .unset, .unset, .unset, .unset, .unset, .unset, .unset, .unset, .unset, .unset, .unset, .unset, .unset, .unset, .unset] [(.int p5)])) _
    refine XS.iload X249.here hx rfl (hb hby at_45) rfl ?_
    show Steps p.tables e below (T249.setTop (mkF m 47 #[.val (.int p0), .val (.int p1), .val (.int p2), .val (.int p3), .val (.int p4), .val (.int p5), .val (.int v1), .val (.int v2), .val (.int v3), .val (.int v4), .val (.int v5), .unset, .unset, .unset, .unset, .unset, .unset, .unset, .unset, .unset, .unset, .unset, .unset, .unset, .unset, .unset, .unset, .unset, .unset, .unset, .unset, .unset, .unset] [(.int v1), (.int p5)])) _
    refine st253 _ ?_
    show Steps p.tables e below (T253.setTop (mkF m 50 #[.val (.int p0), .val (.int p1), .val (.int p2), .val (.int p3), .val (.int p4), .val (.int p5), .val (.int v1), .val (.int v2), .val (.int v3), .val (.int v4), .val (.int v5), .unset, .unset, .unset, .unset, .unset, .unset, .unset, .unset, .unset, .unset, .unset, .unset, .unset, .unset, .unset, .unset, .unset, .unset, .unset, .unset, .unset, .unset] [(.int ((1 : Int32) + ((p5 &&& (2147483647 : Int32)) % v1)))])) _
    refine XS.istore X253.here hx rfl (hb hby at_50) rfl (l' := #[.val (.int p0), .val (.int p1), .val (.int p2), .val (.int p3), .val (.int p4), .val (.int p5), .val (.int v1), .val (.int v2), .val (.int v3), .val (.int v4), .val (.int v5), .val (.int ((1 : Int32) + ((p5 &&& (2147483647 : Int32)) % v1))), .unset, .unset, .unset, .unset, .unset, .unset, .unset, .unset, .unset, .unset, .unset, .unset, .unset, .unset, .unset, .unset, .unset, .unset, .unset, .unset, .unset]) rfl ?_
    show Steps p.tables e below (T253.setTop (mkF m 52 #[.val (.int p0), .val (.int p1), .val (.int p2), .val (.int p3), .val (.int p4), .val (.int p5), .val (.int v1), .val (.int v2), .val (.int v3), .val (.int v4), .val (.int v5), .val (.int ((1 : Int32) + ((p5 &&& (2147483647 : Int32)) % v1))), .unset, .unset, .unset, .unset, .unset, .unset, .unset, .unset, .unset, .unset, .unset, .unset, .unset, .unset, .unset, .unset, .unset, .unset, .unset, .unset, .unset] [])) _
    exact kt
  obtain ⟨v6, hv6⟩ : ∃ z : Int32, z = ((1 : Int32) + ((p5 &&& (2147483647 : Int32)) % v1)) := ⟨_, rfl⟩
  have pre256 : ∀ t, Steps p.tables e below (T253.setTop (mkF m 52 #[.val (.int p0), .val (.int p1), .val (.int p2), .val (.int p3), .val (.int p4), .val (.int p5), .val (.int v1), .val (.int v2), .val (.int v3), .val (.int v4), .val (.int v5), .val (.int v6), .unset, .unset, .unset, .unset, .unset, .unset, .unset, .unset, .unset, .unset, .unset, .unset, .unset, .unset, .unset, .unset, .unset, .unset, .unset, .unset, .unset] [])) t → Steps p.tables e below (s₁.setTop (entryFrame m #[(.int p0), (.int p1), (.int p2), (.int p3), (.int p4), (.int p5)] maxLocals)) t := fun t kt => pre255 t (by rw [hv6] at kt; exact kt)
  obtain ⟨T257, h257, X257, e257, E257, A257, D257, -, st257⟩ := newO X253 hx hZ hown (hw _ (List.mem_of_getElem? (i := 9) rfl)) (hw _ (List.mem_of_getElem? (i := 10) rfl)) (hw _ (List.mem_of_getElem? (i := 11) rfl)) e253 (g := (mkF m 52 #[.val (.int p0), .val (.int p1), .val (.int p2), .val (.int p3), .val (.int p4), .val (.int p5), .val (.int v1), .val (.int v2), .val (.int v3), .val (.int v4), .val (.int v5), .val (.int v6), .unset, .unset, .unset, .unset, .unset, .unset, .unset, .unset, .unset, .unset, .unset, .unset, .unset, .unset, .unset, .unset, .unset, .unset, .unset, .unset, .unset] [])) rfl (hb hby at_52) (by decide) (by decide)
  obtain ⟨b257, g257⟩ : ∃ z, z = h0.size := ⟨_, rfl⟩
  rw [← g257] at A257 D257 st257
  have g_b257 : n0 ≤ b257 := Nat.le_trans Z0 (Nat.le_of_eq g257.symm)
  have Z258 : n0 ≤ h257.size := Nat.le_trans Z0 E257.1
  have F257_open : Fld Z h257 b257 "com/example/packwright/packwright/core/bins/NextFitBins" "open" "I" (.int (0 : Int32)) := D257 (Or.inl (hw _ (List.mem_of_getElem? (i := 42) rfl))) (ty := .int) (by decide)
  have F257_capacity : Fld Z h257 b257 "com/example/packwright/packwright/core/bins/NextFitBins" "capacity" "I" (.int (0 : Int32)) := D257 (Or.inr (hw _ (List.mem_of_getElem? (i := 49) rfl))) (ty := .int) (by decide)
  have F257_free : Fld Z h257 b257 "com/example/packwright/packwright/core/bins/NextFitBins" "free" "I" (.int (0 : Int32)) := D257 (Or.inl (hw _ (List.mem_of_getElem? (i := 56) rfl))) (ty := .int) (by decide)
  obtain ⟨T259, h259, X259, e259, E259, A259, D259, -, st259⟩ := newO X257 hx hZ hown (hw _ (List.mem_of_getElem? (i := 12) rfl)) (hw _ (List.mem_of_getElem? (i := 13) rfl)) (hw _ (List.mem_of_getElem? (i := 14) rfl)) e257 (g := (mkF m 56 #[.val (.int p0), .val (.int p1), .val (.int p2), .val (.int p3), .val (.int p4), .val (.int p5), .val (.int v1), .val (.int v2), .val (.int v3), .val (.int v4), .val (.int v5), .val (.int v6), .unset, .unset, .unset, .unset, .unset, .unset, .unset, .unset, .unset, .unset, .unset, .unset, .unset, .unset, .unset, .unset, .unset, .unset, .unset, .unset, .unset] [(.ref b257), (.ref b257)])) rfl (hb hby at_56) (by decide) (by decide)
  obtain ⟨b259, g259⟩ : ∃ z, z = h257.size := ⟨_, rfl⟩
  rw [← g259] at A259 D259 st259
  have ne_b257_b259 : b257 ≠ b259 := Nat.ne_of_lt (Nat.lt_of_lt_of_le A257.lt (Nat.le_of_eq g259.symm))
  have g_b259 : n0 ≤ b259 := Nat.le_trans Z258 (Nat.le_of_eq g259.symm)
  have E260 := A257.ext E259
  have F261 := F257_open.ext E259
  have F262 := F257_capacity.ext E259
  have F263 := F257_free.ext E259
  have Z264 : n0 ≤ h259.size := Nat.le_trans Z258 E259.1
  have F259_capacity : Fld Z h259 b259 "com/example/packwright/packwright/core/bins/BinInstance" "capacity" "I" (.int (0 : Int32)) := D259 (Or.inr (hw _ (List.mem_of_getElem? (i := 23) rfl))) (ty := .int) (by decide)
  have F259_sizes : Fld Z h259 b259 "com/example/packwright/packwright/core/bins/BinInstance" "sizes" "[I" .null := D259 (Or.inr (hw _ (List.mem_of_getElem? (i := 34) rfl))) (ty := (.array .int)) (by decide)
  have F259_lowerBound : Fld Z h259 b259 "com/example/packwright/packwright/core/bins/BinInstance" "lowerBound" "I" (.int (0 : Int32)) := D259 (Or.inr (hw _ (List.mem_of_getElem? (i := 36) rfl))) (ty := .int) (by decide)
  obtain ⟨T265, h265, k265, X265, e265, E265, A265, EE265, st265⟩ := newPE X259 hx hZ (hw _ (List.mem_of_getElem? (i := 15) rfl)) e259 (g := (mkF m 63 #[.val (.int p0), .val (.int p1), .val (.int p2), .val (.int p3), .val (.int p4), .val (.int p5), .val (.int v1), .val (.int v2), .val (.int v3), .val (.int v4), .val (.int v5), .val (.int v6), .unset, .unset, .unset, .unset, .unset, .unset, .unset, .unset, .unset, .unset, .unset, .unset, .unset, .unset, .unset, .unset, .unset, .unset, .unset, .unset, .unset] [(.int (0 : Int32)), (.int v1), (.ref b259), (.ref b259), (.ref b257), (.ref b257)])) rfl (hb hby at_63) rfl (by decide) (cap := 0) (by decide) (by decide) (by decide) (by decide) (ad := "[I") (by decide)
  obtain ⟨b265, g265⟩ : ∃ z, z = h259.size := ⟨_, rfl⟩
  rw [← g265] at A265 EE265 st265
  have ne_b257_b265 : b257 ≠ b265 := Nat.ne_of_lt (Nat.lt_of_lt_of_le E260.lt (Nat.le_of_eq g265.symm))
  have ne_b259_b265 : b259 ≠ b265 := Nat.ne_of_lt (Nat.lt_of_lt_of_le A259.lt (Nat.le_of_eq g265.symm))
  have g_b265 : n0 ≤ b265 := Nat.le_trans Z264 (Nat.le_of_eq g265.symm)
  have E266 := E260.ext E265
  have F267 := F261.ext E265
  have F268 := F262.ext E265
  have F269 := F263.ext E265
  have E270 := A259.ext E265
  have F271 := F259_capacity.ext E265
  have F272 := F259_sizes.ext E265
  have F273 := F259_lowerBound.ext E265
  have Z274 : n0 ≤ h265.size := Nat.le_trans Z264 E265.1
  have V265 : Arv Z h265 b265 k265 .int (0 : Int32) [] (.int (0 : Int32)) := (Arv.new A265 (by decide)).pad (pad_rep [] (.int (0 : Int32)) 0)
  obtain ⟨_, _, ⟨T275, L275, k275, n275⟩, -, X275, ⟨Lc275, hQ275, l275, y275, z275⟩, st275⟩ := X265.specialBack hx (y := (⟨"com/example/packwright/packwright/core/bins/BinInstance", "<init>", "(I[I)V"⟩ : MethodName)) rfl hown (mvT hZ (hw _ (List.mem_of_getElem? (i := 16) rfl))) (mvT hZ (hw _ (List.mem_of_getElem? (i := 17) rfl))) (mvT hZ (hw _ (List.mem_of_getElem? (i := 18) rfl))) (by decide) (backOf (W := 3) (rm3 l Z aq hw [] b259 v1 b265 (0 : Int32) (0 : Int32) k265 h265 n0 Z274 E270 F271 F272 F273 g_b259 V265 EE265 (Ne.symm ne_b259_b265) (own_plain5 p0 p1 p2 p3 p4 p5 v1 hv1 v2 hv2 v3 hv3 v4 hv4 v5 hv5 v6 hv6)) hZ (hw _ (List.mem_of_getElem? (i := 18) rfl)) (hw _ (List.mem_of_getElem? (i := 14) rfl)) (by decide) (by decide)) (g := (mkF m 65 #[.val (.int p0), .val (.int p1), .val (.int p2), .val (.int p3), .val (.int p4), .val (.int p5), .val (.int v1), .val (.int v2), .val (.int v3), .val (.int v4), .val (.int v5), .val (.int v6), .unset, .unset, .unset, .unset, .unset, .unset, .unset, .unset, .unset, .unset, .unset, .unset, .unset, .unset, .unset, .unset, .unset, .unset, .unset, .unset, .unset] [(.ref b265), (.int v1), (.ref b259), (.ref b259), (.ref b257), (.ref b257)])) rfl (by rw [hml]; rfl) (Steps.refl _) (a := b259) (argsL := [(.int v1), (.ref b265)]) (rest := [(.ref b259), (.ref b257), (.ref b257)]) (lenOf pd87395417 rfl) rfl (by show 2 * 0 + _ ≤ _; exact Nat.le_of_eq rfl) (hb hby at_65) (fun _ _ => ⟨rfl, e265, (by decide : 3 + 1 ≤ _), (by decide : 6 + 0 ≤ _)⟩)
  dsimp only [Pt.U, Pt.locs, Pt.cells, Pt.slots] at X275 l275 y275 z275 st275 hQ275
  subst l275 y275 z275
  obtain ⟨r275, rfl, N275q, K275, E275_0, F275_0, F275_1, F275_2⟩ := hQ275
  have E276 := E266.keep K275
  have F277 := F267.keep K275 (ninS ne_b257_b259 nin0)
  have F278 := F268.keep K275 (ninS ne_b257_b259 nin0)
  have F279 := F269.keep K275 (ninS ne_b257_b259 nin0)
  have E280 := EE265.keep K275
  have V281 := V265.keep K275 (ninS (Ne.symm ne_b259_b265) nin0)
  have Z282 : n0 ≤ T275.heap.size := Nat.le_trans Z274 K275.1
  have N283 := Fr.app N254 N275q
  obtain ⟨_, _, ⟨T284, L284, k284, n284⟩, -, X284, ⟨Lc284, hQ284, l284, y284, z284⟩, st284⟩ := X275.specialBack hx (y := (⟨"com/example/packwright/packwright/core/bins/NextFitBins", "<init>", "(Lcom/example/packwright/packwright/core/bins/BinInstance;)V"⟩ : MethodName)) rfl hown (mvT hZ (hw _ (List.mem_of_getElem? (i := 37) rfl))) (mvT hZ (hw _ (List.mem_of_getElem? (i := 38) rfl))) (mvT hZ (hw _ (List.mem_of_getElem? (i := 39) rfl))) (by decide) (backOf (W := 1) (rm5 l Z aq hw [] b257 b259 (0 : Int32) (0 : Int32) (0 : Int32) v1 T275.heap n0 Z282 E276 F277 F278 F279 g_b257 E275_0 F275_0 (Ne.symm ne_b257_b259)) hZ (hw _ (List.mem_of_getElem? (i := 39) rfl)) (hw _ (List.mem_of_getElem? (i := 11) rfl)) (by decide) (by decide)) (g := (mkF m 68 #[.val (.int p0), .val (.int p1), .val (.int p2), .val (.int p3), .val (.int p4), .val (.int p5), .val (.int v1), .val (.int v2), .val (.int v3), .val (.int v4), .val (.int v5), .val (.int v6), .unset, .unset, .unset, .unset, .unset, .unset, .unset, .unset, .unset, .unset, .unset, .unset, .unset, .unset, .unset, .unset, .unset, .unset, .unset, .unset, .unset] [(.ref b259), (.ref b257), (.ref b257)])) rfl (by rw [hml]; rfl) (Steps.refl _) (a := b257) (argsL := [(.ref b259)]) (rest := [(.ref b257)]) (lenOf pd49015619 rfl) rfl (by show 2 * 0 + _ ≤ _; exact Nat.le_of_eq rfl) (hb hby at_68) (fun _ _ => ⟨rfl, rfl, (by decide : 4 + 0 ≤ _), (by decide : 6 + 0 ≤ _)⟩)
  dsimp only [Pt.U, Pt.locs, Pt.cells, Pt.slots] at X284 l284 y284 z284 st284 hQ284
  subst l284 y284 z284
  obtain ⟨rfl, N284q, K284, E284_0, F284_0, F284_1, F284_2⟩ := hQ284
  have E285 := E275_0.keep K284
  have F286 := F275_0.keep K284 (ninS (Ne.symm ne_b257_b259) nin0)
  have F287 := F275_1.keep K284 (ninS (Ne.symm ne_b257_b259) nin0)
  have F288 := F275_2.keep K284 (ninS (Ne.symm ne_b257_b259) nin0)
  have E289 := E280.keep K284
  have V290 := V281.keep K284 (ninS (Ne.symm ne_b257_b265) nin0)
  have Z291 : n0 ≤ T284.heap.size := Nat.le_trans Z282 K284.1
  have N292 := Fr.app N283 N284q
  obtain ⟨cq293, kq293, q293a, q293b, q293c⟩ := isOf hZ rfl E284_0
  obtain ⟨_, _, ⟨T293, L293, k293, n293⟩, -, X293, ⟨Lc293, hQ293, l293, y293, z293⟩, st293⟩ := X284.virtualBack hx (y := (⟨"com/example/packwright/packwright/core/bins/NextFitBins", "place", "(I)I"⟩ : MethodName)) (z := (⟨"com/example/packwright/packwright/core/bins/NextFitBins", "place", "(I)I"⟩ : MethodName)) hown (mvT hZ (hw _ (List.mem_of_getElem? (i := 50) rfl))) (mvT hZ (hw _ (List.mem_of_getElem? (i := 51) rfl))) (notFace_of_selects (args := #[]) (mvT hZ (hw _ (List.mem_of_getElem? (i := 53) rfl)))) (mvT hZ (hw _ (List.mem_of_getElem? (i := 53) rfl))) (mvT hZ (hw _ (List.mem_of_getElem? (i := 52) rfl))) (by decide) (backOf (W := 0) (rm7 l Z aq hw [] b257 v2 (-1 : Int32) v1 (0 : Int32) T284.heap n0 Z291 E284_0 F284_0 F284_1 F284_2 g_b257) hZ (hw _ (List.mem_of_getElem? (i := 54) rfl)) (hw _ (List.mem_of_getElem? (i := 11) rfl)) (by decide) (by decide)) q293a q293c (g := (mkF m 77 #[.val (.int p0), .val (.int p1), .val (.int p2), .val (.int p3), .val (.int p4), .val (.int p5), .val (.int v1), .val (.int v2), .val (.int v3), .val (.int v4), .val (.int v5), .val (.int v6), .val (.ref b257), .unset, .unset, .unset, .unset, .unset, .unset, .unset, .unset, .unset, .unset, .unset, .unset, .unset, .unset, .unset, .unset, .unset, .unset, .unset, .unset] [(.int v2), (.ref b257)])) rfl (by rw [hml]; rfl) (Steps.refl _) (argsL := [(.int v2)]) (rest := []) (lenOf pd87992008 rfl) rfl (by show 2 * 0 + _ ≤ _; exact Nat.le_of_eq rfl) (hb hby at_77) (fun _ _ => ⟨rfl, rfl, (by decide : 4 + 0 ≤ _), (by decide : 6 + 0 ≤ _)⟩)
  dsimp only [Pt.U, Pt.locs, Pt.cells, Pt.slots] at X293 l293 y293 z293 st293 hQ293
  subst l293 y293 z293
  obtain ⟨rfl, N293q, K293, E293_0, F293_0, F293_1, F293_2⟩ := hQ293
  have E294 := E285.keep K293
  have F295 := F286.keep K293 (ninS (Ne.symm ne_b257_b259) nin0)
  have F296 := F287.keep K293 (ninS (Ne.symm ne_b257_b259) nin0)
  have F297 := F288.keep K293 (ninS (Ne.symm ne_b257_b259) nin0)
  have E298 := E289.keep K293
  have V299 := V290.keep K293 (ninS (Ne.symm ne_b257_b265) nin0)
  have Z300 : n0 ≤ T293.heap.size := Nat.le_trans Z291 K293.1
  have N301 := Fr.app N292 N293q
  have pre302 : ∀ t, Steps p.tables e below (T293.setTop (mkF m 80 #[.val (.int p0), .val (.int p1), .val (.int p2), .val (.int p3), .val (.int p4), .val (.int p5), .val (.int v1), .val (.int v2), .val (.int v3), .val (.int v4), .val (.int v5), .val (.int v6), .val (.ref b257), .unset, .unset, .unset, .unset, .unset, .unset, .unset, .unset, .unset, .unset, .unset, .unset, .unset, .unset, .unset, .unset, .unset, .unset, .unset, .unset] [(.int (if (0 : Int32) < v2 then ((-1 : Int32) + (1 : Int32)) else (-1 : Int32)))])) t → Steps p.tables e below (s₁.setTop (entryFrame m #[(.int p0), (.int p1), (.int p2), (.int p3), (.int p4), (.int p5)] maxLocals)) t := fun t kt => by
    refine pre256 _ ?_
    show Steps p.tables e below (T253.setTop (mkF m 52 #[.val (.int p0), .val (.int p1), .val (.int p2), .val (.int p3), .val (.int p4), .val (.int p5), .val (.int v1), .val (.int v2), .val (.int v3), .val (.int v4), .val (.int v5), .val (.int v6), .unset, .unset, .unset, .unset, .unset, .unset, .unset, .unset, .unset, .unset, .unset, .unset, .unset, .unset, .unset, .unset, .unset, .unset, .unset, .unset, .unset] [])) _
    refine st257 _ ?_
    show Steps p.tables e below (T257.setTop (mkF m 55 #[.val (.int p0), .val (.int p1), .val (.int p2), .val (.int p3), .val (.int p4), .val (.int p5), .val (.int v1), .val (.int v2), .val (.int v3), .val (.int v4), .val (.int v5), .val (.int v6), .unset, .unset, .unset, .unset, .unset, .unset, .unset, .unset, .unset, .unset, .unset, .unset, .unset, .unset, .unset, .unset, .unset, .unset, .unset, .unset, .unset] [(.ref b257)])) _
    refine XS.dup X257.here hx rfl (hb hby at_55) rfl rfl ?_
    show Steps p.tables e below (T257.setTop (mkF m 56 #[.val (.int p0), .val (.int p1), .val (.int p2), .val (.int p3), .val (.int p4), .val (.int p5), .val (.int v1), .val (.int v2), .val (.int v3), .val (.int v4), .val (.int v5), .val (.int v6), .unset, .unset, .unset, .unset, .unset, .unset, .unset, .unset, .unset, .unset, .unset, .unset, .unset, .unset, .unset, .unset, .unset, .unset, .unset, .unset, .unset] [(.ref b257), (.ref b257)])) _
    refine st259 _ ?_
    show Steps p.tables e below (T259.setTop (mkF m 59 #[.val (.int p0), .val (.int p1), .val (.int p2), .val (.int p3), .val (.int p4), .val (.int p5), .val (.int v1), .val (.int v2), .val (.int v3), .val (.int v4), .val (.int v5), .val (.int v6), .unset, .unset, .unset, .unset, .unset, .unset, .unset, .unset, .unset, .unset, .unset, .unset, .unset, .unset, .unset, .unset, .unset, .unset, .unset, .unset, .unset] [(.ref b259), (.ref b257), (.ref b257)])) _
    refine XS.dup X259.here hx rfl (hb hby at_59) rfl rfl ?_
    show Steps p.tables e below (T259.setTop (mkF m 60 #[.val (.int p0), .val (.int p1), .val (.int p2), .val (.int p3), .val (.int p4), .val (.int p5), .val (.int v1), .val (.int v2), .val (.int v3), .val (.int v4), .val (.int v5), .val (.int v6), .unset, .unset, .unset, .unset, .unset, .unset, .unset, .unset, .unset, .unset, .unset, .unset, .unset, .unset, .unset, .unset, .unset, .unset, .unset, .unset, .unset] [(.ref b259), (.ref b259), (.ref b257), (.ref b257)])) _
    refine XS.iload X259.here hx rfl (hb hby at_60) rfl ?_
    show Steps p.tables e below (T259.setTop (mkF m 62 #[.val (.int p0), .val (.int p1), .val (.int p2), .val (.int p3), .val (.int p4), .val (.int p5), .val (.int v1), .val (.int v2), .val (.int v3), .val (.int v4), .val (.int v5), .val (.int v6), .unset, .unset, .unset, .unset, .unset, .unset, .unset, .unset, .unset, .unset, .unset, .unset, .unset, .unset, .unset, .unset, .unset, .unset, .unset, .unset, .unset] [(.int v1), (.ref b259), (.ref b259), (.ref b257), (.ref b257)])) _
    refine XS.iconst X259.here hx rfl (hb hby at_62) ?_
    show Steps p.tables e below (T259.setTop (mkF m 63 #[.val (.int p0), .val (.int p1), .val (.int p2), .val (.int p3), .val (.int p4), .val (.int p5), .val (.int v1), .val (.int v2), .val (.int v3), .val (.int v4), .val (.int v5), .val (.int v6), .unset, .unset, .unset, .unset, .unset, .unset, .unset, .unset, .unset, .unset, .unset, .unset, .unset, .unset, .unset, .unset, .unset, .unset, .unset, .unset, .unset] [(.int (0 : Int32)), (.int v1), (.ref b259), (.ref b259), (.ref b257), (.ref b257)])) _
    refine st265 _ ?_
    show Steps p.tables e below (T265.setTop (mkF m 65 #[.val (.int p0), .val (.int p1), .val (.int p2), .val (.int p3), .val (.int p4), .val (.int p5), .val (.int v1), .val (.int v2), .val (.int v3), .val (.int v4), .val (.int v5), .val (.int v6), .unset, .unset, .unset, .unset, .unset, .unset, .unset, .unset, .unset, .unset, .unset, .unset, .unset, .unset, .unset, .unset, .unset, .unset, .unset, .unset, .unset] [(.ref b265), (.int v1), (.ref b259), (.ref b259), (.ref b257), (.ref b257)])) _
    refine st275.trans ?_
    show Steps p.tables e below (T275.setTop (mkF m 68 #[.val (.int p0), .val (.int p1), .val (.int p2), .val (.int p3), .val (.int p4), .val (.int p5), .val (.int v1), .val (.int v2), .val (.int v3), .val (.int v4), .val (.int v5), .val (.int v6), .unset, .unset, .unset, .unset, .unset, .unset, .unset, .unset, .unset, .unset, .unset, .unset, .unset, .unset, .unset, .unset, .unset, .unset, .unset, .unset, .unset] [(.ref b259), (.ref b257), (.ref b257)])) _
    refine st284.trans ?_
    show Steps p.tables e below (T284.setTop (mkF m 71 #[.val (.int p0), .val (.int p1), .val (.int p2), .val (.int p3), .val (.int p4), .val (.int p5), .val (.int v1), .val (.int v2), .val (.int v3), .val (.int v4), .val (.int v5), .val (.int v6), .unset, .unset, .unset, .unset, .unset, .unset, .unset, .unset, .unset, .unset, .unset, .unset, .unset, .unset, .unset, .unset, .unset, .unset, .unset, .unset, .unset] [(.ref b257)])) _
    refine XS.astore X284.here hx rfl (hb hby at_71) rfl rfl (l' := #[.val (.int p0), .val (.int p1), .val (.int p2), .val (.int p3), .val (.int p4), .val (.int p5), .val (.int v1), .val (.int v2), .val (.int v3), .val (.int v4), .val (.int v5), .val (.int v6), .val (.ref b257), .unset, .unset, .unset, .unset, .unset, .unset, .unset, .unset, .unset, .unset, .unset, .unset, .unset, .unset, .unset, .unset, .unset, .unset, .unset, .unset]) rfl ?_
    show Steps p.tables e below (T284.setTop (mkF m 73 #[.val (.int p0), .val (.int p1), .val (.int p2), .val (.int p3), .val (.int p4), .val (.int p5), .val (.int v1), .val (.int v2), .val (.int v3), .val (.int v4), .val (.int v5), .val (.int v6), .val (.ref b257), .unset, .unset, .unset, .unset, .unset, .unset, .unset, .unset, .unset, .unset, .unset, .unset, .unset, .unset, .unset, .unset, .unset, .unset, .unset, .unset] [])) _
    refine XS.aload X284.here hx rfl (hb hby at_73) rfl rfl ?_
    show Steps p.tables e below (T284.setTop (mkF m 75 #[.val (.int p0), .val (.int p1), .val (.int p2), .val (.int p3), .val (.int p4), .val (.int p5), .val (.int v1), .val (.int v2), .val (.int v3), .val (.int v4), .val (.int v5), .val (.int v6), .val (.ref b257), .unset, .unset, .unset, .unset, .unset, .unset, .unset, .unset, .unset, .unset, .unset, .unset, .unset, .unset, .unset, .unset, .unset, .unset, .unset, .unset] [(.ref b257)])) _
    refine XS.iload X284.here hx rfl (hb hby at_75) rfl ?_
    show Steps p.tables e below (T284.setTop (mkF m 77 #[.val (.int p0), .val (.int p1), .val (.int p2), .val (.int p3), .val (.int p4), .val (.int p5), .val (.int v1), .val (.int v2), .val (.int v3), .val (.int v4), .val (.int v5), .val (.int v6), .val (.ref b257), .unset, .unset, .unset, .unset, .unset, .unset, .unset, .unset, .unset, .unset, .unset, .unset, .unset, .unset, .unset, .unset, .unset, .unset, .unset, .unset] [(.int v2), (.ref b257)])) _
    refine st293.trans ?_
    show Steps p.tables e below (T293.setTop (mkF m 80 #[.val (.int p0), .val (.int p1), .val (.int p2), .val (.int p3), .val (.int p4), .val (.int p5), .val (.int v1), .val (.int v2), .val (.int v3), .val (.int v4), .val (.int v5), .val (.int v6), .val (.ref b257), .unset, .unset, .unset, .unset, .unset, .unset, .unset, .unset, .unset, .unset, .unset, .unset, .unset, .unset, .unset, .unset, .unset, .unset, .unset, .unset] [(.int (if (0 : Int32) < v2 then ((-1 : Int32) + (1 : Int32)) else (-1 : Int32)))])) _
    exact kt
  obtain ⟨v7, hv7⟩ : ∃ z : Int32, z = (if (0 : Int32) < v2 then ((-1 : Int32) + (1 : Int32)) else (-1 : Int32)) := ⟨_, rfl⟩
  have pre303 : ∀ t, Steps p.tables e below (T293.setTop (mkF m 80 #[.val (.int p0), .val (.int p1), .val (.int p2), .val (.int p3), .val (.int p4), .val (.int p5), .val (.int v1), .val (.int v2), .val (.int v3), .val (.int v4), .val (.int v5), .val (.int v6), .val (.ref b257), .unset, .unset, .unset, .unset, .unset, .unset, .unset, .unset, .unset, .unset, .unset, .unset, .unset, .unset, .unset, .unset, .unset, .unset, .unset, .unset] [(.int v7)])) t → Steps p.tables e below (s₁.setTop (entryFrame m #[(.int p0), (.int p1), (.int p2), (.int p3), (.int p4), (.int p5)] maxLocals)) t := fun t kt => pre302 t (by rw [hv7] at kt; exact kt)
  have F304 : Fld Z T293.heap b257 "com/example/packwright/packwright/core/bins/NextFitBins" "open" "I" (.int v7) := by rw [hv7]; exact F293_0
  obtain ⟨v8, hv8⟩ : ∃ z : Int32, z = (if (0 : Int32) < v2 then (v1 - v2) else ((0 : Int32) - v2)) := ⟨_, rfl⟩
  have F306 : Fld Z T293.heap b257 "com/example/packwright/packwright/core/bins/NextFitBins" "free" "I" (.int v8) := by rw [hv8]; exact F293_2
  obtain ⟨cq307, kq307, q307a, q307b, q307c⟩ := isOf hZ rfl E293_0
  obtain ⟨_, _, ⟨T307, L307, k307, n307⟩, -, X307, ⟨Lc307, hQ307, l307, y307, z307⟩, st307⟩ := X293.virtualBack hx (y := (⟨"com/example/packwright/packwright/core/bins/NextFitBins", "place", "(I)I"⟩ : MethodName)) (z := (⟨"com/example/packwright/packwright/core/bins/NextFitBins", "place", "(I)I"⟩ : MethodName)) hown (mvT hZ (hw _ (List.mem_of_getElem? (i := 50) rfl))) (mvT hZ (hw _ (List.mem_of_getElem? (i := 51) rfl))) (notFace_of_selects (args := #[]) (mvT hZ (hw _ (List.mem_of_getElem? (i := 53) rfl)))) (mvT hZ (hw _ (List.mem_of_getElem? (i := 53) rfl))) (mvT hZ (hw _ (List.mem_of_getElem? (i := 52) rfl))) (by decide) (backOf (W := 0) (rm7 l Z aq hw [] b257 v3 v7 v1 v8 T293.heap n0 Z300 E293_0 F304 F293_1 F306 g_b257) hZ (hw _ (List.mem_of_getElem? (i := 54) rfl)) (hw _ (List.mem_of_getElem? (i := 11) rfl)) (by decide) (by decide)) q307a q307c (g := (mkF m 86 #[.val (.int p0), .val (.int p1), .val (.int p2), .val (.int p3), .val (.int p4), .val (.int p5), .val (.int v1), .val (.int v2), .val (.int v3), .val (.int v4), .val (.int v5), .val (.int v6), .val (.ref b257), .val (.int v7), .unset, .unset, .unset, .unset, .unset, .unset, .unset, .unset, .unset, .unset, .unset, .unset, .unset, .unset, .unset, .unset, .unset, .unset, .unset] [(.int v3), (.ref b257)])) rfl (by rw [hml]; rfl) (Steps.refl _) (argsL := [(.int v3)]) (rest := []) (lenOf pd87992008 rfl) rfl (by show 2 * 0 + _ ≤ _; exact Nat.le_of_eq rfl) (hb hby at_86) (fun _ _ => ⟨rfl, rfl, (by decide : 4 + 0 ≤ _), (by decide : 6 + 0 ≤ _)⟩)
  dsimp only [Pt.U, Pt.locs, Pt.cells, Pt.slots] at X307 l307 y307 z307 st307 hQ307
  subst l307 y307 z307
  obtain ⟨rfl, N307q, K307, E307_0, F307_0, F307_1, F307_2⟩ := hQ307
  have E308 := E294.keep K307
  have F309 := F295.keep K307 (ninS (Ne.symm ne_b257_b259) nin0)
  have F310 := F296.keep K307 (ninS (Ne.symm ne_b257_b259) nin0)
  have F311 := F297.keep K307 (ninS (Ne.symm ne_b257_b259) nin0)
  have E312 := E298.keep K307
  have V313 := V299.keep K307 (ninS (Ne.symm ne_b257_b265) nin0)
  have Z314 : n0 ≤ T307.heap.size := Nat.le_trans Z300 K307.1
  have N315 := Fr.app N301 N307q
  have pre316 : ∀ t, Steps p.tables e below (T307.setTop (mkF m 89 #[.val (.int p0), .val (.int p1), .val (.int p2), .val (.int p3), .val (.int p4), .val (.int p5), .val (.int v1), .val (.int v2), .val (.int v3), .val (.int v4), .val (.int v5), .val (.int v6), .val (.ref b257), .val (.int v7), .unset, .unset, .unset, .unset, .unset, .unset, .unset, .unset, .unset, .unset, .unset, .unset, .unset, .unset, .unset, .unset, .unset, .unset, .unset] [(.int (if v8 < v3 then (v7 + (1 : Int32)) else v7))])) t → Steps p.tables e below (s₁.setTop (entryFrame m #[(.int p0), (.int p1), (.int p2), (.int p3), (.int p4), (.int p5)] maxLocals)) t := fun t kt => by
    refine pre303 _ ?_
    show Steps p.tables e below (T293.setTop (mkF m 80 #[.val (.int p0), .val (.int p1), .val (.int p2), .val (.int p3), .val (.int p4), .val (.int p5), .val (.int v1), .val (.int v2), .val (.int v3), .val (.int v4), .val (.int v5), .val (.int v6), .val (.ref b257), .unset, .unset, .unset, .unset, .unset, .unset, .unset, .unset, .unset, .unset, .unset, .unset, .unset, .unset, .unset, .unset, .unset, .unset, .unset, .unset] [(.int v7)])) _
    refine XS.istore X293.here hx rfl (hb hby at_80) rfl (l' := #[.val (.int p0), .val (.int p1), .val (.int p2), .val (.int p3), .val (.int p4), .val (.int p5), .val (.int v1), .val (.int v2), .val (.int v3), .val (.int v4), .val (.int v5), .val (.int v6), .val (.ref b257), .val (.int v7), .unset, .unset, .unset, .unset, .unset, .unset, .unset, .unset, .unset, .unset, .unset, .unset, .unset, .unset, .unset, .unset, .unset, .unset, .unset]) rfl ?_
    show Steps p.tables e below (T293.setTop (mkF m 82 #[.val (.int p0), .val (.int p1), .val (.int p2), .val (.int p3), .val (.int p4), .val (.int p5), .val (.int v1), .val (.int v2), .val (.int v3), .val (.int v4), .val (.int v5), .val (.int v6), .val (.ref b257), .val (.int v7), .unset, .unset, .unset, .unset, .unset, .unset, .unset, .unset, .unset, .unset, .unset, .unset, .unset, .unset, .unset, .unset, .unset, .unset, .unset] [])) _
    refine XS.aload X293.here hx rfl (hb hby at_82) rfl rfl ?_
    show Steps p.tables e below (T293.setTop (mkF m 84 #[.val (.int p0), .val (.int p1), .val (.int p2), .val (.int p3), .val (.int p4), .val (.int p5), .val (.int v1), .val (.int v2), .val (.int v3), .val (.int v4), .val (.int v5), .val (.int v6), .val (.ref b257), .val (.int v7), .unset, .unset, .unset, .unset, .unset, .unset, .unset, .unset, .unset, .unset, .unset, .unset, .unset, .unset, .unset, .unset, .unset, .unset, .unset] [(.ref b257)])) _
    refine XS.iload X293.here hx rfl (hb hby at_84) rfl ?_
    show Steps p.tables e below (T293.setTop (mkF m 86 #[.val (.int p0), .val (.int p1), .val (.int p2), .val (.int p3), .val (.int p4), .val (.int p5), .val (.int v1), .val (.int v2), .val (.int v3), .val (.int v4), .val (.int v5), .val (.int v6), .val (.ref b257), .val (.int v7), .unset, .unset, .unset, .unset, .unset, .unset, .unset, .unset, .unset, .unset, .unset, .unset, .unset, .unset, .unset, .unset, .unset, .unset, .unset] [(.int v3), (.ref b257)])) _
    refine st307.trans ?_
    show Steps p.tables e below (T307.setTop (mkF m 89 #[.val (.int p0), .val (.int p1), .val (.int p2), .val (.int p3), .val (.int p4), .val (.int p5), .val (.int v1), .val (.int v2), .val (.int v3), .val (.int v4), .val (.int v5), .val (.int v6), .val (.ref b257), .val (.int v7), .unset, .unset, .unset, .unset, .unset, .unset, .unset, .unset, .unset, .unset, .unset, .unset, .unset, .unset, .unset, .unset, .unset, .unset, .unset] [(.int (if v8 < v3 then (v7 + (1 : Int32)) else v7))])) _
    exact kt
  obtain ⟨v9, hv9⟩ : ∃ z : Int32, z = (if v8 < v3 then (v7 + (1 : Int32)) else v7) := ⟨_, rfl⟩
  have pre317 : ∀ t, Steps p.tables e below (T307.setTop (mkF m 89 #[.val (.int p0), .val (.int p1), .val (.int p2), .val (.int p3), .val (.int p4), .val (.int p5), .val (.int v1), .val (.int v2), .val (.int v3), .val (.int v4), .val (.int v5), .val (.int v6), .val (.ref b257), .val (.int v7), .unset, .unset, .unset, .unset, .unset, .unset, .unset, .unset, .unset, .unset, .unset, .unset, .unset, .unset, .unset, .unset, .unset, .unset, .unset] [(.int v9)])) t → Steps p.tables e below (s₁.setTop (entryFrame m #[(.int p0), (.int p1), (.int p2), (.int p3), (.int p4), (.int p5)] maxLocals)) t := fun t kt => pre316 t (by rw [hv9] at kt; exact kt)
  have F318 : Fld Z T307.heap b257 "com/example/packwright/packwright/core/bins/NextFitBins" "open" "I" (.int v9) := by rw [hv9]; exact F307_0
  obtain ⟨v10, hv10⟩ : ∃ z : Int32, z = (if v8 < v3 then (v1 - v3) else (v8 - v3)) := ⟨_, rfl⟩
  have F320 : Fld Z T307.heap b257 "com/example/packwright/packwright/core/bins/NextFitBins" "free" "I" (.int v10) := by rw [hv10]; exact F307_2
  obtain ⟨cq321, kq321, q321a, q321b, q321c⟩ := isOf hZ rfl E307_0
  obtain ⟨_, _, ⟨T321, L321, k321, n321⟩, -, X321, ⟨Lc321, hQ321, l321, y321, z321⟩, st321⟩ := X307.virtualBack hx (y := (⟨"com/example/packwright/packwright/core/bins/NextFitBins", "place", "(I)I"⟩ : MethodName)) (z := (⟨"com/example/packwright/packwright/core/bins/NextFitBins", "place", "(I)I"⟩ : MethodName)) hown (mvT hZ (hw _ (List.mem_of_getElem? (i := 50) rfl))) (mvT hZ (hw _ (List.mem_of_getElem? (i := 51) rfl))) (notFace_of_selects (args := #[]) (mvT hZ (hw _ (List.mem_of_getElem? (i := 53) rfl)))) (mvT hZ (hw _ (List.mem_of_getElem? (i := 53) rfl))) (mvT hZ (hw _ (List.mem_of_getElem? (i := 52) rfl))) (by decide) (backOf (W := 0) (rm7 l Z aq hw [] b257 v4 v9 v1 v10 T307.heap n0 Z314 E307_0 F318 F307_1 F320 g_b257) hZ (hw _ (List.mem_of_getElem? (i := 54) rfl)) (hw _ (List.mem_of_getElem? (i := 11) rfl)) (by decide) (by decide)) q321a q321c (g := (mkF m 95 #[.val (.int p0), .val (.int p1), .val (.int p2), .val (.int p3), .val (.int p4), .val (.int p5), .val (.int v1), .val (.int v2), .val (.int v3), .val (.int v4), .val (.int v5), .val (.int v6), .val (.ref b257), .val (.int v7), .val (.int v9), .unset, .unset, .unset, .unset, .unset, .unset, .unset, .unset, .unset, .unset, .unset, .unset, .unset, .unset, .unset, .unset, .unset, .unset] [(.int v4), (.ref b257)])) rfl (by rw [hml]; rfl) (Steps.refl _) (argsL := [(.int v4)]) (rest := []) (lenOf pd87992008 rfl) rfl (by show 2 * 0 + _ ≤ _; exact Nat.le_of_eq rfl) (hb hby at_95) (fun _ _ => ⟨rfl, rfl, (by decide : 4 + 0 ≤ _), (by decide : 6 + 0 ≤ _)⟩)
  dsimp only [Pt.U, Pt.locs, Pt.cells, Pt.slots] at X321 l321 y321 z321 st321 hQ321
  subst l321 y321 z321
  obtain ⟨rfl, N321q, K321, E321_0, F321_0, F321_1, F321_2⟩ := hQ321
  have E322 := E308.keep K321
  have F323 := F309.keep K321 (ninS (Ne.symm ne_b257_b259) nin0)
  have F324 := F310.keep K321 (ninS (Ne.symm ne_b257_b259) nin0)
  have F325 := F311.keep K321 (ninS (Ne.symm ne_b257_b259) nin0)
  have E326 := E312.keep K321
  have V327 := V313.keep K321 (ninS (Ne.symm ne_b257_b265) nin0)
  have Z328 : n0 ≤ T321.heap.size := Nat.le_trans Z314 K321.1
  have N329 := Fr.app N315 N321q
  have pre330 : ∀ t, Steps p.tables e below (T321.setTop (mkF m 98 #[.val (.int p0), .val (.int p1), .val (.int p2), .val (.int p3), .val (.int p4), .val (.int p5), .val (.int v1), .val (.int v2), .val (.int v3), .val (.int v4), .val (.int v5), .val (.int v6), .val (.ref b257), .val (.int v7), .val (.int v9), .unset, .unset, .unset, .unset, .unset, .unset, .unset, .unset, .unset, .unset, .unset, .unset, .unset, .unset, .unset, .unset, .unset, .unset] [(.int (if v10 < v4 then (v9 + (1 : Int32)) else v9))])) t → Steps p.tables e below (s₁.setTop (entryFrame m #[(.int p0), (.int p1), (.int p2), (.int p3), (.int p4), (.int p5)] maxLocals)) t := fun t kt => by
    refine pre317 _ ?_
    show Steps p.tables e below (T307.setTop (mkF m 89 #[.val (.int p0), .val (.int p1), .val (.int p2), .val (.int p3), .val (.int p4), .val (.int p5), .val (.int v1), .val (.int v2), .val (.int v3), .val (.int v4), .val (.int v5), .val (.int v6), .val (.ref b257), .val (.int v7), .unset, .unset, .unset, .unset, .unset, .unset, .unset, .unset, .unset, .unset, .unset, .unset, .unset, .unset, .unset, .unset, .unset, .unset, .unset] [(.int v9)])) _
    refine XS.istore X307.here hx rfl (hb hby at_89) rfl (l' := #[.val (.int p0), .val (.int p1), .val (.int p2), .val (.int p3), .val (.int p4), .val (.int p5), .val (.int v1), .val (.int v2), .val (.int v3), .val (.int v4), .val (.int v5), .val (.int v6), .val (.ref b257), .val (.int v7), .val (.int v9), .unset, .unset, .unset, .unset, .unset, .unset, .unset, .unset, .unset, .unset, .unset, .unset, .unset, .unset, .unset, .unset, .unset, .unset]) rfl ?_
    show Steps p.tables e below (T307.setTop (mkF m 91 #[.val (.int p0), .val (.int p1), .val (.int p2), .val (.int p3), .val (.int p4), .val (.int p5), .val (.int v1), .val (.int v2), .val (.int v3), .val (.int v4), .val (.int v5), .val (.int v6), .val (.ref b257), .val (.int v7), .val (.int v9), .unset, .unset, .unset, .unset, .unset, .unset, .unset, .unset, .unset, .unset, .unset, .unset, .unset, .unset, .unset, .unset, .unset, .unset] [])) _
    refine XS.aload X307.here hx rfl (hb hby at_91) rfl rfl ?_
    show Steps p.tables e below (T307.setTop (mkF m 93 #[.val (.int p0), .val (.int p1), .val (.int p2), .val (.int p3), .val (.int p4), .val (.int p5), .val (.int v1), .val (.int v2), .val (.int v3), .val (.int v4), .val (.int v5), .val (.int v6), .val (.ref b257), .val (.int v7), .val (.int v9), .unset, .unset, .unset, .unset, .unset, .unset, .unset, .unset, .unset, .unset, .unset, .unset, .unset, .unset, .unset, .unset, .unset, .unset] [(.ref b257)])) _
    refine XS.iload X307.here hx rfl (hb hby at_93) rfl ?_
    show Steps p.tables e below (T307.setTop (mkF m 95 #[.val (.int p0), .val (.int p1), .val (.int p2), .val (.int p3), .val (.int p4), .val (.int p5), .val (.int v1), .val (.int v2), .val (.int v3), .val (.int v4), .val (.int v5), .val (.int v6), .val (.ref b257), .val (.int v7), .val (.int v9), .unset, .unset, .unset, .unset, .unset, .unset, .unset, .unset, .unset, .unset, .unset, .unset, .unset, .unset, .unset, .unset, .unset, .unset] [(.int v4), (.ref b257)])) _
    refine st321.trans ?_
    show Steps p.tables e below (T321.setTop (mkF m 98 #[.val (.int p0), .val (.int p1), .val (.int p2), .val (.int p3), .val (.int p4), .val (.int p5), .val (.int v1), .val (.int v2), .val (.int v3), .val (.int v4), .val (.int v5), .val (.int v6), .val (.ref b257), .val (.int v7), .val (.int v9), .unset, .unset, .unset, .unset, .unset, .unset, .unset, .unset, .unset, .unset, .unset, .unset, .unset, .unset, .unset, .unset, .unset, .unset] [(.int (if v10 < v4 then (v9 + (1 : Int32)) else v9))])) _
    exact kt
  obtain ⟨v11, hv11⟩ : ∃ z : Int32, z = (if v10 < v4 then (v9 + (1 : Int32)) else v9) := ⟨_, rfl⟩
  have pre331 : ∀ t, Steps p.tables e below (T321.setTop (mkF m 98 #[.val (.int p0), .val (.int p1), .val (.int p2), .val (.int p3), .val (.int p4), .val (.int p5), .val (.int v1), .val (.int v2), .val (.int v3), .val (.int v4), .val (.int v5), .val (.int v6), .val (.ref b257), .val (.int v7), .val (.int v9), .unset, .unset, .unset, .unset, .unset, .unset, .unset, .unset, .unset, .unset, .unset, .unset, .unset, .unset, .unset, .unset, .unset, .unset] [(.int v11)])) t → Steps p.tables e below (s₁.setTop (entryFrame m #[(.int p0), (.int p1), (.int p2), (.int p3), (.int p4), (.int p5)] maxLocals)) t := fun t kt => pre330 t (by rw [hv11] at kt; exact kt)
  have F332 : Fld Z T321.heap b257 "com/example/packwright/packwright/core/bins/NextFitBins" "open" "I" (.int v11) := by rw [hv11]; exact F321_0
  obtain ⟨v12, hv12⟩ : ∃ z : Int32, z = (if v10 < v4 then (v1 - v4) else (v10 - v4)) := ⟨_, rfl⟩
  have F334 : Fld Z T321.heap b257 "com/example/packwright/packwright/core/bins/NextFitBins" "free" "I" (.int v12) := by rw [hv12]; exact F321_2
  obtain ⟨cq335, kq335, q335a, q335b, q335c⟩ := isOf hZ rfl E321_0
  obtain ⟨_, _, ⟨T335, L335, k335, n335⟩, -, X335, ⟨Lc335, hQ335, l335, y335, z335⟩, st335⟩ := X321.virtualBack hx (y := (⟨"com/example/packwright/packwright/core/bins/NextFitBins", "place", "(I)I"⟩ : MethodName)) (z := (⟨"com/example/packwright/packwright/core/bins/NextFitBins", "place", "(I)I"⟩ : MethodName)) hown (mvT hZ (hw _ (List.mem_of_getElem? (i := 50) rfl))) (mvT hZ (hw _ (List.mem_of_getElem? (i := 51) rfl))) (notFace_of_selects (args := #[]) (mvT hZ (hw _ (List.mem_of_getElem? (i := 53) rfl)))) (mvT hZ (hw _ (List.mem_of_getElem? (i := 53) rfl))) (mvT hZ (hw _ (List.mem_of_getElem? (i := 52) rfl))) (by decide) (backOf (W := 0) (rm7 l Z aq hw [] b257 v5 v11 v1 v12 T321.heap n0 Z328 E321_0 F332 F321_1 F334 g_b257) hZ (hw _ (List.mem_of_getElem? (i := 54) rfl)) (hw _ (List.mem_of_getElem? (i := 11) rfl)) (by decide) (by decide)) q335a q335c (g := (mkF m 104 #[.val (.int p0), .val (.int p1), .val (.int p2), .val (.int p3), .val (.int p4), .val (.int p5), .val (.int v1), .val (.int v2), .val (.int v3), .val (.int v4), .val (.int v5), .val (.int v6), .val (.ref b257), .val (.int v7), .val (.int v9), .val (.int v11), .unset, .unset, .unset, .unset, .unset, .unset, .unset, .unset, .unset, .unset, .unset, .unset, .unset, .unset, .unset, .unset, .unset] [(.int v5), (.ref b257)])) rfl (by rw [hml]; rfl) (Steps.refl _) (argsL := [(.int v5)]) (rest := []) (lenOf pd87992008 rfl) rfl (by show 2 * 0 + _ ≤ _; exact Nat.le_of_eq rfl) (hb hby at_104) (fun _ _ => ⟨rfl, rfl, (by decide : 4 + 0 ≤ _), (by decide : 6 + 0 ≤ _)⟩)
  dsimp only [Pt.U, Pt.locs, Pt.cells, Pt.slots] at X335 l335 y335 z335 st335 hQ335
  subst l335 y335 z335
  obtain ⟨rfl, N335q, K335, E335_0, F335_0, F335_1, F335_2⟩ := hQ335
  have E336 := E322.keep K335
  have F337 := F323.keep K335 (ninS (Ne.symm ne_b257_b259) nin0)
  have F338 := F324.keep K335 (ninS (Ne.symm ne_b257_b259) nin0)
  have F339 := F325.keep K335 (ninS (Ne.symm ne_b257_b259) nin0)
  have E340 := E326.keep K335
  have V341 := V327.keep K335 (ninS (Ne.symm ne_b257_b265) nin0)
  have Z342 : n0 ≤ T335.heap.size := Nat.le_trans Z328 K335.1
  have N343 := Fr.app N329 N335q
  have pre344 : ∀ t, Steps p.tables e below (T335.setTop (mkF m 107 #[.val (.int p0), .val (.int p1), .val (.int p2), .val (.int p3), .val (.int p4), .val (.int p5), .val (.int v1), .val (.int v2), .val (.int v3), .val (.int v4), .val (.int v5), .val (.int v6), .val (.ref b257), .val (.int v7), .val (.int v9), .val (.int v11), .unset, .unset, .unset, .unset, .unset, .unset, .unset, .unset, .unset, .unset, .unset, .unset, .unset, .unset, .unset, .unset, .unset] [(.int (if v12 < v5 then (v11 + (1 : Int32)) else v11))])) t → Steps p.tables e below (s₁.setTop (entryFrame m #[(.int p0), (.int p1), (.int p2), (.int p3), (.int p4), (.int p5)] maxLocals)) t := fun t kt => by
    refine pre331 _ ?_
    show Steps p.tables e below (T321.setTop (mkF m 98 #[.val (.int p0), .val (.int p1), .val (.int p2), .val (.int p3), .val (.int p4), .val (.int p5), .val (.int v1), .val (.int v2), .val (.int v3), .val (.int v4), .val (.int v5), .val (.int v6), .val (.ref b257), .val (.int v7), .val (.int v9), .unset, .unset, .unset, .unset, .unset, .unset, .unset, .unset, .unset, .unset, .unset, .unset, .unset, .unset, .unset, .unset, .unset, .unset] [(.int v11)])) _
    refine XS.istore X321.here hx rfl (hb hby at_98) rfl (l' := #[.val (.int p0), .val (.int p1), .val (.int p2), .val (.int p3), .val (.int p4), .val (.int p5), .val (.int v1), .val (.int v2), .val (.int v3), .val (.int v4), .val (.int v5), .val (.int v6), .val (.ref b257), .val (.int v7), .val (.int v9), .val (.int v11), .unset, .unset, .unset, .unset, .unset, .unset, .unset, .unset, .unset, .unset, .unset, .unset, .unset, .unset, .unset, .unset, .unset]) rfl ?_
    show Steps p.tables e below (T321.setTop (mkF m 100 #[.val (.int p0), .val (.int p1), .val (.int p2), .val (.int p3), .val (.int p4), .val (.int p5), .val (.int v1), .val (.int v2), .val (.int v3), .val (.int v4), .val (.int v5), .val (.int v6), .val (.ref b257), .val (.int v7), .val (.int v9), .val (.int v11), .unset, .unset, .unset, .unset, .unset, .unset, .unset, .unset, .unset, .unset, .unset, .unset, .unset, .unset, .unset, .unset, .unset] [])) _
    refine XS.aload X321.here hx rfl (hb hby at_100) rfl rfl ?_
    show Steps p.tables e below (T321.setTop (mkF m 102 #[.val (.int p0), .val (.int p1), .val (.int p2), .val (.int p3), .val (.int p4), .val (.int p5), .val (.int v1), .val (.int v2), .val (.int v3), .val (.int v4), .val (.int v5), .val (.int v6), .val (.ref b257), .val (.int v7), .val (.int v9), .val (.int v11), .unset, .unset, .unset, .unset, .unset, .unset, .unset, .unset, .unset, .unset, .unset, .unset, .unset, .unset, .unset, .unset, .unset] [(.ref b257)])) _
    refine XS.iload X321.here hx rfl (hb hby at_102) rfl ?_
    show Steps p.tables e below (T321.setTop (mkF m 104 #[.val (.int p0), .val (.int p1), .val (.int p2), .val (.int p3), .val (.int p4), .val (.int p5), .val (.int v1), .val (.int v2), .val (.int v3), .val (.int v4), .val (.int v5), .val (.int v6), .val (.ref b257), .val (.int v7), .val (.int v9), .val (.int v11), .unset, .unset, .unset, .unset, .unset, .unset, .unset, .unset, .unset, .unset, .unset, .unset, .unset, .unset, .unset, .unset, .unset] [(.int v5), (.ref b257)])) _
    refine st335.trans ?_
    show Steps p.tables e below (T335.setTop (mkF m 107 #[.val (.int p0), .val (.int p1), .val (.int p2), .val (.int p3), .val (.int p4), .val (.int p5), .val (.int v1), .val (.int v2), .val (.int v3), .val (.int v4), .val (.int v5), .val (.int v6), .val (.ref b257), .val (.int v7), .val (.int v9), .val (.int v11), .unset, .unset, .unset, .unset, .unset, .unset, .unset, .unset, .unset, .unset, .unset, .unset, .unset, .unset, .unset, .unset, .unset] [(.int (if v12 < v5 then (v11 + (1 : Int32)) else v11))])) _
    exact kt
  obtain ⟨v13, hv13⟩ : ∃ z : Int32, z = (if v12 < v5 then (v11 + (1 : Int32)) else v11) := ⟨_, rfl⟩
  have pre345 : ∀ t, Steps p.tables e below (T335.setTop (mkF m 107 #[.val (.int p0), .val (.int p1), .val (.int p2), .val (.int p3), .val (.int p4), .val (.int p5), .val (.int v1), .val (.int v2), .val (.int v3), .val (.int v4), .val (.int v5), .val (.int v6), .val (.ref b257), .val (.int v7), .val (.int v9), .val (.int v11), .unset, .unset, .unset, .unset, .unset, .unset, .unset, .unset, .unset, .unset, .unset, .unset, .unset, .unset, .unset, .unset, .unset] [(.int v13)])) t → Steps p.tables e below (s₁.setTop (entryFrame m #[(.int p0), (.int p1), (.int p2), (.int p3), (.int p4), (.int p5)] maxLocals)) t := fun t kt => pre344 t (by rw [hv13] at kt; exact kt)
  have F346 : Fld Z T335.heap b257 "com/example/packwright/packwright/core/bins/NextFitBins" "open" "I" (.int v13) := by rw [hv13]; exact F335_0
  obtain ⟨v14, hv14⟩ : ∃ z : Int32, z = (if v12 < v5 then (v1 - v5) else (v12 - v5)) := ⟨_, rfl⟩
  have F348 : Fld Z T335.heap b257 "com/example/packwright/packwright/core/bins/NextFitBins" "free" "I" (.int v14) := by rw [hv14]; exact F335_2
  obtain ⟨cq349, kq349, q349a, q349b, q349c⟩ := isOf hZ rfl E335_0
  obtain ⟨_, _, ⟨T349, L349, k349, n349⟩, -, X349, ⟨Lc349, hQ349, l349, y349, z349⟩, st349⟩ := X335.virtualBack hx (y := (⟨"com/example/packwright/packwright/core/bins/NextFitBins", "place", "(I)I"⟩ : MethodName)) (z := (⟨"com/example/packwright/packwright/core/bins/NextFitBins", "place", "(I)I"⟩ : MethodName)) hown (mvT hZ (hw _ (List.mem_of_getElem? (i := 50) rfl))) (mvT hZ (hw _ (List.mem_of_getElem? (i := 51) rfl))) (notFace_of_selects (args := #[]) (mvT hZ (hw _ (List.mem_of_getElem? (i := 53) rfl)))) (mvT hZ (hw _ (List.mem_of_getElem? (i := 53) rfl))) (mvT hZ (hw _ (List.mem_of_getElem? (i := 52) rfl))) (by decide) (backOf (W := 0) (rm7 l Z aq hw [] b257 v6 v13 v1 v14 T335.heap n0 Z342 E335_0 F346 F335_1 F348 g_b257) hZ (hw _ (List.mem_of_getElem? (i := 54) rfl)) (hw _ (List.mem_of_getElem? (i := 11) rfl)) (by decide) (by decide)) q349a q349c (g := (mkF m 113 #[.val (.int p0), .val (.int p1), .val (.int p2), .val (.int p3), .val (.int p4), .val (.int p5), .val (.int v1), .val (.int v2), .val (.int v3), .val (.int v4), .val (.int v5), .val (.int v6), .val (.ref b257), .val (.int v7), .val (.int v9), .val (.int v11), .val (.int v13), .unset, .unset, .unset, .unset, .unset, .unset, .unset, .unset, .unset, .unset, .unset, .unset, .unset, .unset, .unset, .unset] [(.int v6), (.ref b257)])) rfl (by rw [hml]; rfl) (Steps.refl _) (argsL := [(.int v6)]) (rest := []) (lenOf pd87992008 rfl) rfl (by show 2 * 0 + _ ≤ _; exact Nat.le_of_eq rfl) (hb hby at_113) (fun _ _ => ⟨rfl, rfl, (by decide : 4 + 0 ≤ _), (by decide : 6 + 0 ≤ _)⟩)
  dsimp only [Pt.U, Pt.locs, Pt.cells, Pt.slots] at X349 l349 y349 z349 st349 hQ349
  subst l349 y349 z349
  obtain ⟨rfl, N349q, K349, E349_0, F349_0, F349_1, F349_2⟩ := hQ349
  have E350 := E336.keep K349
  have F351 := F337.keep K349 (ninS (Ne.symm ne_b257_b259) nin0)
  have F352 := F338.keep K349 (ninS (Ne.symm ne_b257_b259) nin0)
  have F353 := F339.keep K349 (ninS (Ne.symm ne_b257_b259) nin0)
  have E354 := E340.keep K349
  have V355 := V341.keep K349 (ninS (Ne.symm ne_b257_b265) nin0)
  have Z356 : n0 ≤ T349.heap.size := Nat.le_trans Z342 K349.1
  have N357 := Fr.app N343 N349q
  have pre358 : ∀ t, Steps p.tables e below (T349.setTop (mkF m 116 #[.val (.int p0), .val (.int p1), .val (.int p2), .val (.int p3), .val (.int p4), .val (.int p5), .val (.int v1), .val (.int v2), .val (.int v3), .val (.int v4), .val (.int v5), .val (.int v6), .val (.ref b257), .val (.int v7), .val (.int v9), .val (.int v11), .val (.int v13), .unset, .unset, .unset, .unset, .unset, .unset, .unset, .unset, .unset, .unset, .unset, .unset, .unset, .unset, .unset, .unset] [(.int (if v14 < v6 then (v13 + (1 : Int32)) else v13))])) t → Steps p.tables e below (s₁.setTop (entryFrame m #[(.int p0), (.int p1), (.int p2), (.int p3), (.int p4), (.int p5)] maxLocals)) t := fun t kt => by
    refine pre345 _ ?_
    show Steps p.tables e below (T335.setTop (mkF m 107 #[.val (.int p0), .val (.int p1), .val (.int p2), .val (.int p3), .val (.int p4), .val (.int p5), .val (.int v1), .val (.int v2), .val (.int v3), .val (.int v4), .val (.int v5), .val (.int v6), .val (.ref b257), .val (.int v7), .val (.int v9), .val (.int v11), .unset, .unset, .unset, .unset, .unset, .unset, .unset, .unset, .unset, .unset, .unset, .unset, .unset, .unset, .unset, .unset, .unset] [(.int v13)])) _
    refine XS.istore X335.here hx rfl (hb hby at_107) rfl (l' := #[.val (.int p0), .val (.int p1), .val (.int p2), .val (.int p3), .val (.int p4), .val (.int p5), .val (.int v1), .val (.int v2), .val (.int v3), .val (.int v4), .val (.int v5), .val (.int v6), .val (.ref b257), .val (.int v7), .val (.int v9), .val (.int v11), .val (.int v13), .unset, .unset, .unset, .unset, .unset, .unset, .unset, .unset, .unset, .unset, .unset, .unset, .unset, .unset, .unset, .unset]) rfl ?_
    show Steps p.tables e below (T335.setTop (mkF m 109 #[.val (.int p0), .val (.int p1), .val (.int p2), .val (.int p3), .val (.int p4), .val (.int p5), .val (.int v1), .val (.int v2), .val (.int v3), .val (.int v4), .val (.int v5), .val (.int v6), .val (.ref b257), .val (.int v7), .val (.int v9), .val (.int v11), .val (.int v13), .unset, .unset, .unset, .unset, .unset, .unset, .unset, .unset, .unset, .unset, .unset, .unset, .unset, .unset, .unset, .unset] [])) _
    refine XS.aload X335.here hx rfl (hb hby at_109) rfl rfl ?_
    show Steps p.tables e below (T335.setTop (mkF m 111 #[.val (.int p0), .val (.int p1), .val (.int p2), .val (.int p3), .val (.int p4), .val (.int p5), .val (.int v1), .val (.int v2), .val (.int v3), .val (.int v4), .val (.int v5), .val (.int v6), .val (.ref b257), .val (.int v7), .val (.int v9), .val (.int v11), .val (.int v13), .unset, .unset, .unset, .unset, .unset, .unset, .unset, .unset, .unset, .unset, .unset, .unset, .unset, .unset, .unset, .unset] [(.ref b257)])) _
    refine XS.iload X335.here hx rfl (hb hby at_111) rfl ?_
    show Steps p.tables e below (T335.setTop (mkF m 113 #[.val (.int p0), .val (.int p1), .val (.int p2), .val (.int p3), .val (.int p4), .val (.int p5), .val (.int v1), .val (.int v2), .val (.int v3), .val (.int v4), .val (.int v5), .val (.int v6), .val (.ref b257), .val (.int v7), .val (.int v9), .val (.int v11), .val (.int v13), .unset, .unset, .unset, .unset, .unset, .unset, .unset, .unset, .unset, .unset, .unset, .unset, .unset, .unset, .unset, .unset] [(.int v6), (.ref b257)])) _
    refine st349.trans ?_
    show Steps p.tables e below (T349.setTop (mkF m 116 #[.val (.int p0), .val (.int p1), .val (.int p2), .val (.int p3), .val (.int p4), .val (.int p5), .val (.int v1), .val (.int v2), .val (.int v3), .val (.int v4), .val (.int v5), .val (.int v6), .val (.ref b257), .val (.int v7), .val (.int v9), .val (.int v11), .val (.int v13), .unset, .unset, .unset, .unset, .unset, .unset, .unset, .unset, .unset, .unset, .unset, .unset, .unset, .unset, .unset, .unset] [(.int (if v14 < v6 then (v13 + (1 : Int32)) else v13))])) _
    exact kt
  obtain ⟨v15, hv15⟩ : ∃ z : Int32, z = (if v14 < v6 then (v13 + (1 : Int32)) else v13) := ⟨_, rfl⟩
  have pre359 : ∀ t, Steps p.tables e below (T349.setTop (mkF m 116 #[.val (.int p0), .val (.int p1), .val (.int p2), .val (.int p3), .val (.int p4), .val (.int p5), .val (.int v1), .val (.int v2), .val (.int v3), .val (.int v4), .val (.int v5), .val (.int v6), .val (.ref b257), .val (.int v7), .val (.int v9), .val (.int v11), .val (.int v13), .unset, .unset, .unset, .unset, .unset, .unset, .unset, .unset, .unset, .unset, .unset, .unset, .unset, .unset, .unset, .unset] [(.int v15)])) t → Steps p.tables e below (s₁.setTop (entryFrame m #[(.int p0), (.int p1), (.int p2), (.int p3), (.int p4), (.int p5)] maxLocals)) t := fun t kt => pre358 t (by rw [hv15] at kt; exact kt)
  have F360 : Fld Z T349.heap b257 "com/example/packwright/packwright/core/bins/NextFitBins" "open" "I" (.int v15) := by rw [hv15]; exact F349_0
  obtain ⟨v16, hv16⟩ : ∃ z : Int32, z = (if v14 < v6 then (v1 - v6) else (v14 - v6)) := ⟨_, rfl⟩
  have F362 : Fld Z T349.heap b257 "com/example/packwright/packwright/core/bins/NextFitBins" "free" "I" (.int v16) := by rw [hv16]; exact F349_2
  have pre363 : ∀ t, Steps p.tables e below (T349.setTop (mkF m 140 #[.val (.int p0), .val (.int p1), .val (.int p2), .val (.int p3), .val (.int p4), .val (.int p5), .val (.int v1), .val (.int v2), .val (.int v3), .val (.int v4), .val (.int v5), .val (.int v6), .val (.ref b257), .val (.int v7), .val (.int v9), .val (.int v11), .val (.int v13), .val (.int v15), .val (.long (v1.toInt64)), .second, .val (.int (0 : Int32)), .val (.long (v2.toInt64)), .second, .unset, .unset, .unset, .unset, .unset, .unset, .unset, .unset, .unset, .unset] [(.int (lcmpW ((v2.toInt64) + (v3.toInt64)) (v1.toInt64)))])) t → Steps p.tables e below (s₁.setTop (entryFrame m #[(.int p0), (.int p1), (.int p2), (.int p3), (.int p4), (.int p5)] maxLocals)) t := fun t kt => by
    refine pre359 _ ?_
    show Steps p.tables e below (T349.setTop (mkF m 116 #[.val (.int p0), .val (.int p1), .val (.int p2), .val (.int p3), .val (.int p4), .val (.int p5), .val (.int v1), .val (.int v2), .val (.int v3), .val (.int v4), .val (.int v5), .val (.int v6), .val (.ref b257), .val (.int v7), .val (.int v9), .val (.int v11), .val (.int v13), .unset, .unset, .unset, .unset, .unset, .unset, .unset, .unset, .unset, .unset, .unset, .unset, .unset, .unset, .unset, .unset] [(.int v15)])) _
    refine XS.istore X349.here hx rfl (hb hby at_116) rfl (l' := #[.val (.int p0), .val (.int p1), .val (.int p2), .val (.int p3), .val (.int p4), .val (.int p5), .val (.int v1), .val (.int v2), .val (.int v3), .val (.int v4), .val (.int v5), .val (.int v6), .val (.ref b257), .val (.int v7), .val (.int v9), .val (.int v11), .val (.int v13), .val (.int v15), .unset, .unset, .unset, .unset, .unset, .unset, .unset, .unset, .unset, .unset, .unset, .unset, .unset, .unset, .unset]) rfl ?_
    show Steps p.tables e below (T349.setTop (mkF m 118 #[.val (.int p0), .val (.int p1), .val (.int p2), .val (.int p3), .val (.int p4), .val (.int p5), .val (.int v1), .val (.int v2), .val (.int v3), .val (.int v4), .val (.int v5), .val (.int v6), .val (.ref b257), .val (.int v7), .val (.int v9), .val (.int v11), .val (.int v13), .val (.int v15), .unset, .unset, .unset, .unset, .unset, .unset, .unset, .unset, .unset, .unset, .unset, .unset, .unset, .unset, .unset] [])) _
    refine XS.iload X349.here hx rfl (hb hby at_118) rfl ?_
    show Steps p.tables e below (T349.setTop (mkF m 120 #[.val (.int p0), .val (.int p1), .val (.int p2), .val (.int p3), .val (.int p4), .val (.int p5), .val (.int v1), .val (.int v2), .val (.int v3), .val (.int v4), .val (.int v5), .val (.int v6), .val (.ref b257), .val (.int v7), .val (.int v9), .val (.int v11), .val (.int v13), .val (.int v15), .unset, .unset, .unset, .unset, .unset, .unset, .unset, .unset, .unset, .unset, .unset, .unset, .unset, .unset, .unset] [(.int v1)])) _
    refine XS.i2l X349.here hx rfl (hb hby at_120) rfl ?_
    show Steps p.tables e below (T349.setTop (mkF m 121 #[.val (.int p0), .val (.int p1), .val (.int p2), .val (.int p3), .val (.int p4), .val (.int p5), .val (.int v1), .val (.int v2), .val (.int v3), .val (.int v4), .val (.int v5), .val (.int v6), .val (.ref b257), .val (.int v7), .val (.int v9), .val (.int v11), .val (.int v13), .val (.int v15), .unset, .unset, .unset, .unset, .unset, .unset, .unset, .unset, .unset, .unset, .unset, .unset, .unset, .unset, .unset] [(.long (v1.toInt64))])) _
    refine XS.lstore X349.here hx rfl (hb hby at_121) rfl (l' := #[.val (.int p0), .val (.int p1), .val (.int p2), .val (.int p3), .val (.int p4), .val (.int p5), .val (.int v1), .val (.int v2), .val (.int v3), .val (.int v4), .val (.int v5), .val (.int v6), .val (.ref b257), .val (.int v7), .val (.int v9), .val (.int v11), .val (.int v13), .val (.int v15), .val (.long (v1.toInt64)), .second, .unset, .unset, .unset, .unset, .unset, .unset, .unset, .unset, .unset, .unset, .unset, .unset, .unset]) rfl ?_
    show Steps p.tables e below (T349.setTop (mkF m 123 #[.val (.int p0), .val (.int p1), .val (.int p2), .val (.int p3), .val (.int p4), .val (.int p5), .val (.int v1), .val (.int v2), .val (.int v3), .val (.int v4), .val (.int v5), .val (.int v6), .val (.ref b257), .val (.int v7), .val (.int v9), .val (.int v11), .val (.int v13), .val (.int v15), .val (.long (v1.toInt64)), .second, .unset, .unset, .unset, .unset, .unset, .unset, .unset, .unset, .unset, .unset, .unset, .unset, .unset] [])) _
    refine XS.iconst X349.here hx rfl (hb hby at_123) ?_
    show Steps p.tables e below (T349.setTop (mkF m 124 #[.val (.int p0), .val (.int p1), .val (.int p2), .val (.int p3), .val (.int p4), .val (.int p5), .val (.int v1), .val (.int v2), .val (.int v3), .val (.int v4), .val (.int v5), .val (.int v6), .val (.ref b257), .val (.int v7), .val (.int v9), .val (.int v11), .val (.int v13), .val (.int v15), .val (.long (v1.toInt64)), .second, .unset, .unset, .unset, .unset, .unset, .unset, .unset, .unset, .unset, .unset, .unset, .unset, .unset] [(.int (0 : Int32))])) _
    refine XS.istore X349.here hx rfl (hb hby at_124) rfl (l' := #[.val (.int p0), .val (.int p1), .val (.int p2), .val (.int p3), .val (.int p4), .val (.int p5), .val (.int v1), .val (.int v2), .val (.int v3), .val (.int v4), .val (.int v5), .val (.int v6), .val (.ref b257), .val (.int v7), .val (.int v9), .val (.int v11), .val (.int v13), .val (.int v15), .val (.long (v1.toInt64)), .second, .val (.int (0 : Int32)), .unset, .unset, .unset, .unset, .unset, .unset, .unset, .unset, .unset, .unset, .unset, .unset]) rfl ?_
    show Steps p.tables e below (T349.setTop (mkF m 126 #[.val (.int p0), .val (.int p1), .val (.int p2), .val (.int p3), .val (.int p4), .val (.int p5), .val (.int v1), .val (.int v2), .val (.int v3), .val (.int v4), .val (.int v5), .val (.int v6), .val (.ref b257), .val (.int v7), .val (.int v9), .val (.int v11), .val (.int v13), .val (.int v15), .val (.long (v1.toInt64)), .second, .val (.int (0 : Int32)), .unset, .unset, .unset, .unset, .unset, .unset, .unset, .unset, .unset, .unset, .unset, .unset] [])) _
    refine XS.iload X349.here hx rfl (hb hby at_126) rfl ?_
    show Steps p.tables e below (T349.setTop (mkF m 128 #[.val (.int p0), .val (.int p1), .val (.int p2), .val (.int p3), .val (.int p4), .val (.int p5), .val (.int v1), .val (.int v2), .val (.int v3), .val (.int v4), .val (.int v5), .val (.int v6), .val (.ref b257), .val (.int v7), .val (.int v9), .val (.int v11), .val (.int v13), .val (.int v15), .val (.long (v1.toInt64)), .second, .val (.int (0 : Int32)), .unset, .unset, .unset, .unset, .unset, .unset, .unset, .unset, .unset, .unset, .unset, .unset] [(.int v2)])) _
    refine XS.i2l X349.here hx rfl (hb hby at_128) rfl ?_
    show Steps p.tables e below (T349.setTop (mkF m 129 #[.val (.int p0), .val (.int p1), .val (.int p2), .val (.int p3), .val (.int p4), .val (.int p5), .val (.int v1), .val (.int v2), .val (.int v3), .val (.int v4), .val (.int v5), .val (.int v6), .val (.ref b257), .val (.int v7), .val (.int v9), .val (.int v11), .val (.int v13), .val (.int v15), .val (.long (v1.toInt64)), .second, .val (.int (0 : Int32)), .unset, .unset, .unset, .unset, .unset, .unset, .unset, .unset, .unset, .unset, .unset, .unset] [(.long (v2.toInt64))])) _
    refine XS.lstore X349.here hx rfl (hb hby at_129) rfl (l' := #[.val (.int p0), .val (.int p1), .val (.int p2), .val (.int p3), .val (.int p4), .val (.int p5), .val (.int v1), .val (.int v2), .val (.int v3), .val (.int v4), .val (.int v5), .val (.int v6), .val (.ref b257), .val (.int v7), .val (.int v9), .val (.int v11), .val (.int v13), .val (.int v15), .val (.long (v1.toInt64)), .second, .val (.int (0 : Int32)), .val (.long (v2.toInt64)), .second, .unset, .unset, .unset, .unset, .unset, .unset, .unset, .unset, .unset, .unset]) rfl ?_
    show Steps p.tables e below (T349.setTop (mkF m 131 #[.val (.int p0), .val (.int p1), .val (.int p2), .val (.int p3), .val (.int p4), .val (.int p5), .val (.int v1), .val (.int v2), .val (.int v3), .val (.int v4), .val (.int v5), .val (.int v6), .val (.ref b257), .val (.int v7), .val (.int v9), .val (.int v11), .val (.int v13), .val (.int v15), .val (.long (v1.toInt64)), .second, .val (.int (0 : Int32)), .val (.long (v2.toInt64)), .second, .unset, .unset, .unset, .unset, .unset, .unset, .unset, .unset, .unset, .unset] [])) _
    refine XS.lload X349.here hx rfl (hb hby at_131) rfl ?_
    show Steps p.tables e below (T349.setTop (mkF m 133 #[.val (.int p0), .val (.int p1), .val (.int p2), .val (.int p3), .val (.int p4), .val (.int p5), .val (.int v1), .val (.int v2), .val (.int v3), .val (.int v4), .val (.int v5), .val (.int v6), .val (.ref b257), .val (.int v7), .val (.int v9), .val (.int v11), .val (.int v13), .val (.int v15), .val (.long (v1.toInt64)), .second, .val (.int (0 : Int32)), .val (.long (v2.toInt64)), .second, .unset, .unset, .unset, .unset, .unset, .unset, .unset, .unset, .unset, .unset] [(.long (v2.toInt64))])) _
    refine XS.iload X349.here hx rfl (hb hby at_133) rfl ?_
    show Steps p.tables e below (T349.setTop (mkF m 135 #[.val (.int p0), .val (.int p1), .val (.int p2), .val (.int p3), .val (.int p4), .val (.int p5), .val (.int v1), .val (.int v2), .val (.int v3), .val (.int v4), .val (.int v5), .val (.int v6), .val (.ref b257), .val (.int v7), .val (.int v9), .val (.int v11), .val (.int v13), .val (.int v15), .val (.long (v1.toInt64)), .second, .val (.int (0 : Int32)), .val (.long (v2.toInt64)), .second, .unset, .unset, .unset, .unset, .unset, .unset, .unset, .unset, .unset, .unset] [(.int v3), (.long (v2.toInt64))])) _
    refine XS.i2l X349.here hx rfl (hb hby at_135) rfl ?_
    show Steps p.tables e below (T349.setTop (mkF m 136 #[.val (.int p0), .val (.int p1), .val (.int p2), .val (.int p3), .val (.int p4), .val (.int p5), .val (.int v1), .val (.int v2), .val (.int v3), .val (.int v4), .val (.int v5), .val (.int v6), .val (.ref b257), .val (.int v7), .val (.int v9), .val (.int v11), .val (.int v13), .val (.int v15), .val (.long (v1.toInt64)), .second, .val (.int (0 : Int32)), .val (.long (v2.toInt64)), .second, .unset, .unset, .unset, .unset, .unset, .unset, .unset, .unset, .unset, .unset] [(.long (v3.toInt64)), (.long (v2.toInt64))])) _
    refine XS.ladd X349.here hx rfl (hb hby at_136) rfl ?_
    show Steps p.tables e below (T349.setTop (mkF m 137 #[.val (.int p0), .val (.int p1), .val (.int p2), .val (.int p3), .val (.int p4), .val (.int p5), .val (.int v1), .val (.int v2), .val (.int v3), .val (.int v4), .val (.int v5), .val (.int v6), .val (.ref b257), .val (.int v7), .val (.int v9), .val (.int v11), .val (.int v13), .val (.int v15), .val (.long (v1.toInt64)), .second, .val (.int (0 : Int32)), .val (.long (v2.toInt64)), .second, .unset, .unset, .unset, .unset, .unset, .unset, .unset, .unset, .unset, .unset] [(.long ((v2.toInt64) + (v3.toInt64)))])) _
    refine XS.lload X349.here hx rfl (hb hby at_137) rfl ?_
    show Steps p.tables e below (T349.setTop (mkF m 139 #[.val (.int p0), .val (.int p1), .val (.int p2), .val (.int p3), .val (.int p4), .val (.int p5), .val (.int v1), .val (.int v2), .val (.int v3), .val (.int v4), .val (.int v5), .val (.int v6), .val (.ref b257), .val (.int v7), .val (.int v9), .val (.int v11), .val (.int v13), .val (.int v15), .val (.long (v1.toInt64)), .second, .val (.int (0 : Int32)), .val (.long (v2.toInt64)), .second, .unset, .unset, .unset, .unset, .unset, .unset, .unset, .unset, .unset, .unset] [(.long (v1.toInt64)), (.long ((v2.toInt64) + (v3.toInt64)))])) _
    refine XS.lcmp X349.here hx rfl (hb hby at_139) rfl ?_
    show Steps p.tables e below (T349.setTop (mkF m 140 #[.val (.int p0), .val (.int p1), .val (.int p2), .val (.int p3), .val (.int p4), .val (.int p5), .val (.int v1), .val (.int v2), .val (.int v3), .val (.int v4), .val (.int v5), .val (.int v6), .val (.ref b257), .val (.int v7), .val (.int v9), .val (.int v11), .val (.int v13), .val (.int v15), .val (.long (v1.toInt64)), .second, .val (.int (0 : Int32)), .val (.long (v2.toInt64)), .second, .unset, .unset, .unset, .unset, .unset, .unset, .unset, .unset, .unset, .unset] [(.int (lcmpW ((v2.toInt64) + (v3.toInt64)) (v1.toInt64)))])) _
    exact kt
  obtain ⟨v17, hv17⟩ : ∃ z : Int32, z = (if (v1.toInt64) < ((v2.toInt64) + (v3.toInt64)) then ((0 : Int32) + (1 : Int32)) else (0 : Int32)) := ⟨_, rfl⟩
  obtain ⟨v18, hv18⟩ : ∃ z : Int64, z = (if (v1.toInt64) < ((v2.toInt64) + (v3.toInt64)) then (v3.toInt64) else ((v2.toInt64) + (v3.toInt64))) := ⟨_, rfl⟩
  have pre365 : ∀ t, Steps p.tables e below (T349.setTop (mkF m 169 #[.val (.int p0), .val (.int p1), .val (.int p2), .val (.int p3), .val (.int p4), .val (.int p5), .val (.int v1), .val (.int v2), .val (.int v3), .val (.int v4), .val (.int v5), .val (.int v6), .val (.ref b257), .val (.int v7), .val (.int v9), .val (.int v11), .val (.int v13), .val (.int v15), .val (.long (v1.toInt64)), .second, .val (.int (0 : Int32)), .val (.long (v2.toInt64)), .second, .val (.int v17), .val (.long v18), .second, .unset, .unset, .unset, .unset, .unset, .unset, .unset] [])) t → Steps p.tables e below (s₁.setTop (entryFrame m #[(.int p0), (.int p1), (.int p2), (.int p3), (.int p4), (.int p5)] maxLocals)) t := fun t kt => by
    refine pre363 _ ?_
    show Steps p.tables e below (T349.setTop (mkF m 140 #[.val (.int p0), .val (.int p1), .val (.int p2), .val (.int p3), .val (.int p4), .val (.int p5), .val (.int v1), .val (.int v2), .val (.int v3), .val (.int v4), .val (.int v5), .val (.int v6), .val (.ref b257), .val (.int v7), .val (.int v9), .val (.int v11), .val (.int v13), .val (.int v15), .val (.long (v1.toInt64)), .second, .val (.int (0 : Int32)), .val (.long (v2.toInt64)), .second, .unset, .unset, .unset, .unset, .unset, .unset, .unset, .unset, .unset, .unset] [(.int (lcmpW ((v2.toInt64) + (v3.toInt64)) (v1.toInt64)))])) _
    by_cases hc364 : (v1.toInt64) < ((v2.toInt64) + (v3.toInt64))
    · rw [if_pos hc364] at hv17 hv18
      refine XS.ifYes X349.here hx rfl (pc0 := 140) (pc' := 158) rfl (hb hby at_140) rfl ((if0 _ _).trans (tlt (own_lwG hc364)).2.2.1) (by decide) (by decide) ?_
      show Steps p.tables e below (T349.setTop (mkF m 158 #[.val (.int p0), .val (.int p1), .val (.int p2), .val (.int p3), .val (.int p4), .val (.int p5), .val (.int v1), .val (.int v2), .val (.int v3), .val (.int v4), .val (.int v5), .val (.int v6), .val (.ref b257), .val (.int v7), .val (.int v9), .val (.int v11), .val (.int v13), .val (.int v15), .val (.long (v1.toInt64)), .second, .val (.int (0 : Int32)), .val (.long (v2.toInt64)), .second, .unset, .unset, .unset, .unset, .unset, .unset, .unset, .unset, .unset, .unset] [])) _
      refine XS.iload X349.here hx rfl (hb hby at_158) rfl ?_
      show Steps p.tables e below (T349.setTop (mkF m 160 #[.val (.int p0), .val (.int p1), .val (.int p2), .val (.int p3), .val (.int p4), .val (.int p5), .val (.int v1), .val (.int v2), .val (.int v3), .val (.int v4), .val (.int v5), .val (.int v6), .val (.ref b257), .val (.int v7), .val (.int v9), .val (.int v11), .val (.int v13), .val (.int v15), .val (.long (v1.toInt64)), .second, .val (.int (0 : Int32)), .val (.long (v2.toInt64)), .second, .unset, .unset, .unset, .unset, .unset, .unset, .unset, .unset, .unset, .unset] [(.int (0 : Int32))])) _
      refine XS.iconst X349.here hx rfl (hb hby at_160) ?_
      show Steps p.tables e below (T349.setTop (mkF m 161 #[.val (.int p0), .val (.int p1), .val (.int p2), .val (.int p3), .val (.int p4), .val (.int p5), .val (.int v1), .val (.int v2), .val (.int v3), .val (.int v4), .val (.int v5), .val (.int v6), .val (.ref b257), .val (.int v7), .val (.int v9), .val (.int v11), .val (.int v13), .val (.int v15), .val (.long (v1.toInt64)), .second, .val (.int (0 : Int32)), .val (.long (v2.toInt64)), .second, .unset, .unset, .unset, .unset, .unset, .unset, .unset, .unset, .unset, .unset] [(.int (1 : Int32)), (.int (0 : Int32))])) _
      refine XS.iadd X349.here hx rfl (hb hby at_161) rfl ?_
      show Steps p.tables e below (T349.setTop (mkF m 162 #[.val (.int p0), .val (.int p1), .val (.int p2), .val (.int p3), .val (.int p4), .val (.int p5), .val (.int v1), .val (.int v2), .val (.int v3), .val (.int v4), .val (.int v5), .val (.int v6), .val (.ref b257), .val (.int v7), .val (.int v9), .val (.int v11), .val (.int v13), .val (.int v15), .val (.long (v1.toInt64)), .second, .val (.int (0 : Int32)), .val (.long (v2.toInt64)), .second, .unset, .unset, .unset, .unset, .unset, .unset, .unset, .unset, .unset, .unset] [(.int ((0 : Int32) + (1 : Int32)))])) _
      refine XS.istore X349.here hx rfl (hb hby at_162) rfl (l' := #[.val (.int p0), .val (.int p1), .val (.int p2), .val (.int p3), .val (.int p4), .val (.int p5), .val (.int v1), .val (.int v2), .val (.int v3), .val (.int v4), .val (.int v5), .val (.int v6), .val (.ref b257), .val (.int v7), .val (.int v9), .val (.int v11), .val (.int v13), .val (.int v15), .val (.long (v1.toInt64)), .second, .val (.int (0 : Int32)), .val (.long (v2.toInt64)), .second, .val (.int ((0 : Int32) + (1 : Int32))), .unset, .unset, .unset, .unset, .unset, .unset, .unset, .unset, .unset]) rfl ?_
      show Steps p.tables e below (T349.setTop (mkF m 164 #[.val (.int p0), .val (.int p1), .val (.int p2), .val (.int p3), .val (.int p4), .val (.int p5), .val (.int v1), .val (.int v2), .val (.int v3), .val (.int v4), .val (.int v5), .val (.int v6), .val (.ref b257), .val (.int v7), .val (.int v9), .val (.int v11), .val (.int v13), .val (.int v15), .val (.long (v1.toInt64)), .second, .val (.int (0 : Int32)), .val (.long (v2.toInt64)), .second, .val (.int ((0 : Int32) + (1 : Int32))), .unset, .unset, .unset, .unset, .unset, .unset, .unset, .unset, .unset] [])) _
      refine XS.iload X349.here hx rfl (hb hby at_164) rfl ?_
      show Steps p.tables e below (T349.setTop (mkF m 166 #[.val (.int p0), .val (.int p1), .val (.int p2), .val (.int p3), .val (.int p4), .val (.int p5), .val (.int v1), .val (.int v2), .val (.int v3), .val (.int v4), .val (.int v5), .val (.int v6), .val (.ref b257), .val (.int v7), .val (.int v9), .val (.int v11), .val (.int v13), .val (.int v15), .val (.long (v1.toInt64)), .second, .val (.int (0 : Int32)), .val (.long (v2.toInt64)), .second, .val (.int ((0 : Int32) + (1 : Int32))), .unset, .unset, .unset, .unset, .unset, .unset, .unset, .unset, .unset] [(.int v3)])) _
      refine XS.i2l X349.here hx rfl (hb hby at_166) rfl ?_
      show Steps p.tables e below (T349.setTop (mkF m 167 #[.val (.int p0), .val (.int p1), .val (.int p2), .val (.int p3), .val (.int p4), .val (.int p5), .val (.int v1), .val (.int v2), .val (.int v3), .val (.int v4), .val (.int v5), .val (.int v6), .val (.ref b257), .val (.int v7), .val (.int v9), .val (.int v11), .val (.int v13), .val (.int v15), .val (.long (v1.toInt64)), .second, .val (.int (0 : Int32)), .val (.long (v2.toInt64)), .second, .val (.int ((0 : Int32) + (1 : Int32))), .unset, .unset, .unset, .unset, .unset, .unset, .unset, .unset, .unset] [(.long (v3.toInt64))])) _
      refine XS.lstore X349.here hx rfl (hb hby at_167) rfl (l' := #[.val (.int p0), .val (.int p1), .val (.int p2), .val (.int p3), .val (.int p4), .val (.int p5), .val (.int v1), .val (.int v2), .val (.int v3), .val (.int v4), .val (.int v5), .val (.int v6), .val (.ref b257), .val (.int v7), .val (.int v9), .val (.int v11), .val (.int v13), .val (.int v15), .val (.long (v1.toInt64)), .second, .val (.int (0 : Int32)), .val (.long (v2.toInt64)), .second, .val (.int ((0 : Int32) + (1 : Int32))), .val (.long (v3.toInt64)), .second, .unset, .unset, .unset, .unset, .unset, .unset, .unset]) rfl ?_
      subst hv17
      subst hv18
      exact kt
    · rw [if_neg hc364] at hv17 hv18
      refine XS.ifNo X349.here hx rfl (hb hby at_140) rfl ((if0 _ _).trans (flt (own_lwH hc364)).2.2.1) ?_
      show Steps p.tables e below (T349.setTop (mkF m 143 #[.val (.int p0), .val (.int p1), .val (.int p2), .val (.int p3), .val (.int p4), .val (.int p5), .val (.int v1), .val (.int v2), .val (.int v3), .val (.int v4), .val (.int v5), .val (.int v6), .val (.ref b257), .val (.int v7), .val (.int v9), .val (.int v11), .val (.int v13), .val (.int v15), .val (.long (v1.toInt64)), .second, .val (.int (0 : Int32)), .val (.long (v2.toInt64)), .second, .unset, .unset, .unset, .unset, .unset, .unset, .unset, .unset, .unset, .unset] [])) _
      refine XS.iload X349.here hx rfl (hb hby at_143) rfl ?_
      show Steps p.tables e below (T349.setTop (mkF m 145 #[.val (.int p0), .val (.int p1), .val (.int p2), .val (.int p3), .val (.int p4), .val (.int p5), .val (.int v1), .val (.int v2), .val (.int v3), .val (.int v4), .val (.int v5), .val (.int v6), .val (.ref b257), .val (.int v7), .val (.int v9), .val (.int v11), .val (.int v13), .val (.int v15), .val (.long (v1.toInt64)), .second, .val (.int (0 : Int32)), .val (.long (v2.toInt64)), .second, .unset, .unset, .unset, .unset, .unset, .unset, .unset, .unset, .unset, .unset] [(.int (0 : Int32))])) _
      refine XS.istore X349.here hx rfl (hb hby at_145) rfl (l' := #[.val (.int p0), .val (.int p1), .val (.int p2), .val (.int p3), .val (.int p4), .val (.int p5), .val (.int v1), .val (.int v2), .val (.int v3), .val (.int v4), .val (.int v5), .val (.int v6), .val (.ref b257), .val (.int v7), .val (.int v9), .val (.int v11), .val (.int v13), .val (.int v15), .val (.long (v1.toInt64)), .second, .val (.int (0 : Int32)), .val (.long (v2.toInt64)), .second, .val (.int (0 : Int32)), .unset, .unset, .unset, .unset, .unset, .unset, .unset, .unset, .unset]) rfl ?_
      show Steps p.tables e below (T349.setTop (mkF m 147 #[.val (.int p0), .val (.int p1), .val (.int p2), .val (.int p3), .val (.int p4), .val (.int p5), .val (.int v1), .val (.int v2), .val (.int v3), .val (.int v4), .val (.int v5), .val (.int v6), .val (.ref b257), .val (.int v7), .val (.int v9), .val (.int v11), .val (.int v13), .val (.int v15), .val (.long (v1.toInt64)), .second, .val (.int (0 : Int32)), .val (.long (v2.toInt64)), .second, .val (.int (0 : Int32)), .unset, .unset, .unset, .unset, .unset, .unset, .unset, .unset, .unset] [])) _
      refine XS.lload X349.here hx rfl (hb hby at_147) rfl ?_
      show Steps p.tables e below (T349.setTop (mkF m 149 #[.val (.int p0), .val (.int p1), .val (.int p2), .val (.int p3), .val (.int p4), .val (.int p5), .val (.int v1), .val (.int v2), .val (.int v3), .val (.int v4), .val (.int v5), .val (.int v6), .val (.ref b257), .val (.int v7), .val (.int v9), .val (.int v11), .val (.int v13), .val (.int v15), .val (.long (v1.toInt64)), .second, .val (.int (0 : Int32)), .val (.long (v2.toInt64)), .second, .val (.int (0 : Int32)), .unset, .unset, .unset, .unset, .unset, .unset, .unset, .unset, .unset] [(.long (v2.toInt64))])) _
      refine XS.iload X349.here hx rfl (hb hby at_149) rfl ?_
      show Steps p.tables e below (T349.setTop (mkF m 151 #[.val (.int p0), .val (.int p1), .val (.int p2), .val (.int p3), .val (.int p4), .val (.int p5), .val (.int v1), .val (.int v2), .val (.int v3), .val (.int v4), .val (.int v5), .val (.int v6), .val (.ref b257), .val (.int v7), .val (.int v9), .val (.int v11), .val (.int v13), .val (.int v15), .val (.long (v1.toInt64)), .second, .val (.int (0 : Int32)), .val (.long (v2.toInt64)), .second, .val (.int (0 : Int32)), .unset, .unset, .unset, .unset, .unset, .unset, .unset, .unset, .unset] [(.int v3), (.long (v2.toInt64))])) _
      refine XS.i2l X349.here hx rfl (hb hby at_151) rfl ?_
      show Steps p.tables e below (T349.setTop (mkF m 152 #[.val (.int p0), .val (.int p1), .val (.int p2), .val (.int p3), .val (.int p4), .val (.int p5), .val (.int v1), .val (.int v2), .val (.int v3), .val (.int v4), .val (.int v5), .val (.int v6), .val (.ref b257), .val (.int v7), .val (.int v9), .val (.int v11), .val (.int v13), .val (.int v15), .val (.long (v1.toInt64)), .second, .val (.int (0 : Int32)), .val (.long (v2.toInt64)), .second, .val (.int (0 : Int32)), .unset, .unset, .unset, .unset, .unset, .unset, .unset, .unset, .unset] [(.long (v3.toInt64)), (.long (v2.toInt64))])) _
      refine XS.ladd X349.here hx rfl (hb hby at_152) rfl ?_
      show Steps p.tables e below (T349.setTop (mkF m 153 #[.val (.int p0), .val (.int p1), .val (.int p2), .val (.int p3), .val (.int p4), .val (.int p5), .val (.int v1), .val (.int v2), .val (.int v3), .val (.int v4), .val (.int v5), .val (.int v6), .val (.ref b257), .val (.int v7), .val (.int v9), .val (.int v11), .val (.int v13), .val (.int v15), .val (.long (v1.toInt64)), .second, .val (.int (0 : Int32)), .val (.long (v2.toInt64)), .second, .val (.int (0 : Int32)), .unset, .unset, .unset, .unset, .unset, .unset, .unset, .unset, .unset] [(.long ((v2.toInt64) + (v3.toInt64)))])) _
      refine XS.lstore X349.here hx rfl (hb hby at_153) rfl (l' := #[.val (.int p0), .val (.int p1), .val (.int p2), .val (.int p3), .val (.int p4), .val (.int p5), .val (.int v1), .val (.int v2), .val (.int v3), .val (.int v4), .val (.int v5), .val (.int v6), .val (.ref b257), .val (.int v7), .val (.int v9), .val (.int v11), .val (.int v13), .val (.int v15), .val (.long (v1.toInt64)), .second, .val (.int (0 : Int32)), .val (.long (v2.toInt64)), .second, .val (.int (0 : Int32)), .val (.long ((v2.toInt64) + (v3.toInt64))), .second, .unset, .unset, .unset, .unset, .unset, .unset, .unset]) rfl ?_
      show Steps p.tables e below (T349.setTop (mkF m 155 #[.val (.int p0), .val (.int p1), .val (.int p2), .val (.int p3), .val (.int p4), .val (.int p5), .val (.int v1), .val (.int v2), .val (.int v3), .val (.int v4), .val (.int v5), .val (.int v6), .val (.ref b257), .val (.int v7), .val (.int v9), .val (.int v11), .val (.int v13), .val (.int v15), .val (.long (v1.toInt64)), .second, .val (.int (0 : Int32)), .val (.long (v2.toInt64)), .second, .val (.int (0 : Int32)), .val (.long ((v2.toInt64) + (v3.toInt64))), .second, .unset, .unset, .unset, .unset, .unset, .unset, .unset] [])) _
      refine XS.goto X349.here hx rfl (pc0 := 155) (pc' := 169) rfl (hb hby at_155) (by decide) (by decide) ?_
      subst hv17
      subst hv18
      exact kt
  have pre366 : ∀ t, Steps p.tables e below (T349.setTop (mkF m 178 #[.val (.int p0), .val (.int p1), .val (.int p2), .val (.int p3), .val (.int p4), .val (.int p5), .val (.int v1), .val (.int v2), .val (.int v3), .val (.int v4), .val (.int v5), .val (.int v6), .val (.ref b257), .val (.int v7), .val (.int v9), .val (.int v11), .val (.int v13), .val (.int v15), .val (.long (v1.toInt64)), .second, .val (.int (0 : Int32)), .val (.long (v2.toInt64)), .second, .val (.int v17), .val (.long v18), .second, .unset, .unset, .unset, .unset, .unset, .unset, .unset] [(.int (lcmpW (v18 + (v4.toInt64)) (v1.toInt64)))])) t → Steps p.tables e below (s₁.setTop (entryFrame m #[(.int p0), (.int p1), (.int p2), (.int p3), (.int p4), (.int p5)] maxLocals)) t := fun t kt => by
    refine pre365 _ ?_
    show Steps p.tables e below (T349.setTop (mkF m 169 #[.val (.int p0), .val (.int p1), .val (.int p2), .val (.int p3), .val (.int p4), .val (.int p5), .val (.int v1), .val (.int v2), .val (.int v3), .val (.int v4), .val (.int v5), .val (.int v6), .val (.ref b257), .val (.int v7), .val (.int v9), .val (.int v11), .val (.int v13), .val (.int v15), .val (.long (v1.toInt64)), .second, .val (.int (0 : Int32)), .val (.long (v2.toInt64)), .second, .val (.int v17), .val (.long v18), .second, .unset, .unset, .unset, .unset, .unset, .unset, .unset] [])) _
    refine XS.lload X349.here hx rfl (hb hby at_169) rfl ?_
    show Steps p.tables e below (T349.setTop (mkF m 171 #[.val (.int p0), .val (.int p1), .val (.int p2), .val (.int p3), .val (.int p4), .val (.int p5), .val (.int v1), .val (.int v2), .val (.int v3), .val (.int v4), .val (.int v5), .val (.int v6), .val (.ref b257), .val (.int v7), .val (.int v9), .val (.int v11), .val (.int v13), .val (.int v15), .val (.long (v1.toInt64)), .second, .val (.int (0 : Int32)), .val (.long (v2.toInt64)), .second, .val (.int v17), .val (.long v18), .second, .unset, .unset, .unset, .unset, .unset, .unset, .unset] [(.long v18)])) _
    refine XS.iload X349.here hx rfl (hb hby at_171) rfl ?_
    show Steps p.tables e below (T349.setTop (mkF m 173 #[.val (.int p0), .val (.int p1), .val (.int p2), .val (.int p3), .val (.int p4), .val (.int p5), .val (.int v1), .val (.int v2), .val (.int v3), .val (.int v4), .val (.int v5), .val (.int v6), .val (.ref b257), .val (.int v7), .val (.int v9), .val (.int v11), .val (.int v13), .val (.int v15), .val (.long (v1.toInt64)), .second, .val (.int (0 : Int32)), .val (.long (v2.toInt64)), .second, .val (.int v17), .val (.long v18), .second, .unset, .unset, .unset, .unset, .unset, .unset, .unset] [(.int v4), (.long v18)])) _
    refine XS.i2l X349.here hx rfl (hb hby at_173) rfl ?_
    show Steps p.tables e below (T349.setTop (mkF m 174 #[.val (.int p0), .val (.int p1), .val (.int p2), .val (.int p3), .val (.int p4), .val (.int p5), .val (.int v1), .val (.int v2), .val (.int v3), .val (.int v4), .val (.int v5), .val (.int v6), .val (.ref b257), .val (.int v7), .val (.int v9), .val (.int v11), .val (.int v13), .val (.int v15), .val (.long (v1.toInt64)), .second, .val (.int (0 : Int32)), .val (.long (v2.toInt64)), .second, .val (.int v17), .val (.long v18), .second, .unset, .unset, .unset, .unset, .unset, .unset, .unset] [(.long (v4.toInt64)), (.long v18)])) _
    refine XS.ladd X349.here hx rfl (hb hby at_174) rfl ?_
    show Steps p.tables e below (T349.setTop (mkF m 175 #[.val (.int p0), .val (.int p1), .val (.int p2), .val (.int p3), .val (.int p4), .val (.int p5), .val (.int v1), .val (.int v2), .val (.int v3), .val (.int v4), .val (.int v5), .val (.int v6), .val (.ref b257), .val (.int v7), .val (.int v9), .val (.int v11), .val (.int v13), .val (.int v15), .val (.long (v1.toInt64)), .second, .val (.int (0 : Int32)), .val (.long (v2.toInt64)), .second, .val (.int v17), .val (.long v18), .second, .unset, .unset, .unset, .unset, .unset, .unset, .unset] [(.long (v18 + (v4.toInt64)))])) _
    refine XS.lload X349.here hx rfl (hb hby at_175) rfl ?_
    show Steps p.tables e below (T349.setTop (mkF m 177 #[.val (.int p0), .val (.int p1), .val (.int p2), .val (.int p3), .val (.int p4), .val (.int p5), .val (.int v1), .val (.int v2), .val (.int v3), .val (.int v4), .val (.int v5), .val (.int v6), .val (.ref b257), .val (.int v7), .val (.int v9), .val (.int v11), .val (.int v13), .val (.int v15), .val (.long (v1.toInt64)), .second, .val (.int (0 : Int32)), .val (.long (v2.toInt64)), .second, .val (.int v17), .val (.long v18), .second, .unset, .unset, .unset, .unset, .unset, .unset, .unset] [(.long (v1.toInt64)), (.long (v18 + (v4.toInt64)))])) _
    refine XS.lcmp X349.here hx rfl (hb hby at_177) rfl ?_
    show Steps p.tables e below (T349.setTop (mkF m 178 #[.val (.int p0), .val (.int p1), .val (.int p2), .val (.int p3), .val (.int p4), .val (.int p5), .val (.int v1), .val (.int v2), .val (.int v3), .val (.int v4), .val (.int v5), .val (.int v6), .val (.ref b257), .val (.int v7), .val (.int v9), .val (.int v11), .val (.int v13), .val (.int v15), .val (.long (v1.toInt64)), .second, .val (.int (0 : Int32)), .val (.long (v2.toInt64)), .second, .val (.int v17), .val (.long v18), .second, .unset, .unset, .unset, .unset, .unset, .unset, .unset] [(.int (lcmpW (v18 + (v4.toInt64)) (v1.toInt64)))])) _
    exact kt
  obtain ⟨v19, hv19⟩ : ∃ z : Int32, z = (if (v1.toInt64) < (v18 + (v4.toInt64)) then (v17 + (1 : Int32)) else v17) := ⟨_, rfl⟩
  obtain ⟨v20, hv20⟩ : ∃ z : Int64, z = (if (v1.toInt64) < (v18 + (v4.toInt64)) then (v4.toInt64) else (v18 + (v4.toInt64))) := ⟨_, rfl⟩
  have pre368 : ∀ t, Steps p.tables e below (T349.setTop (mkF m 207 #[.val (.int p0), .val (.int p1), .val (.int p2), .val (.int p3), .val (.int p4), .val (.int p5), .val (.int v1), .val (.int v2), .val (.int v3), .val (.int v4), .val (.int v5), .val (.int v6), .val (.ref b257), .val (.int v7), .val (.int v9), .val (.int v11), .val (.int v13), .val (.int v15), .val (.long (v1.toInt64)), .second, .val (.int (0 : Int32)), .val (.long (v2.toInt64)), .second, .val (.int v17), .val (.long v18), .second, .val (.int v19), .val (.long v20), .second, .unset, .unset, .unset, .unset] [])) t → Steps p.tables e below (s₁.setTop (entryFrame m #[(.int p0), (.int p1), (.int p2), (.int p3), (.int p4), (.int p5)] maxLocals)) t := fun t kt => by
    refine pre366 _ ?_
    show Steps p.tables e below (T349.setTop (mkF m 178 #[.val (.int p0), .val (.int p1), .val (.int p2), .val (.int p3), .val (.int p4), .val (.int p5), .val (.int v1), .val (.int v2), .val (.int v3), .val (.int v4), .val (.int v5), .val (.int v6), .val (.ref b257), .val (.int v7), .val (.int v9), .val (.int v11), .val (.int v13), .val (.int v15), .val (.long (v1.toInt64)), .second, .val (.int (0 : Int32)), .val (.long (v2.toInt64)), .second, .val (.int v17), .val (.long v18), .second, .unset, .unset, .unset, .unset, .unset, .unset, .unset] [(.int (lcmpW (v18 + (v4.toInt64)) (v1.toInt64)))])) _
    by_cases hc367 : (v1.toInt64) < (v18 + (v4.toInt64))
    · rw [if_pos hc367] at hv19 hv20
      refine XS.ifYes X349.here hx rfl (pc0 := 178) (pc' := 196) rfl (hb hby at_178) rfl ((if0 _ _).trans (tlt (own_lwG hc367)).2.2.1) (by decide) (by decide) ?_
      show Steps p.tables e below (T349.setTop (mkF m 196 #[.val (.int p0), .val (.int p1), .val (.int p2), .val (.int p3), .val (.int p4), .val (.int p5), .val (.int v1), .val (.int v2), .val (.int v3), .val (.int v4), .val (.int v5), .val (.int v6), .val (.ref b257), .val (.int v7), .val (.int v9), .val (.int v11), .val (.int v13), .val (.int v15), .val (.long (v1.toInt64)), .second, .val (.int (0 : Int32)), .val (.long (v2.toInt64)), .second, .val (.int v17), .val (.long v18), .second, .unset, .unset, .unset, .unset, .unset, .unset, .unset] [])) _
      refine XS.iload X349.here hx rfl (hb hby at_196) rfl ?_
      show Steps p.tables e below (T349.setTop (mkF m 198 #[.val (.int p0), .val (.int p1), .val (.int p2), .val (.int p3), .val (.int p4), .val (.int p5), .val (.int v1), .val (.int v2), .val (.int v3), .val (.int v4), .val (.int v5), .val (.int v6), .val (.ref b257), .val (.int v7), .val (.int v9), .val (.int v11), .val (.int v13), .val (.int v15), .val (.long (v1.toInt64)), .second, .val (.int (0 : Int32)), .val (.long (v2.toInt64)), .second, .val (.int v17), .val (.long v18), .second, .unset, .unset, .unset, .unset, .unset, .unset, .unset] [(.int v17)])) _
      refine XS.iconst X349.here hx rfl (hb hby at_198) ?_
      show Steps p.tables e below (T349.setTop (mkF m 199 #[.val (.int p0), .val (.int p1), .val (.int p2), .val (.int p3), .val (.int p4), .val (.int p5), .val (.int v1), .val (.int v2), .val (.int v3), .val (.int v4), .val (.int v5), .val (.int v6), .val (.ref b257), .val (.int v7), .val (.int v9), .val (.int v11), .val (.int v13), .val (.int v15), .val (.long (v1.toInt64)), .second, .val (.int (0 : Int32)), .val (.long (v2.toInt64)), .second, .val (.int v17), .val (.long v18), .second, .unset, .unset, .unset, .unset, .unset, .unset, .unset] [(.int (1 : Int32)), (.int v17)])) _
      refine XS.iadd X349.here hx rfl (hb hby at_199) rfl ?_
      show Steps p.tables e below (T349.setTop (mkF m 200 #[.val (.int p0), .val (.int p1), .val (.int p2), .val (.int p3), .val (.int p4), .val (.int p5), .val (.int v1), .val (.int v2), .val (.int v3), .val (.int v4), .val (.int v5), .val (.int v6), .val (.ref b257), .val (.int v7), .val (.int v9), .val (.int v11), .val (.int v13), .val (.int v15), .val (.long (v1.toInt64)), .second, .val (.int (0 : Int32)), .val (.long (v2.toInt64)), .second, .val (.int v17), .val (.long v18), .second, .unset, .unset, .unset, .unset, .unset, .unset, .unset] [(.int (v17 + (1 : Int32)))])) _
      refine XS.istore X349.here hx rfl (hb hby at_200) rfl (l' := #[.val (.int p0), .val (.int p1), .val (.int p2), .val (.int p3), .val (.int p4), .val (.int p5), .val (.int v1), .val (.int v2), .val (.int v3), .val (.int v4), .val (.int v5), .val (.int v6), .val (.ref b257), .val (.int v7), .val (.int v9), .val (.int v11), .val (.int v13), .val (.int v15), .val (.long (v1.toInt64)), .second, .val (.int (0 : Int32)), .val (.long (v2.toInt64)), .second, .val (.int v17), .val (.long v18), .second, .val (.int (v17 + (1 : Int32))), .unset, .unset, .unset, .unset, .unset, .unset]) rfl ?_
      show Steps p.tables e below (T349.setTop (mkF m 202 #[.val (.int p0), .val (.int p1), .val (.int p2), .val (.int p3), .val (.int p4), .val (.int p5), .val (.int v1), .val (.int v2), .val (.int v3), .val (.int v4), .val (.int v5), .val (.int v6), .val (.ref b257), .val (.int v7), .val (.int v9), .val (.int v11), .val (.int v13), .val (.int v15), .val (.long (v1.toInt64)), .second, .val (.int (0 : Int32)), .val (.long (v2.toInt64)), .second, .val (.int v17), .val (.long v18), .second, .val (.int (v17 + (1 : Int32))), .unset, .unset, .unset, .unset, .unset, .unset] [])) _
      refine XS.iload X349.here hx rfl (hb hby at_202) rfl ?_
      show Steps p.tables e below (T349.setTop (mkF m 204 #[.val (.int p0), .val (.int p1), .val (.int p2), .val (.int p3), .val (.int p4), .val (.int p5), .val (.int v1), .val (.int v2), .val (.int v3), .val (.int v4), .val (.int v5), .val (.int v6), .val (.ref b257), .val (.int v7), .val (.int v9), .val (.int v11), .val (.int v13), .val (.int v15), .val (.long (v1.toInt64)), .second, .val (.int (0 : Int32)), .val (.long (v2.toInt64)), .second, .val (.int v17), .val (.long v18), .second, .val (.int (v17 + (1 : Int32))), .unset, .unset, .unset, .unset, .unset, .unset] [(.int v4)])) _
      refine XS.i2l X349.here hx rfl (hb hby at_204) rfl ?_
      show Steps p.tables e below (T349.setTop (mkF m 205 #[.val (.int p0), .val (.int p1), .val (.int p2), .val (.int p3), .val (.int p4), .val (.int p5), .val (.int v1), .val (.int v2), .val (.int v3), .val (.int v4), .val (.int v5), .val (.int v6), .val (.ref b257), .val (.int v7), .val (.int v9), .val (.int v11), .val (.int v13), .val (.int v15), .val (.long (v1.toInt64)), .second, .val (.int (0 : Int32)), .val (.long (v2.toInt64)), .second, .val (.int v17), .val (.long v18), .second, .val (.int (v17 + (1 : Int32))), .unset, .unset, .unset, .unset, .unset, .unset] [(.long (v4.toInt64))])) _
      refine XS.lstore X349.here hx rfl (hb hby at_205) rfl (l' := #[.val (.int p0), .val (.int p1), .val (.int p2), .val (.int p3), .val (.int p4), .val (.int p5), .val (.int v1), .val (.int v2), .val (.int v3), .val (.int v4), .val (.int v5), .val (.int v6), .val (.ref b257), .val (.int v7), .val (.int v9), .val (.int v11), .val (.int v13), .val (.int v15), .val (.long (v1.toInt64)), .second, .val (.int (0 : Int32)), .val (.long (v2.toInt64)), .second, .val (.int v17), .val (.long v18), .second, .val (.int (v17 + (1 : Int32))), .val (.long (v4.toInt64)), .second, .unset, .unset, .unset, .unset]) rfl ?_
      subst hv19
      subst hv20
      exact kt
    · rw [if_neg hc367] at hv19 hv20
      refine XS.ifNo X349.here hx rfl (hb hby at_178) rfl ((if0 _ _).trans (flt (own_lwH hc367)).2.2.1) ?_
      show Steps p.tables e below (T349.setTop (mkF m 181 #[.val (.int p0), .val (.int p1), .val (.int p2), .val (.int p3), .val (.int p4), .val (.int p5), .val (.int v1), .val (.int v2), .val (.int v3), .val (.int v4), .val (.int v5), .val (.int v6), .val (.ref b257), .val (.int v7), .val (.int v9), .val (.int v11), .val (.int v13), .val (.int v15), .val (.long (v1.toInt64)), .second, .val (.int (0 : Int32)), .val (.long (v2.toInt64)), .second, .val (.int v17), .val (.long v18), .second, .unset, .unset, .unset, .unset, .unset, .unset, .unset] [])) _
      refine XS.iload X349.here hx rfl (hb hby at_181) rfl ?_
      show Steps p.tables e below (T349.setTop (mkF m 183 #[.val (.int p0), .val (.int p1), .val (.int p2), .val (.int p3), .val (.int p4), .val (.int p5), .val (.int v1), .val (.int v2), .val (.int v3), .val (.int v4), .val (.int v5), .val (.int v6), .val (.ref b257), .val (.int v7), .val (.int v9), .val (.int v11), .val (.int v13), .val (.int v15), .val (.long (v1.toInt64)), .second, .val (.int (0 : Int32)), .val (.long (v2.toInt64)), .second, .val (.int v17), .val (.long v18), .second, .unset, .unset, .unset, .unset, .unset, .unset, .unset] [(.int v17)])) _
      refine XS.istore X349.here hx rfl (hb hby at_183) rfl (l' := #[.val (.int p0), .val (.int p1), .val (.int p2), .val (.int p3), .val (.int p4), .val (.int p5), .val (.int v1), .val (.int v2), .val (.int v3), .val (.int v4), .val (.int v5), .val (.int v6), .val (.ref b257), .val (.int v7), .val (.int v9), .val (.int v11), .val (.int v13), .val (.int v15), .val (.long (v1.toInt64)), .second, .val (.int (0 : Int32)), .val (.long (v2.toInt64)), .second, .val (.int v17), .val (.long v18), .second, .val (.int v17), .unset, .unset, .unset, .unset, .unset, .unset]) rfl ?_
      show Steps p.tables e below (T349.setTop (mkF m 185 #[.val (.int p0), .val (.int p1), .val (.int p2), .val (.int p3), .val (.int p4), .val (.int p5), .val (.int v1), .val (.int v2), .val (.int v3), .val (.int v4), .val (.int v5), .val (.int v6), .val (.ref b257), .val (.int v7), .val (.int v9), .val (.int v11), .val (.int v13), .val (.int v15), .val (.long (v1.toInt64)), .second, .val (.int (0 : Int32)), .val (.long (v2.toInt64)), .second, .val (.int v17), .val (.long v18), .second, .val (.int v17), .unset, .unset, .unset, .unset, .unset, .unset] [])) _
      refine XS.lload X349.here hx rfl (hb hby at_185) rfl ?_
      show Steps p.tables e below (T349.setTop (mkF m 187 #[.val (.int p0), .val (.int p1), .val (.int p2), .val (.int p3), .val (.int p4), .val (.int p5), .val (.int v1), .val (.int v2), .val (.int v3), .val (.int v4), .val (.int v5), .val (.int v6), .val (.ref b257), .val (.int v7), .val (.int v9), .val (.int v11), .val (.int v13), .val (.int v15), .val (.long (v1.toInt64)), .second, .val (.int (0 : Int32)), .val (.long (v2.toInt64)), .second, .val (.int v17), .val (.long v18), .second, .val (.int v17), .unset, .unset, .unset, .unset, .unset, .unset] [(.long v18)])) _
      refine XS.iload X349.here hx rfl (hb hby at_187) rfl ?_
      show Steps p.tables e below (T349.setTop (mkF m 189 #[.val (.int p0), .val (.int p1), .val (.int p2), .val (.int p3), .val (.int p4), .val (.int p5), .val (.int v1), .val (.int v2), .val (.int v3), .val (.int v4), .val (.int v5), .val (.int v6), .val (.ref b257), .val (.int v7), .val (.int v9), .val (.int v11), .val (.int v13), .val (.int v15), .val (.long (v1.toInt64)), .second, .val (.int (0 : Int32)), .val (.long (v2.toInt64)), .second, .val (.int v17), .val (.long v18), .second, .val (.int v17), .unset, .unset, .unset, .unset, .unset, .unset] [(.int v4), (.long v18)])) _
      refine XS.i2l X349.here hx rfl (hb hby at_189) rfl ?_
      show Steps p.tables e below (T349.setTop (mkF m 190 #[.val (.int p0), .val (.int p1), .val (.int p2), .val (.int p3), .val (.int p4), .val (.int p5), .val (.int v1), .val (.int v2), .val (.int v3), .val (.int v4), .val (.int v5), .val (.int v6), .val (.ref b257), .val (.int v7), .val (.int v9), .val (.int v11), .val (.int v13), .val (.int v15), .val (.long (v1.toInt64)), .second, .val (.int (0 : Int32)), .val (.long (v2.toInt64)), .second, .val (.int v17), .val (.long v18), .second, .val (.int v17), .unset, .unset, .unset, .unset, .unset, .unset] [(.long (v4.toInt64)), (.long v18)])) _
      refine XS.ladd X349.here hx rfl (hb hby at_190) rfl ?_
      show Steps p.tables e below (T349.setTop (mkF m 191 #[.val (.int p0), .val (.int p1), .val (.int p2), .val (.int p3), .val (.int p4), .val (.int p5), .val (.int v1), .val (.int v2), .val (.int v3), .val (.int v4), .val (.int v5), .val (.int v6), .val (.ref b257), .val (.int v7), .val (.int v9), .val (.int v11), .val (.int v13), .val (.int v15), .val (.long (v1.toInt64)), .second, .val (.int (0 : Int32)), .val (.long (v2.toInt64)), .second, .val (.int v17), .val (.long v18), .second, .val (.int v17), .unset, .unset, .unset, .unset, .unset, .unset] [(.long (v18 + (v4.toInt64)))])) _
      refine XS.lstore X349.here hx rfl (hb hby at_191) rfl (l' := #[.val (.int p0), .val (.int p1), .val (.int p2), .val (.int p3), .val (.int p4), .val (.int p5), .val (.int v1), .val (.int v2), .val (.int v3), .val (.int v4), .val (.int v5), .val (.int v6), .val (.ref b257), .val (.int v7), .val (.int v9), .val (.int v11), .val (.int v13), .val (.int v15), .val (.long (v1.toInt64)), .second, .val (.int (0 : Int32)), .val (.long (v2.toInt64)), .second, .val (.int v17), .val (.long v18), .second, .val (.int v17), .val (.long (v18 + (v4.toInt64))), .second, .unset, .unset, .unset, .unset]) rfl ?_
      show Steps p.tables e below (T349.setTop (mkF m 193 #[.val (.int p0), .val (.int p1), .val (.int p2), .val (.int p3), .val (.int p4), .val (.int p5), .val (.int v1), .val (.int v2), .val (.int v3), .val (.int v4), .val (.int v5), .val (.int v6), .val (.ref b257), .val (.int v7), .val (.int v9), .val (.int v11), .val (.int v13), .val (.int v15), .val (.long (v1.toInt64)), .second, .val (.int (0 : Int32)), .val (.long (v2.toInt64)), .second, .val (.int v17), .val (.long v18), .second, .val (.int v17), .val (.long (v18 + (v4.toInt64))), .second, .unset, .unset, .unset, .unset] [])) _
      refine XS.goto X349.here hx rfl (pc0 := 193) (pc' := 207) rfl (hb hby at_193) (by decide) (by decide) ?_
      subst hv19
      subst hv20
      exact kt
  have pre369 : ∀ t, Steps p.tables e below (T349.setTop (mkF m 216 #[.val (.int p0), .val (.int p1), .val (.int p2), .val (.int p3), .val (.int p4), .val (.int p5), .val (.int v1), .val (.int v2), .val (.int v3), .val (.int v4), .val (.int v5), .val (.int v6), .val (.ref b257), .val (.int v7), .val (.int v9), .val (.int v11), .val (.int v13), .val (.int v15), .val (.long (v1.toInt64)), .second, .val (.int (0 : Int32)), .val (.long (v2.toInt64)), .second, .val (.int v17), .val (.long v18), .second, .val (.int v19), .val (.long v20), .second, .unset, .unset, .unset, .unset] [(.int (lcmpW (v20 + (v5.toInt64)) (v1.toInt64)))])) t → Steps p.tables e below (s₁.setTop (entryFrame m #[(.int p0), (.int p1), (.int p2), (.int p3), (.int p4), (.int p5)] maxLocals)) t := fun t kt => by
    refine pre368 _ ?_
    show Steps p.tables e below (T349.setTop (mkF m 207 #[.val (.int p0), .val (.int p1), .val (.int p2), .val (.int p3), .val (.int p4), .val (.int p5), .val (.int v1), .val (.int v2), .val (.int v3), .val (.int v4), .val (.int v5), .val (.int v6), .val (.ref b257), .val (.int v7), .val (.int v9), .val (.int v11), .val (.int v13), .val (.int v15), .val (.long (v1.toInt64)), .second, .val (.int (0 : Int32)), .val (.long (v2.toInt64)), .second, .val (.int v17), .val (.long v18), .second, .val (.int v19), .val (.long v20), .second, .unset, .unset, .unset, .unset] [])) _
    refine XS.lload X349.here hx rfl (hb hby at_207) rfl ?_
    show Steps p.tables e below (T349.setTop (mkF m 209 #[.val (.int p0), .val (.int p1), .val (.int p2), .val (.int p3), .val (.int p4), .val (.int p5), .val (.int v1), .val (.int v2), .val (.int v3), .val (.int v4), .val (.int v5), .val (.int v6), .val (.ref b257), .val (.int v7), .val (.int v9), .val (.int v11), .val (.int v13), .val (.int v15), .val (.long (v1.toInt64)), .second, .val (.int (0 : Int32)), .val (.long (v2.toInt64)), .second, .val (.int v17), .val (.long v18), .second, .val (.int v19), .val (.long v20), .second, .unset, .unset, .unset, .unset] [(.long v20)])) _
    refine XS.iload X349.here hx rfl (hb hby at_209) rfl ?_
    show Steps p.tables e below (T349.setTop (mkF m 211 #[.val (.int p0), .val (.int p1), .val (.int p2), .val (.int p3), .val (.int p4), .val (.int p5), .val (.int v1), .val (.int v2), .val (.int v3), .val (.int v4), .val (.int v5), .val (.int v6), .val (.ref b257), .val (.int v7), .val (.int v9), .val (.int v11), .val (.int v13), .val (.int v15), .val (.long (v1.toInt64)), .second, .val (.int (0 : Int32)), .val (.long (v2.toInt64)), .second, .val (.int v17), .val (.long v18), .second, .val (.int v19), .val (.long v20), .second, .unset, .unset, .unset, .unset] [(.int v5), (.long v20)])) _
    refine XS.i2l X349.here hx rfl (hb hby at_211) rfl ?_
    show Steps p.tables e below (T349.setTop (mkF m 212 #[.val (.int p0), .val (.int p1), .val (.int p2), .val (.int p3), .val (.int p4), .val (.int p5), .val (.int v1), .val (.int v2), .val (.int v3), .val (.int v4), .val (.int v5), .val (.int v6), .val (.ref b257), .val (.int v7), .val (.int v9), .val (.int v11), .val (.int v13), .val (.int v15), .val (.long (v1.toInt64)), .second, .val (.int (0 : Int32)), .val (.long (v2.toInt64)), .second, .val (.int v17), .val (.long v18), .second, .val (.int v19), .val (.long v20), .second, .unset, .unset, .unset, .unset] [(.long (v5.toInt64)), (.long v20)])) _
    refine XS.ladd X349.here hx rfl (hb hby at_212) rfl ?_
    show Steps p.tables e below (T349.setTop (mkF m 213 #[.val (.int p0), .val (.int p1), .val (.int p2), .val (.int p3), .val (.int p4), .val (.int p5), .val (.int v1), .val (.int v2), .val (.int v3), .val (.int v4), .val (.int v5), .val (.int v6), .val (.ref b257), .val (.int v7), .val (.int v9), .val (.int v11), .val (.int v13), .val (.int v15), .val (.long (v1.toInt64)), .second, .val (.int (0 : Int32)), .val (.long (v2.toInt64)), .second, .val (.int v17), .val (.long v18), .second, .val (.int v19), .val (.long v20), .second, .unset, .unset, .unset, .unset] [(.long (v20 + (v5.toInt64)))])) _
    refine XS.lload X349.here hx rfl (hb hby at_213) rfl ?_
    show Steps p.tables e below (T349.setTop (mkF m 215 #[.val (.int p0), .val (.int p1), .val (.int p2), .val (.int p3), .val (.int p4), .val (.int p5), .val (.int v1), .val (.int v2), .val (.int v3), .val (.int v4), .val (.int v5), .val (.int v6), .val (.ref b257), .val (.int v7), .val (.int v9), .val (.int v11), .val (.int v13), .val (.int v15), .val (.long (v1.toInt64)), .second, .val (.int (0 : Int32)), .val (.long (v2.toInt64)), .second, .val (.int v17), .val (.long v18), .second, .val (.int v19), .val (.long v20), .second, .unset, .unset, .unset, .unset] [(.long (v1.toInt64)), (.long (v20 + (v5.toInt64)))])) _
    refine XS.lcmp X349.here hx rfl (hb hby at_215) rfl ?_
    show Steps p.tables e below (T349.setTop (mkF m 216 #[.val (.int p0), .val (.int p1), .val (.int p2), .val (.int p3), .val (.int p4), .val (.int p5), .val (.int v1), .val (.int v2), .val (.int v3), .val (.int v4), .val (.int v5), .val (.int v6), .val (.ref b257), .val (.int v7), .val (.int v9), .val (.int v11), .val (.int v13), .val (.int v15), .val (.long (v1.toInt64)), .second, .val (.int (0 : Int32)), .val (.long (v2.toInt64)), .second, .val (.int v17), .val (.long v18), .second, .val (.int v19), .val (.long v20), .second, .unset, .unset, .unset, .unset] [(.int (lcmpW (v20 + (v5.toInt64)) (v1.toInt64)))])) _
    exact kt
  obtain ⟨v21, hv21⟩ : ∃ z : Int32, z = (if (v1.toInt64) < (v20 + (v5.toInt64)) then (v19 + (1 : Int32)) else v19) := ⟨_, rfl⟩
  obtain ⟨v22, hv22⟩ : ∃ z : Int64, z = (if (v1.toInt64) < (v20 + (v5.toInt64)) then (v5.toInt64) else (v20 + (v5.toInt64))) := ⟨_, rfl⟩
  have pre371 : ∀ t, Steps p.tables e below (T349.setTop (mkF m 245 #[.val (.int p0), .val (.int p1), .val (.int p2), .val (.int p3), .val (.int p4), .val (.int p5), .val (.int v1), .val (.int v2), .val (.int v3), .val (.int v4), .val (.int v5), .val (.int v6), .val (.ref b257), .val (.int v7), .val (.int v9), .val (.int v11), .val (.int v13), .val (.int v15), .val (.long (v1.toInt64)), .second, .val (.int (0 : Int32)), .val (.long (v2.toInt64)), .second, .val (.int v17), .val (.long v18), .second, .val (.int v19), .val (.long v20), .second, .val (.int v21), .val (.long v22), .second, .unset] [])) t → Steps p.tables e below (s₁.setTop (entryFrame m #[(.int p0), (.int p1), (.int p2), (.int p3), (.int p4), (.int p5)] maxLocals)) t := fun t kt => by
    refine pre369 _ ?_
    show Steps p.tables e below (T349.setTop (mkF m 216 #[.val (.int p0), .val (.int p1), .val (.int p2), .val (.int p3), .val (.int p4), .val (.int p5), .val (.int v1), .val (.int v2), .val (.int v3), .val (.int v4), .val (.int v5), .val (.int v6), .val (.ref b257), .val (.int v7), .val (.int v9), .val (.int v11), .val (.int v13), .val (.int v15), .val (.long (v1.toInt64)), .second, .val (.int (0 : Int32)), .val (.long (v2.toInt64)), .second, .val (.int v17), .val (.long v18), .second, .val (.int v19), .val (.long v20), .second, .unset, .unset, .unset, .unset] [(.int (lcmpW (v20 + (v5.toInt64)) (v1.toInt64)))])) _
    by_cases hc370 : (v1.toInt64) < (v20 + (v5.toInt64))
    · rw [if_pos hc370] at hv21 hv22
      refine XS.ifYes X349.here hx rfl (pc0 := 216) (pc' := 234) rfl (hb hby at_216) rfl ((if0 _ _).trans (tlt (own_lwG hc370)).2.2.1) (by decide) (by decide) ?_
      show Steps p.tables e below (T349.setTop (mkF m 234 #[.val (.int p0), .val (.int p1), .val (.int p2), .val (.int p3), .val (.int p4), .val (.int p5), .val (.int v1), .val (.int v2), .val (.int v3), .val (.int v4), .val (.int v5), .val (.int v6), .val (.ref b257), .val (.int v7), .val (.int v9), .val (.int v11), .val (.int v13), .val (.int v15), .val (.long (v1.toInt64)), .second, .val (.int (0 : Int32)), .val (.long (v2.toInt64)), .second, .val (.int v17), .val (.long v18), .second, .val (.int v19), .val (.long v20), .second, .unset, .unset, .unset, .unset] [])) _
      refine XS.iload X349.here hx rfl (hb hby at_234) rfl ?_
      show Steps p.tables e below (T349.setTop (mkF m 236 #[.val (.int p0), .val (.int p1), .val (.int p2), .val (.int p3), .val (.int p4), .val (.int p5), .val (.int v1), .val (.int v2), .val (.int v3), .val (.int v4), .val (.int v5), .val (.int v6), .val (.ref b257), .val (.int v7), .val (.int v9), .val (.int v11), .val (.int v13), .val (.int v15), .val (.long (v1.toInt64)), .second, .val (.int (0 : Int32)), .val (.long (v2.toInt64)), .second, .val (.int v17), .val (.long v18), .second, .val (.int v19), .val (.long v20), .second, .unset, .unset, .unset, .unset] [(.int v19)])) _
      refine XS.iconst X349.here hx rfl (hb hby at_236) ?_
      show Steps p.tables e below (T349.setTop (mkF m 237 #[.val (.int p0), .val (.int p1), .val (.int p2), .val (.int p3), .val (.int p4), .val (.int p5), .val (.int v1), .val (.int v2), .val (.int v3), .val (.int v4), .val (.int v5), .val (.int v6), .val (.ref b257), .val (.int v7), .val (.int v9), .val (.int v11), .val (.int v13), .val (.int v15), .val (.long (v1.toInt64)), .second, .val (.int (0 : Int32)), .val (.long (v2.toInt64)), .second, .val (.int v17), .val (.long v18), .second, .val (.int v19), .val (.long v20), .second, .unset, .unset, .unset, .unset] [(.int (1 : Int32)), (.int v19)])) _
      refine XS.iadd X349.here hx rfl (hb hby at_237) rfl ?_
      show Steps p.tables e below (T349.setTop (mkF m 238 #[.val (.int p0), .val (.int p1), .val (.int p2), .val (.int p3), .val (.int p4), .val (.int p5), .val (.int v1), .val (.int v2), .val (.int v3), .val (.int v4), .val (.int v5), .val (.int v6), .val (.ref b257), .val (.int v7), .val (.int v9), .val (.int v11), .val (.int v13), .val (.int v15), .val (.long (v1.toInt64)), .second, .val (.int (0 : Int32)), .val (.long (v2.toInt64)), .second, .val (.int v17), .val (.long v18), .second, .val (.int v19), .val (.long v20), .second, .unset, .unset, .unset, .unset] [(.int (v19 + (1 : Int32)))])) _
      refine XS.istore X349.here hx rfl (hb hby at_238) rfl (l' := #[.val (.int p0), .val (.int p1), .val (.int p2), .val (.int p3), .val (.int p4), .val (.int p5), .val (.int v1), .val (.int v2), .val (.int v3), .val (.int v4), .val (.int v5), .val (.int v6), .val (.ref b257), .val (.int v7), .val (.int v9), .val (.int v11), .val (.int v13), .val (.int v15), .val (.long (v1.toInt64)), .second, .val (.int (0 : Int32)), .val (.long (v2.toInt64)), .second, .val (.int v17), .val (.long v18), .second, .val (.int v19), .val (.long v20), .second, .val (.int (v19 + (1 : Int32))), .unset, .unset, .unset]) rfl ?_
      show Steps p.tables e below (T349.setTop (mkF m 240 #[.val (.int p0), .val (.int p1), .val (.int p2), .val (.int p3), .val (.int p4), .val (.int p5), .val (.int v1), .val (.int v2), .val (.int v3), .val (.int v4), .val (.int v5), .val (.int v6), .val (.ref b257), .val (.int v7), .val (.int v9), .val (.int v11), .val (.int v13), .val (.int v15), .val (.long (v1.toInt64)), .second, .val (.int (0 : Int32)), .val (.long (v2.toInt64)), .second, .val (.int v17), .val (.long v18), .second, .val (.int v19), .val (.long v20), .second, .val (.int (v19 + (1 : Int32))), .unset, .unset, .unset] [])) _
      refine XS.iload X349.here hx rfl (hb hby at_240) rfl ?_
      show Steps p.tables e below (T349.setTop (mkF m 242 #[.val (.int p0), .val (.int p1), .val (.int p2), .val (.int p3), .val (.int p4), .val (.int p5), .val (.int v1), .val (.int v2), .val (.int v3), .val (.int v4), .val (.int v5), .val (.int v6), .val (.ref b257), .val (.int v7), .val (.int v9), .val (.int v11), .val (.int v13), .val (.int v15), .val (.long (v1.toInt64)), .second, .val (.int (0 : Int32)), .val (.long (v2.toInt64)), .second, .val (.int v17), .val (.long v18), .second, .val (.int v19), .val (.long v20), .second, .val (.int (v19 + (1 : Int32))), .unset, .unset, .unset] [(.int v5)])) _
      refine XS.i2l X349.here hx rfl (hb hby at_242) rfl ?_
      show Steps p.tables e below (T349.setTop (mkF m 243 #[.val (.int p0), .val (.int p1), .val (.int p2), .val (.int p3), .val (.int p4), .val (.int p5), .val (.int v1), .val (.int v2), .val (.int v3), .val (.int v4), .val (.int v5), .val (.int v6), .val (.ref b257), .val (.int v7), .val (.int v9), .val (.int v11), .val (.int v13), .val (.int v15), .val (.long (v1.toInt64)), .second, .val (.int (0 : Int32)), .val (.long (v2.toInt64)), .second, .val (.int v17), .val (.long v18), .second, .val (.int v19), .val (.long v20), .second, .val (.int (v19 + (1 : Int32))), .unset, .unset, .unset] [(.long (v5.toInt64))])) _
      refine XS.lstore X349.here hx rfl (hb hby at_243) rfl (l' := #[.val (.int p0), .val (.int p1), .val (.int p2), .val (.int p3), .val (.int p4), .val (.int p5), .val (.int v1), .val (.int v2), .val (.int v3), .val (.int v4), .val (.int v5), .val (.int v6), .val (.ref b257), .val (.int v7), .val (.int v9), .val (.int v11), .val (.int v13), .val (.int v15), .val (.long (v1.toInt64)), .second, .val (.int (0 : Int32)), .val (.long (v2.toInt64)), .second, .val (.int v17), .val (.long v18), .second, .val (.int v19), .val (.long v20), .second, .val (.int (v19 + (1 : Int32))), .val (.long (v5.toInt64)), .second, .unset]) rfl ?_
      subst hv21
      subst hv22
      exact kt
    · rw [if_neg hc370] at hv21 hv22
      refine XS.ifNo X349.here hx rfl (hb hby at_216) rfl ((if0 _ _).trans (flt (own_lwH hc370)).2.2.1) ?_
      show Steps p.tables e below (T349.setTop (mkF m 219 #[.val (.int p0), .val (.int p1), .val (.int p2), .val (.int p3), .val (.int p4), .val (.int p5), .val (.int v1), .val (.int v2), .val (.int v3), .val (.int v4), .val (.int v5), .val (.int v6), .val (.ref b257), .val (.int v7), .val (.int v9), .val (.int v11), .val (.int v13), .val (.int v15), .val (.long (v1.toInt64)), .second, .val (.int (0 : Int32)), .val (.long (v2.toInt64)), .second, .val (.int v17), .val (.long v18), .second, .val (.int v19), .val (.long v20), .second, .unset, .unset, .unset, .unset] [])) _
      refine XS.iload X349.here hx rfl (hb hby at_219) rfl ?_
      show Steps p.tables e below (T349.setTop (mkF m 221 #[.val (.int p0), .val (.int p1), .val (.int p2), .val (.int p3), .val (.int p4), .val (.int p5), .val (.int v1), .val (.int v2), .val (.int v3), .val (.int v4), .val (.int v5), .val (.int v6), .val (.ref b257), .val (.int v7), .val (.int v9), .val (.int v11), .val (.int v13), .val (.int v15), .val (.long (v1.toInt64)), .second, .val (.int (0 : Int32)), .val (.long (v2.toInt64)), .second, .val (.int v17), .val (.long v18), .second, .val (.int v19), .val (.long v20), .second, .unset, .unset, .unset, .unset] [(.int v19)])) _
      refine XS.istore X349.here hx rfl (hb hby at_221) rfl (l' := #[.val (.int p0), .val (.int p1), .val (.int p2), .val (.int p3), .val (.int p4), .val (.int p5), .val (.int v1), .val (.int v2), .val (.int v3), .val (.int v4), .val (.int v5), .val (.int v6), .val (.ref b257), .val (.int v7), .val (.int v9), .val (.int v11), .val (.int v13), .val (.int v15), .val (.long (v1.toInt64)), .second, .val (.int (0 : Int32)), .val (.long (v2.toInt64)), .second, .val (.int v17), .val (.long v18), .second, .val (.int v19), .val (.long v20), .second, .val (.int v19), .unset, .unset, .unset]) rfl ?_
      show Steps p.tables e below (T349.setTop (mkF m 223 #[.val (.int p0), .val (.int p1), .val (.int p2), .val (.int p3), .val (.int p4), .val (.int p5), .val (.int v1), .val (.int v2), .val (.int v3), .val (.int v4), .val (.int v5), .val (.int v6), .val (.ref b257), .val (.int v7), .val (.int v9), .val (.int v11), .val (.int v13), .val (.int v15), .val (.long (v1.toInt64)), .second, .val (.int (0 : Int32)), .val (.long (v2.toInt64)), .second, .val (.int v17), .val (.long v18), .second, .val (.int v19), .val (.long v20), .second, .val (.int v19), .unset, .unset, .unset] [])) _
      refine XS.lload X349.here hx rfl (hb hby at_223) rfl ?_
      show Steps p.tables e below (T349.setTop (mkF m 225 #[.val (.int p0), .val (.int p1), .val (.int p2), .val (.int p3), .val (.int p4), .val (.int p5), .val (.int v1), .val (.int v2), .val (.int v3), .val (.int v4), .val (.int v5), .val (.int v6), .val (.ref b257), .val (.int v7), .val (.int v9), .val (.int v11), .val (.int v13), .val (.int v15), .val (.long (v1.toInt64)), .second, .val (.int (0 : Int32)), .val (.long (v2.toInt64)), .second, .val (.int v17), .val (.long v18), .second, .val (.int v19), .val (.long v20), .second, .val (.int v19), .unset, .unset, .unset] [(.long v20)])) _
      refine XS.iload X349.here hx rfl (hb hby at_225) rfl ?_
      show Steps p.tables e below (T349.setTop (mkF m 227 #[.val (.int p0), .val (.int p1), .val (.int p2), .val (.int p3), .val (.int p4), .val (.int p5), .val (.int v1), .val (.int v2), .val (.int v3), .val (.int v4), .val (.int v5), .val (.int v6), .val (.ref b257), .val (.int v7), .val (.int v9), .val (.int v11), .val (.int v13), .val (.int v15), .val (.long (v1.toInt64)), .second, .val (.int (0 : Int32)), .val (.long (v2.toInt64)), .second, .val (.int v17), .val (.long v18), .second, .val (.int v19), .val (.long v20), .second, .val (.int v19), .unset, .unset, .unset] [(.int v5), (.long v20)])) _
      refine XS.i2l X349.here hx rfl (hb hby at_227) rfl ?_
      show Steps p.tables e below (T349.setTop (mkF m 228 #[.val (.int p0), .val (.int p1), .val (.int p2), .val (.int p3), .val (.int p4), .val (.int p5), .val (.int v1), .val (.int v2), .val (.int v3), .val (.int v4), .val (.int v5), .val (.int v6), .val (.ref b257), .val (.int v7), .val (.int v9), .val (.int v11), .val (.int v13), .val (.int v15), .val (.long (v1.toInt64)), .second, .val (.int (0 : Int32)), .val (.long (v2.toInt64)), .second, .val (.int v17), .val (.long v18), .second, .val (.int v19), .val (.long v20), .second, .val (.int v19), .unset, .unset, .unset] [(.long (v5.toInt64)), (.long v20)])) _
      refine XS.ladd X349.here hx rfl (hb hby at_228) rfl ?_
      show Steps p.tables e below (T349.setTop (mkF m 229 #[.val (.int p0), .val (.int p1), .val (.int p2), .val (.int p3), .val (.int p4), .val (.int p5), .val (.int v1), .val (.int v2), .val (.int v3), .val (.int v4), .val (.int v5), .val (.int v6), .val (.ref b257), .val (.int v7), .val (.int v9), .val (.int v11), .val (.int v13), .val (.int v15), .val (.long (v1.toInt64)), .second, .val (.int (0 : Int32)), .val (.long (v2.toInt64)), .second, .val (.int v17), .val (.long v18), .second, .val (.int v19), .val (.long v20), .second, .val (.int v19), .unset, .unset, .unset] [(.long (v20 + (v5.toInt64)))])) _
      refine XS.lstore X349.here hx rfl (hb hby at_229) rfl (l' := #[.val (.int p0), .val (.int p1), .val (.int p2), .val (.int p3), .val (.int p4), .val (.int p5), .val (.int v1), .val (.int v2), .val (.int v3), .val (.int v4), .val (.int v5), .val (.int v6), .val (.ref b257), .val (.int v7), .val (.int v9), .val (.int v11), .val (.int v13), .val (.int v15), .val (.long (v1.toInt64)), .second, .val (.int (0 : Int32)), .val (.long (v2.toInt64)), .second, .val (.int v17), .val (.long v18), .second, .val (.int v19), .val (.long v20), .second, .val (.int v19), .val (.long (v20 + (v5.toInt64))), .second, .unset]) rfl ?_
      show Steps p.tables e below (T349.setTop (mkF m 231 #[.val (.int p0), .val (.int p1), .val (.int p2), .val (.int p3), .val (.int p4), .val (.int p5), .val (.int v1), .val (.int v2), .val (.int v3), .val (.int v4), .val (.int v5), .val (.int v6), .val (.ref b257), .val (.int v7), .val (.int v9), .val (.int v11), .val (.int v13), .val (.int v15), .val (.long (v1.toInt64)), .second, .val (.int (0 : Int32)), .val (.long (v2.toInt64)), .second, .val (.int v17), .val (.long v18), .second, .val (.int v19), .val (.long v20), .second, .val (.int v19), .val (.long (v20 + (v5.toInt64))), .second, .unset] [])) _
      refine XS.goto X349.here hx rfl (pc0 := 231) (pc' := 245) rfl (hb hby at_231) (by decide) (by decide) ?_
      subst hv21
      subst hv22
      exact kt
  have pre372 : ∀ t, Steps p.tables e below (T349.setTop (mkF m 254 #[.val (.int p0), .val (.int p1), .val (.int p2), .val (.int p3), .val (.int p4), .val (.int p5), .val (.int v1), .val (.int v2), .val (.int v3), .val (.int v4), .val (.int v5), .val (.int v6), .val (.ref b257), .val (.int v7), .val (.int v9), .val (.int v11), .val (.int v13), .val (.int v15), .val (.long (v1.toInt64)), .second, .val (.int (0 : Int32)), .val (.long (v2.toInt64)), .second, .val (.int v17), .val (.long v18), .second, .val (.int v19), .val (.long v20), .second, .val (.int v21), .val (.long v22), .second, .unset] [(.int (lcmpW (v22 + (v6.toInt64)) (v1.toInt64)))])) t → Steps p.tables e below (s₁.setTop (entryFrame m #[(.int p0), (.int p1), (.int p2), (.int p3), (.int p4), (.int p5)] maxLocals)) t := fun t kt => by
    refine pre371 _ ?_
    show Steps p.tables e below (T349.setTop (mkF m 245 #[.val (.int p0), .val (.int p1), .val (.int p2), .val (.int p3), .val (.int p4), .val (.int p5), .val (.int v1), .val (.int v2), .val (.int v3), .val (.int v4), .val (.int v5), .val (.int v6), .val (.ref b257), .val (.int v7), .val (.int v9), .val (.int v11), .val (.int v13), .val (.int v15), .val (.long (v1.toInt64)), .second, .val (.int (0 : Int32)), .val (.long (v2.toInt64)), .second, .val (.int v17), .val (.long v18), .second, .val (.int v19), .val (.long v20), .second, .val (.int v21), .val (.long v22), .second, .unset] [])) _
    refine XS.lload X349.here hx rfl (hb hby at_245) rfl ?_
    show Steps p.tables e below (T349.setTop (mkF m 247 #[.val (.int p0), .val (.int p1), .val (.int p2), .val (.int p3), .val (.int p4), .val (.int p5), .val (.int v1), .val (.int v2), .val (.int v3), .val (.int v4), .val (.int v5), .val (.int v6), .val (.ref b257), .val (.int v7), .val (.int v9), .val (.int v11), .val (.int v13), .val (.int v15), .val (.long (v1.toInt64)), .second, .val (.int (0 : Int32)), .val (.long (v2.toInt64)), .second, .val (.int v17), .val (.long v18), .second, .val (.int v19), .val (.long v20), .second, .val (.int v21), .val (.long v22), .second, .unset] [(.long v22)])) _
    refine XS.iload X349.here hx rfl (hb hby at_247) rfl ?_
    show Steps p.tables e below (T349.setTop (mkF m 249 #[.val (.int p0), .val (.int p1), .val (.int p2), .val (.int p3), .val (.int p4), .val (.int p5), .val (.int v1), .val (.int v2), .val (.int v3), .val (.int v4), .val (.int v5), .val (.int v6), .val (.ref b257), .val (.int v7), .val (.int v9), .val (.int v11), .val (.int v13), .val (.int v15), .val (.long (v1.toInt64)), .second, .val (.int (0 : Int32)), .val (.long (v2.toInt64)), .second, .val (.int v17), .val (.long v18), .second, .val (.int v19), .val (.long v20), .second, .val (.int v21), .val (.long v22), .second, .unset] [(.int v6), (.long v22)])) _
    refine XS.i2l X349.here hx rfl (hb hby at_249) rfl ?_
    show Steps p.tables e below (T349.setTop (mkF m 250 #[.val (.int p0), .val (.int p1), .val (.int p2), .val (.int p3), .val (.int p4), .val (.int p5), .val (.int v1), .val (.int v2), .val (.int v3), .val (.int v4), .val (.int v5), .val (.int v6), .val (.ref b257), .val (.int v7), .val (.int v9), .val (.int v11), .val (.int v13), .val (.int v15), .val (.long (v1.toInt64)), .second, .val (.int (0 : Int32)), .val (.long (v2.toInt64)), .second, .val (.int v17), .val (.long v18), .second, .val (.int v19), .val (.long v20), .second, .val (.int v21), .val (.long v22), .second, .unset] [(.long (v6.toInt64)), (.long v22)])) _
    refine XS.ladd X349.here hx rfl (hb hby at_250) rfl ?_
    show Steps p.tables e below (T349.setTop (mkF m 251 #[.val (.int p0), .val (.int p1), .val (.int p2), .val (.int p3), .val (.int p4), .val (.int p5), .val (.int v1), .val (.int v2), .val (.int v3), .val (.int v4), .val (.int v5), .val (.int v6), .val (.ref b257), .val (.int v7), .val (.int v9), .val (.int v11), .val (.int v13), .val (.int v15), .val (.long (v1.toInt64)), .second, .val (.int (0 : Int32)), .val (.long (v2.toInt64)), .second, .val (.int v17), .val (.long v18), .second, .val (.int v19), .val (.long v20), .second, .val (.int v21), .val (.long v22), .second, .unset] [(.long (v22 + (v6.toInt64)))])) _
    refine XS.lload X349.here hx rfl (hb hby at_251) rfl ?_
    show Steps p.tables e below (T349.setTop (mkF m 253 #[.val (.int p0), .val (.int p1), .val (.int p2), .val (.int p3), .val (.int p4), .val (.int p5), .val (.int v1), .val (.int v2), .val (.int v3), .val (.int v4), .val (.int v5), .val (.int v6), .val (.ref b257), .val (.int v7), .val (.int v9), .val (.int v11), .val (.int v13), .val (.int v15), .val (.long (v1.toInt64)), .second, .val (.int (0 : Int32)), .val (.long (v2.toInt64)), .second, .val (.int v17), .val (.long v18), .second, .val (.int v19), .val (.long v20), .second, .val (.int v21), .val (.long v22), .second, .unset] [(.long (v1.toInt64)), (.long (v22 + (v6.toInt64)))])) _
    refine XS.lcmp X349.here hx rfl (hb hby at_253) rfl ?_
    show Steps p.tables e below (T349.setTop (mkF m 254 #[.val (.int p0), .val (.int p1), .val (.int p2), .val (.int p3), .val (.int p4), .val (.int p5), .val (.int v1), .val (.int v2), .val (.int v3), .val (.int v4), .val (.int v5), .val (.int v6), .val (.ref b257), .val (.int v7), .val (.int v9), .val (.int v11), .val (.int v13), .val (.int v15), .val (.long (v1.toInt64)), .second, .val (.int (0 : Int32)), .val (.long (v2.toInt64)), .second, .val (.int v17), .val (.long v18), .second, .val (.int v19), .val (.long v20), .second, .val (.int v21), .val (.long v22), .second, .unset] [(.int (lcmpW (v22 + (v6.toInt64)) (v1.toInt64)))])) _
    exact kt
  obtain ⟨v23, hv23⟩ : ∃ z : Int32, z = (if (v1.toInt64) < (v22 + (v6.toInt64)) then (v21 + (1 : Int32)) else v21) := ⟨_, rfl⟩
  have pre374 : ∀ t, Steps p.tables e below (T349.setTop (mkF m 270 #[.val (.int p0), .val (.int p1), .val (.int p2), .val (.int p3), .val (.int p4), .val (.int p5), .val (.int v1), .val (.int v2), .val (.int v3), .val (.int v4), .val (.int v5), .val (.int v6), .val (.ref b257), .val (.int v7), .val (.int v9), .val (.int v11), .val (.int v13), .val (.int v15), .val (.long (v1.toInt64)), .second, .val (.int (0 : Int32)), .val (.long (v2.toInt64)), .second, .val (.int v17), .val (.long v18), .second, .val (.int v19), .val (.long v20), .second, .val (.int v21), .val (.long v22), .second, .val (.int v23)] [])) t → Steps p.tables e below (s₁.setTop (entryFrame m #[(.int p0), (.int p1), (.int p2), (.int p3), (.int p4), (.int p5)] maxLocals)) t := fun t kt => by
    refine pre372 _ ?_
    show Steps p.tables e below (T349.setTop (mkF m 254 #[.val (.int p0), .val (.int p1), .val (.int p2), .val (.int p3), .val (.int p4), .val (.int p5), .val (.int v1), .val (.int v2), .val (.int v3), .val (.int v4), .val (.int v5), .val (.int v6), .val (.ref b257), .val (.int v7), .val (.int v9), .val (.int v11), .val (.int v13), .val (.int v15), .val (.long (v1.toInt64)), .second, .val (.int (0 : Int32)), .val (.long (v2.toInt64)), .second, .val (.int v17), .val (.long v18), .second, .val (.int v19), .val (.long v20), .second, .val (.int v21), .val (.long v22), .second, .unset] [(.int (lcmpW (v22 + (v6.toInt64)) (v1.toInt64)))])) _
    by_cases hc373 : (v1.toInt64) < (v22 + (v6.toInt64))
    · rw [if_pos hc373] at hv23
      refine XS.ifYes X349.here hx rfl (pc0 := 254) (pc' := 264) rfl (hb hby at_254) rfl ((if0 _ _).trans (tlt (own_lwG hc373)).2.2.1) (by decide) (by decide) ?_
      show Steps p.tables e below (T349.setTop (mkF m 264 #[.val (.int p0), .val (.int p1), .val (.int p2), .val (.int p3), .val (.int p4), .val (.int p5), .val (.int v1), .val (.int v2), .val (.int v3), .val (.int v4), .val (.int v5), .val (.int v6), .val (.ref b257), .val (.int v7), .val (.int v9), .val (.int v11), .val (.int v13), .val (.int v15), .val (.long (v1.toInt64)), .second, .val (.int (0 : Int32)), .val (.long (v2.toInt64)), .second, .val (.int v17), .val (.long v18), .second, .val (.int v19), .val (.long v20), .second, .val (.int v21), .val (.long v22), .second, .unset] [])) _
      refine XS.iload X349.here hx rfl (hb hby at_264) rfl ?_
      show Steps p.tables e below (T349.setTop (mkF m 266 #[.val (.int p0), .val (.int p1), .val (.int p2), .val (.int p3), .val (.int p4), .val (.int p5), .val (.int v1), .val (.int v2), .val (.int v3), .val (.int v4), .val (.int v5), .val (.int v6), .val (.ref b257), .val (.int v7), .val (.int v9), .val (.int v11), .val (.int v13), .val (.int v15), .val (.long (v1.toInt64)), .second, .val (.int (0 : Int32)), .val (.long (v2.toInt64)), .second, .val (.int v17), .val (.long v18), .second, .val (.int v19), .val (.long v20), .second, .val (.int v21), .val (.long v22), .second, .unset] [(.int v21)])) _
      refine XS.iconst X349.here hx rfl (hb hby at_266) ?_
      show Steps p.tables e below (T349.setTop (mkF m 267 #[.val (.int p0), .val (.int p1), .val (.int p2), .val (.int p3), .val (.int p4), .val (.int p5), .val (.int v1), .val (.int v2), .val (.int v3), .val (.int v4), .val (.int v5), .val (.int v6), .val (.ref b257), .val (.int v7), .val (.int v9), .val (.int v11), .val (.int v13), .val (.int v15), .val (.long (v1.toInt64)), .second, .val (.int (0 : Int32)), .val (.long (v2.toInt64)), .second, .val (.int v17), .val (.long v18), .second, .val (.int v19), .val (.long v20), .second, .val (.int v21), .val (.long v22), .second, .unset] [(.int (1 : Int32)), (.int v21)])) _
      refine XS.iadd X349.here hx rfl (hb hby at_267) rfl ?_
      show Steps p.tables e below (T349.setTop (mkF m 268 #[.val (.int p0), .val (.int p1), .val (.int p2), .val (.int p3), .val (.int p4), .val (.int p5), .val (.int v1), .val (.int v2), .val (.int v3), .val (.int v4), .val (.int v5), .val (.int v6), .val (.ref b257), .val (.int v7), .val (.int v9), .val (.int v11), .val (.int v13), .val (.int v15), .val (.long (v1.toInt64)), .second, .val (.int (0 : Int32)), .val (.long (v2.toInt64)), .second, .val (.int v17), .val (.long v18), .second, .val (.int v19), .val (.long v20), .second, .val (.int v21), .val (.long v22), .second, .unset] [(.int (v21 + (1 : Int32)))])) _
      refine XS.istore X349.here hx rfl (hb hby at_268) rfl (l' := #[.val (.int p0), .val (.int p1), .val (.int p2), .val (.int p3), .val (.int p4), .val (.int p5), .val (.int v1), .val (.int v2), .val (.int v3), .val (.int v4), .val (.int v5), .val (.int v6), .val (.ref b257), .val (.int v7), .val (.int v9), .val (.int v11), .val (.int v13), .val (.int v15), .val (.long (v1.toInt64)), .second, .val (.int (0 : Int32)), .val (.long (v2.toInt64)), .second, .val (.int v17), .val (.long v18), .second, .val (.int v19), .val (.long v20), .second, .val (.int v21), .val (.long v22), .second, .val (.int (v21 + (1 : Int32)))]) rfl ?_
      subst hv23
      exact kt
    · rw [if_neg hc373] at hv23
      refine XS.ifNo X349.here hx rfl (hb hby at_254) rfl ((if0 _ _).trans (flt (own_lwH hc373)).2.2.1) ?_
      show Steps p.tables e below (T349.setTop (mkF m 257 #[.val (.int p0), .val (.int p1), .val (.int p2), .val (.int p3), .val (.int p4), .val (.int p5), .val (.int v1), .val (.int v2), .val (.int v3), .val (.int v4), .val (.int v5), .val (.int v6), .val (.ref b257), .val (.int v7), .val (.int v9), .val (.int v11), .val (.int v13), .val (.int v15), .val (.long (v1.toInt64)), .second, .val (.int (0 : Int32)), .val (.long (v2.toInt64)), .second, .val (.int v17), .val (.long v18), .second, .val (.int v19), .val (.long v20), .second, .val (.int v21), .val (.long v22), .second, .unset] [])) _
      refine XS.iload X349.here hx rfl (hb hby at_257) rfl ?_
      show Steps p.tables e below (T349.setTop (mkF m 259 #[.val (.int p0), .val (.int p1), .val (.int p2), .val (.int p3), .val (.int p4), .val (.int p5), .val (.int v1), .val (.int v2), .val (.int v3), .val (.int v4), .val (.int v5), .val (.int v6), .val (.ref b257), .val (.int v7), .val (.int v9), .val (.int v11), .val (.int v13), .val (.int v15), .val (.long (v1.toInt64)), .second, .val (.int (0 : Int32)), .val (.long (v2.toInt64)), .second, .val (.int v17), .val (.long v18), .second, .val (.int v19), .val (.long v20), .second, .val (.int v21), .val (.long v22), .second, .unset] [(.int v21)])) _
      refine XS.istore X349.here hx rfl (hb hby at_259) rfl (l' := #[.val (.int p0), .val (.int p1), .val (.int p2), .val (.int p3), .val (.int p4), .val (.int p5), .val (.int v1), .val (.int v2), .val (.int v3), .val (.int v4), .val (.int v5), .val (.int v6), .val (.ref b257), .val (.int v7), .val (.int v9), .val (.int v11), .val (.int v13), .val (.int v15), .val (.long (v1.toInt64)), .second, .val (.int (0 : Int32)), .val (.long (v2.toInt64)), .second, .val (.int v17), .val (.long v18), .second, .val (.int v19), .val (.long v20), .second, .val (.int v21), .val (.long v22), .second, .val (.int v21)]) rfl ?_
      show Steps p.tables e below (T349.setTop (mkF m 261 #[.val (.int p0), .val (.int p1), .val (.int p2), .val (.int p3), .val (.int p4), .val (.int p5), .val (.int v1), .val (.int v2), .val (.int v3), .val (.int v4), .val (.int v5), .val (.int v6), .val (.ref b257), .val (.int v7), .val (.int v9), .val (.int v11), .val (.int v13), .val (.int v15), .val (.long (v1.toInt64)), .second, .val (.int (0 : Int32)), .val (.long (v2.toInt64)), .second, .val (.int v17), .val (.long v18), .second, .val (.int v19), .val (.long v20), .second, .val (.int v21), .val (.long v22), .second, .val (.int v21)] [])) _
      refine XS.goto X349.here hx rfl (pc0 := 261) (pc' := 270) rfl (hb hby at_261) (by decide) (by decide) ?_
      subst hv23
      exact kt
  have pre375 : ∀ t, Steps p.tables e below (T349.setTop (mkF m 274 #[.val (.int p0), .val (.int p1), .val (.int p2), .val (.int p3), .val (.int p4), .val (.int p5), .val (.int v1), .val (.int v2), .val (.int v3), .val (.int v4), .val (.int v5), .val (.int v6), .val (.ref b257), .val (.int v7), .val (.int v9), .val (.int v11), .val (.int v13), .val (.int v15), .val (.long (v1.toInt64)), .second, .val (.int (0 : Int32)), .val (.long (v2.toInt64)), .second, .val (.int v17), .val (.long v18), .second, .val (.int v19), .val (.long v20), .second, .val (.int v21), .val (.long v22), .second, .val (.int v23)] [(.int (0 : Int32)), (.int v7)])) t → Steps p.tables e below (s₁.setTop (entryFrame m #[(.int p0), (.int p1), (.int p2), (.int p3), (.int p4), (.int p5)] maxLocals)) t := fun t kt => by
    refine pre374 _ ?_
    show Steps p.tables e below (T349.setTop (mkF m 270 #[.val (.int p0), .val (.int p1), .val (.int p2), .val (.int p3), .val (.int p4), .val (.int p5), .val (.int v1), .val (.int v2), .val (.int v3), .val (.int v4), .val (.int v5), .val (.int v6), .val (.ref b257), .val (.int v7), .val (.int v9), .val (.int v11), .val (.int v13), .val (.int v15), .val (.long (v1.toInt64)), .second, .val (.int (0 : Int32)), .val (.long (v2.toInt64)), .second, .val (.int v17), .val (.long v18), .second, .val (.int v19), .val (.long v20), .second, .val (.int v21), .val (.long v22), .second, .val (.int v23)] [])) _
    refine XS.iload X349.here hx rfl (hb hby at_270) rfl ?_
    show Steps p.tables e below (T349.setTop (mkF m 272 #[.val (.int p0), .val (.int p1), .val (.int p2), .val (.int p3), .val (.int p4), .val (.int p5), .val (.int v1), .val (.int v2), .val (.int v3), .val (.int v4), .val (.int v5), .val (.int v6), .val (.ref b257), .val (.int v7), .val (.int v9), .val (.int v11), .val (.int v13), .val (.int v15), .val (.long (v1.toInt64)), .second, .val (.int (0 : Int32)), .val (.long (v2.toInt64)), .second, .val (.int v17), .val (.long v18), .second, .val (.int v19), .val (.long v20), .second, .val (.int v21), .val (.long v22), .second, .val (.int v23)] [(.int v7)])) _
    refine XS.iload X349.here hx rfl (hb hby at_272) rfl ?_
    show Steps p.tables e below (T349.setTop (mkF m 274 #[.val (.int p0), .val (.int p1), .val (.int p2), .val (.int p3), .val (.int p4), .val (.int p5), .val (.int v1), .val (.int v2), .val (.int v3), .val (.int v4), .val (.int v5), .val (.int v6), .val (.ref b257), .val (.int v7), .val (.int v9), .val (.int v11), .val (.int v13), .val (.int v15), .val (.long (v1.toInt64)), .second, .val (.int (0 : Int32)), .val (.long (v2.toInt64)), .second, .val (.int v17), .val (.long v18), .second, .val (.int v19), .val (.long v20), .second, .val (.int v21), .val (.long v22), .second, .val (.int v23)] [(.int (0 : Int32)), (.int v7)])) _
    exact kt
  obtain ⟨v24, hv24⟩ : ∃ z : Int32, z = (if v7 = (0 : Int32) then (if v9 = v17 then (if v11 = v19 then (if v13 = v21 then (if v15 = v23 then (1 : Int32) else (0 : Int32)) else (0 : Int32)) else (0 : Int32)) else (0 : Int32)) else (0 : Int32)) := ⟨_, rfl⟩
  have pre381 : ∀ t, Steps p.tables e below (T349.setTop (mkF m 310 #[.val (.int p0), .val (.int p1), .val (.int p2), .val (.int p3), .val (.int p4), .val (.int p5), .val (.int v1), .val (.int v2), .val (.int v3), .val (.int v4), .val (.int v5), .val (.int v6), .val (.ref b257), .val (.int v7), .val (.int v9), .val (.int v11), .val (.int v13), .val (.int v15), .val (.long (v1.toInt64)), .second, .val (.int (0 : Int32)), .val (.long (v2.toInt64)), .second, .val (.int v17), .val (.long v18), .second, .val (.int v19), .val (.long v20), .second, .val (.int v21), .val (.long v22), .second, .val (.int v23)] [(.int v24)])) t → Steps p.tables e below (s₁.setTop (entryFrame m #[(.int p0), (.int p1), (.int p2), (.int p3), (.int p4), (.int p5)] maxLocals)) t := fun t kt => by
    refine pre375 _ ?_
    show Steps p.tables e below (T349.setTop (mkF m 274 #[.val (.int p0), .val (.int p1), .val (.int p2), .val (.int p3), .val (.int p4), .val (.int p5), .val (.int v1), .val (.int v2), .val (.int v3), .val (.int v4), .val (.int v5), .val (.int v6), .val (.ref b257), .val (.int v7), .val (.int v9), .val (.int v11), .val (.int v13), .val (.int v15), .val (.long (v1.toInt64)), .second, .val (.int (0 : Int32)), .val (.long (v2.toInt64)), .second, .val (.int v17), .val (.long v18), .second, .val (.int v19), .val (.long v20), .second, .val (.int v21), .val (.long v22), .second, .val (.int v23)] [(.int (0 : Int32)), (.int v7)])) _
    by_cases hc376 : v7 = (0 : Int32)
    · rw [if_pos hc376] at hv24
      refine XS.icmpNo X349.here hx rfl (hb hby at_274) rfl (teq hc376).2 ?_
      show Steps p.tables e below (T349.setTop (mkF m 277 #[.val (.int p0), .val (.int p1), .val (.int p2), .val (.int p3), .val (.int p4), .val (.int p5), .val (.int v1), .val (.int v2), .val (.int v3), .val (.int v4), .val (.int v5), .val (.int v6), .val (.ref b257), .val (.int v7), .val (.int v9), .val (.int v11), .val (.int v13), .val (.int v15), .val (.long (v1.toInt64)), .second, .val (.int (0 : Int32)), .val (.long (v2.toInt64)), .second, .val (.int v17), .val (.long v18), .second, .val (.int v19), .val (.long v20), .second, .val (.int v21), .val (.long v22), .second, .val (.int v23)] [])) _
      refine XS.iload X349.here hx rfl (hb hby at_277) rfl ?_
      show Steps p.tables e below (T349.setTop (mkF m 279 #[.val (.int p0), .val (.int p1), .val (.int p2), .val (.int p3), .val (.int p4), .val (.int p5), .val (.int v1), .val (.int v2), .val (.int v3), .val (.int v4), .val (.int v5), .val (.int v6), .val (.ref b257), .val (.int v7), .val (.int v9), .val (.int v11), .val (.int v13), .val (.int v15), .val (.long (v1.toInt64)), .second, .val (.int (0 : Int32)), .val (.long (v2.toInt64)), .second, .val (.int v17), .val (.long v18), .second, .val (.int v19), .val (.long v20), .second, .val (.int v21), .val (.long v22), .second, .val (.int v23)] [(.int v9)])) _
      refine XS.iload X349.here hx rfl (hb hby at_279) rfl ?_
      show Steps p.tables e below (T349.setTop (mkF m 281 #[.val (.int p0), .val (.int p1), .val (.int p2), .val (.int p3), .val (.int p4), .val (.int p5), .val (.int v1), .val (.int v2), .val (.int v3), .val (.int v4), .val (.int v5), .val (.int v6), .val (.ref b257), .val (.int v7), .val (.int v9), .val (.int v11), .val (.int v13), .val (.int v15), .val (.long (v1.toInt64)), .second, .val (.int (0 : Int32)), .val (.long (v2.toInt64)), .second, .val (.int v17), .val (.long v18), .second, .val (.int v19), .val (.long v20), .second, .val (.int v21), .val (.long v22), .second, .val (.int v23)] [(.int v17), (.int v9)])) _
      by_cases hc377 : v9 = v17
      · rw [if_pos hc377] at hv24
        refine XS.icmpNo X349.here hx rfl (hb hby at_281) rfl (teq hc377).2 ?_
        show Steps p.tables e below (T349.setTop (mkF m 284 #[.val (.int p0), .val (.int p1), .val (.int p2), .val (.int p3), .val (.int p4), .val (.int p5), .val (.int v1), .val (.int v2), .val (.int v3), .val (.int v4), .val (.int v5), .val (.int v6), .val (.ref b257), .val (.int v7), .val (.int v9), .val (.int v11), .val (.int v13), .val (.int v15), .val (.long (v1.toInt64)), .second, .val (.int (0 : Int32)), .val (.long (v2.toInt64)), .second, .val (.int v17), .val (.long v18), .second, .val (.int v19), .val (.long v20), .second, .val (.int v21), .val (.long v22), .second, .val (.int v23)] [])) _
        refine XS.iload X349.here hx rfl (hb hby at_284) rfl ?_
        show Steps p.tables e below (T349.setTop (mkF m 286 #[.val (.int p0), .val (.int p1), .val (.int p2), .val (.int p3), .val (.int p4), .val (.int p5), .val (.int v1), .val (.int v2), .val (.int v3), .val (.int v4), .val (.int v5), .val (.int v6), .val (.ref b257), .val (.int v7), .val (.int v9), .val (.int v11), .val (.int v13), .val (.int v15), .val (.long (v1.toInt64)), .second, .val (.int (0 : Int32)), .val (.long (v2.toInt64)), .second, .val (.int v17), .val (.long v18), .second, .val (.int v19), .val (.long v20), .second, .val (.int v21), .val (.long v22), .second, .val (.int v23)] [(.int v11)])) _
        refine XS.iload X349.here hx rfl (hb hby at_286) rfl ?_
        show Steps p.tables e below (T349.setTop (mkF m 288 #[.val (.int p0), .val (.int p1), .val (.int p2), .val (.int p3), .val (.int p4), .val (.int p5), .val (.int v1), .val (.int v2), .val (.int v3), .val (.int v4), .val (.int v5), .val (.int v6), .val (.ref b257), .val (.int v7), .val (.int v9), .val (.int v11), .val (.int v13), .val (.int v15), .val (.long (v1.toInt64)), .second, .val (.int (0 : Int32)), .val (.long (v2.toInt64)), .second, .val (.int v17), .val (.long v18), .second, .val (.int v19), .val (.long v20), .second, .val (.int v21), .val (.long v22), .second, .val (.int v23)] [(.int v19), (.int v11)])) _
        by_cases hc378 : v11 = v19
        · rw [if_pos hc378] at hv24
          refine XS.icmpNo X349.here hx rfl (hb hby at_288) rfl (teq hc378).2 ?_
          show Steps p.tables e below (T349.setTop (mkF m 291 #[.val (.int p0), .val (.int p1), .val (.int p2), .val (.int p3), .val (.int p4), .val (.int p5), .val (.int v1), .val (.int v2), .val (.int v3), .val (.int v4), .val (.int v5), .val (.int v6), .val (.ref b257), .val (.int v7), .val (.int v9), .val (.int v11), .val (.int v13), .val (.int v15), .val (.long (v1.toInt64)), .second, .val (.int (0 : Int32)), .val (.long (v2.toInt64)), .second, .val (.int v17), .val (.long v18), .second, .val (.int v19), .val (.long v20), .second, .val (.int v21), .val (.long v22), .second, .val (.int v23)] [])) _
          refine XS.iload X349.here hx rfl (hb hby at_291) rfl ?_
          show Steps p.tables e below (T349.setTop (mkF m 293 #[.val (.int p0), .val (.int p1), .val (.int p2), .val (.int p3), .val (.int p4), .val (.int p5), .val (.int v1), .val (.int v2), .val (.int v3), .val (.int v4), .val (.int v5), .val (.int v6), .val (.ref b257), .val (.int v7), .val (.int v9), .val (.int v11), .val (.int v13), .val (.int v15), .val (.long (v1.toInt64)), .second, .val (.int (0 : Int32)), .val (.long (v2.toInt64)), .second, .val (.int v17), .val (.long v18), .second, .val (.int v19), .val (.long v20), .second, .val (.int v21), .val (.long v22), .second, .val (.int v23)] [(.int v13)])) _
          refine XS.iload X349.here hx rfl (hb hby at_293) rfl ?_
          show Steps p.tables e below (T349.setTop (mkF m 295 #[.val (.int p0), .val (.int p1), .val (.int p2), .val (.int p3), .val (.int p4), .val (.int p5), .val (.int v1), .val (.int v2), .val (.int v3), .val (.int v4), .val (.int v5), .val (.int v6), .val (.ref b257), .val (.int v7), .val (.int v9), .val (.int v11), .val (.int v13), .val (.int v15), .val (.long (v1.toInt64)), .second, .val (.int (0 : Int32)), .val (.long (v2.toInt64)), .second, .val (.int v17), .val (.long v18), .second, .val (.int v19), .val (.long v20), .second, .val (.int v21), .val (.long v22), .second, .val (.int v23)] [(.int v21), (.int v13)])) _
          by_cases hc379 : v13 = v21
          · rw [if_pos hc379] at hv24
            refine XS.icmpNo X349.here hx rfl (hb hby at_295) rfl (teq hc379).2 ?_
            show Steps p.tables e below (T349.setTop (mkF m 298 #[.val (.int p0), .val (.int p1), .val (.int p2), .val (.int p3), .val (.int p4), .val (.int p5), .val (.int v1), .val (.int v2), .val (.int v3), .val (.int v4), .val (.int v5), .val (.int v6), .val (.ref b257), .val (.int v7), .val (.int v9), .val (.int v11), .val (.int v13), .val (.int v15), .val (.long (v1.toInt64)), .second, .val (.int (0 : Int32)), .val (.long (v2.toInt64)), .second, .val (.int v17), .val (.long v18), .second, .val (.int v19), .val (.long v20), .second, .val (.int v21), .val (.long v22), .second, .val (.int v23)] [])) _
            refine XS.iload X349.here hx rfl (hb hby at_298) rfl ?_
            show Steps p.tables e below (T349.setTop (mkF m 300 #[.val (.int p0), .val (.int p1), .val (.int p2), .val (.int p3), .val (.int p4), .val (.int p5), .val (.int v1), .val (.int v2), .val (.int v3), .val (.int v4), .val (.int v5), .val (.int v6), .val (.ref b257), .val (.int v7), .val (.int v9), .val (.int v11), .val (.int v13), .val (.int v15), .val (.long (v1.toInt64)), .second, .val (.int (0 : Int32)), .val (.long (v2.toInt64)), .second, .val (.int v17), .val (.long v18), .second, .val (.int v19), .val (.long v20), .second, .val (.int v21), .val (.long v22), .second, .val (.int v23)] [(.int v15)])) _
            refine XS.iload X349.here hx rfl (hb hby at_300) rfl ?_
            show Steps p.tables e below (T349.setTop (mkF m 302 #[.val (.int p0), .val (.int p1), .val (.int p2), .val (.int p3), .val (.int p4), .val (.int p5), .val (.int v1), .val (.int v2), .val (.int v3), .val (.int v4), .val (.int v5), .val (.int v6), .val (.ref b257), .val (.int v7), .val (.int v9), .val (.int v11), .val (.int v13), .val (.int v15), .val (.long (v1.toInt64)), .second, .val (.int (0 : Int32)), .val (.long (v2.toInt64)), .second, .val (.int v17), .val (.long v18), .second, .val (.int v19), .val (.long v20), .second, .val (.int v21), .val (.long v22), .second, .val (.int v23)] [(.int v23), (.int v15)])) _
            by_cases hc380 : v15 = v23
            · rw [if_pos hc380] at hv24
              refine XS.icmpNo X349.here hx rfl (hb hby at_302) rfl (teq hc380).2 ?_
              show Steps p.tables e below (T349.setTop (mkF m 305 #[.val (.int p0), .val (.int p1), .val (.int p2), .val (.int p3), .val (.int p4), .val (.int p5), .val (.int v1), .val (.int v2), .val (.int v3), .val (.int v4), .val (.int v5), .val (.int v6), .val (.ref b257), .val (.int v7), .val (.int v9), .val (.int v11), .val (.int v13), .val (.int v15), .val (.long (v1.toInt64)), .second, .val (.int (0 : Int32)), .val (.long (v2.toInt64)), .second, .val (.int v17), .val (.long v18), .second, .val (.int v19), .val (.long v20), .second, .val (.int v21), .val (.long v22), .second, .val (.int v23)] [])) _
              refine XS.iconst X349.here hx rfl (hb hby at_305) ?_
              show Steps p.tables e below (T349.setTop (mkF m 306 #[.val (.int p0), .val (.int p1), .val (.int p2), .val (.int p3), .val (.int p4), .val (.int p5), .val (.int v1), .val (.int v2), .val (.int v3), .val (.int v4), .val (.int v5), .val (.int v6), .val (.ref b257), .val (.int v7), .val (.int v9), .val (.int v11), .val (.int v13), .val (.int v15), .val (.long (v1.toInt64)), .second, .val (.int (0 : Int32)), .val (.long (v2.toInt64)), .second, .val (.int v17), .val (.long v18), .second, .val (.int v19), .val (.long v20), .second, .val (.int v21), .val (.long v22), .second, .val (.int v23)] [(.int (1 : Int32))])) _
              refine XS.goto X349.here hx rfl (pc0 := 306) (pc' := 310) rfl (hb hby at_306) (by decide) (by decide) ?_
              subst hv24
              exact kt
            · rw [if_neg hc380] at hv24
              refine XS.icmpYes X349.here hx rfl (pc0 := 302) (pc' := 309) rfl (hb hby at_302) rfl (feq hc380).2 (by decide) (by decide) ?_
              show Steps p.tables e below (T349.setTop (mkF m 309 #[.val (.int p0), .val (.int p1), .val (.int p2), .val (.int p3), .val (.int p4), .val (.int p5), .val (.int v1), .val (.int v2), .val (.int v3), .val (.int v4), .val (.int v5), .val (.int v6), .val (.ref b257), .val (.int v7), .val (.int v9), .val (.int v11), .val (.int v13), .val (.int v15), .val (.long (v1.toInt64)), .second, .val (.int (0 : Int32)), .val (.long (v2.toInt64)), .second, .val (.int v17), .val (.long v18), .second, .val (.int v19), .val (.long v20), .second, .val (.int v21), .val (.long v22), .second, .val (.int v23)] [])) _
              refine XS.iconst X349.here hx rfl (hb hby at_309) ?_
              subst hv24
              exact kt
          · rw [if_neg hc379] at hv24
            refine XS.icmpYes X349.here hx rfl (pc0 := 295) (pc' := 309) rfl (hb hby at_295) rfl (feq hc379).2 (by decide) (by decide) ?_
            show Steps p.tables e below (T349.setTop (mkF m 309 #[.val (.int p0), .val (.int p1), .val (.int p2), .val (.int p3), .val (.int p4), .val (.int p5), .val (.int v1), .val (.int v2), .val (.int v3), .val (.int v4), .val (.int v5), .val (.int v6), .val (.ref b257), .val (.int v7), .val (.int v9), .val (.int v11), .val (.int v13), .val (.int v15), .val (.long (v1.toInt64)), .second, .val (.int (0 : Int32)), .val (.long (v2.toInt64)), .second, .val (.int v17), .val (.long v18), .second, .val (.int v19), .val (.long v20), .second, .val (.int v21), .val (.long v22), .second, .val (.int v23)] [])) _
            refine XS.iconst X349.here hx rfl (hb hby at_309) ?_
            subst hv24
            exact kt
        · rw [if_neg hc378] at hv24
          refine XS.icmpYes X349.here hx rfl (pc0 := 288) (pc' := 309) rfl (hb hby at_288) rfl (feq hc378).2 (by decide) (by decide) ?_
          show Steps p.tables e below (T349.setTop (mkF m 309 #[.val (.int p0), .val (.int p1), .val (.int p2), .val (.int p3), .val (.int p4), .val (.int p5), .val (.int v1), .val (.int v2), .val (.int v3), .val (.int v4), .val (.int v5), .val (.int v6), .val (.ref b257), .val (.int v7), .val (.int v9), .val (.int v11), .val (.int v13), .val (.int v15), .val (.long (v1.toInt64)), .second, .val (.int (0 : Int32)), .val (.long (v2.toInt64)), .second, .val (.int v17), .val (.long v18), .second, .val (.int v19), .val (.long v20), .second, .val (.int v21), .val (.long v22), .second, .val (.int v23)] [])) _
          refine XS.iconst X349.here hx rfl (hb hby at_309) ?_
          subst hv24
          exact kt
      · rw [if_neg hc377] at hv24
        refine XS.icmpYes X349.here hx rfl (pc0 := 281) (pc' := 309) rfl (hb hby at_281) rfl (feq hc377).2 (by decide) (by decide) ?_
        show Steps p.tables e below (T349.setTop (mkF m 309 #[.val (.int p0), .val (.int p1), .val (.int p2), .val (.int p3), .val (.int p4), .val (.int p5), .val (.int v1), .val (.int v2), .val (.int v3), .val (.int v4), .val (.int v5), .val (.int v6), .val (.ref b257), .val (.int v7), .val (.int v9), .val (.int v11), .val (.int v13), .val (.int v15), .val (.long (v1.toInt64)), .second, .val (.int (0 : Int32)), .val (.long (v2.toInt64)), .second, .val (.int v17), .val (.long v18), .second, .val (.int v19), .val (.long v20), .second, .val (.int v21), .val (.long v22), .second, .val (.int v23)] [])) _
        refine XS.iconst X349.here hx rfl (hb hby at_309) ?_
        subst hv24
        exact kt
    · rw [if_neg hc376] at hv24
      refine XS.icmpYes X349.here hx rfl (pc0 := 274) (pc' := 309) rfl (hb hby at_274) rfl (feq hc376).2 (by decide) (by decide) ?_
      show Steps p.tables e below (T349.setTop (mkF m 309 #[.val (.int p0), .val (.int p1), .val (.int p2), .val (.int p3), .val (.int p4), .val (.int p5), .val (.int v1), .val (.int v2), .val (.int v3), .val (.int v4), .val (.int v5), .val (.int v6), .val (.ref b257), .val (.int v7), .val (.int v9), .val (.int v11), .val (.int v13), .val (.int v15), .val (.long (v1.toInt64)), .second, .val (.int (0 : Int32)), .val (.long (v2.toInt64)), .second, .val (.int v17), .val (.long v18), .second, .val (.int v19), .val (.long v20), .second, .val (.int v21), .val (.long v22), .second, .val (.int v23)] [])) _
      refine XS.iconst X349.here hx rfl (hb hby at_309) ?_
      subst hv24
      exact kt
  have hfin : v24 = 1 := (own_plain6 p0 p1 p2 p3 p4 p5 v1 hv1 v2 hv2 v3 hv3 v4 hv4 v5 hv5 v6 hv6 v7 hv7 v8 hv8 v9 hv9 v10 hv10 v11 hv11 v12 hv12 v13 hv13 v14 hv14 v15 hv15 v16 hv16 v17 hv17 v18 hv18 v19 hv19 v20 hv20 v21 hv21 v22 hv22 v23 hv23 v24 hv24)
  obtain ⟨fs, hr, hrun, hended, hW, hsame⟩ := X349.leave (v := some (.int (v24 &&& 1))) (fun h => by rw [Bd.returns] at h; cases h)
  refine ⟨_, _, pre381 _ ?_, hrun, hended, _, _, rfl, ?_, ⟨_, rfl⟩, hW, hsame.mono (by decide) (by decide)⟩
  · exact retN X349 hx (t := .boolean) Bd.returns (by simp) (hb hby at_310) hr
  · exact ⟨by rw [hfin]; rfl, N357⟩
set_option maxRecDepth 65536 in
set_option maxHeartbeats 40000000 in
theorem comes_1 {Post : Tables → Env → Array Value → State → Outcome → State → Prop} (hpost : ∀ tb e args s v u, (limb_1_1.after args s (.returned v) u = true ∧ limb_1_2.after args s (.returned v) u = true ∧ True) → FrameEnd s (.returned v) u (Jvm.fieldLocs frame_1_writes args s ++ Jvm.arrayLocs frame_1_arrays args s ++ Jvm.staticLocs frame_1_statics s) 16 128 → Post tb e args s (.returned v) u) :
    ArmFor flags0 classFile x code maxLocals ret World_1 tables_1 room_1 Calls_1 rest_1 Pre_1 Post := by
  intro l hfl _ _ p e ha hc hk s m args below hf hA hF happ hP
  obtain ⟨hcalls, hrest, hpre⟩ := hP
  obtain ⟨-, -, -, hnamed, -, -, -, hat⟩ := (Spec.applies_iff hf).mp happ
  obtain ⟨hg, hn⟩ := and_e (Cond.before_iff.mp (show (Jvm.Cond.and given_1 narrow_1).before args s = true from hpre))
  obtain ⟨hcount, hg0⟩ := and_e hg
  obtain ⟨ha0, hg1⟩ := and_e hg0
  obtain ⟨ha1, hg2⟩ := and_e hg1
  obtain ⟨ha2, hg3⟩ := and_e hg2
  obtain ⟨ha3, hg4⟩ := and_e hg3
  obtain ⟨ha4, hg5⟩ := and_e hg4
  have ha5 := hg5
  obtain ⟨w0, w1, w2, w3, w4, w5, rfl⟩ : ∃ w0 w1 w2 w3 w4 w5 : Value, args = #[w0, w1, w2, w3, w4, w5] := by
    have hs : args.size = 6 := by simpa [Cond.value, given_1] using hcount
    obtain ⟨L⟩ := args
    match L, hs with
    | [w0, w1, w2, w3, w4, w5], _ => exact ⟨w0, w1, w2, w3, w4, w5, rfl⟩
  have hw := fun d (hd : d ∈ tables_1) => atoms_spec (ws := Jvm.Cond.code x code maxLocals ret :: tables_1) hat d (List.mem_cons_of_mem _ hd)
  obtain ⟨i0, ei0⟩ := is_v ha0
  obtain rfl : w0 = (.int i0) := Option.some.inj ei0
  obtain ⟨i1, ei1⟩ := is_v ha1
  obtain rfl : w1 = (.int i1) := Option.some.inj ei1
  obtain ⟨i2, ei2⟩ := is_v ha2
  obtain rfl : w2 = (.int i2) := Option.some.inj ei2
  obtain ⟨i3, ei3⟩ := is_v ha3
  obtain rfl : w3 = (.int i3) := Option.some.inj ei3
  obtain ⟨i4, ei4⟩ := is_v ha4
  obtain rfl : w4 = (.int i4) := Option.some.inj ei4
  obtain ⟨i5, ei5⟩ := is_v ha5
  obtain rfl : w5 = (.int i5) := Option.some.inj ei5
  obtain ⟨n, o, h1, h2, h3, _, L, rfl, ⟨rfl, N⟩, hq⟩ := rm0 l s _ hw tables_1 i0 i1 i2 i3 i4 i5 s.heap s.heap.size (Nat.le_refl _) p e ha hc hk s m _ below hf ((Spec.applies_iff_loose hf).mp happ).1 ⟨rfl, State.Warmed39.refl s, rfl⟩ trivial
  refine ⟨n, _, h1, h2, h3, hpost _ _ _ _ _ _ ⟨Cond.after_iff.mpr rfl, Cond.after_iff.mpr (eq_i res_at (Term.int_eval (1)) rfl), trivial⟩ ⟨hq.1, hq.2.1, (hq.2.2.sift fun y hy => Or.inr (N y hy)).mono (by decide) (by decide)⟩⟩
theorem main_1_1 : Claimed_1_1 := comes_1 fun _ _ _ _ _ _ h hF => ⟨h.1, hF⟩
theorem main_1_2 : Claimed_1_2 := comes_1 fun _ _ _ _ _ _ h hF => ⟨h.2.1, hF⟩
end Jvm.Pilot.@@N@@
namespace Jvm.Pilot.@@N@@
open Jvm Jvm.ClassFile Sem Op Lib Jvm.Free Jvm.Stand Jvm.Pilot.@@N@@.Jvm.D
/-! MADE BY PROGRAM (witnessworld.py) out of the Statement's table words and the real class files: 12 classes; the members and pool entries that the words name. The judged class is class 1, her method 2. -/
namespace start1
open Jvm.ClassFile
def u (s : String) : CpInfo := .utf8 (stringToUtf16 s)
/-- a pool by its gaps: so many unusable entries, then the entry; so many at the end -/
def gap : Nat → List CpInfo → List CpInfo
  | 0, r => r
  | n + 1, r => .unusable :: gap n r
def poolList (es : List (Nat × CpInfo)) (last : Nat) : List CpInfo := es.foldr (fun e r => gap e.1 (e.2 :: r)) (gap last [])
def pool (es : List (Nat × CpInfo)) (last : Nat) : Array CpInfo := ⟨poolList es last⟩
def fileOf (pool : Array CpInfo) (this : Nat) (attrs : Array Attribute := #[]) (ms : Array MethodInfo := #[]) (fl : Nat := 33) (sup : Nat := 0) (ifs : Array Nat := #[]) (fds : Array FieldInfo := #[]) : ClassFile where
  minorVersion := 0
  majorVersion := 65
  constantPool := pool
  accessFlags := fl
  thisClass := this
  superClass := sup
  interfaces := ifs
  fields := fds
  methods := ms
  attributes := attrs
def plain (name : String) (sup : Option ClassId) : Class where
  name := name
  kind := .ordinary
  loader := none
  accessFlags := 33
  super := sup
  interfaces := #[]
  cf := none
  fields := #[]
  methods := #[]
  instanceTypes := #[]
  staticTypes := #[]
  resolved := #[]
  callSites := []
  init := .initialized
  statics := none
  mirror := none

def pool0 : Array CpInfo := pool [(5, u "<init>"), (0, u "()V"), (1, .class_ 10), (1, u "java/lang/Object"), (85, u "clone"), (0, u "()Ljava/lang/Object;")] 26

def k0c0 : Code := { maxStack := 0, maxLocals := 1, code := object_method_1_code, exceptionTable := #[], attributes := #[] }
def k0m0 : Method := { name := "<init>", desc := "()V", sig := { parameters := [], returnType := none }, accessFlags := 1, code := some k0c0 }
def k0m1 : Method := { name := "clone", desc := "()Ljava/lang/Object;", sig := { parameters := [], returnType := some (.object "java/lang/Object") }, accessFlags := 260, code := none }
/-- java/lang/Object -/
def k0 : Class := { plain "java/lang/Object" none with
  accessFlags := 33
  interfaces := #[]
  cf := some (fileOf pool0 8 #[] #[{ accessFlags := 1, nameIndex := 5, descriptorIndex := 6, attributes := #[] }, { accessFlags := 260, nameIndex := 96, descriptorIndex := 97, attributes := #[] }] 33 0 #[] #[])
  fields := #[]
  methods := #[k0m0, k0m1]
  instanceTypes := #[]
  staticTypes := #[]
  resolved := Array.replicate 124 none
  statics := none }

def pool1 : Array CpInfo := pool [(2, .class_ 4), (1, u "java/lang/Object"), (0, u "<init>"), (0, u "()V"), (0, .integer 2147483647), (0, .methodref 9 10), (0, .class_ 11), (0, .nameAndType 12 13), (0, u "java/lang/Math"), (0, u "max"), (0, u "(II)I"), (0, .methodref 15 16), (0, .class_ 17), (0, .nameAndType 18 13), (0, u "com/example/packwright/packwright/core/bins/NextFitBinsPlacePinLaw"), (0, u "size"), (0, .class_ 20), (0, u "com/example/packwright/packwright/core/bins/NextFitBins"), (0, .class_ 22), (0, u "com/example/packwright/packwright/core/bins/BinInstance"), (0, .methodref 21 24), (0, .nameAndType 5 25), (0, u "(I[I)V"), (0, .methodref 19 27), (0, .nameAndType 5 28), (0, u "(Lcom/example/packwright/packwright/core/bins/BinInstance;)V"), (0, .methodref 19 30), (0, .nameAndType 31 32), (0, u "place"), (0, u "(I)I"), (2, u "law"), (0, u "(IIIIII)Z")] 3

def k1m0 : Method := { name := "<init>", desc := "()V", sig := { parameters := [], returnType := none }, accessFlags := 2, code := none }
def k1c1 : Code := { maxStack := 3, maxLocals := 2, code := method_2_code, exceptionTable := #[], attributes := #[] }
def k1m1 : Method := { name := "size", desc := "(II)I", sig := { parameters := [.int, .int], returnType := some .int }, accessFlags := 10, code := some k1c1 }
def k1c2 : Code := { maxStack := 6, maxLocals := 33, code := code, exceptionTable := #[], attributes := #[] }
def k1m2 : Method := { name := "law", desc := "(IIIIII)Z", sig := { parameters := [.int, .int, .int, .int, .int, .int], returnType := some .boolean }, accessFlags := 9, code := some k1c2 }
/-- com/example/packwright/packwright/core/bins/NextFitBinsPlacePinLaw -/
def k1 : Class := { plain "com/example/packwright/packwright/core/bins/NextFitBinsPlacePinLaw" (some 0) with
  accessFlags := 49
  interfaces := #[]
  cf := some (fileOf pool1 15 #[] #[{ accessFlags := 2, nameIndex := 5, descriptorIndex := 6, attributes := #[] }, { accessFlags := 10, nameIndex := 18, descriptorIndex := 13, attributes := #[] }, { accessFlags := 9, nameIndex := 35, descriptorIndex := 36, attributes := #[] }] 49 2 #[] #[])
  fields := #[]
  methods := #[k1m0, k1m1, k1m2]
  instanceTypes := #[]
  staticTypes := #[]
  resolved := Array.replicate 40 none
  statics := none }

def pool2 : Array CpInfo := pool [(1, .class_ 2), (0, u "java/lang/Math"), (1, .class_ 6), (1, u "java/lang/Object"), (0, u "<init>"), (0, u "()V"), (89, .class_ 100), (1, u "java/lang/Math$RandomNumberGeneratorHolder"), (71, u "negativeZeroFloatBits"), (0, u "J"), (2, u "negativeZeroDoubleBits"), (21, u "max"), (46, u "$assertionsDisabled"), (0, u "Z"), (88, u "(II)I"), (2, u "twoToTheDoubleScaleDown"), (0, u "D"), (4, u "twoToTheDoubleScaleUp"), (9, u "E"), (3, u "PI"), (2, u "TAU"), (2, u "DEGREES_TO_RADIANS"), (0, u "RADIANS_TO_DEGREES")] 94

def k2m0 : Method := { name := "<init>", desc := "()V", sig := { parameters := [], returnType := none }, accessFlags := 2, code := none }
def k2c1 : Code := { maxStack := 2, maxLocals := 2, code := jdk_29_method_65_code, exceptionTable := #[], attributes := #[] }
def k2m1 : Method := { name := "max", desc := "(II)I", sig := { parameters := [.int, .int], returnType := some .int }, accessFlags := 9, code := some k2c1 }
/-- java/lang/Math -/
def k2 : Class := { plain "java/lang/Math" (some 0) with
  accessFlags := 49
  interfaces := #[]
  cf := some (fileOf pool2 1 #[.nestMembers #[98]] #[{ accessFlags := 2, nameIndex := 7, descriptorIndex := 8, attributes := #[] }, { accessFlags := 9, nameIndex := 198, descriptorIndex := 335, attributes := #[] }] 49 4 #[] #[{ accessFlags := 25, nameIndex := 354, descriptorIndex := 339, attributes := #[] }, { accessFlags := 25, nameIndex := 358, descriptorIndex := 339, attributes := #[] }, { accessFlags := 25, nameIndex := 361, descriptorIndex := 339, attributes := #[] }, { accessFlags := 26, nameIndex := 364, descriptorIndex := 339, attributes := #[] }, { accessFlags := 26, nameIndex := 365, descriptorIndex := 339, attributes := #[] }, { accessFlags := 26, nameIndex := 172, descriptorIndex := 173, attributes := #[] }, { accessFlags := 26, nameIndex := 176, descriptorIndex := 173, attributes := #[] }, { accessFlags := 8, nameIndex := 344, descriptorIndex := 339, attributes := #[] }, { accessFlags := 8, nameIndex := 338, descriptorIndex := 339, attributes := #[] }, { accessFlags := 4120, nameIndex := 245, descriptorIndex := 246, attributes := #[] }])
  fields := #[{ name := "E", type := .double, accessFlags := 25, slot := 0, constantValue := 0 }, { name := "PI", type := .double, accessFlags := 25, slot := 1, constantValue := 0 }, { name := "TAU", type := .double, accessFlags := 25, slot := 2, constantValue := 0 }, { name := "DEGREES_TO_RADIANS", type := .double, accessFlags := 26, slot := 3, constantValue := 0 }, { name := "RADIANS_TO_DEGREES", type := .double, accessFlags := 26, slot := 4, constantValue := 0 }, { name := "negativeZeroFloatBits", type := .long, accessFlags := 26, slot := 5, constantValue := 0 }, { name := "negativeZeroDoubleBits", type := .long, accessFlags := 26, slot := 6, constantValue := 0 }, { name := "twoToTheDoubleScaleUp", type := .double, accessFlags := 8, slot := 7, constantValue := 0 }, { name := "twoToTheDoubleScaleDown", type := .double, accessFlags := 8, slot := 8, constantValue := 0 }, { name := "$assertionsDisabled", type := .boolean, accessFlags := 4120, slot := 9, constantValue := 0 }]
  methods := #[k2m0, k2m1]
  instanceTypes := #[]
  staticTypes := #[.double, .double, .double, .double, .double, .long, .long, .double, .double, .boolean]
  resolved := Array.replicate 460 none
  statics := none }

def pool3 : Array CpInfo := pool [(1, .class_ 2), (0, u "com/example/packwright/packwright/core/bins/OpenBins"), (0, .class_ 4), (0, u "java/lang/Object")] 4

/-- com/example/packwright/packwright/core/bins/OpenBins -/
def k3 : Class := { plain "com/example/packwright/packwright/core/bins/OpenBins" (some 0) with
  accessFlags := 1536
  interfaces := #[]
  cf := some (fileOf pool3 1 #[] #[] 1536 3 #[] #[])
  fields := #[]
  methods := #[]
  instanceTypes := #[]
  staticTypes := #[]
  resolved := Array.replicate 9 none
  statics := none }

def pool4 : Array CpInfo := pool [(1, .methodref 2 3), (0, .class_ 4), (0, .nameAndType 5 6), (0, u "java/lang/Object"), (0, u "<init>"), (0, u "()V"), (0, .fieldref 8 9), (0, .class_ 10), (0, .nameAndType 11 12), (0, u "com/example/packwright/packwright/core/bins/NextFitBins"), (0, u "open"), (0, u "I"), (0, .methodref 14 15), (0, .class_ 16), (0, .nameAndType 17 18), (0, u "com/example/packwright/packwright/core/bins/BinInstance"), (0, u "capacity"), (0, u "()I"), (0, .fieldref 8 20), (0, .nameAndType 17 12), (0, .fieldref 8 22), (0, .nameAndType 23 12), (0, u "free"), (0, .class_ 25), (0, u "com/example/packwright/packwright/core/bins/OpenBins"), (0, u "(Lcom/example/packwright/packwright/core/bins/BinInstance;)V"), (2, u "place"), (0, u "(I)I")] 3

def k4c0 : Code := { maxStack := 2, maxLocals := 2, code := prog_59_method_1_code, exceptionTable := #[], attributes := #[] }
def k4m0 : Method := { name := "<init>", desc := "(Lcom/example/packwright/packwright/core/bins/BinInstance;)V", sig := { parameters := [(.object "com/example/packwright/packwright/core/bins/BinInstance")], returnType := none }, accessFlags := 0, code := some k4c0 }
def k4c1 : Code := { maxStack := 3, maxLocals := 2, code := prog_59_method_2_code, exceptionTable := #[], attributes := #[] }
def k4m1 : Method := { name := "place", desc := "(I)I", sig := { parameters := [.int], returnType := some .int }, accessFlags := 1, code := some k4c1 }
/-- com/example/packwright/packwright/core/bins/NextFitBins -/
def k4 : Class := { plain "com/example/packwright/packwright/core/bins/NextFitBins" (some 0) with
  accessFlags := 48
  interfaces := #[3]
  cf := some (fileOf pool4 8 #[] #[{ accessFlags := 0, nameIndex := 5, descriptorIndex := 26, attributes := #[] }, { accessFlags := 1, nameIndex := 29, descriptorIndex := 30, attributes := #[] }] 48 2 #[24] #[{ accessFlags := 18, nameIndex := 17, descriptorIndex := 12, attributes := #[] }, { accessFlags := 2, nameIndex := 11, descriptorIndex := 12, attributes := #[] }, { accessFlags := 2, nameIndex := 23, descriptorIndex := 12, attributes := #[] }])
  fields := #[{ name := "capacity", type := .int, accessFlags := 18, slot := 0, constantValue := 0 }, { name := "open", type := .int, accessFlags := 2, slot := 1, constantValue := 0 }, { name := "free", type := .int, accessFlags := 2, slot := 2, constantValue := 0 }]
  methods := #[k4m0, k4m1]
  instanceTypes := #[.int, .int, .int]
  staticTypes := #[]
  resolved := Array.replicate 34 none
  statics := none }

def pool5 : Array CpInfo := pool [(1, .methodref 2 3), (0, .class_ 4), (0, .nameAndType 5 6), (0, u "java/lang/Object"), (0, u "<init>"), (0, u "()V"), (12, .fieldref 20 21), (0, .class_ 22), (0, .nameAndType 23 24), (0, u "com/example/packwright/packwright/core/bins/BinInstance"), (0, u "capacity"), (0, u "I"), (0, .methodref 26 27), (0, .class_ 28), (0, .nameAndType 29 30), (0, u "[I"), (0, u "clone"), (0, u "()Ljava/lang/Object;"), (0, .fieldref 20 32), (0, .nameAndType 33 28), (0, u "sizes"), (0, .fieldref 20 35), (0, .nameAndType 36 24), (0, u "lowerBound"), (51, u "(I[I)V"), (9, u "FIRST_ROOM"), (17, u "()I")] 48

def k5c0 : Code := { maxStack := 5, maxLocals := 7, code := prog_43_method_1_code, exceptionTable := #[], attributes := #[] }
def k5m0 : Method := { name := "<init>", desc := "(I[I)V", sig := { parameters := [.int, (.array .int)], returnType := none }, accessFlags := 129, code := some k5c0 }
def k5c1 : Code := { maxStack := 1, maxLocals := 1, code := prog_43_method_5_code, exceptionTable := #[], attributes := #[] }
def k5m1 : Method := { name := "capacity", desc := "()I", sig := { parameters := [], returnType := some .int }, accessFlags := 1, code := some k5c1 }
/-- com/example/packwright/packwright/core/bins/BinInstance -/
def k5 : Class := { plain "com/example/packwright/packwright/core/bins/BinInstance" (some 0) with
  accessFlags := 49
  interfaces := #[]
  cf := some (fileOf pool5 20 #[] #[{ accessFlags := 129, nameIndex := 5, descriptorIndex := 88, attributes := #[] }, { accessFlags := 1, nameIndex := 23, descriptorIndex := 116, attributes := #[] }] 49 2 #[] #[{ accessFlags := 26, nameIndex := 98, descriptorIndex := 24, attributes := #[] }, { accessFlags := 18, nameIndex := 23, descriptorIndex := 24, attributes := #[] }, { accessFlags := 18, nameIndex := 33, descriptorIndex := 28, attributes := #[] }, { accessFlags := 18, nameIndex := 36, descriptorIndex := 24, attributes := #[] }])
  fields := #[{ name := "FIRST_ROOM", type := .int, accessFlags := 26, slot := 0, constantValue := 0 }, { name := "capacity", type := .int, accessFlags := 18, slot := 0, constantValue := 0 }, { name := "sizes", type := (.array .int), accessFlags := 18, slot := 1, constantValue := 0 }, { name := "lowerBound", type := .int, accessFlags := 18, slot := 2, constantValue := 0 }]
  methods := #[k5m0, k5m1]
  instanceTypes := #[.int, (.array .int), .int]
  staticTypes := #[.int]
  resolved := Array.replicate 165 none
  statics := none }

def pool6 : Array CpInfo := pool [(1, .class_ 2), (0, u "java/lang/Cloneable"), (0, .class_ 4), (0, u "java/lang/Object")] 2

/-- java/lang/Cloneable -/
def k6 : Class := { plain "java/lang/Cloneable" (some 0) with
  accessFlags := 1537
  interfaces := #[]
  cf := some (fileOf pool6 1 #[] #[] 1537 3 #[] #[])
  fields := #[]
  methods := #[]
  instanceTypes := #[]
  staticTypes := #[]
  resolved := Array.replicate 7 none
  statics := none }

def pool7 : Array CpInfo := pool [(1, u "java/io/Serializable"), (0, .class_ 1), (0, u "java/lang/Object"), (0, .class_ 3)] 3

/-- java/io/Serializable -/
def k7 : Class := { plain "java/io/Serializable" (some 0) with
  accessFlags := 1537
  interfaces := #[]
  cf := some (fileOf pool7 2 #[] #[] 1537 4 #[] #[])
  fields := #[]
  methods := #[]
  instanceTypes := #[]
  staticTypes := #[]
  resolved := Array.replicate 8 none
  statics := none }

/-- the primitive byte -/
def k8 : Class := { plain "byte" none with kind := .primitive 'B', accessFlags := 0x411 }
/-- [B -/
def k9 : Class := { plain "[B" (some 0) with kind := .array 8 .byte, interfaces := #[6, 7], accessFlags := 1041 }

/-- the primitive int -/
def k10 : Class := { plain "int" none with kind := .primitive 'I', accessFlags := 0x411 }
/-- [I -/
def k11 : Class := { plain "[I" (some 0) with kind := .array 10 .int, interfaces := #[6, 7], accessFlags := 1041 }

def heap : Heap := #[]
def classes : Array Class := #[k0, k1, k2, k3, k4, k5, k6, k7, k8, k9, k10, k11]
def interned : List (Array UInt16 × Addr) := []
def slotsUsed : Nat := 0
def theMethod : MethodId := ⟨1, 2⟩
def args0 : Array Value := #[.int 5, .int 5, .int 5, .int 5, .int 5, .int 5]
def aboutOver (below : List Frame) : State where
  vm := { classes := classes, interned := interned.toArray }
  heap := heap
  slotsUsed := slotsUsed
  threads := #[{ frames := .invoking theMethod args0 :: below }]
def below0 : List Frame := [.native { method := ⟨0, 0⟩, args := #[] }]
def about1 : State := aboutOver below0
def p0 : Program := .bare "" "" ""
def e0 : Env := launch0.env 0 0 0
theorem w_frames : about1.frames = Frame.invoking theMethod args0 :: below0 := rfl
set_option maxRecDepth 65536 in
theorem w_args : argsFit about1.vm theMethod args0 = true := by decide +kernel
set_option maxRecDepth 65536 in
theorem w_heap : heapFits about1 = true := by decide +kernel
set_option maxRecDepth 65536 in
theorem w_runnable : about1.curStatus? = some .runnable := by decide +kernel
set_option maxRecDepth 65536 in
theorem w_alone : about1.alone = true := by decide +kernel
set_option maxRecDepth 65536 in
theorem w_named : about1.methodNamed? x = some theMethod := by decide +kernel
set_option maxRecDepth 65536 in
theorem w_hears : about1.hears theMethod below0 = true := by decide +kernel
set_option maxRecDepth 65536 in
theorem w_ripe : about1.ripe theMethod args0 below0 = true := by decide +kernel
theorem w_running : about1.status = .running := rfl
set_option maxRecDepth 65536 in
theorem w_room : about1.hasRoom e0.platform room_1 = true :=
  launch0.hasRoom_least _ room_1 (by decide +kernel) (by decide +kernel) (by decide +kernel) (by decide +kernel) (by decide +kernel) (by decide +kernel)
theorem allAtoms_all (ts : List Jvm.Cond) (a : Array Jvm.Value) (st : Jvm.State) : (allAtoms ts).before a st = ts.all (fun c => c.before a st) := by
  induction ts with
  | nil => rfl
  | cons c t ih =>
    show (Jvm.Cond.and c (allAtoms t)).before a st = _
    rw [Jvm.Cond.before_and, ih, List.all_cons]
def words1 : List Jvm.Cond := Jvm.Cond.code x code maxLocals ret :: tables_1
/-- a 'code' word, met by the world's own term for the bytes: nothing is compared byte by byte -/
theorem code_word {y : MethodName} {bytes : ByteArray} {mx : Nat} {rt : Option FieldType} {a : Array Value} {s : State} {m : MethodId} {meth : Method} {c : Code} (h1 : s.methodNamed? y = some m) (h2 : s.vm.method? m = some meth) (h3 : meth.code = some c) (h4 : c.code = bytes)
    (h5 : (c.maxLocals == mx && c.exceptionTable.isEmpty && decide (c.maxStack ≤ mostOperands) && decide (meth.sig.returnType = rt) && !meth.locks && decide (parseMethodDescriptor y.desc = some meth.sig)) = true) : (Jvm.Cond.code y bytes mx rt).before a s = true := by
  simp only [Bool.and_eq_true, beq_iff_eq, Bool.not_eq_true', decide_eq_true_eq] at h5
  obtain ⟨⟨⟨⟨⟨g1, g2⟩, g3⟩, g4⟩, g5⟩, g6⟩ := h5
  simp [Cond.before, Cond.holds, Cond.value, h1, h2, h3, h4, g1, g2, g3, g4, g5, g6]
def isCode : Jvm.Cond → Bool
  | .code _ _ _ _ => true
  | _ => false
theorem all_split {L : List Jvm.Cond} {P : Jvm.Cond → Bool} (h1 : L.all (fun c => isCode c || P c) = true) (h2 : ∀ c ∈ L.filter isCode, P c = true) : L.all P = true := by
  refine List.all_eq_true.mpr fun c hc => ?_
  have h := List.all_eq_true.mp h1 c hc
  rcases Bool.eq_false_or_eq_true (isCode c) with hi | hi
  · exact h2 c (List.mem_filter.mpr ⟨hc, hi⟩)
  · simpa [hi] using h
set_option maxRecDepth 65536 in
theorem w_c0 : (Jvm.Cond.code x code maxLocals ret).before args0 about1 = true := code_word (m := ⟨1, 2⟩) (meth := k1m2) (c := k1c2) (by decide +kernel) rfl rfl rfl (by decide +kernel)
set_option maxRecDepth 65536 in
theorem w_c1 : (Jvm.Cond.code ({ cls := "java/lang/Math", name := "max", desc := "(II)I" } : Jvm.MethodName) jdk_29_method_65_code (2 : Nat) (Option.some Jvm.ClassFile.FieldType.int)).before args0 about1 = true := code_word (m := ⟨2, 1⟩) (meth := k2m1) (c := k2c1) (by decide +kernel) rfl rfl rfl (by decide +kernel)
set_option maxRecDepth 65536 in
theorem w_c2 : (Jvm.Cond.code ({ cls := "com/example/packwright/packwright/core/bins/NextFitBinsPlacePinLaw", name := "size", desc := "(II)I" } : Jvm.MethodName) method_2_code (2 : Nat) (Option.some Jvm.ClassFile.FieldType.int)).before args0 about1 = true := code_word (m := ⟨1, 1⟩) (meth := k1m1) (c := k1c1) (by decide +kernel) rfl rfl rfl (by decide +kernel)
set_option maxRecDepth 65536 in
theorem w_c3 : (Jvm.Cond.code ({ cls := "com/example/packwright/packwright/core/bins/BinInstance", name := "<init>", desc := "(I[I)V" } : Jvm.MethodName) prog_43_method_1_code (7 : Nat) (Option.none : Option Jvm.ClassFile.FieldType)).before args0 about1 = true := code_word (m := ⟨5, 0⟩) (meth := k5m0) (c := k5c0) (by decide +kernel) rfl rfl rfl (by decide +kernel)
set_option maxRecDepth 65536 in
theorem w_c4 : (Jvm.Cond.code ({ cls := "java/lang/Object", name := "<init>", desc := "()V" } : Jvm.MethodName) object_method_1_code (1 : Nat) (Option.none : Option Jvm.ClassFile.FieldType)).before args0 about1 = true := code_word (m := ⟨0, 0⟩) (meth := k0m0) (c := k0c0) (by decide +kernel) rfl rfl rfl (by decide +kernel)
set_option maxRecDepth 65536 in
theorem w_c5 : (Jvm.Cond.code ({ cls := "com/example/packwright/packwright/core/bins/NextFitBins", name := "<init>", desc := "(Lcom/example/packwright/packwright/core/bins/BinInstance;)V" } : Jvm.MethodName) prog_59_method_1_code (2 : Nat) (Option.none : Option Jvm.ClassFile.FieldType)).before args0 about1 = true := code_word (m := ⟨4, 0⟩) (meth := k4m0) (c := k4c0) (by decide +kernel) rfl rfl rfl (by decide +kernel)
set_option maxRecDepth 65536 in
theorem w_c6 : (Jvm.Cond.code ({ cls := "com/example/packwright/packwright/core/bins/BinInstance", name := "capacity", desc := "()I" } : Jvm.MethodName) prog_43_method_5_code (1 : Nat) (Option.some Jvm.ClassFile.FieldType.int)).before args0 about1 = true := code_word (m := ⟨5, 1⟩) (meth := k5m1) (c := k5c1) (by decide +kernel) rfl rfl rfl (by decide +kernel)
set_option maxRecDepth 65536 in
theorem w_c7 : (Jvm.Cond.code ({ cls := "com/example/packwright/packwright/core/bins/NextFitBins", name := "place", desc := "(I)I" } : Jvm.MethodName) prog_59_method_2_code (2 : Nat) (Option.some Jvm.ClassFile.FieldType.int)).before args0 about1 = true := code_word (m := ⟨4, 1⟩) (meth := k4m1) (c := k4c1) (by decide +kernel) rfl rfl rfl (by decide +kernel)
def codes1 : List Jvm.Cond := [Jvm.Cond.code x code maxLocals ret, Jvm.Cond.code ({ cls := "java/lang/Math", name := "max", desc := "(II)I" } : Jvm.MethodName) jdk_29_method_65_code (2 : Nat) (Option.some Jvm.ClassFile.FieldType.int), Jvm.Cond.code ({ cls := "com/example/packwright/packwright/core/bins/NextFitBinsPlacePinLaw", name := "size", desc := "(II)I" } : Jvm.MethodName) method_2_code (2 : Nat) (Option.some Jvm.ClassFile.FieldType.int), Jvm.Cond.code ({ cls := "com/example/packwright/packwright/core/bins/BinInstance", name := "<init>", desc := "(I[I)V" } : Jvm.MethodName) prog_43_method_1_code (7 : Nat) (Option.none : Option Jvm.ClassFile.FieldType), Jvm.Cond.code ({ cls := "java/lang/Object", name := "<init>", desc := "()V" } : Jvm.MethodName) object_method_1_code (1 : Nat) (Option.none : Option Jvm.ClassFile.FieldType), Jvm.Cond.code ({ cls := "com/example/packwright/packwright/core/bins/NextFitBins", name := "<init>", desc := "(Lcom/example/packwright/packwright/core/bins/BinInstance;)V" } : Jvm.MethodName) prog_59_method_1_code (2 : Nat) (Option.none : Option Jvm.ClassFile.FieldType), Jvm.Cond.code ({ cls := "com/example/packwright/packwright/core/bins/BinInstance", name := "capacity", desc := "()I" } : Jvm.MethodName) prog_43_method_5_code (1 : Nat) (Option.some Jvm.ClassFile.FieldType.int), Jvm.Cond.code ({ cls := "com/example/packwright/packwright/core/bins/NextFitBins", name := "place", desc := "(I)I" } : Jvm.MethodName) prog_59_method_2_code (2 : Nat) (Option.some Jvm.ClassFile.FieldType.int)]
set_option maxRecDepth 65536 in
theorem codes_eq : words1.filter isCode = codes1 := rfl
theorem w_codes : ∀ c ∈ words1.filter isCode, c.before args0 about1 = true := by
  rw [codes_eq]
  intro c hc
  simp only [codes1, List.mem_cons, List.not_mem_nil, or_false] at hc
  rcases hc with rfl | rfl | rfl | rfl | rfl | rfl | rfl | rfl
  · exact w_c0
  · exact w_c1
  · exact w_c2
  · exact w_c3
  · exact w_c4
  · exact w_c5
  · exact w_c6
  · exact w_c7
set_option maxRecDepth 65536 in
theorem w_t1 : (words1.take 24).all (fun c => isCode c || c.before args0 about1) = true := by decide +kernel
set_option maxRecDepth 65536 in
theorem w_t2 : ((words1.drop 24).take 24).all (fun c => isCode c || c.before args0 about1) = true := by decide +kernel
set_option maxRecDepth 65536 in
theorem w_t3 : ((words1.drop 24).drop 24).all (fun c => isCode c || c.before args0 about1) = true := by decide +kernel
theorem w_tables : (allAtoms (Jvm.Cond.code x code maxLocals ret :: tables_1)).before args0 about1 = true := by
  rw [allAtoms_all]
  show words1.all (fun c => c.before args0 about1) = true
  refine all_split ?_ w_codes
  rw [← List.take_append_drop 24 words1, List.all_append, w_t1, ← List.take_append_drop 24 (words1.drop 24), List.all_append, w_t2, w_t3]
  rfl
set_option maxRecDepth 65536 in
theorem w_case : (Jvm.Cond.and given_1 narrow_1).before args0 about1 = true := by decide +kernel
theorem w_applies : (headSpec (Jvm.Cond.code x code maxLocals ret :: tables_1) room_1).applies x e0.platform about1 = true :=
  (Spec.applies_iff w_frames).mpr ⟨w_running, w_runnable, w_alone, w_named, w_hears, w_ripe, w_room, w_tables⟩
theorem atStart : AtStart classFile x code maxLocals ret World_1 tables_1 room_1 Calls_1 rest_1 Pre_1 launch0 p0 e0 about1 theMethod args0 below0 :=
  ⟨lists_1, trivial, launch0.admits_env _ _ _, launch0.least_env, fairChoices_fair.cas, fairChoices_fair.clock, w_frames, w_args, w_heap, w_applies, trivial, trivial, w_case⟩
end start1
theorem witness_1 : WitnessClaimed_1 := ⟨start1.p0, start1.e0, start1.about1, start1.theMethod, start1.args0, start1.below0, start1.atStart⟩
end Jvm.Pilot.@@N@@
