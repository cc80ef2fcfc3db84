import JvmDerived
import JvmDerived.Pilot.@@N@@Statement
import JvmDerived.Pilot.@@N@@Code
set_option linter.unusedVariables false
set_option linter.unusedSimpArgs false
@@BLOCK:NumsL.lean.txt@@
namespace Jvm.RoadKit
open Sem ClassFile Op Lib Jvm.Stand Jvm.Free Jvm.LawKit
section New
variable {p : Program} {l : Launch} {e : Env} {R : Room} {s : State} {m : MethodId} {args : Array Value} {below : List Frame} {meth : Method} {c : Code} {T : State} {locs : List Loc} {cells slots : Nat}
theorem retI (X : Stand p l e R s m args below meth c T locs cells slots) (hx : p.tables.exec = Jvm.exec) {pc : Nat} {Ls : Array Slot} {z : Int32} {rest : List Value} (hret : meth.sig.returnType = some .int) (hd : decode c.code pc = .ok (.ireturn, 1)) {fs : List Frame}
    (hl : ∀ (f : JFrame) (acts : List Action), f.method = m → f.locked = none → f.entered = [] → (doReturn e (T.setTop f) acts (some (.int z))).1 = T.setFrames fs) : Steps p.tables e below (T.setTop (mkF m pc Ls (.int z :: rest))) (T.setFrames fs) := by
  have hm' : T.vm.method? m = some meth := X.method'
  have hn : narrow .int (.int z) = .int z := rfl
  show Steps p.tables e below (T.setTop { method := m, pc := pc, locals := Ls, stack := _ :: rest, locked := none }) _
  jvm_step X.here [X.here.top, hx, hd, hm', hret, hn]
  first | (intro acts; rw [hl _ acts rfl rfl rfl]) | rw [hl _ _ rfl rfl rfl]
  exact Steps.refl _
end New
end Jvm.RoadKit
namespace Jvm.Pilot.@@N@@
open Jvm Jvm.ClassFile Sem Op Lib Jvm.Free Jvm.Stand Jvm.LawKit Jvm.RoadKit Bundle Jvm.Pilot.@@N@@.Jvm.D
theorem own_lwN {x y : Int64} (h : ¬ x = y) : ¬ lcmpW x y = 0 := fun q => h ((lw_eq x y).mp q)
theorem own_lwE {x y : Int64} (h : x = y) : lcmpW x y = 0 := (lw_eq x y).mpr h
theorem own_lwL {x y : Int64} (h : x < y) : lcmpW x y < 0 := (lw_lt x y).mpr h
theorem own_lwM {x y : Int64} (h : ¬ x < y) : ¬ lcmpW x y < 0 := fun q => h ((lw_lt x y).mp q)
theorem own_lwG {x y : Int64} (h : y < x) : 0 < lcmpW x y := (lw_gt x y).mpr h
theorem own_lwH {x y : Int64} (h : ¬ y < x) : ¬ 0 < lcmpW x y := fun q => h ((lw_gt x y).mp q)
theorem own_F {Z : State} {h : Heap} {a : Addr} {C n d : String} {v w : Value} (q : v = w) (F : Fld Z h a C n d v) : Fld Z h a C n d w := q ▸ F
theorem own_rI {x y : Int32} (q : x = y) : (some (Value.int x)) = some (.int y) := by rw [q]
theorem own_rJ {x y : Int64} (q : x = y) : (some (Value.long x)) = some (.long y) := by rw [q]
theorem d1_0 : decode prog_18_method_13_code 0 = .ok (.iload_n 0, 1) := by decide +kernel
theorem d1_1 : decode prog_18_method_13_code 1 = .ok (.lookupswitch 38 #[(0, 27), (1, 32)], 27) := by decide +kernel
theorem d1_28 : decode prog_18_method_13_code 28 = .ok (.ldc 126, 2) := by decide +kernel
theorem d1_30 : decode prog_18_method_13_code 30 = .ok (.goto 10, 3) := by decide +kernel
theorem d1_33 : decode prog_18_method_13_code 33 = .ok (.sipush (-256), 3) := by decide +kernel
theorem d1_36 : decode prog_18_method_13_code 36 = .ok (.goto 4, 3) := by decide +kernel
theorem d1_39 : decode prog_18_method_13_code 39 = .ok (.iconst (-1), 1) := by decide +kernel
theorem d1_40 : decode prog_18_method_13_code 40 = .ok (.ireturn, 1) := by decide +kernel
theorem pn8345449 : plainName "com/example/xcu/xcu/ElementReader" = true := by first | (simp [plainName, overriddenIn]; done) | decide +kernel
theorem ef_1 (m : MethodId) (p0 : Int32) : entryFrame m #[(.int p0)] 1 = mkF m 0 #[.val (.int p0)] [] := by first | (simp [entryFrame, mkF, argsToLocals, Value.category]; done) | rfl
def Q1 (Z : State) (p0 : Int32) (h0 : Heap) (n0 : Nat) (v : Option Value) (h : Heap) (L : List Loc) : Prop := v = some (.int (if p0 = (0 : Int32) then (-65536 : Int32) else (if p0 = (1 : Int32) then (-256 : Int32) else (-1 : Int32)))) ∧ Fr n0 L ∧ h = h0
set_option maxRecDepth 65536 in
set_option maxHeartbeats 40000000 in
theorem rm1 (l : Launch) (Z : State) (aq : Array Value) (hw : ∀ d ∈ tables_1, d.before aq Z = true) (ws : List Jvm.Cond) (p0 : Int32) (h0 : Heap) (n0 : Nat) (Z0 : n0 ≤ h0.size) :
    MetFree l (⟨"com/example/xcu/xcu/ElementReader", "levels", "(I)I"⟩ : MethodName) (head1 (Jvm.Cond.code (⟨"com/example/xcu/xcu/ElementReader", "levels", "(I)I"⟩ : MethodName) prog_18_method_13_code 1 (some .int) :: ws) ({ frames := 0, cells := 0, slots := 0, locals := 0 } : Room)) (fun a U => a = #[(.int p0)] ∧ Z.Warmed39 U.vm ∧ U.heap = h0) (fun _ _ _ _ _ => True) (fun _ U o U' => ∃ v L, o = .returned v ∧ Q1 Z p0 h0 n0 v U'.heap L ∧ FrameEnd U o U' L ({ frames := 0, cells := 0, slots := 0, locals := 0 } : Room).cells ({ frames := 0, cells := 0, slots := 0, locals := 0 } : Room).slots) := by
  refine MetFree.of_bodySF (plainFor_of_name pn8345449) hisR ?_
  intro p e s m args below meth c s₁ Bd hml0 hP hK
  obtain ⟨rfl, hZ, hh⟩ := hP
  have hx := Bd.exec
  have hby := Bd.bytes
  have hml : c.maxLocals = 1 := hml0
  have hown : s.vm.findClass "com/example/xcu/xcu/ElementReader" = some m.cls := findClass_of_methodNamed Bd.named
  have hnm := (name_of_methodNamed Bd.named Bd.method).1
  have X0 : Stand p l e ({ frames := 0, cells := 0, slots := 0, locals := 0 } : Room) s m #[(.int p0)] below meth c s₁ [] 0 0 := Stand.of_body Bd
  have e0 : s₁.heap = h0 := by rw [← hh, Bd.state]; rfl
  have N0 := Fr.nil n0
  have pre0 : ∀ t, Steps p.tables e below (s₁.setTop (mkF m 0 #[.val (.int p0)] [])) t → Steps p.tables e below (s₁.setTop (entryFrame m #[(.int p0)] 1)) t := fun t k => castTop (ef_1 m p0) k
  have pre4 : ∀ t, Steps p.tables e below (s₁.setTop (mkF m 1 #[.val (.int p0)] [(.int p0)])) t → Steps p.tables e below (s₁.setTop (entryFrame m #[(.int p0)] 1)) t := fun t kt => by
    refine pre0 _ ?_
    show Steps p.tables e below (s₁.setTop (mkF m 0 #[.val (.int p0)] [])) _
    refine XS.iloadN X0.here hx rfl (hb hby d1_0) rfl ?_
    show Steps p.tables e below (s₁.setTop (mkF m 1 #[.val (.int p0)] [(.int p0)])) _
    exact kt
  by_cases hc5 : p0 = (0 : Int32)
  · skip
    have pre6 : ∀ t, Steps p.tables e below (s₁.setTop (mkF m 40 #[.val (.int p0)] [(.int (-65536 : Int32))])) t → Steps p.tables e below (s₁.setTop (entryFrame m #[(.int p0)] 1)) t := fun t kt => by
      refine pre4 _ ?_
      show Steps p.tables e below (s₁.setTop (mkF m 1 #[.val (.int p0)] [(.int p0)])) _
      refine X0.lookupswitchHit hx (g := (mkF m 1 #[.val (.int p0)] [(.int p0)])) rfl rfl (hb hby d1_1) (by decide) (a := 0) (off := 27) (by rw [hc5, ← Array.find?_toList]; rfl) (by show (0 : Int) ≤ 1 + (27 : Int); decide) _ ?_
      show Steps p.tables e below (s₁.setTop (mkF m 28 #[.val (.int p0)] [])) _
      refine X0.ldcInt hx hown (mvT hZ (hw _ (List.mem_of_getElem? (i := 10) rfl))) (g := (mkF m 28 #[.val (.int p0)] [])) rfl (hb hby d1_28) _ ?_
      show Steps p.tables e below (s₁.setTop (mkF m 30 #[.val (.int p0)] [(.int (-65536 : Int32))])) _
      refine XS.goto X0.here hx rfl (pc0 := 30) (pc' := 40) rfl (hb hby d1_30) (by decide) (by decide) ?_
      show Steps p.tables e below (s₁.setTop (mkF m 40 #[.val (.int p0)] [(.int (-65536 : Int32))])) _
      exact kt
    obtain ⟨fs, hr, hrun, hended, hW, hsame⟩ := X0.leave (v := some (.int (-65536 : Int32))) (fun h => by rw [Bd.returns] at h; cases h)
    refine ⟨_, _, pre6 _ ?_, hrun, hended, _, _, rfl, ?_, ⟨_, rfl⟩, hW, hsame.mono (by decide) (by decide)⟩
    · exact retI X0 hx Bd.returns (hb hby d1_40) hr
    · show Q1 Z p0 h0 n0 _ s₁.heap _
      rw [e0]
      exact ⟨(own_rI (by rw [if_pos hc5] : (-65536 : Int32) = (if p0 = (0 : Int32) then (-65536 : Int32) else (if p0 = (1 : Int32) then (-256 : Int32) else (-1 : Int32))))), N0, rfl⟩
  · skip
    by_cases hc7 : p0 = (1 : Int32)
    · skip
      have pre8 : ∀ t, Steps p.tables e below (s₁.setTop (mkF m 40 #[.val (.int p0)] [(.int (-256 : Int32))])) t → Steps p.tables e below (s₁.setTop (entryFrame m #[(.int p0)] 1)) t := fun t kt => by
        refine pre4 _ ?_
        show Steps p.tables e below (s₁.setTop (mkF m 1 #[.val (.int p0)] [(.int p0)])) _
        refine X0.lookupswitchHit hx (g := (mkF m 1 #[.val (.int p0)] [(.int p0)])) rfl rfl (hb hby d1_1) (by decide) (a := 1) (off := 32) (by rw [hc7, ← Array.find?_toList]; rfl) (by show (0 : Int) ≤ 1 + (32 : Int); decide) _ ?_
        show Steps p.tables e below (s₁.setTop (mkF m 33 #[.val (.int p0)] [])) _
        refine XS.sipush X0.here hx rfl (hb hby d1_33) ?_
        show Steps p.tables e below (s₁.setTop (mkF m 36 #[.val (.int p0)] [(.int (-256 : Int32))])) _
        refine XS.goto X0.here hx rfl (pc0 := 36) (pc' := 40) rfl (hb hby d1_36) (by decide) (by decide) ?_
        show Steps p.tables e below (s₁.setTop (mkF m 40 #[.val (.int p0)] [(.int (-256 : Int32))])) _
        exact kt
      obtain ⟨fs, hr, hrun, hended, hW, hsame⟩ := X0.leave (v := some (.int (-256 : Int32))) (fun h => by rw [Bd.returns] at h; cases h)
      refine ⟨_, _, pre8 _ ?_, hrun, hended, _, _, rfl, ?_, ⟨_, rfl⟩, hW, hsame.mono (by decide) (by decide)⟩
      · exact retI X0 hx Bd.returns (hb hby d1_40) hr
      · show Q1 Z p0 h0 n0 _ s₁.heap _
        rw [e0]
        exact ⟨(own_rI (by rw [if_neg hc5, if_pos hc7] : (-256 : Int32) = (if p0 = (0 : Int32) then (-65536 : Int32) else (if p0 = (1 : Int32) then (-256 : Int32) else (-1 : Int32))))), N0, rfl⟩
    · skip
      have pre9 : ∀ t, Steps p.tables e below (s₁.setTop (mkF m 40 #[.val (.int p0)] [(.int (-1 : Int32))])) t → Steps p.tables e below (s₁.setTop (entryFrame m #[(.int p0)] 1)) t := fun t kt => by
        refine pre4 _ ?_
        show Steps p.tables e below (s₁.setTop (mkF m 1 #[.val (.int p0)] [(.int p0)])) _
        refine X0.lookupswitchMiss hx (g := (mkF m 1 #[.val (.int p0)] [(.int p0)])) rfl rfl (hb hby d1_1) (by decide) (find_miss (by intro q hq; simp only [List.mem_cons, List.not_mem_nil, or_false] at hq; rcases hq with rfl | rfl <;> first | exact fun e => hc5 (Int32.toInt_inj.mp (e.symm : _ = (0 : Int32).toInt)) | exact fun e => hc7 (Int32.toInt_inj.mp (e.symm : _ = (1 : Int32).toInt)))) (by show (0 : Int) ≤ 1 + (38 : Int); decide) _ ?_
        show Steps p.tables e below (s₁.setTop (mkF m 39 #[.val (.int p0)] [])) _
        refine XS.iconst X0.here hx rfl (hb hby d1_39) ?_
        show Steps p.tables e below (s₁.setTop (mkF m 40 #[.val (.int p0)] [(.int (-1 : Int32))])) _
        exact kt
      obtain ⟨fs, hr, hrun, hended, hW, hsame⟩ := X0.leave (v := some (.int (-1 : Int32))) (fun h => by rw [Bd.returns] at h; cases h)
      refine ⟨_, _, pre9 _ ?_, hrun, hended, _, _, rfl, ?_, ⟨_, rfl⟩, hW, hsame.mono (by decide) (by decide)⟩
      · exact retI X0 hx Bd.returns (hb hby d1_40) hr
      · show Q1 Z p0 h0 n0 _ s₁.heap _
        rw [e0]
        exact ⟨(own_rI (by rw [if_neg hc5, if_neg hc7] : (-1 : Int32) = (if p0 = (0 : Int32) then (-65536 : Int32) else (if p0 = (1 : Int32) then (-256 : Int32) else (-1 : Int32))))), N0, rfl⟩
theorem d2_0 : decode prog_18_method_14_code 0 = .ok (.iload_n 0, 1) := by decide +kernel
theorem d2_1 : decode prog_18_method_14_code 1 = .ok (.ldc 127, 2) := by decide +kernel
theorem d2_3 : decode prog_18_method_14_code 3 = .ok (.iand, 1) := by decide +kernel
theorem d2_4 : decode prog_18_method_14_code 4 = .ok (.ifCond .eq 7, 3) := by decide +kernel
theorem d2_7 : decode prog_18_method_14_code 7 = .ok (.iconst 1, 1) := by decide +kernel
theorem d2_8 : decode prog_18_method_14_code 8 = .ok (.goto 4, 3) := by decide +kernel
theorem d2_11 : decode prog_18_method_14_code 11 = .ok (.iconst 0, 1) := by decide +kernel
theorem d2_12 : decode prog_18_method_14_code 12 = .ok (.ireturn, 1) := by decide +kernel
theorem ef_2 (m : MethodId) (p0 : Int32) : entryFrame m #[(.int p0)] 1 = mkF m 0 #[.val (.int p0)] [] := by first | (simp [entryFrame, mkF, argsToLocals, Value.category]; done) | rfl
def Q2 (Z : State) (p0 : Int32) (h0 : Heap) (n0 : Nat) (v : Option Value) (h : Heap) (L : List Loc) : Prop := v = some (.int (if (p0 &&& (65535 : Int32)) = (0 : Int32) then (0 : Int32) else (1 : Int32))) ∧ Fr n0 L ∧ h = h0
set_option maxRecDepth 65536 in
set_option maxHeartbeats 40000000 in
theorem rm2 (l : Launch) (Z : State) (aq : Array Value) (hw : ∀ d ∈ tables_1, d.before aq Z = true) (ws : List Jvm.Cond) (p0 : Int32) (h0 : Heap) (n0 : Nat) (Z0 : n0 ≤ h0.size) :
    MetFree l (⟨"com/example/xcu/xcu/ElementReader", "zerosMayCount", "(I)Z"⟩ : MethodName) (head1 (Jvm.Cond.code (⟨"com/example/xcu/xcu/ElementReader", "zerosMayCount", "(I)Z"⟩ : MethodName) prog_18_method_14_code 1 (some .boolean) :: ws) ({ frames := 0, cells := 0, slots := 0, locals := 0 } : Room)) (fun a U => a = #[(.int p0)] ∧ Z.Warmed39 U.vm ∧ U.heap = h0) (fun _ _ _ _ _ => True) (fun _ U o U' => ∃ v L, o = .returned v ∧ Q2 Z p0 h0 n0 v U'.heap L ∧ FrameEnd U o U' L ({ frames := 0, cells := 0, slots := 0, locals := 0 } : Room).cells ({ frames := 0, cells := 0, slots := 0, locals := 0 } : Room).slots) := by
  refine MetFree.of_bodySF (plainFor_of_name pn8345449) hisR ?_
  intro p e s m args below meth c s₁ Bd hml0 hP hK
  obtain ⟨rfl, hZ, hh⟩ := hP
  have hx := Bd.exec
  have hby := Bd.bytes
  have hml : c.maxLocals = 1 := hml0
  have hown : s.vm.findClass "com/example/xcu/xcu/ElementReader" = some m.cls := findClass_of_methodNamed Bd.named
  have hnm := (name_of_methodNamed Bd.named Bd.method).1
  have X0 : Stand p l e ({ frames := 0, cells := 0, slots := 0, locals := 0 } : Room) s m #[(.int p0)] below meth c s₁ [] 0 0 := Stand.of_body Bd
  have e0 : s₁.heap = h0 := by rw [← hh, Bd.state]; rfl
  have N0 := Fr.nil n0
  have pre0 : ∀ t, Steps p.tables e below (s₁.setTop (mkF m 0 #[.val (.int p0)] [])) t → Steps p.tables e below (s₁.setTop (entryFrame m #[(.int p0)] 1)) t := fun t k => castTop (ef_2 m p0) k
  have pre12 : ∀ t, Steps p.tables e below (s₁.setTop (mkF m 4 #[.val (.int p0)] [(.int (p0 &&& (65535 : Int32)))])) t → Steps p.tables e below (s₁.setTop (entryFrame m #[(.int p0)] 1)) t := fun t kt => by
    refine pre0 _ ?_
    show Steps p.tables e below (s₁.setTop (mkF m 0 #[.val (.int p0)] [])) _
    refine XS.iloadN X0.here hx rfl (hb hby d2_0) rfl ?_
    show Steps p.tables e below (s₁.setTop (mkF m 1 #[.val (.int p0)] [(.int p0)])) _
    refine X0.ldcInt hx hown (mvT hZ (hw _ (List.mem_of_getElem? (i := 9) rfl))) (g := (mkF m 1 #[.val (.int p0)] [(.int p0)])) rfl (hb hby d2_1) _ ?_
    show Steps p.tables e below (s₁.setTop (mkF m 3 #[.val (.int p0)] [(.int (65535 : Int32)), (.int p0)])) _
    refine XS.iand X0.here hx rfl (hb hby d2_3) rfl ?_
    show Steps p.tables e below (s₁.setTop (mkF m 4 #[.val (.int p0)] [(.int (p0 &&& (65535 : Int32)))])) _
    exact kt
  by_cases hc13 : (p0 &&& (65535 : Int32)) = (0 : Int32)
  · skip
    have pre14 : ∀ t, Steps p.tables e below (s₁.setTop (mkF m 12 #[.val (.int p0)] [(.int (0 : Int32))])) t → Steps p.tables e below (s₁.setTop (entryFrame m #[(.int p0)] 1)) t := fun t kt => by
      refine pre12 _ ?_
      show Steps p.tables e below (s₁.setTop (mkF m 4 #[.val (.int p0)] [(.int (p0 &&& (65535 : Int32)))])) _
      refine XS.ifYes X0.here hx rfl (pc0 := 4) (pc' := 11) rfl (hb hby d2_4) rfl ((if0 _ _).trans (teq hc13).1) (by decide) (by decide) ?_
      show Steps p.tables e below (s₁.setTop (mkF m 11 #[.val (.int p0)] [])) _
      refine XS.iconst X0.here hx rfl (hb hby d2_11) ?_
      show Steps p.tables e below (s₁.setTop (mkF m 12 #[.val (.int p0)] [(.int (0 : Int32))])) _
      exact kt
    obtain ⟨fs, hr, hrun, hended, hW, hsame⟩ := X0.leave (v := some (.int (0 : Int32))) (fun h => by rw [Bd.returns] at h; cases h)
    refine ⟨_, _, pre14 _ ?_, hrun, hended, _, _, rfl, ?_, ⟨_, rfl⟩, hW, hsame.mono (by decide) (by decide)⟩
    · exact retN X0 hx (t := .boolean) Bd.returns (by simp) (hb hby d2_12) hr
    · show Q2 Z p0 h0 n0 _ s₁.heap _
      rw [e0]
      exact ⟨(own_rI (by rw [if_pos hc13] : (0 : Int32) = (if (p0 &&& (65535 : Int32)) = (0 : Int32) then (0 : Int32) else (1 : Int32)))), N0, rfl⟩
  · skip
    have pre15 : ∀ t, Steps p.tables e below (s₁.setTop (mkF m 12 #[.val (.int p0)] [(.int (1 : Int32))])) t → Steps p.tables e below (s₁.setTop (entryFrame m #[(.int p0)] 1)) t := fun t kt => by
      refine pre12 _ ?_
      show Steps p.tables e below (s₁.setTop (mkF m 4 #[.val (.int p0)] [(.int (p0 &&& (65535 : Int32)))])) _
      refine XS.ifNo X0.here hx rfl (hb hby d2_4) rfl ((if0 _ _).trans (feq hc13).1) ?_
      show Steps p.tables e below (s₁.setTop (mkF m 7 #[.val (.int p0)] [])) _
      refine XS.iconst X0.here hx rfl (hb hby d2_7) ?_
      show Steps p.tables e below (s₁.setTop (mkF m 8 #[.val (.int p0)] [(.int (1 : Int32))])) _
      refine XS.goto X0.here hx rfl (pc0 := 8) (pc' := 12) rfl (hb hby d2_8) (by decide) (by decide) ?_
      show Steps p.tables e below (s₁.setTop (mkF m 12 #[.val (.int p0)] [(.int (1 : Int32))])) _
      exact kt
    obtain ⟨fs, hr, hrun, hended, hW, hsame⟩ := X0.leave (v := some (.int (1 : Int32))) (fun h => by rw [Bd.returns] at h; cases h)
    refine ⟨_, _, pre15 _ ?_, hrun, hended, _, _, rfl, ?_, ⟨_, rfl⟩, hW, hsame.mono (by decide) (by decide)⟩
    · exact retN X0 hx (t := .boolean) Bd.returns (by simp) (hb hby d2_12) hr
    · show Q2 Z p0 h0 n0 _ s₁.heap _
      rw [e0]
      exact ⟨(own_rI (by rw [if_neg hc13] : (1 : Int32) = (if (p0 &&& (65535 : Int32)) = (0 : Int32) then (0 : Int32) else (1 : Int32)))), N0, rfl⟩
theorem pd87992008 : parseMethodDescriptor "(I)I" = some ⟨[.int], some .int⟩ := by decide +kernel
theorem pd87992025 : parseMethodDescriptor "(I)Z" = some ⟨[.int], some .boolean⟩ := by decide +kernel
theorem pn83406783 : plainName "com/example/xcu/xcu/ElementReaderLevelsPinLaw" = true := by first | (simp [plainName, overriddenIn]; done) | decide +kernel
theorem own_L1 (e M : Int32) (h : ∀ i : Nat, i < 16 → M.toBitVec.getLsbD (16 + i) = true) : (((e &&& M).toUInt32 >>> ((16 : Int32) &&& 31).toUInt32).toInt32) = ((e.toUInt32 >>> ((16 : Int32) &&& 31).toUInt32).toInt32) := by
  apply Int32.toBitVec_inj.mp
  show (e.toBitVec &&& M.toBitVec) >>> (16 : Nat) = e.toBitVec >>> (16 : Nat)
  apply BitVec.eq_of_getLsbD_eq
  intro i hi
  rw [BitVec.getLsbD_ushiftRight, BitVec.getLsbD_ushiftRight, BitVec.getLsbD_and]
  by_cases q : i < 16
  · rw [h i q, Bool.and_true]
  · rw [BitVec.getLsbD_of_ge e.toBitVec (16 + i) (by omega)]; rfl
theorem own_L2 (e : Int32) : ((((e &&& (-65536 : Int32)).toUInt32 >>> ((8 : Int32) &&& 31).toUInt32).toInt32) &&& (255 : Int32)) = (0 : Int32) := by
  apply Int32.toBitVec_inj.mp
  show ((e.toBitVec &&& 0xffff0000#32) >>> (8 : Nat)) &&& 255#32 = 0#32
  apply BitVec.eq_of_getLsbD_eq
  intro i hi
  have hm : ∀ i : Nat, i < 32 → ((0xffff0000#32).getLsbD (8 + i) && (255#32).getLsbD i) = false := by decide
  have h := hm i hi
  rw [BitVec.getLsbD_and, BitVec.getLsbD_ushiftRight, BitVec.getLsbD_and, Bool.and_assoc, h, Bool.and_false, BitVec.getLsbD_zero]
theorem own_L3 (e : Int32) : ((((e &&& (-256 : Int32)).toUInt32 >>> ((8 : Int32) &&& 31).toUInt32).toInt32) &&& (255 : Int32)) = (((e.toUInt32 >>> ((8 : Int32) &&& 31).toUInt32).toInt32) &&& (255 : Int32)) := by
  apply Int32.toBitVec_inj.mp
  show ((e.toBitVec &&& 0xffffff00#32) >>> (8 : Nat)) &&& 255#32 = (e.toBitVec >>> (8 : Nat)) &&& 255#32
  apply BitVec.eq_of_getLsbD_eq
  intro i hi
  have hm : ∀ i : Nat, i < 32 → ((0xffffff00#32).getLsbD (8 + i) && (255#32).getLsbD i) = (255#32).getLsbD i := by decide
  have h := hm i hi
  rw [BitVec.getLsbD_and, BitVec.getLsbD_ushiftRight, BitVec.getLsbD_and, Bool.and_assoc, h, BitVec.getLsbD_and, BitVec.getLsbD_ushiftRight]
theorem own_L4 (e M : Int32) (h : M &&& (255 : Int32) = 0) : ((e &&& M) &&& (255 : Int32)) = (0 : Int32) := by
  rw [Int32.and_assoc, h, Int32.and_zero]
theorem own_L5 (e : Int32) : (e &&& (-1 : Int32)) = e := by
  apply Int32.toBitVec_inj.mp
  show e.toBitVec &&& BitVec.allOnes 32 = e.toBitVec
  exact BitVec.and_allOnes

theorem own_plain0 (p0 : Int32) (p1 : Int32) (p2 : Int32)
    (v1 : Int32) (hv1 : v1 = (if (p0 &&& (1 : Int32)) = (0 : Int32) then (((p1 &&& (2147483647 : Int32)) % (5 : Int32)) - (1 : Int32)) else p1))
    (v2 : Int32) (hv2 : v2 = (if v1 = (0 : Int32) then (-65536 : Int32) else (if v1 = (1 : Int32) then (-256 : Int32) else (-1 : Int32))))
    (v3 : Int32) (hv3 : v3 = (if v1 = (0 : Int32) then (0 : Int32) else (1 : Int32)))
    (v4 : Int32) (hv4 : v4 = (if v1 = (0 : Int32) then (0 : Int32) else (if v1 = (1 : Int32) then (0 : Int32) else (1 : Int32))))
    (v5 : Int32) (hv5 : v5 = (if ((v2.toUInt32 >>> ((16 : Int32) &&& 31).toUInt32).toInt32) = (65535 : Int32) then (if v3 = (0 : Int32) then (if (((v2.toUInt32 >>> ((8 : Int32) &&& 31).toUInt32).toInt32) &&& (255 : Int32)) = (0 : Int32) then (if v4 = (0 : Int32) then (if (v2 &&& (255 : Int32)) = (0 : Int32) then (1 : Int32) else (0 : Int32)) else (if (v2 &&& (255 : Int32)) = (255 : Int32) then (1 : Int32) else (0 : Int32))) else (0 : Int32)) else (if (((v2.toUInt32 >>> ((8 : Int32) &&& 31).toUInt32).toInt32) &&& (255 : Int32)) = (255 : Int32) then (if v4 = (0 : Int32) then (if (v2 &&& (255 : Int32)) = (0 : Int32) then (1 : Int32) else (0 : Int32)) else (if (v2 &&& (255 : Int32)) = (255 : Int32) then (1 : Int32) else (0 : Int32))) else (0 : Int32))) else (0 : Int32)))
    (v6 : Int32) (hv6 : v6 = (if (((p2 &&& v2).toUInt32 >>> ((16 : Int32) &&& 31).toUInt32).toInt32) = ((p2.toUInt32 >>> ((16 : Int32) &&& 31).toUInt32).toInt32) then (if v3 = (0 : Int32) then (if ((((p2 &&& v2).toUInt32 >>> ((8 : Int32) &&& 31).toUInt32).toInt32) &&& (255 : Int32)) = (0 : Int32) then (if v4 = (0 : Int32) then (if ((p2 &&& v2) &&& (255 : Int32)) = (0 : Int32) then (1 : Int32) else (0 : Int32)) else (if ((p2 &&& v2) &&& (255 : Int32)) = (p2 &&& (255 : Int32)) then (1 : Int32) else (0 : Int32))) else (0 : Int32)) else (if ((((p2 &&& v2).toUInt32 >>> ((8 : Int32) &&& 31).toUInt32).toInt32) &&& (255 : Int32)) = (((p2.toUInt32 >>> ((8 : Int32) &&& 31).toUInt32).toInt32) &&& (255 : Int32)) then (if v4 = (0 : Int32) then (if ((p2 &&& v2) &&& (255 : Int32)) = (0 : Int32) then (1 : Int32) else (0 : Int32)) else (if ((p2 &&& v2) &&& (255 : Int32)) = (p2 &&& (255 : Int32)) then (1 : Int32) else (0 : Int32))) else (0 : Int32))) else (0 : Int32)))
    (v7 : Int32) (hv7 : v7 = (if (if (v2 &&& (65535 : Int32)) = (0 : Int32) then (0 : Int32) else (1 : Int32)) = v3 then (1 : Int32) else (0 : Int32)))
    (v8 : Int32) (hv8 : v8 = (if v5 = (0 : Int32) then (0 : Int32) else (if v6 = (0 : Int32) then (0 : Int32) else (if v7 = (0 : Int32) then (0 : Int32) else (1 : Int32))))) : v8 = 1 := by
  clear hv1
  by_cases a : v1 = 0
  · rw [if_pos a] at hv2 hv3 hv4
    subst hv2 hv3 hv4
    have h5 : v5 = 1 := by rw [hv5]; decide
    have h6 : v6 = 1 := by rw [hv6, if_pos (own_L1 p2 _ (by decide)), if_pos rfl, if_pos (own_L2 p2), if_pos rfl, if_pos (own_L4 p2 _ (by decide))]
    have h7 : v7 = 1 := by rw [hv7]; decide
    rw [hv8, h5, h6, h7]; decide
  · by_cases b : v1 = 1
    · rw [if_neg a, if_pos b] at hv2 hv4
      rw [if_neg a] at hv3
      subst hv2 hv3 hv4
      have h5 : v5 = 1 := by rw [hv5]; decide
      have h6 : v6 = 1 := by rw [hv6, if_pos (own_L1 p2 _ (by decide)), if_neg (by decide), if_pos (own_L3 p2), if_pos rfl, if_pos (own_L4 p2 _ (by decide))]
      have h7 : v7 = 1 := by rw [hv7]; decide
      rw [hv8, h5, h6, h7]; decide
    · rw [if_neg a, if_neg b] at hv2 hv4
      rw [if_neg a] at hv3
      subst hv2 hv3 hv4
      have h5 : v5 = 1 := by rw [hv5]; decide
      have h6 : v6 = 1 := by rw [hv6, own_L5 p2, if_pos rfl, if_neg (by decide), if_pos rfl, if_neg (by decide), if_pos rfl]
      have h7 : v7 = 1 := by rw [hv7]; decide
      rw [hv8, h5, h6, h7]; decide
theorem ef_0 (m : MethodId) (p0 : Int32) (p1 : Int32) (p2 : Int32) : entryFrame m #[(.int p0), (.int p1), (.int p2)] maxLocals = mkF m 0 #[.val (.int p0), .val (.int p1), .val (.int p2), .unset, .unset, .unset, .unset, .unset, .unset, .unset, .unset] [] := by first | (simp [entryFrame, mkF, argsToLocals, Value.category, maxLocals]; done) | rfl
def Q0 (n0 : Nat) (v : Option Value) (L : List Loc) : Prop := v = some (.int (1 : Int32)) ∧ Fr n0 L
set_option maxRecDepth 65536 in
set_option maxHeartbeats 40000000 in
theorem rm0 (l : Launch) (Z : State) (aq : Array Value) (hw : ∀ d ∈ tables_1, d.before aq Z = true) (ws : List Jvm.Cond) (p0 : Int32) (p1 : Int32) (p2 : Int32) (h0 : Heap) (n0 : Nat) (Z0 : n0 ≤ h0.size) :
    MetFree l x (head1 (Jvm.Cond.code x code maxLocals ret :: ws) room_1) (fun a U => a = #[(.int p0), (.int p1), (.int p2)] ∧ Z.Warmed39 U.vm ∧ U.heap = h0) (fun _ _ _ _ _ => True) (fun _ U o U' => ∃ v L, o = .returned v ∧ Q0 n0 v L ∧ FrameEnd U o U' L room_1.cells room_1.slots) := by
  refine MetFree.of_bodySF (plainFor_of_name pn83406783) hisR ?_
  intro p e s m args below meth c s₁ Bd hml0 hP hK
  obtain ⟨rfl, hZ, hh⟩ := hP
  have hx := Bd.exec
  have hby := Bd.bytes
  have hml : c.maxLocals = 11 := hml0
  have hown : s.vm.findClass "com/example/xcu/xcu/ElementReaderLevelsPinLaw" = some m.cls := findClass_of_methodNamed Bd.named
  have X0 : Stand p l e room_1 s m #[(.int p0), (.int p1), (.int p2)] below meth c s₁ [] 0 0 := Stand.of_body Bd
  have e0 : s₁.heap = h0 := by rw [← hh, Bd.state]; rfl
  have N0 := Fr.nil n0
  have pre0 : ∀ t, Steps p.tables e below (s₁.setTop (mkF m 0 #[.val (.int p0), .val (.int p1), .val (.int p2), .unset, .unset, .unset, .unset, .unset, .unset, .unset, .unset] [])) t → Steps p.tables e below (s₁.setTop (entryFrame m #[(.int p0), (.int p1), (.int p2)] maxLocals)) t := fun t k => castTop (ef_0 m p0 p1 p2) k
  have pre16 : ∀ t, Steps p.tables e below (s₁.setTop (mkF m 3 #[.val (.int p0), .val (.int p1), .val (.int p2), .unset, .unset, .unset, .unset, .unset, .unset, .unset, .unset] [(.int (p0 &&& (1 : Int32)))])) t → Steps p.tables e below (s₁.setTop (entryFrame m #[(.int p0), (.int p1), (.int p2)] maxLocals)) t := fun t kt => by
    refine pre0 _ ?_
    show Steps p.tables e below (s₁.setTop (mkF m 0 #[.val (.int p0), .val (.int p1), .val (.int p2), .unset, .unset, .unset, .unset, .unset, .unset, .unset, .unset] [])) _
    refine XS.iloadN X0.here hx rfl (hb hby at_0) rfl ?_
    show Steps p.tables e below (s₁.setTop (mkF m 1 #[.val (.int p0), .val (.int p1), .val (.int p2), .unset, .unset, .unset, .unset, .unset, .unset, .unset, .unset] [(.int p0)])) _
    refine XS.iconst X0.here hx rfl (hb hby at_1) ?_
    show Steps p.tables e below (s₁.setTop (mkF m 2 #[.val (.int p0), .val (.int p1), .val (.int p2), .unset, .unset, .unset, .unset, .unset, .unset, .unset, .unset] [(.int (1 : Int32)), (.int p0)])) _
    refine XS.iand X0.here hx rfl (hb hby at_2) rfl ?_
    show Steps p.tables e below (s₁.setTop (mkF m 3 #[.val (.int p0), .val (.int p1), .val (.int p2), .unset, .unset, .unset, .unset, .unset, .unset, .unset, .unset] [(.int (p0 &&& (1 : Int32)))])) _
    exact kt
  obtain ⟨v1, hv1⟩ : ∃ z : Int32, z = (if (p0 &&& (1 : Int32)) = (0 : Int32) then (((p1 &&& (2147483647 : Int32)) % (5 : Int32)) - (1 : Int32)) else p1) := ⟨_, rfl⟩
  have pre18 : ∀ t, Steps p.tables e below (s₁.setTop (mkF m 18 #[.val (.int p0), .val (.int p1), .val (.int p2), .unset, .unset, .unset, .unset, .unset, .unset, .unset, .unset] [(.int v1)])) t → Steps p.tables e below (s₁.setTop (entryFrame m #[(.int p0), (.int p1), (.int p2)] maxLocals)) t := fun t kt => by
    refine pre16 _ ?_
    show Steps p.tables e below (s₁.setTop (mkF m 3 #[.val (.int p0), .val (.int p1), .val (.int p2), .unset, .unset, .unset, .unset, .unset, .unset, .unset, .unset] [(.int (p0 &&& (1 : Int32)))])) _
    by_cases hc17 : (p0 &&& (1 : Int32)) = (0 : Int32)
    · rw [if_pos hc17] at hv1
      refine XS.ifYes X0.here hx rfl (pc0 := 3) (pc' := 10) rfl (hb hby at_3) rfl ((if0 _ _).trans (teq hc17).1) (by decide) (by decide) ?_
      show Steps p.tables e below (s₁.setTop (mkF m 10 #[.val (.int p0), .val (.int p1), .val (.int p2), .unset, .unset, .unset, .unset, .unset, .unset, .unset, .unset] [])) _
      refine XS.iloadN X0.here hx rfl (hb hby at_10) rfl ?_
      show Steps p.tables e below (s₁.setTop (mkF m 11 #[.val (.int p0), .val (.int p1), .val (.int p2), .unset, .unset, .unset, .unset, .unset, .unset, .unset, .unset] [(.int p1)])) _
      refine X0.ldcInt hx hown (mvT hZ (hw _ (List.mem_of_getElem? (i := 0) rfl))) (g := (mkF m 11 #[.val (.int p0), .val (.int p1), .val (.int p2), .unset, .unset, .unset, .unset, .unset, .unset, .unset, .unset] [(.int p1)])) rfl (hb hby at_11) _ ?_
      show Steps p.tables e below (s₁.setTop (mkF m 13 #[.val (.int p0), .val (.int p1), .val (.int p2), .unset, .unset, .unset, .unset, .unset, .unset, .unset, .unset] [(.int (2147483647 : Int32)), (.int p1)])) _
      refine XS.iand X0.here hx rfl (hb hby at_13) rfl ?_
      show Steps p.tables e below (s₁.setTop (mkF m 14 #[.val (.int p0), .val (.int p1), .val (.int p2), .unset, .unset, .unset, .unset, .unset, .unset, .unset, .unset] [(.int (p1 &&& (2147483647 : Int32)))])) _
      refine XS.iconst X0.here hx rfl (hb hby at_14) ?_
      show Steps p.tables e below (s₁.setTop (mkF m 15 #[.val (.int p0), .val (.int p1), .val (.int p2), .unset, .unset, .unset, .unset, .unset, .unset, .unset, .unset] [(.int (5 : Int32)), (.int (p1 &&& (2147483647 : Int32)))])) _
      refine iremM X0 hx rfl (hb hby at_15) rfl (by decide) ?_
      show Steps p.tables e below (s₁.setTop (mkF m 16 #[.val (.int p0), .val (.int p1), .val (.int p2), .unset, .unset, .unset, .unset, .unset, .unset, .unset, .unset] [(.int ((p1 &&& (2147483647 : Int32)) % (5 : Int32)))])) _
      refine XS.iconst X0.here hx rfl (hb hby at_16) ?_
      show Steps p.tables e below (s₁.setTop (mkF m 17 #[.val (.int p0), .val (.int p1), .val (.int p2), .unset, .unset, .unset, .unset, .unset, .unset, .unset, .unset] [(.int (1 : Int32)), (.int ((p1 &&& (2147483647 : Int32)) % (5 : Int32)))])) _
      refine XS.isub X0.here hx rfl (hb hby at_17) rfl ?_
      subst hv1
      exact kt
    · rw [if_neg hc17] at hv1
      refine XS.ifNo X0.here hx rfl (hb hby at_3) rfl ((if0 _ _).trans (feq hc17).1) ?_
      show Steps p.tables e below (s₁.setTop (mkF m 6 #[.val (.int p0), .val (.int p1), .val (.int p2), .unset, .unset, .unset, .unset, .unset, .unset, .unset, .unset] [])) _
      refine XS.iloadN X0.here hx rfl (hb hby at_6) rfl ?_
      show Steps p.tables e below (s₁.setTop (mkF m 7 #[.val (.int p0), .val (.int p1), .val (.int p2), .unset, .unset, .unset, .unset, .unset, .unset, .unset, .unset] [(.int p1)])) _
      refine XS.goto X0.here hx rfl (pc0 := 7) (pc' := 18) rfl (hb hby at_7) (by decide) (by decide) ?_
      subst hv1
      exact kt
  obtain ⟨_, _, ⟨T19, L19, k19, n19⟩, -, X19, ⟨Lc19, hQ19, l19, y19, z19⟩, st19⟩ := Jvm.LawKit.callS X0 hx (y := (⟨"com/example/xcu/xcu/ElementReader", "levels", "(I)I"⟩ : MethodName)) hown (mvT hZ (hw _ (List.mem_of_getElem? (i := 1) rfl))) (mvT hZ (hw _ (List.mem_of_getElem? (i := 2) rfl))) (mvT hZ (hw _ (List.mem_of_getElem? (i := 3) rfl))) (mvT hZ (hw _ (List.mem_of_getElem? (i := 4) rfl))) (by decide) (backOf (W := 0) (rm1 l Z aq hw [] v1 h0 n0 Z0 ) hZ (hw _ (List.mem_of_getElem? (i := 4) rfl)) (hw _ (List.mem_of_getElem? (i := 3) rfl)) (by decide) (by decide)) (g := (mkF m 20 #[.val (.int p0), .val (.int p1), .val (.int p2), .val (.int v1), .unset, .unset, .unset, .unset, .unset, .unset, .unset] [(.int v1)])) rfl (by rw [hml]; rfl) (argsL := [(.int v1)]) (rest := []) (lenOf pd87992008 rfl) rfl (by show 2 * 0 + _ ≤ _; exact Nat.le_of_eq rfl) (hb hby at_20) (fun _ _ => ⟨rfl, e0, (by decide : 0 + 0 ≤ _), (by decide : 0 + 0 ≤ _)⟩)
  dsimp only [Pt.U, Pt.locs, Pt.cells, Pt.slots] at X19 l19 y19 z19 st19 hQ19
  subst l19 y19 z19
  obtain ⟨rfl, N19q, e19⟩ := hQ19
  have N20 := Fr.app N0 N19q
  have pre21 : ∀ t, Steps p.tables e below (T19.setTop (mkF m 25 #[.val (.int p0), .val (.int p1), .val (.int p2), .val (.int v1), .val (.int (if v1 = (0 : Int32) then (-65536 : Int32) else (if v1 = (1 : Int32) then (-256 : Int32) else (-1 : Int32)))), .unset, .unset, .unset, .unset, .unset, .unset] [])) t → Steps p.tables e below (s₁.setTop (entryFrame m #[(.int p0), (.int p1), (.int p2)] maxLocals)) t := fun t kt => by
    refine pre18 _ ?_
    show Steps p.tables e below (s₁.setTop (mkF m 18 #[.val (.int p0), .val (.int p1), .val (.int p2), .unset, .unset, .unset, .unset, .unset, .unset, .unset, .unset] [(.int v1)])) _
    refine XS.istoreN X0.here hx rfl (hb hby at_18) rfl (l' := #[.val (.int p0), .val (.int p1), .val (.int p2), .val (.int v1), .unset, .unset, .unset, .unset, .unset, .unset, .unset]) rfl ?_
    show Steps p.tables e below (s₁.setTop (mkF m 19 #[.val (.int p0), .val (.int p1), .val (.int p2), .val (.int v1), .unset, .unset, .unset, .unset, .unset, .unset, .unset] [])) _
    refine XS.iloadN X0.here hx rfl (hb hby at_19) rfl ?_
    show Steps p.tables e below (s₁.setTop (mkF m 20 #[.val (.int p0), .val (.int p1), .val (.int p2), .val (.int v1), .unset, .unset, .unset, .unset, .unset, .unset, .unset] [(.int v1)])) _
    refine st19 _ ?_
    show Steps p.tables e below (T19.setTop (mkF m 23 #[.val (.int p0), .val (.int p1), .val (.int p2), .val (.int v1), .unset, .unset, .unset, .unset, .unset, .unset, .unset] [(.int (if v1 = (0 : Int32) then (-65536 : Int32) else (if v1 = (1 : Int32) then (-256 : Int32) else (-1 : Int32))))])) _
    refine XS.istore X19.here hx rfl (hb hby at_23) rfl (l' := #[.val (.int p0), .val (.int p1), .val (.int p2), .val (.int v1), .val (.int (if v1 = (0 : Int32) then (-65536 : Int32) else (if v1 = (1 : Int32) then (-256 : Int32) else (-1 : Int32)))), .unset, .unset, .unset, .unset, .unset, .unset]) rfl ?_
    show Steps p.tables e below (T19.setTop (mkF m 25 #[.val (.int p0), .val (.int p1), .val (.int p2), .val (.int v1), .val (.int (if v1 = (0 : Int32) then (-65536 : Int32) else (if v1 = (1 : Int32) then (-256 : Int32) else (-1 : Int32)))), .unset, .unset, .unset, .unset, .unset, .unset] [])) _
    exact kt
  obtain ⟨v2, hv2⟩ : ∃ z : Int32, z = (if v1 = (0 : Int32) then (-65536 : Int32) else (if v1 = (1 : Int32) then (-256 : Int32) else (-1 : Int32))) := ⟨_, rfl⟩
  have pre22 : ∀ t, Steps p.tables e below (T19.setTop (mkF m 25 #[.val (.int p0), .val (.int p1), .val (.int p2), .val (.int v1), .val (.int v2), .unset, .unset, .unset, .unset, .unset, .unset] [])) t → Steps p.tables e below (s₁.setTop (entryFrame m #[(.int p0), (.int p1), (.int p2)] maxLocals)) t := fun t kt => pre21 t (by rw [hv2] at kt; exact kt)
  have pre23 : ∀ t, Steps p.tables e below (T19.setTop (mkF m 26 #[.val (.int p0), .val (.int p1), .val (.int p2), .val (.int v1), .val (.int v2), .unset, .unset, .unset, .unset, .unset, .unset] [(.int v1)])) t → Steps p.tables e below (s₁.setTop (entryFrame m #[(.int p0), (.int p1), (.int p2)] maxLocals)) t := fun t kt => by
    refine pre22 _ ?_
    show Steps p.tables e below (T19.setTop (mkF m 25 #[.val (.int p0), .val (.int p1), .val (.int p2), .val (.int v1), .val (.int v2), .unset, .unset, .unset, .unset, .unset, .unset] [])) _
    refine XS.iloadN X19.here hx rfl (hb hby at_25) rfl ?_
    show Steps p.tables e below (T19.setTop (mkF m 26 #[.val (.int p0), .val (.int p1), .val (.int p2), .val (.int v1), .val (.int v2), .unset, .unset, .unset, .unset, .unset, .unset] [(.int v1)])) _
    exact kt
  obtain ⟨v3, hv3⟩ : ∃ z : Int32, z = (if v1 = (0 : Int32) then (0 : Int32) else (1 : Int32)) := ⟨_, rfl⟩
  have pre25 : ∀ t, Steps p.tables e below (T19.setTop (mkF m 34 #[.val (.int p0), .val (.int p1), .val (.int p2), .val (.int v1), .val (.int v2), .unset, .unset, .unset, .unset, .unset, .unset] [(.int v3)])) t → Steps p.tables e below (s₁.setTop (entryFrame m #[(.int p0), (.int p1), (.int p2)] maxLocals)) t := fun t kt => by
    refine pre23 _ ?_
    show Steps p.tables e below (T19.setTop (mkF m 26 #[.val (.int p0), .val (.int p1), .val (.int p2), .val (.int v1), .val (.int v2), .unset, .unset, .unset, .unset, .unset, .unset] [(.int v1)])) _
    by_cases hc24 : v1 = (0 : Int32)
    · rw [if_pos hc24] at hv3
      refine XS.ifYes X19.here hx rfl (pc0 := 26) (pc' := 33) rfl (hb hby at_26) rfl ((if0 _ _).trans (teq hc24).1) (by decide) (by decide) ?_
      show Steps p.tables e below (T19.setTop (mkF m 33 #[.val (.int p0), .val (.int p1), .val (.int p2), .val (.int v1), .val (.int v2), .unset, .unset, .unset, .unset, .unset, .unset] [])) _
      refine XS.iconst X19.here hx rfl (hb hby at_33) ?_
      subst hv3
      exact kt
    · rw [if_neg hc24] at hv3
      refine XS.ifNo X19.here hx rfl (hb hby at_26) rfl ((if0 _ _).trans (feq hc24).1) ?_
      show Steps p.tables e below (T19.setTop (mkF m 29 #[.val (.int p0), .val (.int p1), .val (.int p2), .val (.int v1), .val (.int v2), .unset, .unset, .unset, .unset, .unset, .unset] [])) _
      refine XS.iconst X19.here hx rfl (hb hby at_29) ?_
      show Steps p.tables e below (T19.setTop (mkF m 30 #[.val (.int p0), .val (.int p1), .val (.int p2), .val (.int v1), .val (.int v2), .unset, .unset, .unset, .unset, .unset, .unset] [(.int (1 : Int32))])) _
      refine XS.goto X19.here hx rfl (pc0 := 30) (pc' := 34) rfl (hb hby at_30) (by decide) (by decide) ?_
      subst hv3
      exact kt
  have pre26 : ∀ t, Steps p.tables e below (T19.setTop (mkF m 37 #[.val (.int p0), .val (.int p1), .val (.int p2), .val (.int v1), .val (.int v2), .val (.int v3), .unset, .unset, .unset, .unset, .unset] [(.int v1)])) t → Steps p.tables e below (s₁.setTop (entryFrame m #[(.int p0), (.int p1), (.int p2)] maxLocals)) t := fun t kt => by
    refine pre25 _ ?_
    show Steps p.tables e below (T19.setTop (mkF m 34 #[.val (.int p0), .val (.int p1), .val (.int p2), .val (.int v1), .val (.int v2), .unset, .unset, .unset, .unset, .unset, .unset] [(.int v3)])) _
    refine XS.istore X19.here hx rfl (hb hby at_34) rfl (l' := #[.val (.int p0), .val (.int p1), .val (.int p2), .val (.int v1), .val (.int v2), .val (.int v3), .unset, .unset, .unset, .unset, .unset]) rfl ?_
    show Steps p.tables e below (T19.setTop (mkF m 36 #[.val (.int p0), .val (.int p1), .val (.int p2), .val (.int v1), .val (.int v2), .val (.int v3), .unset, .unset, .unset, .unset, .unset] [])) _
    refine XS.iloadN X19.here hx rfl (hb hby at_36) rfl ?_
    show Steps p.tables e below (T19.setTop (mkF m 37 #[.val (.int p0), .val (.int p1), .val (.int p2), .val (.int v1), .val (.int v2), .val (.int v3), .unset, .unset, .unset, .unset, .unset] [(.int v1)])) _
    exact kt
  obtain ⟨v4, hv4⟩ : ∃ z : Int32, z = (if v1 = (0 : Int32) then (0 : Int32) else (if v1 = (1 : Int32) then (0 : Int32) else (1 : Int32))) := ⟨_, rfl⟩
  have pre29 : ∀ t, Steps p.tables e below (T19.setTop (mkF m 50 #[.val (.int p0), .val (.int p1), .val (.int p2), .val (.int v1), .val (.int v2), .val (.int v3), .unset, .unset, .unset, .unset, .unset] [(.int v4)])) t → Steps p.tables e below (s₁.setTop (entryFrame m #[(.int p0), (.int p1), (.int p2)] maxLocals)) t := fun t kt => by
    refine pre26 _ ?_
    show Steps p.tables e below (T19.setTop (mkF m 37 #[.val (.int p0), .val (.int p1), .val (.int p2), .val (.int v1), .val (.int v2), .val (.int v3), .unset, .unset, .unset, .unset, .unset] [(.int v1)])) _
    by_cases hc27 : v1 = (0 : Int32)
    · rw [if_pos hc27] at hv4
      refine XS.ifYes X19.here hx rfl (pc0 := 37) (pc' := 49) rfl (hb hby at_37) rfl ((if0 _ _).trans (teq hc27).1) (by decide) (by decide) ?_
      show Steps p.tables e below (T19.setTop (mkF m 49 #[.val (.int p0), .val (.int p1), .val (.int p2), .val (.int v1), .val (.int v2), .val (.int v3), .unset, .unset, .unset, .unset, .unset] [])) _
      refine XS.iconst X19.here hx rfl (hb hby at_49) ?_
      subst hv4
      exact kt
    · rw [if_neg hc27] at hv4
      refine XS.ifNo X19.here hx rfl (hb hby at_37) rfl ((if0 _ _).trans (feq hc27).1) ?_
      show Steps p.tables e below (T19.setTop (mkF m 40 #[.val (.int p0), .val (.int p1), .val (.int p2), .val (.int v1), .val (.int v2), .val (.int v3), .unset, .unset, .unset, .unset, .unset] [])) _
      refine XS.iloadN X19.here hx rfl (hb hby at_40) rfl ?_
      show Steps p.tables e below (T19.setTop (mkF m 41 #[.val (.int p0), .val (.int p1), .val (.int p2), .val (.int v1), .val (.int v2), .val (.int v3), .unset, .unset, .unset, .unset, .unset] [(.int v1)])) _
      refine XS.iconst X19.here hx rfl (hb hby at_41) ?_
      show Steps p.tables e below (T19.setTop (mkF m 42 #[.val (.int p0), .val (.int p1), .val (.int p2), .val (.int v1), .val (.int v2), .val (.int v3), .unset, .unset, .unset, .unset, .unset] [(.int (1 : Int32)), (.int v1)])) _
      by_cases hc28 : v1 = (1 : Int32)
      · rw [if_pos hc28] at hv4
        refine XS.icmpYes X19.here hx rfl (pc0 := 42) (pc' := 49) rfl (hb hby at_42) rfl (teq hc28).1 (by decide) (by decide) ?_
        show Steps p.tables e below (T19.setTop (mkF m 49 #[.val (.int p0), .val (.int p1), .val (.int p2), .val (.int v1), .val (.int v2), .val (.int v3), .unset, .unset, .unset, .unset, .unset] [])) _
        refine XS.iconst X19.here hx rfl (hb hby at_49) ?_
        subst hv4
        exact kt
      · rw [if_neg hc28] at hv4
        refine XS.icmpNo X19.here hx rfl (hb hby at_42) rfl (feq hc28).1 ?_
        show Steps p.tables e below (T19.setTop (mkF m 45 #[.val (.int p0), .val (.int p1), .val (.int p2), .val (.int v1), .val (.int v2), .val (.int v3), .unset, .unset, .unset, .unset, .unset] [])) _
        refine XS.iconst X19.here hx rfl (hb hby at_45) ?_
        show Steps p.tables e below (T19.setTop (mkF m 46 #[.val (.int p0), .val (.int p1), .val (.int p2), .val (.int v1), .val (.int v2), .val (.int v3), .unset, .unset, .unset, .unset, .unset] [(.int (1 : Int32))])) _
        refine XS.goto X19.here hx rfl (pc0 := 46) (pc' := 50) rfl (hb hby at_46) (by decide) (by decide) ?_
        subst hv4
        exact kt
  have pre30 : ∀ t, Steps p.tables e below (T19.setTop (mkF m 59 #[.val (.int p0), .val (.int p1), .val (.int p2), .val (.int v1), .val (.int v2), .val (.int v3), .val (.int v4), .unset, .unset, .unset, .unset] [(.int (65535 : Int32)), (.int ((v2.toUInt32 >>> ((16 : Int32) &&& 31).toUInt32).toInt32))])) t → Steps p.tables e below (s₁.setTop (entryFrame m #[(.int p0), (.int p1), (.int p2)] maxLocals)) t := fun t kt => by
    refine pre29 _ ?_
    show Steps p.tables e below (T19.setTop (mkF m 50 #[.val (.int p0), .val (.int p1), .val (.int p2), .val (.int v1), .val (.int v2), .val (.int v3), .unset, .unset, .unset, .unset, .unset] [(.int v4)])) _
    refine XS.istore X19.here hx rfl (hb hby at_50) rfl (l' := #[.val (.int p0), .val (.int p1), .val (.int p2), .val (.int v1), .val (.int v2), .val (.int v3), .val (.int v4), .unset, .unset, .unset, .unset]) rfl ?_
    show Steps p.tables e below (T19.setTop (mkF m 52 #[.val (.int p0), .val (.int p1), .val (.int p2), .val (.int v1), .val (.int v2), .val (.int v3), .val (.int v4), .unset, .unset, .unset, .unset] [])) _
    refine XS.iload X19.here hx rfl (hb hby at_52) rfl ?_
    show Steps p.tables e below (T19.setTop (mkF m 54 #[.val (.int p0), .val (.int p1), .val (.int p2), .val (.int v1), .val (.int v2), .val (.int v3), .val (.int v4), .unset, .unset, .unset, .unset] [(.int v2)])) _
    refine XS.bipush X19.here hx rfl (hb hby at_54) ?_
    show Steps p.tables e below (T19.setTop (mkF m 56 #[.val (.int p0), .val (.int p1), .val (.int p2), .val (.int v1), .val (.int v2), .val (.int v3), .val (.int v4), .unset, .unset, .unset, .unset] [(.int (16 : Int32)), (.int v2)])) _
    refine XS.iushr X19.here hx rfl (hb hby at_56) rfl ?_
    show Steps p.tables e below (T19.setTop (mkF m 57 #[.val (.int p0), .val (.int p1), .val (.int p2), .val (.int v1), .val (.int v2), .val (.int v3), .val (.int v4), .unset, .unset, .unset, .unset] [(.int ((v2.toUInt32 >>> ((16 : Int32) &&& 31).toUInt32).toInt32))])) _
    refine X19.ldcInt hx hown (mvT hZ (hw _ (List.mem_of_getElem? (i := 5) rfl))) (g := (mkF m 57 #[.val (.int p0), .val (.int p1), .val (.int p2), .val (.int v1), .val (.int v2), .val (.int v3), .val (.int v4), .unset, .unset, .unset, .unset] [(.int ((v2.toUInt32 >>> ((16 : Int32) &&& 31).toUInt32).toInt32))])) rfl (hb hby at_57) _ ?_
    show Steps p.tables e below (T19.setTop (mkF m 59 #[.val (.int p0), .val (.int p1), .val (.int p2), .val (.int v1), .val (.int v2), .val (.int v3), .val (.int v4), .unset, .unset, .unset, .unset] [(.int (65535 : Int32)), (.int ((v2.toUInt32 >>> ((16 : Int32) &&& 31).toUInt32).toInt32))])) _
    exact kt
  obtain ⟨v5, hv5⟩ : ∃ z : Int32, z = (if ((v2.toUInt32 >>> ((16 : Int32) &&& 31).toUInt32).toInt32) = (65535 : Int32) then (if v3 = (0 : Int32) then (if (((v2.toUInt32 >>> ((8 : Int32) &&& 31).toUInt32).toInt32) &&& (255 : Int32)) = (0 : Int32) then (if v4 = (0 : Int32) then (if (v2 &&& (255 : Int32)) = (0 : Int32) then (1 : Int32) else (0 : Int32)) else (if (v2 &&& (255 : Int32)) = (255 : Int32) then (1 : Int32) else (0 : Int32))) else (0 : Int32)) else (if (((v2.toUInt32 >>> ((8 : Int32) &&& 31).toUInt32).toInt32) &&& (255 : Int32)) = (255 : Int32) then (if v4 = (0 : Int32) then (if (v2 &&& (255 : Int32)) = (0 : Int32) then (1 : Int32) else (0 : Int32)) else (if (v2 &&& (255 : Int32)) = (255 : Int32) then (1 : Int32) else (0 : Int32))) else (0 : Int32))) else (0 : Int32)) := ⟨_, rfl⟩
  have pre41 : ∀ t, Steps p.tables e below (T19.setTop (mkF m 112 #[.val (.int p0), .val (.int p1), .val (.int p2), .val (.int v1), .val (.int v2), .val (.int v3), .val (.int v4), .unset, .unset, .unset, .unset] [(.int v5)])) t → Steps p.tables e below (s₁.setTop (entryFrame m #[(.int p0), (.int p1), (.int p2)] maxLocals)) t := fun t kt => by
    refine pre30 _ ?_
    show Steps p.tables e below (T19.setTop (mkF m 59 #[.val (.int p0), .val (.int p1), .val (.int p2), .val (.int v1), .val (.int v2), .val (.int v3), .val (.int v4), .unset, .unset, .unset, .unset] [(.int (65535 : Int32)), (.int ((v2.toUInt32 >>> ((16 : Int32) &&& 31).toUInt32).toInt32))])) _
    by_cases hc31 : ((v2.toUInt32 >>> ((16 : Int32) &&& 31).toUInt32).toInt32) = (65535 : Int32)
    · rw [if_pos hc31] at hv5
      refine XS.icmpNo X19.here hx rfl (hb hby at_59) rfl (teq hc31).2 ?_
      show Steps p.tables e below (T19.setTop (mkF m 62 #[.val (.int p0), .val (.int p1), .val (.int p2), .val (.int v1), .val (.int v2), .val (.int v3), .val (.int v4), .unset, .unset, .unset, .unset] [])) _
      refine XS.iload X19.here hx rfl (hb hby at_62) rfl ?_
      show Steps p.tables e below (T19.setTop (mkF m 64 #[.val (.int p0), .val (.int p1), .val (.int p2), .val (.int v1), .val (.int v2), .val (.int v3), .val (.int v4), .unset, .unset, .unset, .unset] [(.int v2)])) _
      refine XS.bipush X19.here hx rfl (hb hby at_64) ?_
      show Steps p.tables e below (T19.setTop (mkF m 66 #[.val (.int p0), .val (.int p1), .val (.int p2), .val (.int v1), .val (.int v2), .val (.int v3), .val (.int v4), .unset, .unset, .unset, .unset] [(.int (8 : Int32)), (.int v2)])) _
      refine XS.iushr X19.here hx rfl (hb hby at_66) rfl ?_
      show Steps p.tables e below (T19.setTop (mkF m 67 #[.val (.int p0), .val (.int p1), .val (.int p2), .val (.int v1), .val (.int v2), .val (.int v3), .val (.int v4), .unset, .unset, .unset, .unset] [(.int ((v2.toUInt32 >>> ((8 : Int32) &&& 31).toUInt32).toInt32))])) _
      refine XS.sipush X19.here hx rfl (hb hby at_67) ?_
      show Steps p.tables e below (T19.setTop (mkF m 70 #[.val (.int p0), .val (.int p1), .val (.int p2), .val (.int v1), .val (.int v2), .val (.int v3), .val (.int v4), .unset, .unset, .unset, .unset] [(.int (255 : Int32)), (.int ((v2.toUInt32 >>> ((8 : Int32) &&& 31).toUInt32).toInt32))])) _
      refine XS.iand X19.here hx rfl (hb hby at_70) rfl ?_
      show Steps p.tables e below (T19.setTop (mkF m 71 #[.val (.int p0), .val (.int p1), .val (.int p2), .val (.int v1), .val (.int v2), .val (.int v3), .val (.int v4), .unset, .unset, .unset, .unset] [(.int (((v2.toUInt32 >>> ((8 : Int32) &&& 31).toUInt32).toInt32) &&& (255 : Int32)))])) _
      refine XS.iload X19.here hx rfl (hb hby at_71) rfl ?_
      show Steps p.tables e below (T19.setTop (mkF m 73 #[.val (.int p0), .val (.int p1), .val (.int p2), .val (.int v1), .val (.int v2), .val (.int v3), .val (.int v4), .unset, .unset, .unset, .unset] [(.int v3), (.int (((v2.toUInt32 >>> ((8 : Int32) &&& 31).toUInt32).toInt32) &&& (255 : Int32)))])) _
      by_cases hc32 : v3 = (0 : Int32)
      · rw [if_pos hc32] at hv5
        refine XS.ifYes X19.here hx rfl (pc0 := 73) (pc' := 82) rfl (hb hby at_73) rfl ((if0 _ _).trans (teq hc32).1) (by decide) (by decide) ?_
        show Steps p.tables e below (T19.setTop (mkF m 82 #[.val (.int p0), .val (.int p1), .val (.int p2), .val (.int v1), .val (.int v2), .val (.int v3), .val (.int v4), .unset, .unset, .unset, .unset] [(.int (((v2.toUInt32 >>> ((8 : Int32) &&& 31).toUInt32).toInt32) &&& (255 : Int32)))])) _
        refine XS.iconst X19.here hx rfl (hb hby at_82) ?_
        show Steps p.tables e below (T19.setTop (mkF m 83 #[.val (.int p0), .val (.int p1), .val (.int p2), .val (.int v1), .val (.int v2), .val (.int v3), .val (.int v4), .unset, .unset, .unset, .unset] [(.int (0 : Int32)), (.int (((v2.toUInt32 >>> ((8 : Int32) &&& 31).toUInt32).toInt32) &&& (255 : Int32)))])) _
        by_cases hc33 : (((v2.toUInt32 >>> ((8 : Int32) &&& 31).toUInt32).toInt32) &&& (255 : Int32)) = (0 : Int32)
        · rw [if_pos hc33] at hv5
          refine XS.icmpNo X19.here hx rfl (hb hby at_83) rfl (teq hc33).2 ?_
          show Steps p.tables e below (T19.setTop (mkF m 86 #[.val (.int p0), .val (.int p1), .val (.int p2), .val (.int v1), .val (.int v2), .val (.int v3), .val (.int v4), .unset, .unset, .unset, .unset] [])) _
          refine XS.iload X19.here hx rfl (hb hby at_86) rfl ?_
          show Steps p.tables e below (T19.setTop (mkF m 88 #[.val (.int p0), .val (.int p1), .val (.int p2), .val (.int v1), .val (.int v2), .val (.int v3), .val (.int v4), .unset, .unset, .unset, .unset] [(.int v2)])) _
          refine XS.sipush X19.here hx rfl (hb hby at_88) ?_
          show Steps p.tables e below (T19.setTop (mkF m 91 #[.val (.int p0), .val (.int p1), .val (.int p2), .val (.int v1), .val (.int v2), .val (.int v3), .val (.int v4), .unset, .unset, .unset, .unset] [(.int (255 : Int32)), (.int v2)])) _
          refine XS.iand X19.here hx rfl (hb hby at_91) rfl ?_
          show Steps p.tables e below (T19.setTop (mkF m 92 #[.val (.int p0), .val (.int p1), .val (.int p2), .val (.int v1), .val (.int v2), .val (.int v3), .val (.int v4), .unset, .unset, .unset, .unset] [(.int (v2 &&& (255 : Int32)))])) _
          refine XS.iload X19.here hx rfl (hb hby at_92) rfl ?_
          show Steps p.tables e below (T19.setTop (mkF m 94 #[.val (.int p0), .val (.int p1), .val (.int p2), .val (.int v1), .val (.int v2), .val (.int v3), .val (.int v4), .unset, .unset, .unset, .unset] [(.int v4), (.int (v2 &&& (255 : Int32)))])) _
          by_cases hc34 : v4 = (0 : Int32)
          · rw [if_pos hc34] at hv5
            refine XS.ifYes X19.here hx rfl (pc0 := 94) (pc' := 103) rfl (hb hby at_94) rfl ((if0 _ _).trans (teq hc34).1) (by decide) (by decide) ?_
            show Steps p.tables e below (T19.setTop (mkF m 103 #[.val (.int p0), .val (.int p1), .val (.int p2), .val (.int v1), .val (.int v2), .val (.int v3), .val (.int v4), .unset, .unset, .unset, .unset] [(.int (v2 &&& (255 : Int32)))])) _
            refine XS.iconst X19.here hx rfl (hb hby at_103) ?_
            show Steps p.tables e below (T19.setTop (mkF m 104 #[.val (.int p0), .val (.int p1), .val (.int p2), .val (.int v1), .val (.int v2), .val (.int v3), .val (.int v4), .unset, .unset, .unset, .unset] [(.int (0 : Int32)), (.int (v2 &&& (255 : Int32)))])) _
            by_cases hc35 : (v2 &&& (255 : Int32)) = (0 : Int32)
            · rw [if_pos hc35] at hv5
              refine XS.icmpNo X19.here hx rfl (hb hby at_104) rfl (teq hc35).2 ?_
              show Steps p.tables e below (T19.setTop (mkF m 107 #[.val (.int p0), .val (.int p1), .val (.int p2), .val (.int v1), .val (.int v2), .val (.int v3), .val (.int v4), .unset, .unset, .unset, .unset] [])) _
              refine XS.iconst X19.here hx rfl (hb hby at_107) ?_
              show Steps p.tables e below (T19.setTop (mkF m 108 #[.val (.int p0), .val (.int p1), .val (.int p2), .val (.int v1), .val (.int v2), .val (.int v3), .val (.int v4), .unset, .unset, .unset, .unset] [(.int (1 : Int32))])) _
              refine XS.goto X19.here hx rfl (pc0 := 108) (pc' := 112) rfl (hb hby at_108) (by decide) (by decide) ?_
              subst hv5
              exact kt
            · rw [if_neg hc35] at hv5
              refine XS.icmpYes X19.here hx rfl (pc0 := 104) (pc' := 111) rfl (hb hby at_104) rfl (feq hc35).2 (by decide) (by decide) ?_
              show Steps p.tables e below (T19.setTop (mkF m 111 #[.val (.int p0), .val (.int p1), .val (.int p2), .val (.int v1), .val (.int v2), .val (.int v3), .val (.int v4), .unset, .unset, .unset, .unset] [])) _
              refine XS.iconst X19.here hx rfl (hb hby at_111) ?_
              subst hv5
              exact kt
          · rw [if_neg hc34] at hv5
            refine XS.ifNo X19.here hx rfl (hb hby at_94) rfl ((if0 _ _).trans (feq hc34).1) ?_
            show Steps p.tables e below (T19.setTop (mkF m 97 #[.val (.int p0), .val (.int p1), .val (.int p2), .val (.int v1), .val (.int v2), .val (.int v3), .val (.int v4), .unset, .unset, .unset, .unset] [(.int (v2 &&& (255 : Int32)))])) _
            refine XS.sipush X19.here hx rfl (hb hby at_97) ?_
            show Steps p.tables e below (T19.setTop (mkF m 100 #[.val (.int p0), .val (.int p1), .val (.int p2), .val (.int v1), .val (.int v2), .val (.int v3), .val (.int v4), .unset, .unset, .unset, .unset] [(.int (255 : Int32)), (.int (v2 &&& (255 : Int32)))])) _
            refine XS.goto X19.here hx rfl (pc0 := 100) (pc' := 104) rfl (hb hby at_100) (by decide) (by decide) ?_
            show Steps p.tables e below (T19.setTop (mkF m 104 #[.val (.int p0), .val (.int p1), .val (.int p2), .val (.int v1), .val (.int v2), .val (.int v3), .val (.int v4), .unset, .unset, .unset, .unset] [(.int (255 : Int32)), (.int (v2 &&& (255 : Int32)))])) _
            by_cases hc36 : (v2 &&& (255 : Int32)) = (255 : Int32)
            · rw [if_pos hc36] at hv5
              refine XS.icmpNo X19.here hx rfl (hb hby at_104) rfl (teq hc36).2 ?_
              show Steps p.tables e below (T19.setTop (mkF m 107 #[.val (.int p0), .val (.int p1), .val (.int p2), .val (.int v1), .val (.int v2), .val (.int v3), .val (.int v4), .unset, .unset, .unset, .unset] [])) _
              refine XS.iconst X19.here hx rfl (hb hby at_107) ?_
              show Steps p.tables e below (T19.setTop (mkF m 108 #[.val (.int p0), .val (.int p1), .val (.int p2), .val (.int v1), .val (.int v2), .val (.int v3), .val (.int v4), .unset, .unset, .unset, .unset] [(.int (1 : Int32))])) _
              refine XS.goto X19.here hx rfl (pc0 := 108) (pc' := 112) rfl (hb hby at_108) (by decide) (by decide) ?_
              subst hv5
              exact kt
            · rw [if_neg hc36] at hv5
              refine XS.icmpYes X19.here hx rfl (pc0 := 104) (pc' := 111) rfl (hb hby at_104) rfl (feq hc36).2 (by decide) (by decide) ?_
              show Steps p.tables e below (T19.setTop (mkF m 111 #[.val (.int p0), .val (.int p1), .val (.int p2), .val (.int v1), .val (.int v2), .val (.int v3), .val (.int v4), .unset, .unset, .unset, .unset] [])) _
              refine XS.iconst X19.here hx rfl (hb hby at_111) ?_
              subst hv5
              exact kt
        · rw [if_neg hc33] at hv5
          refine XS.icmpYes X19.here hx rfl (pc0 := 83) (pc' := 111) rfl (hb hby at_83) rfl (feq hc33).2 (by decide) (by decide) ?_
          show Steps p.tables e below (T19.setTop (mkF m 111 #[.val (.int p0), .val (.int p1), .val (.int p2), .val (.int v1), .val (.int v2), .val (.int v3), .val (.int v4), .unset, .unset, .unset, .unset] [])) _
          refine XS.iconst X19.here hx rfl (hb hby at_111) ?_
          subst hv5
          exact kt
      · rw [if_neg hc32] at hv5
        refine XS.ifNo X19.here hx rfl (hb hby at_73) rfl ((if0 _ _).trans (feq hc32).1) ?_
        show Steps p.tables e below (T19.setTop (mkF m 76 #[.val (.int p0), .val (.int p1), .val (.int p2), .val (.int v1), .val (.int v2), .val (.int v3), .val (.int v4), .unset, .unset, .unset, .unset] [(.int (((v2.toUInt32 >>> ((8 : Int32) &&& 31).toUInt32).toInt32) &&& (255 : Int32)))])) _
        refine XS.sipush X19.here hx rfl (hb hby at_76) ?_
        show Steps p.tables e below (T19.setTop (mkF m 79 #[.val (.int p0), .val (.int p1), .val (.int p2), .val (.int v1), .val (.int v2), .val (.int v3), .val (.int v4), .unset, .unset, .unset, .unset] [(.int (255 : Int32)), (.int (((v2.toUInt32 >>> ((8 : Int32) &&& 31).toUInt32).toInt32) &&& (255 : Int32)))])) _
        refine XS.goto X19.here hx rfl (pc0 := 79) (pc' := 83) rfl (hb hby at_79) (by decide) (by decide) ?_
        show Steps p.tables e below (T19.setTop (mkF m 83 #[.val (.int p0), .val (.int p1), .val (.int p2), .val (.int v1), .val (.int v2), .val (.int v3), .val (.int v4), .unset, .unset, .unset, .unset] [(.int (255 : Int32)), (.int (((v2.toUInt32 >>> ((8 : Int32) &&& 31).toUInt32).toInt32) &&& (255 : Int32)))])) _
        by_cases hc37 : (((v2.toUInt32 >>> ((8 : Int32) &&& 31).toUInt32).toInt32) &&& (255 : Int32)) = (255 : Int32)
        · rw [if_pos hc37] at hv5
          refine XS.icmpNo X19.here hx rfl (hb hby at_83) rfl (teq hc37).2 ?_
          show Steps p.tables e below (T19.setTop (mkF m 86 #[.val (.int p0), .val (.int p1), .val (.int p2), .val (.int v1), .val (.int v2), .val (.int v3), .val (.int v4), .unset, .unset, .unset, .unset] [])) _
          refine XS.iload X19.here hx rfl (hb hby at_86) rfl ?_
          show Steps p.tables e below (T19.setTop (mkF m 88 #[.val (.int p0), .val (.int p1), .val (.int p2), .val (.int v1), .val (.int v2), .val (.int v3), .val (.int v4), .unset, .unset, .unset, .unset] [(.int v2)])) _
          refine XS.sipush X19.here hx rfl (hb hby at_88) ?_
          show Steps p.tables e below (T19.setTop (mkF m 91 #[.val (.int p0), .val (.int p1), .val (.int p2), .val (.int v1), .val (.int v2), .val (.int v3), .val (.int v4), .unset, .unset, .unset, .unset] [(.int (255 : Int32)), (.int v2)])) _
          refine XS.iand X19.here hx rfl (hb hby at_91) rfl ?_
          show Steps p.tables e below (T19.setTop (mkF m 92 #[.val (.int p0), .val (.int p1), .val (.int p2), .val (.int v1), .val (.int v2), .val (.int v3), .val (.int v4), .unset, .unset, .unset, .unset] [(.int (v2 &&& (255 : Int32)))])) _
          refine XS.iload X19.here hx rfl (hb hby at_92) rfl ?_
          show Steps p.tables e below (T19.setTop (mkF m 94 #[.val (.int p0), .val (.int p1), .val (.int p2), .val (.int v1), .val (.int v2), .val (.int v3), .val (.int v4), .unset, .unset, .unset, .unset] [(.int v4), (.int (v2 &&& (255 : Int32)))])) _
          by_cases hc38 : v4 = (0 : Int32)
          · rw [if_pos hc38] at hv5
            refine XS.ifYes X19.here hx rfl (pc0 := 94) (pc' := 103) rfl (hb hby at_94) rfl ((if0 _ _).trans (teq hc38).1) (by decide) (by decide) ?_
            show Steps p.tables e below (T19.setTop (mkF m 103 #[.val (.int p0), .val (.int p1), .val (.int p2), .val (.int v1), .val (.int v2), .val (.int v3), .val (.int v4), .unset, .unset, .unset, .unset] [(.int (v2 &&& (255 : Int32)))])) _
            refine XS.iconst X19.here hx rfl (hb hby at_103) ?_
            show Steps p.tables e below (T19.setTop (mkF m 104 #[.val (.int p0), .val (.int p1), .val (.int p2), .val (.int v1), .val (.int v2), .val (.int v3), .val (.int v4), .unset, .unset, .unset, .unset] [(.int (0 : Int32)), (.int (v2 &&& (255 : Int32)))])) _
            by_cases hc39 : (v2 &&& (255 : Int32)) = (0 : Int32)
            · rw [if_pos hc39] at hv5
              refine XS.icmpNo X19.here hx rfl (hb hby at_104) rfl (teq hc39).2 ?_
              show Steps p.tables e below (T19.setTop (mkF m 107 #[.val (.int p0), .val (.int p1), .val (.int p2), .val (.int v1), .val (.int v2), .val (.int v3), .val (.int v4), .unset, .unset, .unset, .unset] [])) _
              refine XS.iconst X19.here hx rfl (hb hby at_107) ?_
              show Steps p.tables e below (T19.setTop (mkF m 108 #[.val (.int p0), .val (.int p1), .val (.int p2), .val (.int v1), .val (.int v2), .val (.int v3), .val (.int v4), .unset, .unset, .unset, .unset] [(.int (1 : Int32))])) _
              refine XS.goto X19.here hx rfl (pc0 := 108) (pc' := 112) rfl (hb hby at_108) (by decide) (by decide) ?_
              subst hv5
              exact kt
            · rw [if_neg hc39] at hv5
              refine XS.icmpYes X19.here hx rfl (pc0 := 104) (pc' := 111) rfl (hb hby at_104) rfl (feq hc39).2 (by decide) (by decide) ?_
              show Steps p.tables e below (T19.setTop (mkF m 111 #[.val (.int p0), .val (.int p1), .val (.int p2), .val (.int v1), .val (.int v2), .val (.int v3), .val (.int v4), .unset, .unset, .unset, .unset] [])) _
              refine XS.iconst X19.here hx rfl (hb hby at_111) ?_
              subst hv5
              exact kt
          · rw [if_neg hc38] at hv5
            refine XS.ifNo X19.here hx rfl (hb hby at_94) rfl ((if0 _ _).trans (feq hc38).1) ?_
            show Steps p.tables e below (T19.setTop (mkF m 97 #[.val (.int p0), .val (.int p1), .val (.int p2), .val (.int v1), .val (.int v2), .val (.int v3), .val (.int v4), .unset, .unset, .unset, .unset] [(.int (v2 &&& (255 : Int32)))])) _
            refine XS.sipush X19.here hx rfl (hb hby at_97) ?_
            show Steps p.tables e below (T19.setTop (mkF m 100 #[.val (.int p0), .val (.int p1), .val (.int p2), .val (.int v1), .val (.int v2), .val (.int v3), .val (.int v4), .unset, .unset, .unset, .unset] [(.int (255 : Int32)), (.int (v2 &&& (255 : Int32)))])) _
            refine XS.goto X19.here hx rfl (pc0 := 100) (pc' := 104) rfl (hb hby at_100) (by decide) (by decide) ?_
            show Steps p.tables e below (T19.setTop (mkF m 104 #[.val (.int p0), .val (.int p1), .val (.int p2), .val (.int v1), .val (.int v2), .val (.int v3), .val (.int v4), .unset, .unset, .unset, .unset] [(.int (255 : Int32)), (.int (v2 &&& (255 : Int32)))])) _
            by_cases hc40 : (v2 &&& (255 : Int32)) = (255 : Int32)
            · rw [if_pos hc40] at hv5
              refine XS.icmpNo X19.here hx rfl (hb hby at_104) rfl (teq hc40).2 ?_
              show Steps p.tables e below (T19.setTop (mkF m 107 #[.val (.int p0), .val (.int p1), .val (.int p2), .val (.int v1), .val (.int v2), .val (.int v3), .val (.int v4), .unset, .unset, .unset, .unset] [])) _
              refine XS.iconst X19.here hx rfl (hb hby at_107) ?_
              show Steps p.tables e below (T19.setTop (mkF m 108 #[.val (.int p0), .val (.int p1), .val (.int p2), .val (.int v1), .val (.int v2), .val (.int v3), .val (.int v4), .unset, .unset, .unset, .unset] [(.int (1 : Int32))])) _
              refine XS.goto X19.here hx rfl (pc0 := 108) (pc' := 112) rfl (hb hby at_108) (by decide) (by decide) ?_
              subst hv5
              exact kt
            · rw [if_neg hc40] at hv5
              refine XS.icmpYes X19.here hx rfl (pc0 := 104) (pc' := 111) rfl (hb hby at_104) rfl (feq hc40).2 (by decide) (by decide) ?_
              show Steps p.tables e below (T19.setTop (mkF m 111 #[.val (.int p0), .val (.int p1), .val (.int p2), .val (.int v1), .val (.int v2), .val (.int v3), .val (.int v4), .unset, .unset, .unset, .unset] [])) _
              refine XS.iconst X19.here hx rfl (hb hby at_111) ?_
              subst hv5
              exact kt
        · rw [if_neg hc37] at hv5
          refine XS.icmpYes X19.here hx rfl (pc0 := 83) (pc' := 111) rfl (hb hby at_83) rfl (feq hc37).2 (by decide) (by decide) ?_
          show Steps p.tables e below (T19.setTop (mkF m 111 #[.val (.int p0), .val (.int p1), .val (.int p2), .val (.int v1), .val (.int v2), .val (.int v3), .val (.int v4), .unset, .unset, .unset, .unset] [])) _
          refine XS.iconst X19.here hx rfl (hb hby at_111) ?_
          subst hv5
          exact kt
    · rw [if_neg hc31] at hv5
      refine XS.icmpYes X19.here hx rfl (pc0 := 59) (pc' := 111) rfl (hb hby at_59) rfl (feq hc31).2 (by decide) (by decide) ?_
      show Steps p.tables e below (T19.setTop (mkF m 111 #[.val (.int p0), .val (.int p1), .val (.int p2), .val (.int v1), .val (.int v2), .val (.int v3), .val (.int v4), .unset, .unset, .unset, .unset] [])) _
      refine XS.iconst X19.here hx rfl (hb hby at_111) ?_
      subst hv5
      exact kt
  have pre42 : ∀ t, Steps p.tables e below (T19.setTop (mkF m 129 #[.val (.int p0), .val (.int p1), .val (.int p2), .val (.int v1), .val (.int v2), .val (.int v3), .val (.int v4), .val (.int v5), .val (.int (p2 &&& v2)), .unset, .unset] [(.int ((p2.toUInt32 >>> ((16 : Int32) &&& 31).toUInt32).toInt32)), (.int (((p2 &&& v2).toUInt32 >>> ((16 : Int32) &&& 31).toUInt32).toInt32))])) t → Steps p.tables e below (s₁.setTop (entryFrame m #[(.int p0), (.int p1), (.int p2)] maxLocals)) t := fun t kt => by
    refine pre41 _ ?_
    show Steps p.tables e below (T19.setTop (mkF m 112 #[.val (.int p0), .val (.int p1), .val (.int p2), .val (.int v1), .val (.int v2), .val (.int v3), .val (.int v4), .unset, .unset, .unset, .unset] [(.int v5)])) _
    refine XS.istore X19.here hx rfl (hb hby at_112) rfl (l' := #[.val (.int p0), .val (.int p1), .val (.int p2), .val (.int v1), .val (.int v2), .val (.int v3), .val (.int v4), .val (.int v5), .unset, .unset, .unset]) rfl ?_
    show Steps p.tables e below (T19.setTop (mkF m 114 #[.val (.int p0), .val (.int p1), .val (.int p2), .val (.int v1), .val (.int v2), .val (.int v3), .val (.int v4), .val (.int v5), .unset, .unset, .unset] [])) _
    refine XS.iloadN X19.here hx rfl (hb hby at_114) rfl ?_
    show Steps p.tables e below (T19.setTop (mkF m 115 #[.val (.int p0), .val (.int p1), .val (.int p2), .val (.int v1), .val (.int v2), .val (.int v3), .val (.int v4), .val (.int v5), .unset, .unset, .unset] [(.int p2)])) _
    refine XS.iload X19.here hx rfl (hb hby at_115) rfl ?_
    show Steps p.tables e below (T19.setTop (mkF m 117 #[.val (.int p0), .val (.int p1), .val (.int p2), .val (.int v1), .val (.int v2), .val (.int v3), .val (.int v4), .val (.int v5), .unset, .unset, .unset] [(.int v2), (.int p2)])) _
    refine XS.iand X19.here hx rfl (hb hby at_117) rfl ?_
    show Steps p.tables e below (T19.setTop (mkF m 118 #[.val (.int p0), .val (.int p1), .val (.int p2), .val (.int v1), .val (.int v2), .val (.int v3), .val (.int v4), .val (.int v5), .unset, .unset, .unset] [(.int (p2 &&& v2))])) _
    refine XS.istore X19.here hx rfl (hb hby at_118) rfl (l' := #[.val (.int p0), .val (.int p1), .val (.int p2), .val (.int v1), .val (.int v2), .val (.int v3), .val (.int v4), .val (.int v5), .val (.int (p2 &&& v2)), .unset, .unset]) rfl ?_
    show Steps p.tables e below (T19.setTop (mkF m 120 #[.val (.int p0), .val (.int p1), .val (.int p2), .val (.int v1), .val (.int v2), .val (.int v3), .val (.int v4), .val (.int v5), .val (.int (p2 &&& v2)), .unset, .unset] [])) _
    refine XS.iload X19.here hx rfl (hb hby at_120) rfl ?_
    show Steps p.tables e below (T19.setTop (mkF m 122 #[.val (.int p0), .val (.int p1), .val (.int p2), .val (.int v1), .val (.int v2), .val (.int v3), .val (.int v4), .val (.int v5), .val (.int (p2 &&& v2)), .unset, .unset] [(.int (p2 &&& v2))])) _
    refine XS.bipush X19.here hx rfl (hb hby at_122) ?_
    show Steps p.tables e below (T19.setTop (mkF m 124 #[.val (.int p0), .val (.int p1), .val (.int p2), .val (.int v1), .val (.int v2), .val (.int v3), .val (.int v4), .val (.int v5), .val (.int (p2 &&& v2)), .unset, .unset] [(.int (16 : Int32)), (.int (p2 &&& v2))])) _
    refine XS.iushr X19.here hx rfl (hb hby at_124) rfl ?_
    show Steps p.tables e below (T19.setTop (mkF m 125 #[.val (.int p0), .val (.int p1), .val (.int p2), .val (.int v1), .val (.int v2), .val (.int v3), .val (.int v4), .val (.int v5), .val (.int (p2 &&& v2)), .unset, .unset] [(.int (((p2 &&& v2).toUInt32 >>> ((16 : Int32) &&& 31).toUInt32).toInt32))])) _
    refine XS.iloadN X19.here hx rfl (hb hby at_125) rfl ?_
    show Steps p.tables e below (T19.setTop (mkF m 126 #[.val (.int p0), .val (.int p1), .val (.int p2), .val (.int v1), .val (.int v2), .val (.int v3), .val (.int v4), .val (.int v5), .val (.int (p2 &&& v2)), .unset, .unset] [(.int p2), (.int (((p2 &&& v2).toUInt32 >>> ((16 : Int32) &&& 31).toUInt32).toInt32))])) _
    refine XS.bipush X19.here hx rfl (hb hby at_126) ?_
    show Steps p.tables e below (T19.setTop (mkF m 128 #[.val (.int p0), .val (.int p1), .val (.int p2), .val (.int v1), .val (.int v2), .val (.int v3), .val (.int v4), .val (.int v5), .val (.int (p2 &&& v2)), .unset, .unset] [(.int (16 : Int32)), (.int p2), (.int (((p2 &&& v2).toUInt32 >>> ((16 : Int32) &&& 31).toUInt32).toInt32))])) _
    refine XS.iushr X19.here hx rfl (hb hby at_128) rfl ?_
    show Steps p.tables e below (T19.setTop (mkF m 129 #[.val (.int p0), .val (.int p1), .val (.int p2), .val (.int v1), .val (.int v2), .val (.int v3), .val (.int v4), .val (.int v5), .val (.int (p2 &&& v2)), .unset, .unset] [(.int ((p2.toUInt32 >>> ((16 : Int32) &&& 31).toUInt32).toInt32)), (.int (((p2 &&& v2).toUInt32 >>> ((16 : Int32) &&& 31).toUInt32).toInt32))])) _
    exact kt
  obtain ⟨v6, hv6⟩ : ∃ z : Int32, z = (if (((p2 &&& v2).toUInt32 >>> ((16 : Int32) &&& 31).toUInt32).toInt32) = ((p2.toUInt32 >>> ((16 : Int32) &&& 31).toUInt32).toInt32) then (if v3 = (0 : Int32) then (if ((((p2 &&& v2).toUInt32 >>> ((8 : Int32) &&& 31).toUInt32).toInt32) &&& (255 : Int32)) = (0 : Int32) then (if v4 = (0 : Int32) then (if ((p2 &&& v2) &&& (255 : Int32)) = (0 : Int32) then (1 : Int32) else (0 : Int32)) else (if ((p2 &&& v2) &&& (255 : Int32)) = (p2 &&& (255 : Int32)) then (1 : Int32) else (0 : Int32))) else (0 : Int32)) else (if ((((p2 &&& v2).toUInt32 >>> ((8 : Int32) &&& 31).toUInt32).toInt32) &&& (255 : Int32)) = (((p2.toUInt32 >>> ((8 : Int32) &&& 31).toUInt32).toInt32) &&& (255 : Int32)) then (if v4 = (0 : Int32) then (if ((p2 &&& v2) &&& (255 : Int32)) = (0 : Int32) then (1 : Int32) else (0 : Int32)) else (if ((p2 &&& v2) &&& (255 : Int32)) = (p2 &&& (255 : Int32)) then (1 : Int32) else (0 : Int32))) else (0 : Int32))) else (0 : Int32)) := ⟨_, rfl⟩
  have pre53 : ∀ t, Steps p.tables e below (T19.setTop (mkF m 189 #[.val (.int p0), .val (.int p1), .val (.int p2), .val (.int v1), .val (.int v2), .val (.int v3), .val (.int v4), .val (.int v5), .val (.int (p2 &&& v2)), .unset, .unset] [(.int v6)])) t → Steps p.tables e below (s₁.setTop (entryFrame m #[(.int p0), (.int p1), (.int p2)] maxLocals)) t := fun t kt => by
    refine pre42 _ ?_
    show Steps p.tables e below (T19.setTop (mkF m 129 #[.val (.int p0), .val (.int p1), .val (.int p2), .val (.int v1), .val (.int v2), .val (.int v3), .val (.int v4), .val (.int v5), .val (.int (p2 &&& v2)), .unset, .unset] [(.int ((p2.toUInt32 >>> ((16 : Int32) &&& 31).toUInt32).toInt32)), (.int (((p2 &&& v2).toUInt32 >>> ((16 : Int32) &&& 31).toUInt32).toInt32))])) _
    by_cases hc43 : (((p2 &&& v2).toUInt32 >>> ((16 : Int32) &&& 31).toUInt32).toInt32) = ((p2.toUInt32 >>> ((16 : Int32) &&& 31).toUInt32).toInt32)
    · rw [if_pos hc43] at hv6
      refine XS.icmpNo X19.here hx rfl (hb hby at_129) rfl (teq hc43).2 ?_
      show Steps p.tables e below (T19.setTop (mkF m 132 #[.val (.int p0), .val (.int p1), .val (.int p2), .val (.int v1), .val (.int v2), .val (.int v3), .val (.int v4), .val (.int v5), .val (.int (p2 &&& v2)), .unset, .unset] [])) _
      refine XS.iload X19.here hx rfl (hb hby at_132) rfl ?_
      show Steps p.tables e below (T19.setTop (mkF m 134 #[.val (.int p0), .val (.int p1), .val (.int p2), .val (.int v1), .val (.int v2), .val (.int v3), .val (.int v4), .val (.int v5), .val (.int (p2 &&& v2)), .unset, .unset] [(.int (p2 &&& v2))])) _
      refine XS.bipush X19.here hx rfl (hb hby at_134) ?_
      show Steps p.tables e below (T19.setTop (mkF m 136 #[.val (.int p0), .val (.int p1), .val (.int p2), .val (.int v1), .val (.int v2), .val (.int v3), .val (.int v4), .val (.int v5), .val (.int (p2 &&& v2)), .unset, .unset] [(.int (8 : Int32)), (.int (p2 &&& v2))])) _
      refine XS.iushr X19.here hx rfl (hb hby at_136) rfl ?_
      show Steps p.tables e below (T19.setTop (mkF m 137 #[.val (.int p0), .val (.int p1), .val (.int p2), .val (.int v1), .val (.int v2), .val (.int v3), .val (.int v4), .val (.int v5), .val (.int (p2 &&& v2)), .unset, .unset] [(.int (((p2 &&& v2).toUInt32 >>> ((8 : Int32) &&& 31).toUInt32).toInt32))])) _
      refine XS.sipush X19.here hx rfl (hb hby at_137) ?_
      show Steps p.tables e below (T19.setTop (mkF m 140 #[.val (.int p0), .val (.int p1), .val (.int p2), .val (.int v1), .val (.int v2), .val (.int v3), .val (.int v4), .val (.int v5), .val (.int (p2 &&& v2)), .unset, .unset] [(.int (255 : Int32)), (.int (((p2 &&& v2).toUInt32 >>> ((8 : Int32) &&& 31).toUInt32).toInt32))])) _
      refine XS.iand X19.here hx rfl (hb hby at_140) rfl ?_
      show Steps p.tables e below (T19.setTop (mkF m 141 #[.val (.int p0), .val (.int p1), .val (.int p2), .val (.int v1), .val (.int v2), .val (.int v3), .val (.int v4), .val (.int v5), .val (.int (p2 &&& v2)), .unset, .unset] [(.int ((((p2 &&& v2).toUInt32 >>> ((8 : Int32) &&& 31).toUInt32).toInt32) &&& (255 : Int32)))])) _
      refine XS.iload X19.here hx rfl (hb hby at_141) rfl ?_
      show Steps p.tables e below (T19.setTop (mkF m 143 #[.val (.int p0), .val (.int p1), .val (.int p2), .val (.int v1), .val (.int v2), .val (.int v3), .val (.int v4), .val (.int v5), .val (.int (p2 &&& v2)), .unset, .unset] [(.int v3), (.int ((((p2 &&& v2).toUInt32 >>> ((8 : Int32) &&& 31).toUInt32).toInt32) &&& (255 : Int32)))])) _
      by_cases hc44 : v3 = (0 : Int32)
      · rw [if_pos hc44] at hv6
        refine XS.ifYes X19.here hx rfl (pc0 := 143) (pc' := 157) rfl (hb hby at_143) rfl ((if0 _ _).trans (teq hc44).1) (by decide) (by decide) ?_
        show Steps p.tables e below (T19.setTop (mkF m 157 #[.val (.int p0), .val (.int p1), .val (.int p2), .val (.int v1), .val (.int v2), .val (.int v3), .val (.int v4), .val (.int v5), .val (.int (p2 &&& v2)), .unset, .unset] [(.int ((((p2 &&& v2).toUInt32 >>> ((8 : Int32) &&& 31).toUInt32).toInt32) &&& (255 : Int32)))])) _
        refine XS.iconst X19.here hx rfl (hb hby at_157) ?_
        show Steps p.tables e below (T19.setTop (mkF m 158 #[.val (.int p0), .val (.int p1), .val (.int p2), .val (.int v1), .val (.int v2), .val (.int v3), .val (.int v4), .val (.int v5), .val (.int (p2 &&& v2)), .unset, .unset] [(.int (0 : Int32)), (.int ((((p2 &&& v2).toUInt32 >>> ((8 : Int32) &&& 31).toUInt32).toInt32) &&& (255 : Int32)))])) _
        by_cases hc45 : ((((p2 &&& v2).toUInt32 >>> ((8 : Int32) &&& 31).toUInt32).toInt32) &&& (255 : Int32)) = (0 : Int32)
        · rw [if_pos hc45] at hv6
          refine XS.icmpNo X19.here hx rfl (hb hby at_158) rfl (teq hc45).2 ?_
          show Steps p.tables e below (T19.setTop (mkF m 161 #[.val (.int p0), .val (.int p1), .val (.int p2), .val (.int v1), .val (.int v2), .val (.int v3), .val (.int v4), .val (.int v5), .val (.int (p2 &&& v2)), .unset, .unset] [])) _
          refine XS.iload X19.here hx rfl (hb hby at_161) rfl ?_
          show Steps p.tables e below (T19.setTop (mkF m 163 #[.val (.int p0), .val (.int p1), .val (.int p2), .val (.int v1), .val (.int v2), .val (.int v3), .val (.int v4), .val (.int v5), .val (.int (p2 &&& v2)), .unset, .unset] [(.int (p2 &&& v2))])) _
          refine XS.sipush X19.here hx rfl (hb hby at_163) ?_
          show Steps p.tables e below (T19.setTop (mkF m 166 #[.val (.int p0), .val (.int p1), .val (.int p2), .val (.int v1), .val (.int v2), .val (.int v3), .val (.int v4), .val (.int v5), .val (.int (p2 &&& v2)), .unset, .unset] [(.int (255 : Int32)), (.int (p2 &&& v2))])) _
          refine XS.iand X19.here hx rfl (hb hby at_166) rfl ?_
          show Steps p.tables e below (T19.setTop (mkF m 167 #[.val (.int p0), .val (.int p1), .val (.int p2), .val (.int v1), .val (.int v2), .val (.int v3), .val (.int v4), .val (.int v5), .val (.int (p2 &&& v2)), .unset, .unset] [(.int ((p2 &&& v2) &&& (255 : Int32)))])) _
          refine XS.iload X19.here hx rfl (hb hby at_167) rfl ?_
          show Steps p.tables e below (T19.setTop (mkF m 169 #[.val (.int p0), .val (.int p1), .val (.int p2), .val (.int v1), .val (.int v2), .val (.int v3), .val (.int v4), .val (.int v5), .val (.int (p2 &&& v2)), .unset, .unset] [(.int v4), (.int ((p2 &&& v2) &&& (255 : Int32)))])) _
          by_cases hc46 : v4 = (0 : Int32)
          · rw [if_pos hc46] at hv6
            refine XS.ifYes X19.here hx rfl (pc0 := 169) (pc' := 180) rfl (hb hby at_169) rfl ((if0 _ _).trans (teq hc46).1) (by decide) (by decide) ?_
            show Steps p.tables e below (T19.setTop (mkF m 180 #[.val (.int p0), .val (.int p1), .val (.int p2), .val (.int v1), .val (.int v2), .val (.int v3), .val (.int v4), .val (.int v5), .val (.int (p2 &&& v2)), .unset, .unset] [(.int ((p2 &&& v2) &&& (255 : Int32)))])) _
            refine XS.iconst X19.here hx rfl (hb hby at_180) ?_
            show Steps p.tables e below (T19.setTop (mkF m 181 #[.val (.int p0), .val (.int p1), .val (.int p2), .val (.int v1), .val (.int v2), .val (.int v3), .val (.int v4), .val (.int v5), .val (.int (p2 &&& v2)), .unset, .unset] [(.int (0 : Int32)), (.int ((p2 &&& v2) &&& (255 : Int32)))])) _
            by_cases hc47 : ((p2 &&& v2) &&& (255 : Int32)) = (0 : Int32)
            · rw [if_pos hc47] at hv6
              refine XS.icmpNo X19.here hx rfl (hb hby at_181) rfl (teq hc47).2 ?_
              show Steps p.tables e below (T19.setTop (mkF m 184 #[.val (.int p0), .val (.int p1), .val (.int p2), .val (.int v1), .val (.int v2), .val (.int v3), .val (.int v4), .val (.int v5), .val (.int (p2 &&& v2)), .unset, .unset] [])) _
              refine XS.iconst X19.here hx rfl (hb hby at_184) ?_
              show Steps p.tables e below (T19.setTop (mkF m 185 #[.val (.int p0), .val (.int p1), .val (.int p2), .val (.int v1), .val (.int v2), .val (.int v3), .val (.int v4), .val (.int v5), .val (.int (p2 &&& v2)), .unset, .unset] [(.int (1 : Int32))])) _
              refine XS.goto X19.here hx rfl (pc0 := 185) (pc' := 189) rfl (hb hby at_185) (by decide) (by decide) ?_
              subst hv6
              exact kt
            · rw [if_neg hc47] at hv6
              refine XS.icmpYes X19.here hx rfl (pc0 := 181) (pc' := 188) rfl (hb hby at_181) rfl (feq hc47).2 (by decide) (by decide) ?_
              show Steps p.tables e below (T19.setTop (mkF m 188 #[.val (.int p0), .val (.int p1), .val (.int p2), .val (.int v1), .val (.int v2), .val (.int v3), .val (.int v4), .val (.int v5), .val (.int (p2 &&& v2)), .unset, .unset] [])) _
              refine XS.iconst X19.here hx rfl (hb hby at_188) ?_
              subst hv6
              exact kt
          · rw [if_neg hc46] at hv6
            refine XS.ifNo X19.here hx rfl (hb hby at_169) rfl ((if0 _ _).trans (feq hc46).1) ?_
            show Steps p.tables e below (T19.setTop (mkF m 172 #[.val (.int p0), .val (.int p1), .val (.int p2), .val (.int v1), .val (.int v2), .val (.int v3), .val (.int v4), .val (.int v5), .val (.int (p2 &&& v2)), .unset, .unset] [(.int ((p2 &&& v2) &&& (255 : Int32)))])) _
            refine XS.iloadN X19.here hx rfl (hb hby at_172) rfl ?_
            show Steps p.tables e below (T19.setTop (mkF m 173 #[.val (.int p0), .val (.int p1), .val (.int p2), .val (.int v1), .val (.int v2), .val (.int v3), .val (.int v4), .val (.int v5), .val (.int (p2 &&& v2)), .unset, .unset] [(.int p2), (.int ((p2 &&& v2) &&& (255 : Int32)))])) _
            refine XS.sipush X19.here hx rfl (hb hby at_173) ?_
            show Steps p.tables e below (T19.setTop (mkF m 176 #[.val (.int p0), .val (.int p1), .val (.int p2), .val (.int v1), .val (.int v2), .val (.int v3), .val (.int v4), .val (.int v5), .val (.int (p2 &&& v2)), .unset, .unset] [(.int (255 : Int32)), (.int p2), (.int ((p2 &&& v2) &&& (255 : Int32)))])) _
            refine XS.iand X19.here hx rfl (hb hby at_176) rfl ?_
            show Steps p.tables e below (T19.setTop (mkF m 177 #[.val (.int p0), .val (.int p1), .val (.int p2), .val (.int v1), .val (.int v2), .val (.int v3), .val (.int v4), .val (.int v5), .val (.int (p2 &&& v2)), .unset, .unset] [(.int (p2 &&& (255 : Int32))), (.int ((p2 &&& v2) &&& (255 : Int32)))])) _
            refine XS.goto X19.here hx rfl (pc0 := 177) (pc' := 181) rfl (hb hby at_177) (by decide) (by decide) ?_
            show Steps p.tables e below (T19.setTop (mkF m 181 #[.val (.int p0), .val (.int p1), .val (.int p2), .val (.int v1), .val (.int v2), .val (.int v3), .val (.int v4), .val (.int v5), .val (.int (p2 &&& v2)), .unset, .unset] [(.int (p2 &&& (255 : Int32))), (.int ((p2 &&& v2) &&& (255 : Int32)))])) _
            by_cases hc48 : ((p2 &&& v2) &&& (255 : Int32)) = (p2 &&& (255 : Int32))
            · rw [if_pos hc48] at hv6
              refine XS.icmpNo X19.here hx rfl (hb hby at_181) rfl (teq hc48).2 ?_
              show Steps p.tables e below (T19.setTop (mkF m 184 #[.val (.int p0), .val (.int p1), .val (.int p2), .val (.int v1), .val (.int v2), .val (.int v3), .val (.int v4), .val (.int v5), .val (.int (p2 &&& v2)), .unset, .unset] [])) _
              refine XS.iconst X19.here hx rfl (hb hby at_184) ?_
              show Steps p.tables e below (T19.setTop (mkF m 185 #[.val (.int p0), .val (.int p1), .val (.int p2), .val (.int v1), .val (.int v2), .val (.int v3), .val (.int v4), .val (.int v5), .val (.int (p2 &&& v2)), .unset, .unset] [(.int (1 : Int32))])) _
              refine XS.goto X19.here hx rfl (pc0 := 185) (pc' := 189) rfl (hb hby at_185) (by decide) (by decide) ?_
              subst hv6
              exact kt
            · rw [if_neg hc48] at hv6
              refine XS.icmpYes X19.here hx rfl (pc0 := 181) (pc' := 188) rfl (hb hby at_181) rfl (feq hc48).2 (by decide) (by decide) ?_
              show Steps p.tables e below (T19.setTop (mkF m 188 #[.val (.int p0), .val (.int p1), .val (.int p2), .val (.int v1), .val (.int v2), .val (.int v3), .val (.int v4), .val (.int v5), .val (.int (p2 &&& v2)), .unset, .unset] [])) _
              refine XS.iconst X19.here hx rfl (hb hby at_188) ?_
              subst hv6
              exact kt
        · rw [if_neg hc45] at hv6
          refine XS.icmpYes X19.here hx rfl (pc0 := 158) (pc' := 188) rfl (hb hby at_158) rfl (feq hc45).2 (by decide) (by decide) ?_
          show Steps p.tables e below (T19.setTop (mkF m 188 #[.val (.int p0), .val (.int p1), .val (.int p2), .val (.int v1), .val (.int v2), .val (.int v3), .val (.int v4), .val (.int v5), .val (.int (p2 &&& v2)), .unset, .unset] [])) _
          refine XS.iconst X19.here hx rfl (hb hby at_188) ?_
          subst hv6
          exact kt
      · rw [if_neg hc44] at hv6
        refine XS.ifNo X19.here hx rfl (hb hby at_143) rfl ((if0 _ _).trans (feq hc44).1) ?_
        show Steps p.tables e below (T19.setTop (mkF m 146 #[.val (.int p0), .val (.int p1), .val (.int p2), .val (.int v1), .val (.int v2), .val (.int v3), .val (.int v4), .val (.int v5), .val (.int (p2 &&& v2)), .unset, .unset] [(.int ((((p2 &&& v2).toUInt32 >>> ((8 : Int32) &&& 31).toUInt32).toInt32) &&& (255 : Int32)))])) _
        refine XS.iloadN X19.here hx rfl (hb hby at_146) rfl ?_
        show Steps p.tables e below (T19.setTop (mkF m 147 #[.val (.int p0), .val (.int p1), .val (.int p2), .val (.int v1), .val (.int v2), .val (.int v3), .val (.int v4), .val (.int v5), .val (.int (p2 &&& v2)), .unset, .unset] [(.int p2), (.int ((((p2 &&& v2).toUInt32 >>> ((8 : Int32) &&& 31).toUInt32).toInt32) &&& (255 : Int32)))])) _
        refine XS.bipush X19.here hx rfl (hb hby at_147) ?_
        show Steps p.tables e below (T19.setTop (mkF m 149 #[.val (.int p0), .val (.int p1), .val (.int p2), .val (.int v1), .val (.int v2), .val (.int v3), .val (.int v4), .val (.int v5), .val (.int (p2 &&& v2)), .unset, .unset] [(.int (8 : Int32)), (.int p2), (.int ((((p2 &&& v2).toUInt32 >>> ((8 : Int32) &&& 31).toUInt32).toInt32) &&& (255 : Int32)))])) _
        refine XS.iushr X19.here hx rfl (hb hby at_149) rfl ?_
        show Steps p.tables e below (T19.setTop (mkF m 150 #[.val (.int p0), .val (.int p1), .val (.int p2), .val (.int v1), .val (.int v2), .val (.int v3), .val (.int v4), .val (.int v5), .val (.int (p2 &&& v2)), .unset, .unset] [(.int ((p2.toUInt32 >>> ((8 : Int32) &&& 31).toUInt32).toInt32)), (.int ((((p2 &&& v2).toUInt32 >>> ((8 : Int32) &&& 31).toUInt32).toInt32) &&& (255 : Int32)))])) _
        refine XS.sipush X19.here hx rfl (hb hby at_150) ?_
        show Steps p.tables e below (T19.setTop (mkF m 153 #[.val (.int p0), .val (.int p1), .val (.int p2), .val (.int v1), .val (.int v2), .val (.int v3), .val (.int v4), .val (.int v5), .val (.int (p2 &&& v2)), .unset, .unset] [(.int (255 : Int32)), (.int ((p2.toUInt32 >>> ((8 : Int32) &&& 31).toUInt32).toInt32)), (.int ((((p2 &&& v2).toUInt32 >>> ((8 : Int32) &&& 31).toUInt32).toInt32) &&& (255 : Int32)))])) _
        refine XS.iand X19.here hx rfl (hb hby at_153) rfl ?_
        show Steps p.tables e below (T19.setTop (mkF m 154 #[.val (.int p0), .val (.int p1), .val (.int p2), .val (.int v1), .val (.int v2), .val (.int v3), .val (.int v4), .val (.int v5), .val (.int (p2 &&& v2)), .unset, .unset] [(.int (((p2.toUInt32 >>> ((8 : Int32) &&& 31).toUInt32).toInt32) &&& (255 : Int32))), (.int ((((p2 &&& v2).toUInt32 >>> ((8 : Int32) &&& 31).toUInt32).toInt32) &&& (255 : Int32)))])) _
        refine XS.goto X19.here hx rfl (pc0 := 154) (pc' := 158) rfl (hb hby at_154) (by decide) (by decide) ?_
        show Steps p.tables e below (T19.setTop (mkF m 158 #[.val (.int p0), .val (.int p1), .val (.int p2), .val (.int v1), .val (.int v2), .val (.int v3), .val (.int v4), .val (.int v5), .val (.int (p2 &&& v2)), .unset, .unset] [(.int (((p2.toUInt32 >>> ((8 : Int32) &&& 31).toUInt32).toInt32) &&& (255 : Int32))), (.int ((((p2 &&& v2).toUInt32 >>> ((8 : Int32) &&& 31).toUInt32).toInt32) &&& (255 : Int32)))])) _
        by_cases hc49 : ((((p2 &&& v2).toUInt32 >>> ((8 : Int32) &&& 31).toUInt32).toInt32) &&& (255 : Int32)) = (((p2.toUInt32 >>> ((8 : Int32) &&& 31).toUInt32).toInt32) &&& (255 : Int32))
        · rw [if_pos hc49] at hv6
          refine XS.icmpNo X19.here hx rfl (hb hby at_158) rfl (teq hc49).2 ?_
          show Steps p.tables e below (T19.setTop (mkF m 161 #[.val (.int p0), .val (.int p1), .val (.int p2), .val (.int v1), .val (.int v2), .val (.int v3), .val (.int v4), .val (.int v5), .val (.int (p2 &&& v2)), .unset, .unset] [])) _
          refine XS.iload X19.here hx rfl (hb hby at_161) rfl ?_
          show Steps p.tables e below (T19.setTop (mkF m 163 #[.val (.int p0), .val (.int p1), .val (.int p2), .val (.int v1), .val (.int v2), .val (.int v3), .val (.int v4), .val (.int v5), .val (.int (p2 &&& v2)), .unset, .unset] [(.int (p2 &&& v2))])) _
          refine XS.sipush X19.here hx rfl (hb hby at_163) ?_
          show Steps p.tables e below (T19.setTop (mkF m 166 #[.val (.int p0), .val (.int p1), .val (.int p2), .val (.int v1), .val (.int v2), .val (.int v3), .val (.int v4), .val (.int v5), .val (.int (p2 &&& v2)), .unset, .unset] [(.int (255 : Int32)), (.int (p2 &&& v2))])) _
          refine XS.iand X19.here hx rfl (hb hby at_166) rfl ?_
          show Steps p.tables e below (T19.setTop (mkF m 167 #[.val (.int p0), .val (.int p1), .val (.int p2), .val (.int v1), .val (.int v2), .val (.int v3), .val (.int v4), .val (.int v5), .val (.int (p2 &&& v2)), .unset, .unset] [(.int ((p2 &&& v2) &&& (255 : Int32)))])) _
          refine XS.iload X19.here hx rfl (hb hby at_167) rfl ?_
          show Steps p.tables e below (T19.setTop (mkF m 169 #[.val (.int p0), .val (.int p1), .val (.int p2), .val (.int v1), .val (.int v2), .val (.int v3), .val (.int v4), .val (.int v5), .val (.int (p2 &&& v2)), .unset, .unset] [(.int v4), (.int ((p2 &&& v2) &&& (255 : Int32)))])) _
          by_cases hc50 : v4 = (0 : Int32)
          · rw [if_pos hc50] at hv6
            refine XS.ifYes X19.here hx rfl (pc0 := 169) (pc' := 180) rfl (hb hby at_169) rfl ((if0 _ _).trans (teq hc50).1) (by decide) (by decide) ?_
            show Steps p.tables e below (T19.setTop (mkF m 180 #[.val (.int p0), .val (.int p1), .val (.int p2), .val (.int v1), .val (.int v2), .val (.int v3), .val (.int v4), .val (.int v5), .val (.int (p2 &&& v2)), .unset, .unset] [(.int ((p2 &&& v2) &&& (255 : Int32)))])) _
            refine XS.iconst X19.here hx rfl (hb hby at_180) ?_
            show Steps p.tables e below (T19.setTop (mkF m 181 #[.val (.int p0), .val (.int p1), .val (.int p2), .val (.int v1), .val (.int v2), .val (.int v3), .val (.int v4), .val (.int v5), .val (.int (p2 &&& v2)), .unset, .unset] [(.int (0 : Int32)), (.int ((p2 &&& v2) &&& (255 : Int32)))])) _
            by_cases hc51 : ((p2 &&& v2) &&& (255 : Int32)) = (0 : Int32)
            · rw [if_pos hc51] at hv6
              refine XS.icmpNo X19.here hx rfl (hb hby at_181) rfl (teq hc51).2 ?_
              show Steps p.tables e below (T19.setTop (mkF m 184 #[.val (.int p0), .val (.int p1), .val (.int p2), .val (.int v1), .val (.int v2), .val (.int v3), .val (.int v4), .val (.int v5), .val (.int (p2 &&& v2)), .unset, .unset] [])) _
              refine XS.iconst X19.here hx rfl (hb hby at_184) ?_
              show Steps p.tables e below (T19.setTop (mkF m 185 #[.val (.int p0), .val (.int p1), .val (.int p2), .val (.int v1), .val (.int v2), .val (.int v3), .val (.int v4), .val (.int v5), .val (.int (p2 &&& v2)), .unset, .unset] [(.int (1 : Int32))])) _
              refine XS.goto X19.here hx rfl (pc0 := 185) (pc' := 189) rfl (hb hby at_185) (by decide) (by decide) ?_
              subst hv6
              exact kt
            · rw [if_neg hc51] at hv6
              refine XS.icmpYes X19.here hx rfl (pc0 := 181) (pc' := 188) rfl (hb hby at_181) rfl (feq hc51).2 (by decide) (by decide) ?_
              show Steps p.tables e below (T19.setTop (mkF m 188 #[.val (.int p0), .val (.int p1), .val (.int p2), .val (.int v1), .val (.int v2), .val (.int v3), .val (.int v4), .val (.int v5), .val (.int (p2 &&& v2)), .unset, .unset] [])) _
              refine XS.iconst X19.here hx rfl (hb hby at_188) ?_
              subst hv6
              exact kt
          · rw [if_neg hc50] at hv6
            refine XS.ifNo X19.here hx rfl (hb hby at_169) rfl ((if0 _ _).trans (feq hc50).1) ?_
            show Steps p.tables e below (T19.setTop (mkF m 172 #[.val (.int p0), .val (.int p1), .val (.int p2), .val (.int v1), .val (.int v2), .val (.int v3), .val (.int v4), .val (.int v5), .val (.int (p2 &&& v2)), .unset, .unset] [(.int ((p2 &&& v2) &&& (255 : Int32)))])) _
            refine XS.iloadN X19.here hx rfl (hb hby at_172) rfl ?_
            show Steps p.tables e below (T19.setTop (mkF m 173 #[.val (.int p0), .val (.int p1), .val (.int p2), .val (.int v1), .val (.int v2), .val (.int v3), .val (.int v4), .val (.int v5), .val (.int (p2 &&& v2)), .unset, .unset] [(.int p2), (.int ((p2 &&& v2) &&& (255 : Int32)))])) _
            refine XS.sipush X19.here hx rfl (hb hby at_173) ?_
            show Steps p.tables e below (T19.setTop (mkF m 176 #[.val (.int p0), .val (.int p1), .val (.int p2), .val (.int v1), .val (.int v2), .val (.int v3), .val (.int v4), .val (.int v5), .val (.int (p2 &&& v2)), .unset, .unset] [(.int (255 : Int32)), (.int p2), (.int ((p2 &&& v2) &&& (255 : Int32)))])) _
            refine XS.iand X19.here hx rfl (hb hby at_176) rfl ?_
            show Steps p.tables e below (T19.setTop (mkF m 177 #[.val (.int p0), .val (.int p1), .val (.int p2), .val (.int v1), .val (.int v2), .val (.int v3), .val (.int v4), .val (.int v5), .val (.int (p2 &&& v2)), .unset, .unset] [(.int (p2 &&& (255 : Int32))), (.int ((p2 &&& v2) &&& (255 : Int32)))])) _
            refine XS.goto X19.here hx rfl (pc0 := 177) (pc' := 181) rfl (hb hby at_177) (by decide) (by decide) ?_
            show Steps p.tables e below (T19.setTop (mkF m 181 #[.val (.int p0), .val (.int p1), .val (.int p2), .val (.int v1), .val (.int v2), .val (.int v3), .val (.int v4), .val (.int v5), .val (.int (p2 &&& v2)), .unset, .unset] [(.int (p2 &&& (255 : Int32))), (.int ((p2 &&& v2) &&& (255 : Int32)))])) _
            by_cases hc52 : ((p2 &&& v2) &&& (255 : Int32)) = (p2 &&& (255 : Int32))
            · rw [if_pos hc52] at hv6
              refine XS.icmpNo X19.here hx rfl (hb hby at_181) rfl (teq hc52).2 ?_
              show Steps p.tables e below (T19.setTop (mkF m 184 #[.val (.int p0), .val (.int p1), .val (.int p2), .val (.int v1), .val (.int v2), .val (.int v3), .val (.int v4), .val (.int v5), .val (.int (p2 &&& v2)), .unset, .unset] [])) _
              refine XS.iconst X19.here hx rfl (hb hby at_184) ?_
              show Steps p.tables e below (T19.setTop (mkF m 185 #[.val (.int p0), .val (.int p1), .val (.int p2), .val (.int v1), .val (.int v2), .val (.int v3), .val (.int v4), .val (.int v5), .val (.int (p2 &&& v2)), .unset, .unset] [(.int (1 : Int32))])) _
              refine XS.goto X19.here hx rfl (pc0 := 185) (pc' := 189) rfl (hb hby at_185) (by decide) (by decide) ?_
              subst hv6
              exact kt
            · rw [if_neg hc52] at hv6
              refine XS.icmpYes X19.here hx rfl (pc0 := 181) (pc' := 188) rfl (hb hby at_181) rfl (feq hc52).2 (by decide) (by decide) ?_
              show Steps p.tables e below (T19.setTop (mkF m 188 #[.val (.int p0), .val (.int p1), .val (.int p2), .val (.int v1), .val (.int v2), .val (.int v3), .val (.int v4), .val (.int v5), .val (.int (p2 &&& v2)), .unset, .unset] [])) _
              refine XS.iconst X19.here hx rfl (hb hby at_188) ?_
              subst hv6
              exact kt
        · rw [if_neg hc49] at hv6
          refine XS.icmpYes X19.here hx rfl (pc0 := 158) (pc' := 188) rfl (hb hby at_158) rfl (feq hc49).2 (by decide) (by decide) ?_
          show Steps p.tables e below (T19.setTop (mkF m 188 #[.val (.int p0), .val (.int p1), .val (.int p2), .val (.int v1), .val (.int v2), .val (.int v3), .val (.int v4), .val (.int v5), .val (.int (p2 &&& v2)), .unset, .unset] [])) _
          refine XS.iconst X19.here hx rfl (hb hby at_188) ?_
          subst hv6
          exact kt
    · rw [if_neg hc43] at hv6
      refine XS.icmpYes X19.here hx rfl (pc0 := 129) (pc' := 188) rfl (hb hby at_129) rfl (feq hc43).2 (by decide) (by decide) ?_
      show Steps p.tables e below (T19.setTop (mkF m 188 #[.val (.int p0), .val (.int p1), .val (.int p2), .val (.int v1), .val (.int v2), .val (.int v3), .val (.int v4), .val (.int v5), .val (.int (p2 &&& v2)), .unset, .unset] [])) _
      refine XS.iconst X19.here hx rfl (hb hby at_188) ?_
      subst hv6
      exact kt
  obtain ⟨_, _, ⟨T54, L54, k54, n54⟩, -, X54, ⟨Lc54, hQ54, l54, y54, z54⟩, st54⟩ := Jvm.LawKit.callS X19 hx (y := (⟨"com/example/xcu/xcu/ElementReader", "zerosMayCount", "(I)Z"⟩ : MethodName)) hown (mvT hZ (hw _ (List.mem_of_getElem? (i := 6) rfl))) (mvT hZ (hw _ (List.mem_of_getElem? (i := 7) rfl))) (mvT hZ (hw _ (List.mem_of_getElem? (i := 3) rfl))) (mvT hZ (hw _ (List.mem_of_getElem? (i := 8) rfl))) (by decide) (backOf (W := 0) (rm2 l Z aq hw [] v2 h0 n0 Z0 ) hZ (hw _ (List.mem_of_getElem? (i := 8) rfl)) (hw _ (List.mem_of_getElem? (i := 3) rfl)) (by decide) (by decide)) (g := (mkF m 193 #[.val (.int p0), .val (.int p1), .val (.int p2), .val (.int v1), .val (.int v2), .val (.int v3), .val (.int v4), .val (.int v5), .val (.int (p2 &&& v2)), .val (.int v6), .unset] [(.int v2)])) rfl (by rw [hml]; rfl) (argsL := [(.int v2)]) (rest := []) (lenOf pd87992025 rfl) rfl (by show 2 * 0 + _ ≤ _; exact Nat.le_of_eq rfl) (hb hby at_193) (fun _ _ => ⟨rfl, e19, (by decide : 0 + 0 ≤ _), (by decide : 0 + 0 ≤ _)⟩)
  dsimp only [Pt.U, Pt.locs, Pt.cells, Pt.slots] at X54 l54 y54 z54 st54 hQ54
  subst l54 y54 z54
  obtain ⟨rfl, N54q, e54⟩ := hQ54
  have N55 := Fr.app N20 N54q
  have pre56 : ∀ t, Steps p.tables e below (T54.setTop (mkF m 198 #[.val (.int p0), .val (.int p1), .val (.int p2), .val (.int v1), .val (.int v2), .val (.int v3), .val (.int v4), .val (.int v5), .val (.int (p2 &&& v2)), .val (.int v6), .unset] [(.int v3), (.int (if (v2 &&& (65535 : Int32)) = (0 : Int32) then (0 : Int32) else (1 : Int32)))])) t → Steps p.tables e below (s₁.setTop (entryFrame m #[(.int p0), (.int p1), (.int p2)] maxLocals)) t := fun t kt => by
    refine pre53 _ ?_
    show Steps p.tables e below (T19.setTop (mkF m 189 #[.val (.int p0), .val (.int p1), .val (.int p2), .val (.int v1), .val (.int v2), .val (.int v3), .val (.int v4), .val (.int v5), .val (.int (p2 &&& v2)), .unset, .unset] [(.int v6)])) _
    refine XS.istore X19.here hx rfl (hb hby at_189) rfl (l' := #[.val (.int p0), .val (.int p1), .val (.int p2), .val (.int v1), .val (.int v2), .val (.int v3), .val (.int v4), .val (.int v5), .val (.int (p2 &&& v2)), .val (.int v6), .unset]) rfl ?_
    show Steps p.tables e below (T19.setTop (mkF m 191 #[.val (.int p0), .val (.int p1), .val (.int p2), .val (.int v1), .val (.int v2), .val (.int v3), .val (.int v4), .val (.int v5), .val (.int (p2 &&& v2)), .val (.int v6), .unset] [])) _
    refine XS.iload X19.here hx rfl (hb hby at_191) rfl ?_
    show Steps p.tables e below (T19.setTop (mkF m 193 #[.val (.int p0), .val (.int p1), .val (.int p2), .val (.int v1), .val (.int v2), .val (.int v3), .val (.int v4), .val (.int v5), .val (.int (p2 &&& v2)), .val (.int v6), .unset] [(.int v2)])) _
    refine st54 _ ?_
    show Steps p.tables e below (T54.setTop (mkF m 196 #[.val (.int p0), .val (.int p1), .val (.int p2), .val (.int v1), .val (.int v2), .val (.int v3), .val (.int v4), .val (.int v5), .val (.int (p2 &&& v2)), .val (.int v6), .unset] [(.int (if (v2 &&& (65535 : Int32)) = (0 : Int32) then (0 : Int32) else (1 : Int32)))])) _
    refine XS.iload X54.here hx rfl (hb hby at_196) rfl ?_
    show Steps p.tables e below (T54.setTop (mkF m 198 #[.val (.int p0), .val (.int p1), .val (.int p2), .val (.int v1), .val (.int v2), .val (.int v3), .val (.int v4), .val (.int v5), .val (.int (p2 &&& v2)), .val (.int v6), .unset] [(.int v3), (.int (if (v2 &&& (65535 : Int32)) = (0 : Int32) then (0 : Int32) else (1 : Int32)))])) _
    exact kt
  obtain ⟨v7, hv7⟩ : ∃ z : Int32, z = (if (if (v2 &&& (65535 : Int32)) = (0 : Int32) then (0 : Int32) else (1 : Int32)) = v3 then (1 : Int32) else (0 : Int32)) := ⟨_, rfl⟩
  have pre58 : ∀ t, Steps p.tables e below (T54.setTop (mkF m 206 #[.val (.int p0), .val (.int p1), .val (.int p2), .val (.int v1), .val (.int v2), .val (.int v3), .val (.int v4), .val (.int v5), .val (.int (p2 &&& v2)), .val (.int v6), .unset] [(.int v7)])) t → Steps p.tables e below (s₁.setTop (entryFrame m #[(.int p0), (.int p1), (.int p2)] maxLocals)) t := fun t kt => by
    refine pre56 _ ?_
    show Steps p.tables e below (T54.setTop (mkF m 198 #[.val (.int p0), .val (.int p1), .val (.int p2), .val (.int v1), .val (.int v2), .val (.int v3), .val (.int v4), .val (.int v5), .val (.int (p2 &&& v2)), .val (.int v6), .unset] [(.int v3), (.int (if (v2 &&& (65535 : Int32)) = (0 : Int32) then (0 : Int32) else (1 : Int32)))])) _
    by_cases hc57 : (if (v2 &&& (65535 : Int32)) = (0 : Int32) then (0 : Int32) else (1 : Int32)) = v3
    · rw [if_pos hc57] at hv7
      refine XS.icmpNo X54.here hx rfl (hb hby at_198) rfl (teq hc57).2 ?_
      show Steps p.tables e below (T54.setTop (mkF m 201 #[.val (.int p0), .val (.int p1), .val (.int p2), .val (.int v1), .val (.int v2), .val (.int v3), .val (.int v4), .val (.int v5), .val (.int (p2 &&& v2)), .val (.int v6), .unset] [])) _
      refine XS.iconst X54.here hx rfl (hb hby at_201) ?_
      show Steps p.tables e below (T54.setTop (mkF m 202 #[.val (.int p0), .val (.int p1), .val (.int p2), .val (.int v1), .val (.int v2), .val (.int v3), .val (.int v4), .val (.int v5), .val (.int (p2 &&& v2)), .val (.int v6), .unset] [(.int (1 : Int32))])) _
      refine XS.goto X54.here hx rfl (pc0 := 202) (pc' := 206) rfl (hb hby at_202) (by decide) (by decide) ?_
      subst hv7
      exact kt
    · rw [if_neg hc57] at hv7
      refine XS.icmpYes X54.here hx rfl (pc0 := 198) (pc' := 205) rfl (hb hby at_198) rfl (feq hc57).2 (by decide) (by decide) ?_
      show Steps p.tables e below (T54.setTop (mkF m 205 #[.val (.int p0), .val (.int p1), .val (.int p2), .val (.int v1), .val (.int v2), .val (.int v3), .val (.int v4), .val (.int v5), .val (.int (p2 &&& v2)), .val (.int v6), .unset] [])) _
      refine XS.iconst X54.here hx rfl (hb hby at_205) ?_
      subst hv7
      exact kt
  have pre59 : ∀ t, Steps p.tables e below (T54.setTop (mkF m 210 #[.val (.int p0), .val (.int p1), .val (.int p2), .val (.int v1), .val (.int v2), .val (.int v3), .val (.int v4), .val (.int v5), .val (.int (p2 &&& v2)), .val (.int v6), .val (.int v7)] [(.int v5)])) t → Steps p.tables e below (s₁.setTop (entryFrame m #[(.int p0), (.int p1), (.int p2)] maxLocals)) t := fun t kt => by
    refine pre58 _ ?_
    show Steps p.tables e below (T54.setTop (mkF m 206 #[.val (.int p0), .val (.int p1), .val (.int p2), .val (.int v1), .val (.int v2), .val (.int v3), .val (.int v4), .val (.int v5), .val (.int (p2 &&& v2)), .val (.int v6), .unset] [(.int v7)])) _
    refine XS.istore X54.here hx rfl (hb hby at_206) rfl (l' := #[.val (.int p0), .val (.int p1), .val (.int p2), .val (.int v1), .val (.int v2), .val (.int v3), .val (.int v4), .val (.int v5), .val (.int (p2 &&& v2)), .val (.int v6), .val (.int v7)]) rfl ?_
    show Steps p.tables e below (T54.setTop (mkF m 208 #[.val (.int p0), .val (.int p1), .val (.int p2), .val (.int v1), .val (.int v2), .val (.int v3), .val (.int v4), .val (.int v5), .val (.int (p2 &&& v2)), .val (.int v6), .val (.int v7)] [])) _
    refine XS.iload X54.here hx rfl (hb hby at_208) rfl ?_
    show Steps p.tables e below (T54.setTop (mkF m 210 #[.val (.int p0), .val (.int p1), .val (.int p2), .val (.int v1), .val (.int v2), .val (.int v3), .val (.int v4), .val (.int v5), .val (.int (p2 &&& v2)), .val (.int v6), .val (.int v7)] [(.int v5)])) _
    exact kt
  obtain ⟨v8, hv8⟩ : ∃ z : Int32, z = (if v5 = (0 : Int32) then (0 : Int32) else (if v6 = (0 : Int32) then (0 : Int32) else (if v7 = (0 : Int32) then (0 : Int32) else (1 : Int32)))) := ⟨_, rfl⟩
  have pre63 : ∀ t, Steps p.tables e below (T54.setTop (mkF m 228 #[.val (.int p0), .val (.int p1), .val (.int p2), .val (.int v1), .val (.int v2), .val (.int v3), .val (.int v4), .val (.int v5), .val (.int (p2 &&& v2)), .val (.int v6), .val (.int v7)] [(.int v8)])) t → Steps p.tables e below (s₁.setTop (entryFrame m #[(.int p0), (.int p1), (.int p2)] maxLocals)) t := fun t kt => by
    refine pre59 _ ?_
    show Steps p.tables e below (T54.setTop (mkF m 210 #[.val (.int p0), .val (.int p1), .val (.int p2), .val (.int v1), .val (.int v2), .val (.int v3), .val (.int v4), .val (.int v5), .val (.int (p2 &&& v2)), .val (.int v6), .val (.int v7)] [(.int v5)])) _
    by_cases hc60 : v5 = (0 : Int32)
    · rw [if_pos hc60] at hv8
      refine XS.ifYes X54.here hx rfl (pc0 := 210) (pc' := 227) rfl (hb hby at_210) rfl ((if0 _ _).trans (teq hc60).1) (by decide) (by decide) ?_
      show Steps p.tables e below (T54.setTop (mkF m 227 #[.val (.int p0), .val (.int p1), .val (.int p2), .val (.int v1), .val (.int v2), .val (.int v3), .val (.int v4), .val (.int v5), .val (.int (p2 &&& v2)), .val (.int v6), .val (.int v7)] [])) _
      refine XS.iconst X54.here hx rfl (hb hby at_227) ?_
      subst hv8
      exact kt
    · rw [if_neg hc60] at hv8
      refine XS.ifNo X54.here hx rfl (hb hby at_210) rfl ((if0 _ _).trans (feq hc60).1) ?_
      show Steps p.tables e below (T54.setTop (mkF m 213 #[.val (.int p0), .val (.int p1), .val (.int p2), .val (.int v1), .val (.int v2), .val (.int v3), .val (.int v4), .val (.int v5), .val (.int (p2 &&& v2)), .val (.int v6), .val (.int v7)] [])) _
      refine XS.iload X54.here hx rfl (hb hby at_213) rfl ?_
      show Steps p.tables e below (T54.setTop (mkF m 215 #[.val (.int p0), .val (.int p1), .val (.int p2), .val (.int v1), .val (.int v2), .val (.int v3), .val (.int v4), .val (.int v5), .val (.int (p2 &&& v2)), .val (.int v6), .val (.int v7)] [(.int v6)])) _
      by_cases hc61 : v6 = (0 : Int32)
      · rw [if_pos hc61] at hv8
        refine XS.ifYes X54.here hx rfl (pc0 := 215) (pc' := 227) rfl (hb hby at_215) rfl ((if0 _ _).trans (teq hc61).1) (by decide) (by decide) ?_
        show Steps p.tables e below (T54.setTop (mkF m 227 #[.val (.int p0), .val (.int p1), .val (.int p2), .val (.int v1), .val (.int v2), .val (.int v3), .val (.int v4), .val (.int v5), .val (.int (p2 &&& v2)), .val (.int v6), .val (.int v7)] [])) _
        refine XS.iconst X54.here hx rfl (hb hby at_227) ?_
        subst hv8
        exact kt
      · rw [if_neg hc61] at hv8
        refine XS.ifNo X54.here hx rfl (hb hby at_215) rfl ((if0 _ _).trans (feq hc61).1) ?_
        show Steps p.tables e below (T54.setTop (mkF m 218 #[.val (.int p0), .val (.int p1), .val (.int p2), .val (.int v1), .val (.int v2), .val (.int v3), .val (.int v4), .val (.int v5), .val (.int (p2 &&& v2)), .val (.int v6), .val (.int v7)] [])) _
        refine XS.iload X54.here hx rfl (hb hby at_218) rfl ?_
        show Steps p.tables e below (T54.setTop (mkF m 220 #[.val (.int p0), .val (.int p1), .val (.int p2), .val (.int v1), .val (.int v2), .val (.int v3), .val (.int v4), .val (.int v5), .val (.int (p2 &&& v2)), .val (.int v6), .val (.int v7)] [(.int v7)])) _
        by_cases hc62 : v7 = (0 : Int32)
        · rw [if_pos hc62] at hv8
          refine XS.ifYes X54.here hx rfl (pc0 := 220) (pc' := 227) rfl (hb hby at_220) rfl ((if0 _ _).trans (teq hc62).1) (by decide) (by decide) ?_
          show Steps p.tables e below (T54.setTop (mkF m 227 #[.val (.int p0), .val (.int p1), .val (.int p2), .val (.int v1), .val (.int v2), .val (.int v3), .val (.int v4), .val (.int v5), .val (.int (p2 &&& v2)), .val (.int v6), .val (.int v7)] [])) _
          refine XS.iconst X54.here hx rfl (hb hby at_227) ?_
          subst hv8
          exact kt
        · rw [if_neg hc62] at hv8
          refine XS.ifNo X54.here hx rfl (hb hby at_220) rfl ((if0 _ _).trans (feq hc62).1) ?_
          show Steps p.tables e below (T54.setTop (mkF m 223 #[.val (.int p0), .val (.int p1), .val (.int p2), .val (.int v1), .val (.int v2), .val (.int v3), .val (.int v4), .val (.int v5), .val (.int (p2 &&& v2)), .val (.int v6), .val (.int v7)] [])) _
          refine XS.iconst X54.here hx rfl (hb hby at_223) ?_
          show Steps p.tables e below (T54.setTop (mkF m 224 #[.val (.int p0), .val (.int p1), .val (.int p2), .val (.int v1), .val (.int v2), .val (.int v3), .val (.int v4), .val (.int v5), .val (.int (p2 &&& v2)), .val (.int v6), .val (.int v7)] [(.int (1 : Int32))])) _
          refine XS.goto X54.here hx rfl (pc0 := 224) (pc' := 228) rfl (hb hby at_224) (by decide) (by decide) ?_
          subst hv8
          exact kt
  have hfin : v8 = 1 := (own_plain0 p0 p1 p2 v1 hv1 v2 hv2 v3 hv3 v4 hv4 v5 hv5 v6 hv6 v7 hv7 v8 hv8)
  obtain ⟨fs, hr, hrun, hended, hW, hsame⟩ := X54.leave (v := some (.int (v8 &&& 1))) (fun h => by rw [Bd.returns] at h; cases h)
  refine ⟨_, _, pre63 _ ?_, hrun, hended, _, _, rfl, ?_, ⟨_, rfl⟩, hW, hsame.mono (by decide) (by decide)⟩
  · exact retN X54 hx (t := .boolean) Bd.returns (by simp) (hb hby at_228) hr
  · exact ⟨by rw [hfin]; rfl, N55⟩
set_option maxRecDepth 65536 in
set_option maxHeartbeats 40000000 in
theorem comes_1 {Post : Tables → Env → Array Value → State → Outcome → State → Prop} (hpost : ∀ tb e args s v u, (limb_1_1.after args s (.returned v) u = true ∧ limb_1_2.after args s (.returned v) u = true ∧ True) → FrameEnd s (.returned v) u (Jvm.fieldLocs frame_1_writes args s ++ Jvm.arrayLocs frame_1_arrays args s ++ Jvm.staticLocs frame_1_statics s) 0 0 → Post tb e args s (.returned v) u) :
    ArmFor flags0 classFile x code maxLocals ret World_1 tables_1 room_1 Calls_1 rest_1 Pre_1 Post := by
  intro l hfl _ _ p e ha hc hk s m args below hf hA hF happ hP
  obtain ⟨hcalls, hrest, hpre⟩ := hP
  obtain ⟨-, -, -, hnamed, -, -, -, hat⟩ := (Spec.applies_iff hf).mp happ
  obtain ⟨hg, hn⟩ := and_e (Cond.before_iff.mp (show (Jvm.Cond.and given_1 narrow_1).before args s = true from hpre))
  obtain ⟨hcount, hg0⟩ := and_e hg
  obtain ⟨ha0, hg1⟩ := and_e hg0
  obtain ⟨ha1, hg2⟩ := and_e hg1
  have ha2 := hg2
  obtain ⟨w0, w1, w2, rfl⟩ : ∃ w0 w1 w2 : Value, args = #[w0, w1, w2] := by
    have hs : args.size = 3 := by simpa [Cond.value, given_1] using hcount
    obtain ⟨L⟩ := args
    match L, hs with
    | [w0, w1, w2], _ => exact ⟨w0, w1, w2, rfl⟩
  have hw := fun d (hd : d ∈ tables_1) => atoms_spec (ws := Jvm.Cond.code x code maxLocals ret :: tables_1) hat d (List.mem_cons_of_mem _ hd)
  obtain ⟨i0, ei0⟩ := is_v ha0
  obtain rfl : w0 = (.int i0) := Option.some.inj ei0
  obtain ⟨i1, ei1⟩ := is_v ha1
  obtain rfl : w1 = (.int i1) := Option.some.inj ei1
  obtain ⟨i2, ei2⟩ := is_v ha2
  obtain rfl : w2 = (.int i2) := Option.some.inj ei2
  obtain ⟨n, o, h1, h2, h3, _, L, rfl, ⟨rfl, N⟩, hq⟩ := rm0 l s _ hw tables_1 i0 i1 i2 s.heap s.heap.size (Nat.le_refl _) p e ha hc hk s m _ below hf ((Spec.applies_iff_loose hf).mp happ).1 ⟨rfl, State.Warmed39.refl s, rfl⟩ trivial
  refine ⟨n, _, h1, h2, h3, hpost _ _ _ _ _ _ ⟨Cond.after_iff.mpr rfl, Cond.after_iff.mpr (eq_i res_at (Term.int_eval (1)) rfl), trivial⟩ ⟨hq.1, hq.2.1, (hq.2.2.sift fun y hy => Or.inr (N y hy)).mono (by decide) (by decide)⟩⟩
theorem main_1_1 : Claimed_1_1 := comes_1 fun _ _ _ _ _ _ h hF => ⟨h.1, hF⟩
theorem main_1_2 : Claimed_1_2 := comes_1 fun _ _ _ _ _ _ h hF => ⟨h.2.1, hF⟩
end Jvm.Pilot.@@N@@
namespace Jvm.Pilot.@@N@@
open Jvm Jvm.ClassFile Sem Op Lib Jvm.Free Jvm.Stand Jvm.Pilot.@@N@@.Jvm.D
/-! MADE BY PROGRAM (witnessworld.py) out of the Statement's table words and the real class files: 9 classes; the members and pool entries that the words name. The judged class is class 1, her method 1. -/
namespace start1
open Jvm.ClassFile
def u (s : String) : CpInfo := .utf8 (stringToUtf16 s)
/-- a pool by its gaps: so many unusable entries, then the entry; so many at the end -/
def gap : Nat → List CpInfo → List CpInfo
  | 0, r => r
  | n + 1, r => .unusable :: gap n r
def poolList (es : List (Nat × CpInfo)) (last : Nat) : List CpInfo := es.foldr (fun e r => gap e.1 (e.2 :: r)) (gap last [])
def pool (es : List (Nat × CpInfo)) (last : Nat) : Array CpInfo := ⟨poolList es last⟩
def fileOf (pool : Array CpInfo) (this : Nat) (attrs : Array Attribute := #[]) (ms : Array MethodInfo := #[]) (fl : Nat := 33) (sup : Nat := 0) (ifs : Array Nat := #[]) (fds : Array FieldInfo := #[]) : ClassFile where
  minorVersion := 0
  majorVersion := 65
  constantPool := pool
  accessFlags := fl
  thisClass := this
  superClass := sup
  interfaces := ifs
  fields := fds
  methods := ms
  attributes := attrs
def plain (name : String) (sup : Option ClassId) : Class where
  name := name
  kind := .ordinary
  loader := none
  accessFlags := 33
  super := sup
  interfaces := #[]
  cf := none
  fields := #[]
  methods := #[]
  instanceTypes := #[]
  staticTypes := #[]
  resolved := #[]
  callSites := []
  init := .initialized
  statics := none
  mirror := none

def pool0 : Array CpInfo := pool [(5, u "<init>"), (0, u "()V"), (1, .class_ 10), (1, u "java/lang/Object")] 113

def k0m0 : Method := { name := "<init>", desc := "()V", sig := { parameters := [], returnType := none }, accessFlags := 1, code := none }
/-- java/lang/Object -/
def k0 : Class := { plain "java/lang/Object" none with
  accessFlags := 33
  interfaces := #[]
  cf := some (fileOf pool0 8 #[] #[{ accessFlags := 1, nameIndex := 5, descriptorIndex := 6, attributes := #[] }] 33 0 #[] #[])
  fields := #[]
  methods := #[k0m0]
  instanceTypes := #[]
  staticTypes := #[]
  resolved := Array.replicate 124 none
  statics := none }

def pool1 : Array CpInfo := pool [(2, .class_ 4), (1, u "java/lang/Object"), (0, u "<init>"), (0, u "()V"), (0, .integer 2147483647), (0, .methodref 9 10), (0, .class_ 11), (0, .nameAndType 12 13), (0, u "com/example/xcu/xcu/ElementReader"), (0, u "levels"), (0, u "(I)I"), (0, .integer 65535), (0, .methodref 9 16), (0, .nameAndType 17 18), (0, u "zerosMayCount"), (0, u "(I)Z"), (0, .class_ 20), (0, u "com/example/xcu/xcu/ElementReaderLevelsPinLaw"), (2, u "law"), (0, u "(III)Z")] 3

def k1m0 : Method := { name := "<init>", desc := "()V", sig := { parameters := [], returnType := none }, accessFlags := 1, code := none }
def k1c1 : Code := { maxStack := 3, maxLocals := 11, code := code, exceptionTable := #[], attributes := #[] }
def k1m1 : Method := { name := "law", desc := "(III)Z", sig := { parameters := [.int, .int, .int], returnType := some .boolean }, accessFlags := 9, code := some k1c1 }
/-- com/example/xcu/xcu/ElementReaderLevelsPinLaw -/
def k1 : Class := { plain "com/example/xcu/xcu/ElementReaderLevelsPinLaw" (some 0) with
  accessFlags := 49
  interfaces := #[]
  cf := some (fileOf pool1 19 #[] #[{ accessFlags := 1, nameIndex := 5, descriptorIndex := 6, attributes := #[] }, { accessFlags := 9, nameIndex := 23, descriptorIndex := 24, attributes := #[] }] 49 2 #[] #[])
  fields := #[]
  methods := #[k1m0, k1m1]
  instanceTypes := #[]
  staticTypes := #[]
  resolved := Array.replicate 28 none
  statics := none }

def pool2 : Array CpInfo := pool [(2, .class_ 4), (1, u "java/lang/Object"), (3, .class_ 10), (1, u "com/example/xcu/xcu/ElementReader"), (0, u "NOTHING"), (0, u "[I"), (2, u "tabled"), (2, u "ahead"), (2, u "aheadOffsets"), (2, u "table"), (0, u "Lcom/example/xcu/xcu/SegmentTable;"), (2, u "text"), (0, u "Ljava/lang/String;"), (2, u "begin"), (0, u "I"), (2, u "end"), (2, u "levels"), (2, u "position"), (2, u "offset"), (18, u "growing"), (0, u "Lcom/example/xcu/xcu/DecomposedText$LazyForm;"), (2, u "aheadStart"), (2, u "aheadEnd"), (8, u "zerosWeigh"), (0, u "Z"), (2, u "counts"), (15, u "(I)I"), (2, u "given"), (22, .integer 4294901760), (0, .integer 65535), (0, u "END"), (9, u "zerosMayCount"), (0, u "(I)Z")] 8

def k2c0 : Code := { maxStack := 1, maxLocals := 1, code := prog_18_method_13_code, exceptionTable := #[], attributes := #[] }
def k2m0 : Method := { name := "levels", desc := "(I)I", sig := { parameters := [.int], returnType := some .int }, accessFlags := 8, code := some k2c0 }
def k2c1 : Code := { maxStack := 2, maxLocals := 1, code := prog_18_method_14_code, exceptionTable := #[], attributes := #[] }
def k2m1 : Method := { name := "zerosMayCount", desc := "(I)Z", sig := { parameters := [.int], returnType := some .boolean }, accessFlags := 8, code := some k2c1 }
/-- com/example/xcu/xcu/ElementReader -/
def k2 : Class := { plain "com/example/xcu/xcu/ElementReader" (some 0) with
  accessFlags := 48
  interfaces := #[]
  cf := some (fileOf pool2 8 #[] #[{ accessFlags := 8, nameIndex := 39, descriptorIndex := 100, attributes := #[] }, { accessFlags := 8, nameIndex := 138, descriptorIndex := 139, attributes := #[] }] 48 2 #[] #[{ accessFlags := 24, nameIndex := 128, descriptorIndex := 33, attributes := #[] }, { accessFlags := 26, nameIndex := 11, descriptorIndex := 12, attributes := #[] }, { accessFlags := 18, nameIndex := 24, descriptorIndex := 25, attributes := #[] }, { accessFlags := 2, nameIndex := 28, descriptorIndex := 29, attributes := #[] }, { accessFlags := 18, nameIndex := 32, descriptorIndex := 33, attributes := #[] }, { accessFlags := 2, nameIndex := 36, descriptorIndex := 33, attributes := #[] }, { accessFlags := 18, nameIndex := 39, descriptorIndex := 33, attributes := #[] }, { accessFlags := 2, nameIndex := 64, descriptorIndex := 65, attributes := #[] }, { accessFlags := 2, nameIndex := 15, descriptorIndex := 12, attributes := #[] }, { accessFlags := 2, nameIndex := 103, descriptorIndex := 33, attributes := #[] }, { accessFlags := 2, nameIndex := 42, descriptorIndex := 33, attributes := #[] }, { accessFlags := 2, nameIndex := 45, descriptorIndex := 33, attributes := #[] }, { accessFlags := 2, nameIndex := 18, descriptorIndex := 12, attributes := #[] }, { accessFlags := 2, nameIndex := 21, descriptorIndex := 12, attributes := #[] }, { accessFlags := 2, nameIndex := 68, descriptorIndex := 33, attributes := #[] }, { accessFlags := 2, nameIndex := 71, descriptorIndex := 33, attributes := #[] }, { accessFlags := 2, nameIndex := 80, descriptorIndex := 81, attributes := #[] }, { accessFlags := 2, nameIndex := 84, descriptorIndex := 81, attributes := #[] }])
  fields := #[{ name := "END", type := .int, accessFlags := 24, slot := 0, constantValue := 0 }, { name := "NOTHING", type := (.array .int), accessFlags := 26, slot := 1, constantValue := 0 }, { name := "table", type := (.object "com/example/xcu/xcu/SegmentTable"), accessFlags := 18, slot := 0, constantValue := 0 }, { name := "text", type := (.object "java/lang/String"), accessFlags := 2, slot := 1, constantValue := 0 }, { name := "begin", type := .int, accessFlags := 18, slot := 2, constantValue := 0 }, { name := "end", type := .int, accessFlags := 2, slot := 3, constantValue := 0 }, { name := "levels", type := .int, accessFlags := 18, slot := 4, constantValue := 0 }, { name := "growing", type := (.object "com/example/xcu/xcu/DecomposedText$LazyForm"), accessFlags := 2, slot := 5, constantValue := 0 }, { name := "tabled", type := (.array .int), accessFlags := 2, slot := 6, constantValue := 0 }, { name := "given", type := .int, accessFlags := 2, slot := 7, constantValue := 0 }, { name := "position", type := .int, accessFlags := 2, slot := 8, constantValue := 0 }, { name := "offset", type := .int, accessFlags := 2, slot := 9, constantValue := 0 }, { name := "ahead", type := (.array .int), accessFlags := 2, slot := 10, constantValue := 0 }, { name := "aheadOffsets", type := (.array .int), accessFlags := 2, slot := 11, constantValue := 0 }, { name := "aheadStart", type := .int, accessFlags := 2, slot := 12, constantValue := 0 }, { name := "aheadEnd", type := .int, accessFlags := 2, slot := 13, constantValue := 0 }, { name := "zerosWeigh", type := .boolean, accessFlags := 2, slot := 14, constantValue := 0 }, { name := "counts", type := .boolean, accessFlags := 2, slot := 15, constantValue := 0 }]
  methods := #[k2m0, k2m1]
  instanceTypes := #[(.object "com/example/xcu/xcu/SegmentTable"), (.object "java/lang/String"), .int, .int, .int, (.object "com/example/xcu/xcu/DecomposedText$LazyForm"), (.array .int), .int, .int, .int, (.array .int), (.array .int), .int, .int, .boolean, .boolean]
  staticTypes := #[.int, (.array .int)]
  resolved := Array.replicate 148 none
  statics := none }

def pool3 : Array CpInfo := pool [(1, u "java/lang/Cloneable"), (0, .class_ 1), (0, u "java/lang/Object"), (0, .class_ 3)] 3

/-- java/lang/Cloneable -/
def k3 : Class := { plain "java/lang/Cloneable" (some 0) with
  accessFlags := 1537
  interfaces := #[]
  cf := some (fileOf pool3 2 #[] #[] 1537 4 #[] #[])
  fields := #[]
  methods := #[]
  instanceTypes := #[]
  staticTypes := #[]
  resolved := Array.replicate 8 none
  statics := none }

def pool4 : Array CpInfo := pool [(1, u "java/io/Serializable"), (0, .class_ 1), (0, u "java/lang/Object"), (0, .class_ 3)] 3

/-- java/io/Serializable -/
def k4 : Class := { plain "java/io/Serializable" (some 0) with
  accessFlags := 1537
  interfaces := #[]
  cf := some (fileOf pool4 2 #[] #[] 1537 4 #[] #[])
  fields := #[]
  methods := #[]
  instanceTypes := #[]
  staticTypes := #[]
  resolved := Array.replicate 8 none
  statics := none }

/-- the primitive byte -/
def k5 : Class := { plain "byte" none with kind := .primitive 'B', accessFlags := 0x411 }
/-- [B -/
def k6 : Class := { plain "[B" (some 0) with kind := .array 5 .byte, interfaces := #[3, 4], accessFlags := 1041 }

/-- the primitive int -/
def k7 : Class := { plain "int" none with kind := .primitive 'I', accessFlags := 0x411 }
/-- [I -/
def k8 : Class := { plain "[I" (some 0) with kind := .array 7 .int, interfaces := #[3, 4], accessFlags := 1041 }

def heap : Heap := #[]
def classes : Array Class := #[k0, k1, k2, k3, k4, k5, k6, k7, k8]
def interned : List (Array UInt16 × Addr) := []
def slotsUsed : Nat := 0
def theMethod : MethodId := ⟨1, 1⟩
def args0 : Array Value := #[.int 5, .int 5, .int 5]
def aboutOver (below : List Frame) : State where
  vm := { classes := classes, interned := interned.toArray }
  heap := heap
  slotsUsed := slotsUsed
  threads := #[{ frames := .invoking theMethod args0 :: below }]
def below0 : List Frame := [.native { method := ⟨0, 0⟩, args := #[] }]
def about1 : State := aboutOver below0
def p0 : Program := .bare "" "" ""
def e0 : Env := launch0.env 0 0 0
theorem w_frames : about1.frames = Frame.invoking theMethod args0 :: below0 := rfl
set_option maxRecDepth 65536 in
theorem w_args : argsFit about1.vm theMethod args0 = true := by decide +kernel
set_option maxRecDepth 65536 in
theorem w_heap : heapFits about1 = true := by decide +kernel
set_option maxRecDepth 65536 in
theorem w_runnable : about1.curStatus? = some .runnable := by decide +kernel
set_option maxRecDepth 65536 in
theorem w_alone : about1.alone = true := by decide +kernel
set_option maxRecDepth 65536 in
theorem w_named : about1.methodNamed? x = some theMethod := by decide +kernel
set_option maxRecDepth 65536 in
theorem w_hears : about1.hears theMethod below0 = true := by decide +kernel
set_option maxRecDepth 65536 in
theorem w_ripe : about1.ripe theMethod args0 below0 = true := by decide +kernel
theorem w_running : about1.status = .running := rfl
set_option maxRecDepth 65536 in
theorem w_room : about1.hasRoom e0.platform room_1 = true :=
  launch0.hasRoom_least _ room_1 (by decide +kernel) (by decide +kernel) (by decide +kernel) (by decide +kernel) (by decide +kernel) (by decide +kernel)
theorem allAtoms_all (ts : List Jvm.Cond) (a : Array Jvm.Value) (st : Jvm.State) : (allAtoms ts).before a st = ts.all (fun c => c.before a st) := by
  induction ts with
  | nil => rfl
  | cons c t ih =>
    show (Jvm.Cond.and c (allAtoms t)).before a st = _
    rw [Jvm.Cond.before_and, ih, List.all_cons]
def words1 : List Jvm.Cond := Jvm.Cond.code x code maxLocals ret :: tables_1
/-- a 'code' word, met by the world's own term for the bytes: nothing is compared byte by byte -/
theorem code_word {y : MethodName} {bytes : ByteArray} {mx : Nat} {rt : Option FieldType} {a : Array Value} {s : State} {m : MethodId} {meth : Method} {c : Code} (h1 : s.methodNamed? y = some m) (h2 : s.vm.method? m = some meth) (h3 : meth.code = some c) (h4 : c.code = bytes)
    (h5 : (c.maxLocals == mx && c.exceptionTable.isEmpty && decide (c.maxStack ≤ mostOperands) && decide (meth.sig.returnType = rt) && !meth.locks && decide (parseMethodDescriptor y.desc = some meth.sig)) = true) : (Jvm.Cond.code y bytes mx rt).before a s = true := by
  simp only [Bool.and_eq_true, beq_iff_eq, Bool.not_eq_true', decide_eq_true_eq] at h5
  obtain ⟨⟨⟨⟨⟨g1, g2⟩, g3⟩, g4⟩, g5⟩, g6⟩ := h5
  simp [Cond.before, Cond.holds, Cond.value, h1, h2, h3, h4, g1, g2, g3, g4, g5, g6]
def isCode : Jvm.Cond → Bool
  | .code _ _ _ _ => true
  | _ => false
theorem all_split {L : List Jvm.Cond} {P : Jvm.Cond → Bool} (h1 : L.all (fun c => isCode c || P c) = true) (h2 : ∀ c ∈ L.filter isCode, P c = true) : L.all P = true := by
  refine List.all_eq_true.mpr fun c hc => ?_
  have h := List.all_eq_true.mp h1 c hc
  rcases Bool.eq_false_or_eq_true (isCode c) with hi | hi
  · exact h2 c (List.mem_filter.mpr ⟨hc, hi⟩)
  · simpa [hi] using h
set_option maxRecDepth 65536 in
theorem w_c0 : (Jvm.Cond.code x code maxLocals ret).before args0 about1 = true := code_word (m := ⟨1, 1⟩) (meth := k1m1) (c := k1c1) (by decide +kernel) rfl rfl rfl (by decide +kernel)
set_option maxRecDepth 65536 in
theorem w_c1 : (Jvm.Cond.code ({ cls := "com/example/xcu/xcu/ElementReader", name := "levels", desc := "(I)I" } : Jvm.MethodName) prog_18_method_13_code (1 : Nat) (Option.some Jvm.ClassFile.FieldType.int)).before args0 about1 = true := code_word (m := ⟨2, 0⟩) (meth := k2m0) (c := k2c0) (by decide +kernel) rfl rfl rfl (by decide +kernel)
set_option maxRecDepth 65536 in
theorem w_c2 : (Jvm.Cond.code ({ cls := "com/example/xcu/xcu/ElementReader", name := "zerosMayCount", desc := "(I)Z" } : Jvm.MethodName) prog_18_method_14_code (1 : Nat) (Option.some Jvm.ClassFile.FieldType.boolean)).before args0 about1 = true := code_word (m := ⟨2, 1⟩) (meth := k2m1) (c := k2c1) (by decide +kernel) rfl rfl rfl (by decide +kernel)
def codes1 : List Jvm.Cond := [Jvm.Cond.code x code maxLocals ret, Jvm.Cond.code ({ cls := "com/example/xcu/xcu/ElementReader", name := "levels", desc := "(I)I" } : Jvm.MethodName) prog_18_method_13_code (1 : Nat) (Option.some Jvm.ClassFile.FieldType.int), Jvm.Cond.code ({ cls := "com/example/xcu/xcu/ElementReader", name := "zerosMayCount", desc := "(I)Z" } : Jvm.MethodName) prog_18_method_14_code (1 : Nat) (Option.some Jvm.ClassFile.FieldType.boolean)]
set_option maxRecDepth 65536 in
theorem codes_eq : words1.filter isCode = codes1 := rfl
theorem w_codes : ∀ c ∈ words1.filter isCode, c.before args0 about1 = true := by
  rw [codes_eq]
  intro c hc
  simp only [codes1, List.mem_cons, List.not_mem_nil, or_false] at hc
  rcases hc with rfl | rfl | rfl
  · exact w_c0
  · exact w_c1
  · exact w_c2
set_option maxRecDepth 65536 in
theorem w_t1 : words1.all (fun c => isCode c || c.before args0 about1) = true := by decide +kernel
theorem w_tables : (allAtoms (Jvm.Cond.code x code maxLocals ret :: tables_1)).before args0 about1 = true := by
  rw [allAtoms_all]
  show words1.all (fun c => c.before args0 about1) = true
  refine all_split ?_ w_codes
  rw [w_t1]
set_option maxRecDepth 65536 in
theorem w_case : (Jvm.Cond.and given_1 narrow_1).before args0 about1 = true := by decide +kernel
theorem w_applies : (headSpec (Jvm.Cond.code x code maxLocals ret :: tables_1) room_1).applies x e0.platform about1 = true :=
  (Spec.applies_iff w_frames).mpr ⟨w_running, w_runnable, w_alone, w_named, w_hears, w_ripe, w_room, w_tables⟩
theorem atStart : AtStart classFile x code maxLocals ret World_1 tables_1 room_1 Calls_1 rest_1 Pre_1 launch0 p0 e0 about1 theMethod args0 below0 :=
  ⟨lists_1, trivial, launch0.admits_env _ _ _, launch0.least_env, fairChoices_fair.cas, fairChoices_fair.clock, w_frames, w_args, w_heap, w_applies, trivial, trivial, w_case⟩
end start1
theorem witness_1 : WitnessClaimed_1 := ⟨start1.p0, start1.e0, start1.about1, start1.theMethod, start1.args0, start1.below0, start1.atStart⟩
end Jvm.Pilot.@@N@@
