import JvmDerived
import JvmDerived.Pilot.@@N@@Statement
import JvmDerived.Pilot.@@N@@Code
set_option linter.unusedVariables false
set_option linter.unusedSimpArgs false
@@BLOCK:NumsL.lean.txt@@
namespace Jvm.RoadKit
open Sem ClassFile Op Lib Jvm.Stand Jvm.Free Jvm.LawKit
section New
variable {p : Program} {l : Launch} {e : Env} {R : Room} {s : State} {m : MethodId} {args : Array Value} {below : List Frame} {meth : Method} {c : Code} {T : State} {locs : List Loc} {cells slots : Nat}
theorem retI (X : Stand p l e R s m args below meth c T locs cells slots) (hx : p.tables.exec = Jvm.exec) {pc : Nat} {Ls : Array Slot} {z : Int32} {rest : List Value} (hret : meth.sig.returnType = some .int) (hd : decode c.code pc = .ok (.ireturn, 1)) {fs : List Frame}
    (hl : ∀ (f : JFrame) (acts : List Action), f.method = m → f.locked = none → f.entered = [] → (doReturn e (T.setTop f) acts (some (.int z))).1 = T.setFrames fs) : Steps p.tables e below (T.setTop (mkF m pc Ls (.int z :: rest))) (T.setFrames fs) := by
  have hm' : T.vm.method? m = some meth := X.method'
  have hn : narrow .int (.int z) = .int z := rfl
  show Steps p.tables e below (T.setTop { method := m, pc := pc, locals := Ls, stack := _ :: rest, locked := none }) _
  jvm_step X.here [X.here.top, hx, hd, hm', hret, hn]
  first | (intro acts; rw [hl _ acts rfl rfl rfl]) | rw [hl _ _ rfl rfl rfl]
  exact Steps.refl _
end New
end Jvm.RoadKit
namespace Jvm.Pilot.@@N@@
open Jvm Jvm.ClassFile Sem Op Lib Jvm.Free Jvm.Stand Jvm.LawKit Jvm.RoadKit Bundle Jvm.Pilot.@@N@@.Jvm.D
theorem own_lwN {x y : Int64} (h : ¬ x = y) : ¬ lcmpW x y = 0 := fun q => h ((lw_eq x y).mp q)
theorem own_lwE {x y : Int64} (h : x = y) : lcmpW x y = 0 := (lw_eq x y).mpr h
theorem own_lwL {x y : Int64} (h : x < y) : lcmpW x y < 0 := (lw_lt x y).mpr h
theorem own_lwM {x y : Int64} (h : ¬ x < y) : ¬ lcmpW x y < 0 := fun q => h ((lw_lt x y).mp q)
theorem own_lwG {x y : Int64} (h : y < x) : 0 < lcmpW x y := (lw_gt x y).mpr h
theorem own_lwH {x y : Int64} (h : ¬ y < x) : ¬ 0 < lcmpW x y := fun q => h ((lw_gt x y).mp q)
theorem own_F {Z : State} {h : Heap} {a : Addr} {C n d : String} {v w : Value} (q : v = w) (F : Fld Z h a C n d v) : Fld Z h a C n d w := q ▸ F
theorem own_rI {x y : Int32} (q : x = y) : (some (Value.int x)) = some (.int y) := by rw [q]
theorem own_rJ {x y : Int64} (q : x = y) : (some (Value.long x)) = some (.long y) := by rw [q]
theorem d5_0 : decode jdk_29_method_25_code 0 = .ok (.lload_n 0, 1) := by decide +kernel
theorem d5_1 : decode jdk_29_method_25_code 1 = .ok (.lload_n 2, 1) := by decide +kernel
theorem d5_2 : decode jdk_29_method_25_code 2 = .ok (.ladd, 1) := by decide +kernel
theorem d5_3 : decode jdk_29_method_25_code 3 = .ok (.lstore 4, 2) := by decide +kernel
theorem d5_5 : decode jdk_29_method_25_code 5 = .ok (.lload_n 0, 1) := by decide +kernel
theorem d5_6 : decode jdk_29_method_25_code 6 = .ok (.lload 4, 2) := by decide +kernel
theorem d5_8 : decode jdk_29_method_25_code 8 = .ok (.lxor, 1) := by decide +kernel
theorem d5_9 : decode jdk_29_method_25_code 9 = .ok (.lload_n 2, 1) := by decide +kernel
theorem d5_10 : decode jdk_29_method_25_code 10 = .ok (.lload 4, 2) := by decide +kernel
theorem d5_12 : decode jdk_29_method_25_code 12 = .ok (.lxor, 1) := by decide +kernel
theorem d5_13 : decode jdk_29_method_25_code 13 = .ok (.land, 1) := by decide +kernel
theorem d5_14 : decode jdk_29_method_25_code 14 = .ok (.lconst 0, 1) := by decide +kernel
theorem d5_15 : decode jdk_29_method_25_code 15 = .ok (.lcmp, 1) := by decide +kernel
theorem d5_16 : decode jdk_29_method_25_code 16 = .ok (.ifCond .ge 13, 3) := by decide +kernel
theorem d5_29 : decode jdk_29_method_25_code 29 = .ok (.lload 4, 2) := by decide +kernel
theorem d5_31 : decode jdk_29_method_25_code 31 = .ok (.lreturn, 1) := by decide +kernel
theorem ef_5 (m : MethodId) (q0 : Int64) (q1 : Int64) : entryFrame m #[(.long q0), (.long q1)] 6 = mkF m 0 #[.val (.long q0), .second, .val (.long q1), .second, .unset, .unset] [] := by first | (simp [entryFrame, mkF, argsToLocals, Value.category]; done) | rfl
def Q5 (Z : State) (q0 : Int64) (q1 : Int64) (h0 : Heap) (n0 : Nat) (v : Option Value) (h : Heap) (L : List Loc) : Prop := v = some (.long (q0 + q1)) ∧ Fr n0 L ∧ h = h0
set_option maxRecDepth 65536 in
set_option maxHeartbeats 40000000 in
theorem rm5 (l : Launch) (Z : State) (aq : Array Value) (hw : ∀ d ∈ tables_1, d.before aq Z = true) (ws : List Jvm.Cond) (q0 : Int64) (q1 : Int64) (h0 : Heap) (n0 : Nat) (Z0 : n0 ≤ h0.size) (hov : ¬ (((q0 ^^^ (q0 + q1)) &&& (q1 ^^^ (q0 + q1))) < (0 : Int64))) :
    MetFree l (⟨"java/lang/Math", "addExact", "(JJ)J"⟩ : MethodName) (head1 (Jvm.Cond.code (⟨"java/lang/Math", "addExact", "(JJ)J"⟩ : MethodName) jdk_29_method_25_code 6 (some .long) :: ws) ({ frames := 0, cells := 0, slots := 0, locals := 0 } : Room)) (fun a U => a = #[(.long q0), (.long q1)] ∧ Z.Warmed39 U.vm ∧ U.heap = h0) (fun _ _ _ _ _ => True) (fun _ U o U' => ∃ v L, o = .returned v ∧ Q5 Z q0 q1 h0 n0 v U'.heap L ∧ FrameEnd U o U' L ({ frames := 0, cells := 0, slots := 0, locals := 0 } : Room).cells ({ frames := 0, cells := 0, slots := 0, locals := 0 } : Room).slots) := by
  refine MetFree.of_bodySF (Jvm.Free.JP.mathPlain rfl (by decide +kernel)) hisR ?_
  intro p e s m args below meth c s₁ Bd hml0 hP hK
  obtain ⟨rfl, hZ, hh⟩ := hP
  have hx := Bd.exec
  have hby := Bd.bytes
  have hml : c.maxLocals = 6 := hml0
  have hown : s.vm.findClass "java/lang/Math" = some m.cls := findClass_of_methodNamed Bd.named
  have hnm := (name_of_methodNamed Bd.named Bd.method).1
  have X0 : Stand p l e ({ frames := 0, cells := 0, slots := 0, locals := 0 } : Room) s m #[(.long q0), (.long q1)] below meth c s₁ [] 0 0 := Stand.of_body Bd
  have e0 : s₁.heap = h0 := by rw [← hh, Bd.state]; rfl
  have N0 := Fr.nil n0
  have pre0 : ∀ t, Steps p.tables e below (s₁.setTop (mkF m 0 #[.val (.long q0), .second, .val (.long q1), .second, .unset, .unset] [])) t → Steps p.tables e below (s₁.setTop (entryFrame m #[(.long q0), (.long q1)] 6)) t := fun t k => castTop (ef_5 m q0 q1) k
  have pre1 : ∀ t, Steps p.tables e below (s₁.setTop (mkF m 31 #[.val (.long q0), .second, .val (.long q1), .second, .val (.long (q0 + q1)), .second] [(.long (q0 + q1))])) t → Steps p.tables e below (s₁.setTop (entryFrame m #[(.long q0), (.long q1)] 6)) t := fun t kt => by
    refine pre0 _ ?_
    show Steps p.tables e below (s₁.setTop (mkF m 0 #[.val (.long q0), .second, .val (.long q1), .second, .unset, .unset] [])) _
    refine XS.lloadN X0.here hx rfl (hb hby d5_0) rfl ?_
    show Steps p.tables e below (s₁.setTop (mkF m 1 #[.val (.long q0), .second, .val (.long q1), .second, .unset, .unset] [(.long q0)])) _
    refine XS.lloadN X0.here hx rfl (hb hby d5_1) rfl ?_
    show Steps p.tables e below (s₁.setTop (mkF m 2 #[.val (.long q0), .second, .val (.long q1), .second, .unset, .unset] [(.long q1), (.long q0)])) _
    refine XS.ladd X0.here hx rfl (hb hby d5_2) rfl ?_
    show Steps p.tables e below (s₁.setTop (mkF m 3 #[.val (.long q0), .second, .val (.long q1), .second, .unset, .unset] [(.long (q0 + q1))])) _
    refine XS.lstore X0.here hx rfl (hb hby d5_3) rfl (l' := #[.val (.long q0), .second, .val (.long q1), .second, .val (.long (q0 + q1)), .second]) rfl ?_
    show Steps p.tables e below (s₁.setTop (mkF m 5 #[.val (.long q0), .second, .val (.long q1), .second, .val (.long (q0 + q1)), .second] [])) _
    refine XS.lloadN X0.here hx rfl (hb hby d5_5) rfl ?_
    show Steps p.tables e below (s₁.setTop (mkF m 6 #[.val (.long q0), .second, .val (.long q1), .second, .val (.long (q0 + q1)), .second] [(.long q0)])) _
    refine XS.lload X0.here hx rfl (hb hby d5_6) rfl ?_
    show Steps p.tables e below (s₁.setTop (mkF m 8 #[.val (.long q0), .second, .val (.long q1), .second, .val (.long (q0 + q1)), .second] [(.long (q0 + q1)), (.long q0)])) _
    refine XS.lxor X0.here hx rfl (hb hby d5_8) rfl ?_
    show Steps p.tables e below (s₁.setTop (mkF m 9 #[.val (.long q0), .second, .val (.long q1), .second, .val (.long (q0 + q1)), .second] [(.long (q0 ^^^ (q0 + q1)))])) _
    refine XS.lloadN X0.here hx rfl (hb hby d5_9) rfl ?_
    show Steps p.tables e below (s₁.setTop (mkF m 10 #[.val (.long q0), .second, .val (.long q1), .second, .val (.long (q0 + q1)), .second] [(.long q1), (.long (q0 ^^^ (q0 + q1)))])) _
    refine XS.lload X0.here hx rfl (hb hby d5_10) rfl ?_
    show Steps p.tables e below (s₁.setTop (mkF m 12 #[.val (.long q0), .second, .val (.long q1), .second, .val (.long (q0 + q1)), .second] [(.long (q0 + q1)), (.long q1), (.long (q0 ^^^ (q0 + q1)))])) _
    refine XS.lxor X0.here hx rfl (hb hby d5_12) rfl ?_
    show Steps p.tables e below (s₁.setTop (mkF m 13 #[.val (.long q0), .second, .val (.long q1), .second, .val (.long (q0 + q1)), .second] [(.long (q1 ^^^ (q0 + q1))), (.long (q0 ^^^ (q0 + q1)))])) _
    refine XS.land X0.here hx rfl (hb hby d5_13) rfl ?_
    show Steps p.tables e below (s₁.setTop (mkF m 14 #[.val (.long q0), .second, .val (.long q1), .second, .val (.long (q0 + q1)), .second] [(.long ((q0 ^^^ (q0 + q1)) &&& (q1 ^^^ (q0 + q1))))])) _
    refine XS.lconst X0.here hx rfl (hb hby d5_14) ?_
    show Steps p.tables e below (s₁.setTop (mkF m 15 #[.val (.long q0), .second, .val (.long q1), .second, .val (.long (q0 + q1)), .second] [(.long (0 : Int64)), (.long ((q0 ^^^ (q0 + q1)) &&& (q1 ^^^ (q0 + q1))))])) _
    refine XS.lcmp X0.here hx rfl (hb hby d5_15) rfl ?_
    show Steps p.tables e below (s₁.setTop (mkF m 16 #[.val (.long q0), .second, .val (.long q1), .second, .val (.long (q0 + q1)), .second] [(.int (lcmpW ((q0 ^^^ (q0 + q1)) &&& (q1 ^^^ (q0 + q1))) (0 : Int64)))])) _
    refine XS.ifYes X0.here hx rfl (pc0 := 16) (pc' := 29) rfl (hb hby d5_16) rfl ((if0 _ _).trans (flt (own_lwM hov)).2.1) (by decide) (by decide) ?_
    show Steps p.tables e below (s₁.setTop (mkF m 29 #[.val (.long q0), .second, .val (.long q1), .second, .val (.long (q0 + q1)), .second] [])) _
    refine XS.lload X0.here hx rfl (hb hby d5_29) rfl ?_
    show Steps p.tables e below (s₁.setTop (mkF m 31 #[.val (.long q0), .second, .val (.long q1), .second, .val (.long (q0 + q1)), .second] [(.long (q0 + q1))])) _
    exact kt
  obtain ⟨fs, hr, hrun, hended, hW, hsame⟩ := X0.leave (v := some (.long (q0 + q1))) (fun h => by rw [Bd.returns] at h; cases h)
  refine ⟨_, _, pre1 _ ?_, hrun, hended, _, _, rfl, ?_, ⟨_, rfl⟩, hW, hsame.mono (by decide) (by decide)⟩
  · jvm_step X0.here [X0.here.top, hx, (hb hby d5_31), X0.method', Bd.returns, narrow]
    first | (intro acts; rw [hr _ acts rfl rfl rfl]) | rw [hr _ _ rfl rfl rfl]
    exact Steps.refl _
  · show Q5 Z q0 q1 h0 n0 _ s₁.heap _
    rw [e0]
    exact ⟨rfl, N0, rfl⟩
theorem d1_0 : decode prog_29_method_1_code 0 = .ok (.aload_n 0, 1) := by decide +kernel
theorem d1_1 : decode prog_29_method_1_code 1 = .ok (.invokespecial 1, 3) := by decide +kernel
theorem d1_4 : decode prog_29_method_1_code 4 = .ok (.return_, 1) := by decide +kernel
theorem pn21129912 : plainName "tierlock/cli/ScenarioClock" = true := by first | (simp [plainName, overriddenIn]; done) | decide +kernel
theorem ef_1 (m : MethodId) (a0 : Addr) : entryFrame m #[(.ref a0)] 1 = mkF m 0 #[.val (.ref a0)] [] := by first | (simp [entryFrame, mkF, argsToLocals, Value.category]; done) | rfl
def Q1 (Z : State) (a0 : Addr) (u_millis : Int64) (h0 : Heap) (n0 : Nat) (v : Option Value) (h : Heap) (L : List Loc) : Prop := v = none ∧ Fr n0 L ∧ h = h0
set_option maxRecDepth 65536 in
set_option maxHeartbeats 40000000 in
theorem rm1 (l : Launch) (Z : State) (aq : Array Value) (hw : ∀ d ∈ tables_1, d.before aq Z = true) (ws : List Jvm.Cond) (a0 : Addr) (u_millis : Int64) (h0 : Heap) (n0 : Nat) (Z0 : n0 ≤ h0.size) (E_a0 : Exa Z h0 a0 "tierlock/cli/ScenarioClock") (F_millis : Fld Z h0 a0 "tierlock/cli/ScenarioClock" "millis" "J" (.long u_millis)) :
    MetFree l (⟨"tierlock/cli/ScenarioClock", "<init>", "()V"⟩ : MethodName) (head1 (Jvm.Cond.code (⟨"tierlock/cli/ScenarioClock", "<init>", "()V"⟩ : MethodName) prog_29_method_1_code 1 none :: ws) ({ frames := 1, cells := 0, slots := 0, locals := 12 } : Room)) (fun a U => a = #[(.ref a0)] ∧ Z.Warmed39 U.vm ∧ U.heap = h0) (fun _ _ _ _ _ => True) (fun _ U o U' => ∃ v L, o = .returned v ∧ Q1 Z a0 u_millis h0 n0 v U'.heap L ∧ FrameEnd U o U' L ({ frames := 1, cells := 0, slots := 0, locals := 12 } : Room).cells ({ frames := 1, cells := 0, slots := 0, locals := 12 } : Room).slots) := by
  refine MetFree.of_bodySF (plainFor_of_name pn21129912) hisR ?_
  intro p e s m args below meth c s₁ Bd hml0 hP hK
  obtain ⟨rfl, hZ, hh⟩ := hP
  have hx := Bd.exec
  have hby := Bd.bytes
  have hml : c.maxLocals = 1 := hml0
  have hown : s.vm.findClass "tierlock/cli/ScenarioClock" = some m.cls := findClass_of_methodNamed Bd.named
  have hnm := (name_of_methodNamed Bd.named Bd.method).1
  have X0 : Stand p l e ({ frames := 1, cells := 0, slots := 0, locals := 12 } : Room) s m #[(.ref a0)] below meth c s₁ [] 0 0 := Stand.of_body Bd
  have e0 : s₁.heap = h0 := by rw [← hh, Bd.state]; rfl
  have N0 := Fr.nil n0
  have pre0 : ∀ t, Steps p.tables e below (s₁.setTop (mkF m 0 #[.val (.ref a0)] [])) t → Steps p.tables e below (s₁.setTop (entryFrame m #[(.ref a0)] 1)) t := fun t k => castTop (ef_1 m a0) k
  obtain ⟨T3, X3, e3, st3⟩ := initO X0 hx hZ hown (hw _ (List.mem_of_getElem? (i := 6) rfl)) (hw _ (List.mem_of_getElem? (i := 7) rfl)) (hw _ (List.mem_of_getElem? (i := 8) rfl)) e0 (g := (mkF m 1 #[.val (.ref a0)] [(.ref a0)])) rfl (by rw [hml]; rfl) rfl (hb hby d1_1) (by decide) (W := 0) (by show 2 * 0 + _ ≤ _; exact Nat.le_of_eq rfl) (by decide)
  have pre4 : ∀ t, Steps p.tables e below (T3.setTop (mkF m 4 #[.val (.ref a0)] [])) t → Steps p.tables e below (s₁.setTop (entryFrame m #[(.ref a0)] 1)) t := fun t kt => by
    refine pre0 _ ?_
    show Steps p.tables e below (s₁.setTop (mkF m 0 #[.val (.ref a0)] [])) _
    refine XS.aloadN X0.here hx rfl (hb hby d1_0) rfl rfl ?_
    show Steps p.tables e below (s₁.setTop (mkF m 1 #[.val (.ref a0)] [(.ref a0)])) _
    refine st3 _ ?_
    show Steps p.tables e below (T3.setTop (mkF m 4 #[.val (.ref a0)] [])) _
    exact kt
  obtain ⟨fs, hr, hrun, hended, hW, hsame⟩ := X3.leave (v := none) (fun _ => rfl)
  refine ⟨_, _, pre4 _ ?_, hrun, hended, _, _, rfl, ?_, ⟨_, rfl⟩, hW, hsame.mono (by decide) (by decide)⟩
  · exact X3.returnOut hx Bd.returns (hb hby d1_4) hr
  · show Q1 Z a0 u_millis h0 n0 _ T3.heap _
    rw [e3]
    exact ⟨rfl, N0, rfl⟩
theorem d3_0 : decode prog_29_method_3_code 0 = .ok (.aload_n 0, 1) := by decide +kernel
theorem d3_1 : decode prog_29_method_3_code 1 = .ok (.getfield 7, 3) := by decide +kernel
theorem d3_4 : decode prog_29_method_3_code 4 = .ok (.lreturn, 1) := by decide +kernel
theorem ef_3 (m : MethodId) (a0 : Addr) : entryFrame m #[(.ref a0)] 1 = mkF m 0 #[.val (.ref a0)] [] := by first | (simp [entryFrame, mkF, argsToLocals, Value.category]; done) | rfl
def Q3 (Z : State) (a0 : Addr) (u_millis : Int64) (h0 : Heap) (n0 : Nat) (v : Option Value) (h : Heap) (L : List Loc) : Prop := v = some (.long u_millis) ∧ Fr n0 L ∧ h = h0
set_option maxRecDepth 65536 in
set_option maxHeartbeats 40000000 in
theorem rm3 (l : Launch) (Z : State) (aq : Array Value) (hw : ∀ d ∈ tables_1, d.before aq Z = true) (ws : List Jvm.Cond) (a0 : Addr) (u_millis : Int64) (h0 : Heap) (n0 : Nat) (Z0 : n0 ≤ h0.size) (E_a0 : Exa Z h0 a0 "tierlock/cli/ScenarioClock") (F_millis : Fld Z h0 a0 "tierlock/cli/ScenarioClock" "millis" "J" (.long u_millis)) :
    MetFree l (⟨"tierlock/cli/ScenarioClock", "millis", "()J"⟩ : MethodName) (head1 (Jvm.Cond.code (⟨"tierlock/cli/ScenarioClock", "millis", "()J"⟩ : MethodName) prog_29_method_3_code 1 (some .long) :: ws) ({ frames := 0, cells := 0, slots := 0, locals := 0 } : Room)) (fun a U => a = #[(.ref a0)] ∧ Z.Warmed39 U.vm ∧ U.heap = h0) (fun _ _ _ _ _ => True) (fun _ U o U' => ∃ v L, o = .returned v ∧ Q3 Z a0 u_millis h0 n0 v U'.heap L ∧ FrameEnd U o U' L ({ frames := 0, cells := 0, slots := 0, locals := 0 } : Room).cells ({ frames := 0, cells := 0, slots := 0, locals := 0 } : Room).slots) := by
  refine MetFree.of_bodySF (plainFor_of_name pn21129912) hisR ?_
  intro p e s m args below meth c s₁ Bd hml0 hP hK
  obtain ⟨rfl, hZ, hh⟩ := hP
  have hx := Bd.exec
  have hby := Bd.bytes
  have hml : c.maxLocals = 1 := hml0
  have hown : s.vm.findClass "tierlock/cli/ScenarioClock" = some m.cls := findClass_of_methodNamed Bd.named
  have hnm := (name_of_methodNamed Bd.named Bd.method).1
  have X0 : Stand p l e ({ frames := 0, cells := 0, slots := 0, locals := 0 } : Room) s m #[(.ref a0)] below meth c s₁ [] 0 0 := Stand.of_body Bd
  have e0 : s₁.heap = h0 := by rw [← hh, Bd.state]; rfl
  have N0 := Fr.nil n0
  have pre0 : ∀ t, Steps p.tables e below (s₁.setTop (mkF m 0 #[.val (.ref a0)] [])) t → Steps p.tables e below (s₁.setTop (entryFrame m #[(.ref a0)] 1)) t := fun t k => castTop (ef_3 m a0) k
  obtain ⟨T6, X6, e6, st6⟩ := getF X0 hx hZ hown (host := "") (Or.inl (hw _ (List.mem_of_getElem? (i := 14) rfl))) Via.refl e0 F_millis (g := (mkF m 1 #[.val (.ref a0)] [(.ref a0)])) rfl rfl (hb hby d3_1)
  have pre7 : ∀ t, Steps p.tables e below (T6.setTop (mkF m 4 #[.val (.ref a0)] [(.long u_millis)])) t → Steps p.tables e below (s₁.setTop (entryFrame m #[(.ref a0)] 1)) t := fun t kt => by
    refine pre0 _ ?_
    show Steps p.tables e below (s₁.setTop (mkF m 0 #[.val (.ref a0)] [])) _
    refine XS.aloadN X0.here hx rfl (hb hby d3_0) rfl rfl ?_
    show Steps p.tables e below (s₁.setTop (mkF m 1 #[.val (.ref a0)] [(.ref a0)])) _
    refine st6 _ ?_
    show Steps p.tables e below (T6.setTop (mkF m 4 #[.val (.ref a0)] [(.long u_millis)])) _
    exact kt
  obtain ⟨fs, hr, hrun, hended, hW, hsame⟩ := X6.leave (v := some (.long u_millis)) (fun h => by rw [Bd.returns] at h; cases h)
  refine ⟨_, _, pre7 _ ?_, hrun, hended, _, _, rfl, ?_, ⟨_, rfl⟩, hW, hsame.mono (by decide) (by decide)⟩
  · jvm_step X6.here [X6.here.top, hx, (hb hby d3_4), X6.method', Bd.returns, narrow]
    first | (intro acts; rw [hr _ acts rfl rfl rfl]) | rw [hr _ _ rfl rfl rfl]
    exact Steps.refl _
  · show Q3 Z a0 u_millis h0 n0 _ T6.heap _
    rw [e6]
    exact ⟨rfl, N0, rfl⟩
theorem d4_0 : decode prog_29_method_2_code 0 = .ok (.aload_n 0, 1) := by decide +kernel
theorem d4_1 : decode prog_29_method_2_code 1 = .ok (.aload_n 0, 1) := by decide +kernel
theorem d4_2 : decode prog_29_method_2_code 2 = .ok (.getfield 7, 3) := by decide +kernel
theorem d4_5 : decode prog_29_method_2_code 5 = .ok (.lload_n 1, 1) := by decide +kernel
theorem d4_6 : decode prog_29_method_2_code 6 = .ok (.invokestatic 13, 3) := by decide +kernel
theorem d4_9 : decode prog_29_method_2_code 9 = .ok (.putfield 7, 3) := by decide +kernel
theorem d4_12 : decode prog_29_method_2_code 12 = .ok (.return_, 1) := by decide +kernel
theorem pd84330420 : parseMethodDescriptor "(JJ)J" = some ⟨[.long, .long], some .long⟩ := by decide +kernel
theorem ef_4 (m : MethodId) (a0 : Addr) (q1 : Int64) : entryFrame m #[(.ref a0), (.long q1)] 3 = mkF m 0 #[.val (.ref a0), .val (.long q1), .second] [] := by first | (simp [entryFrame, mkF, argsToLocals, Value.category]; done) | rfl
def Q4 (Z : State) (a0 : Addr) (q1 : Int64) (u_millis : Int64) (h0 : Heap) (n0 : Nat) (v : Option Value) (h : Heap) (L : List Loc) : Prop := v = none ∧ Fr n0 L ∧ Keep h0 h [a0] ∧ Exa Z h a0 "tierlock/cli/ScenarioClock" ∧ Fld Z h a0 "tierlock/cli/ScenarioClock" "millis" "J" (.long (u_millis + q1))
set_option maxRecDepth 65536 in
set_option maxHeartbeats 40000000 in
theorem rm4 (l : Launch) (Z : State) (aq : Array Value) (hw : ∀ d ∈ tables_1, d.before aq Z = true) (ws : List Jvm.Cond) (a0 : Addr) (q1 : Int64) (u_millis : Int64) (h0 : Heap) (n0 : Nat) (Z0 : n0 ≤ h0.size) (E_a0 : Exa Z h0 a0 "tierlock/cli/ScenarioClock") (F_millis : Fld Z h0 a0 "tierlock/cli/ScenarioClock" "millis" "J" (.long u_millis)) (g_a0 : n0 ≤ a0) (hov : ¬ (((u_millis ^^^ (u_millis + q1)) &&& (q1 ^^^ (u_millis + q1))) < (0 : Int64))) :
    MetFree l (⟨"tierlock/cli/ScenarioClock", "advance", "(J)V"⟩ : MethodName) (head1 (Jvm.Cond.code (⟨"tierlock/cli/ScenarioClock", "advance", "(J)V"⟩ : MethodName) prog_29_method_2_code 3 none :: ws) ({ frames := 1, cells := 0, slots := 0, locals := 18 } : Room)) (fun a U => a = #[(.ref a0), (.long q1)] ∧ Z.Warmed39 U.vm ∧ U.heap = h0) (fun _ _ _ _ _ => True) (fun _ U o U' => ∃ v L, o = .returned v ∧ Q4 Z a0 q1 u_millis h0 n0 v U'.heap L ∧ FrameEnd U o U' L ({ frames := 1, cells := 0, slots := 0, locals := 18 } : Room).cells ({ frames := 1, cells := 0, slots := 0, locals := 18 } : Room).slots) := by
  refine MetFree.of_bodySF (plainFor_of_name pn21129912) hisR ?_
  intro p e s m args below meth c s₁ Bd hml0 hP hK
  obtain ⟨rfl, hZ, hh⟩ := hP
  have hx := Bd.exec
  have hby := Bd.bytes
  have hml : c.maxLocals = 3 := hml0
  have hown : s.vm.findClass "tierlock/cli/ScenarioClock" = some m.cls := findClass_of_methodNamed Bd.named
  have hnm := (name_of_methodNamed Bd.named Bd.method).1
  have X0 : Stand p l e ({ frames := 1, cells := 0, slots := 0, locals := 18 } : Room) s m #[(.ref a0), (.long q1)] below meth c s₁ [] 0 0 := Stand.of_body Bd
  have e0 : s₁.heap = h0 := by rw [← hh, Bd.state]; rfl
  have N0 := Fr.nil n0
  have K0 : Keep h0 h0 [a0] := Keep.refl _ _
  have pre0 : ∀ t, Steps p.tables e below (s₁.setTop (mkF m 0 #[.val (.ref a0), .val (.long q1), .second] [])) t → Steps p.tables e below (s₁.setTop (entryFrame m #[(.ref a0), (.long q1)] 3)) t := fun t k => castTop (ef_4 m a0 q1) k
  obtain ⟨T17, X17, e17, st17⟩ := getF X0 hx hZ hown (host := "") (Or.inl (hw _ (List.mem_of_getElem? (i := 14) rfl))) Via.refl e0 F_millis (g := (mkF m 2 #[.val (.ref a0), .val (.long q1), .second] [(.ref a0), (.ref a0)])) rfl rfl (hb hby d4_2)
  obtain ⟨_, _, ⟨T18, L18, k18, n18⟩, -, X18, ⟨Lc18, hQ18, l18, y18, z18⟩, st18⟩ := Jvm.LawKit.callS X17 hx (y := (⟨"java/lang/Math", "addExact", "(JJ)J"⟩ : MethodName)) hown (mvT hZ (hw _ (List.mem_of_getElem? (i := 21) rfl))) (mvT hZ (hw _ (List.mem_of_getElem? (i := 22) rfl))) (mvT hZ (hw _ (List.mem_of_getElem? (i := 23) rfl))) (mvT hZ (hw _ (List.mem_of_getElem? (i := 24) rfl))) (by decide) (backOf (W := 1) (rm5 l Z aq hw [] u_millis q1 h0 n0 Z0 hov) hZ (hw _ (List.mem_of_getElem? (i := 24) rfl)) (hw _ (List.mem_of_getElem? (i := 23) rfl)) (by decide) (by decide)) (g := (mkF m 6 #[.val (.ref a0), .val (.long q1), .second] [(.long q1), (.long u_millis), (.ref a0)])) rfl (by rw [hml]; rfl) (argsL := [(.long u_millis), (.long q1)]) (rest := [(.ref a0)]) (lenOf pd84330420 rfl) rfl (by show 2 * 0 + _ ≤ _; exact Nat.le_of_eq rfl) (hb hby d4_6) (fun _ _ => ⟨rfl, e17, (by decide : 0 + 0 ≤ _), (by decide : 0 + 0 ≤ _)⟩)
  dsimp only [Pt.U, Pt.locs, Pt.cells, Pt.slots] at X18 l18 y18 z18 st18 hQ18
  subst l18 y18 z18
  obtain ⟨rfl, N18q, e18⟩ := hQ18
  have N19 := Fr.app N0 N18q
  obtain ⟨T20, h20, X20, e20, W20, st20⟩ := putF X18 hx hZ hown (host := "") (Or.inl (hw _ (List.mem_of_getElem? (i := 14) rfl))) Via.refl e18 F_millis E_a0 (Or.inl (hw _ (List.mem_of_getElem? (i := 15) rfl))) (hw _ (List.mem_of_getElem? (i := 1) rfl)) (ty := .long) (by decide) rfl rfl (g := (mkF m 9 #[.val (.ref a0), .val (.long q1), .second] [(.long (u_millis + q1)), (.ref a0)])) rfl rfl (hb hby d4_9)
  have E21 := E_a0.wr W20
  have F22 : Fld Z h20 a0 "tierlock/cli/ScenarioClock" "millis" "J" (.long (u_millis + q1)) := F_millis.same W20
  have N23 := Fr.snoc X20 N19 g_a0
  have K24 : Keep h0 h20 [a0] := K0.wr W20 (Or.inl (List.mem_of_getElem? (i := 0) rfl))
  have Z25 : n0 ≤ h20.size := Nat.le_trans Z0 (Keep.of_wr W20).1
  have pre26 : ∀ t, Steps p.tables e below (T20.setTop (mkF m 12 #[.val (.ref a0), .val (.long q1), .second] [])) t → Steps p.tables e below (s₁.setTop (entryFrame m #[(.ref a0), (.long q1)] 3)) t := fun t kt => by
    refine pre0 _ ?_
    show Steps p.tables e below (s₁.setTop (mkF m 0 #[.val (.ref a0), .val (.long q1), .second] [])) _
    refine XS.aloadN X0.here hx rfl (hb hby d4_0) rfl rfl ?_
    show Steps p.tables e below (s₁.setTop (mkF m 1 #[.val (.ref a0), .val (.long q1), .second] [(.ref a0)])) _
    refine XS.aloadN X0.here hx rfl (hb hby d4_1) rfl rfl ?_
    show Steps p.tables e below (s₁.setTop (mkF m 2 #[.val (.ref a0), .val (.long q1), .second] [(.ref a0), (.ref a0)])) _
    refine st17 _ ?_
    show Steps p.tables e below (T17.setTop (mkF m 5 #[.val (.ref a0), .val (.long q1), .second] [(.long u_millis), (.ref a0)])) _
    refine XS.lloadN X17.here hx rfl (hb hby d4_5) rfl ?_
    show Steps p.tables e below (T17.setTop (mkF m 6 #[.val (.ref a0), .val (.long q1), .second] [(.long q1), (.long u_millis), (.ref a0)])) _
    refine st18 _ ?_
    show Steps p.tables e below (T18.setTop (mkF m 9 #[.val (.ref a0), .val (.long q1), .second] [(.long (u_millis + q1)), (.ref a0)])) _
    refine st20 _ ?_
    show Steps p.tables e below (T20.setTop (mkF m 12 #[.val (.ref a0), .val (.long q1), .second] [])) _
    exact kt
  obtain ⟨fs, hr, hrun, hended, hW, hsame⟩ := X20.leave (v := none) (fun _ => rfl)
  refine ⟨_, _, pre26 _ ?_, hrun, hended, _, _, rfl, ?_, ⟨_, rfl⟩, hW, hsame.mono (by decide) (by decide)⟩
  · exact X20.returnOut hx Bd.returns (hb hby d4_12) hr
  · show Q4 Z a0 q1 u_millis h0 n0 _ T20.heap _
    rw [e20]
    exact ⟨rfl, N23, K24, E21, F22⟩
theorem pd93421996 : parseMethodDescriptor "()V" = some ⟨[], none⟩ := by decide +kernel
theorem pd93421984 : parseMethodDescriptor "()J" = some ⟨[], some .long⟩ := by decide +kernel
theorem pd87993110 : parseMethodDescriptor "(J)V" = some ⟨[.long], none⟩ := by decide +kernel
theorem pn68487317 : plainName "tierlock/cli/ScenarioClockAdvancePinLaw" = true := by first | (simp [plainName, overriddenIn]; done) | decide +kernel
theorem own_neg (x : Int64) : x < 0 ↔ x.toBitVec.msb = true := by
  rw [Int64.lt_iff_toInt_lt, BitVec.msb_eq_toInt, decide_eq_true_iff]
  exact Iff.rfl
theorem own_ov (a b : Int64) (h : ((a ^^^ (a + b)) &&& (b ^^^ (a + b))) < (0 : Int64)) : ((0 : Int64) < b ∧ ((9223372036854775807 : Int64) - b) < a) ∨ (b < (0 : Int64) ∧ a < ((-9223372036854775808 : Int64) - b)) := by
  rw [own_neg, Int64.toBitVec_and, Int64.toBitVec_xor, Int64.toBitVec_xor, BitVec.msb_and, BitVec.msb_xor, BitVec.msb_xor] at h
  have ea := own_neg a
  have eb := own_neg b
  have er := own_neg (a + b)
  have hA := a.toInt_lt
  have hA' := a.le_toInt
  have hB := b.toInt_lt
  have hB' := b.le_toInt
  have hr : (a + b).toInt = (a.toInt + b.toInt).bmod (2 ^ 64) := Int64.toInt_add a b
  rw [Int.bmod_def] at hr
  have m1 : (9223372036854775807 : Int64).toInt = 9223372036854775807 := by decide
  have m2 : (-9223372036854775808 : Int64).toInt = -9223372036854775808 := by decide
  have z0 : (0 : Int64).toInt = 0 := rfl
  rw [Int64.lt_iff_toInt_lt, z0] at ea eb er
  generalize (a + b).toInt = rr at *
  generalize (a + b).toBitVec.msb = rm at *
  generalize a.toBitVec.msb = am at *
  generalize b.toBitVec.msb = bm at *
  have s1 : 0 < b.toInt → ((9223372036854775807 : Int64) - b).toInt = 9223372036854775807 - b.toInt := fun q => by
    rw [Jvm.Kit.i64_sub (by rw [m1]; omega) (by rw [m1]; omega), m1]
  have s2 : b.toInt < 0 → ((-9223372036854775808 : Int64) - b).toInt = -9223372036854775808 - b.toInt := fun q => by
    rw [Jvm.Kit.i64_sub (by rw [m2]; omega) (by rw [m2]; omega), m2]
  simp only [Int64.lt_iff_toInt_lt, z0]
  cases am <;> cases bm <;> cases rm <;> simp at h ea eb er
  · left
    split at hr
    · exact ⟨by omega, by rw [s1 (by omega)]; omega⟩
    · exact ⟨by omega, by rw [s1 (by omega)]; omega⟩
  · right
    split at hr
    · exact ⟨by omega, by rw [s2 (by omega)]; omega⟩
    · exact ⟨by omega, by rw [s2 (by omega)]; omega⟩

theorem own_plain0 (q0 : Int64) (q1 : Int64) : ¬ ((((0 : Int64) ^^^ ((0 : Int64) + q0)) &&& (q0 ^^^ ((0 : Int64) + q0))) < (0 : Int64)) := by
  rw [Int64.zero_add]
  simp
theorem own_plain1 (q0 : Int64) (q1 : Int64)
    (v1 : Int32) (hv1 : v1 = (if ((0 : Int64) + q0) = q0 then (1 : Int32) else (0 : Int32)))
    (v2 : Int32) (hv2 : v2 = (if (0 : Int64) < q1 then (if ((9223372036854775807 : Int64) - q1) < q0 then (1 : Int32) else (if q1 < (0 : Int64) then (if q0 < ((-9223372036854775808 : Int64) - q1) then (1 : Int32) else (0 : Int32)) else (0 : Int32))) else (if q1 < (0 : Int64) then (if q0 < ((-9223372036854775808 : Int64) - q1) then (1 : Int32) else (0 : Int32)) else (0 : Int32))))
    (hc50 : v2 = (0 : Int32)) : ¬ (((((0 : Int64) + q0) ^^^ (((0 : Int64) + q0) + q1)) &&& (q1 ^^^ (((0 : Int64) + q0) + q1))) < (0 : Int64)) := by
  rw [Int64.zero_add]
  intro q
  rw [hv2] at hc50
  rcases own_ov q0 q1 q with ⟨a, b⟩ | ⟨a, b⟩
  · rw [if_pos a, if_pos b] at hc50
    exact absurd hc50 (by decide)
  · have a' : ¬ (0 : Int64) < q1 := by
      rw [Int64.lt_iff_toInt_lt] at a ⊢
      omega
    rw [if_neg a', if_pos a, if_pos b] at hc50
    exact absurd hc50 (by decide)
theorem own_plain2 (q0 : Int64) (q1 : Int64)
    (v1 : Int32) (hv1 : v1 = (if ((0 : Int64) + q0) = q0 then (1 : Int32) else (0 : Int32)))
    (v2 : Int32) (hv2 : v2 = (if (0 : Int64) < q1 then (if ((9223372036854775807 : Int64) - q1) < q0 then (1 : Int32) else (if q1 < (0 : Int64) then (if q0 < ((-9223372036854775808 : Int64) - q1) then (1 : Int32) else (0 : Int32)) else (0 : Int32))) else (if q1 < (0 : Int64) then (if q0 < ((-9223372036854775808 : Int64) - q1) then (1 : Int32) else (0 : Int32)) else (0 : Int32))))
    (v3 : Int32) (hv3 : v3 = (if v1 = (0 : Int32) then (0 : Int32) else (if (((0 : Int64) + q0) + q1) = (q0 + q1) then (1 : Int32) else (0 : Int32))))
    (hc50 : v2 = (0 : Int32)) : v3 = 1 := by
  rw [Int64.zero_add] at hv1 hv3
  rw [if_pos rfl] at hv1
  rw [hv3, hv1, if_neg (by decide), if_pos rfl]
theorem own_plain3 (q0 : Int64) (q1 : Int64)
    (v1 : Int32) (hv1 : v1 = (if ((0 : Int64) + q0) = q0 then (1 : Int32) else (0 : Int32)))
    (v2 : Int32) (hv2 : v2 = (if (0 : Int64) < q1 then (if ((9223372036854775807 : Int64) - q1) < q0 then (1 : Int32) else (if q1 < (0 : Int64) then (if q0 < ((-9223372036854775808 : Int64) - q1) then (1 : Int32) else (0 : Int32)) else (0 : Int32))) else (if q1 < (0 : Int64) then (if q0 < ((-9223372036854775808 : Int64) - q1) then (1 : Int32) else (0 : Int32)) else (0 : Int32))))
    (hc50 : ¬ (v2 = (0 : Int32))) : v1 = 1 := by
  rw [Int64.zero_add] at hv1
  rw [hv1, if_pos rfl]
theorem ef_0 (m : MethodId) (q0 : Int64) (q1 : Int64) : entryFrame m #[(.long q0), (.long q1)] maxLocals = mkF m 0 #[.val (.long q0), .second, .val (.long q1), .second, .unset, .unset, .unset] [] := by first | (simp [entryFrame, mkF, argsToLocals, Value.category, maxLocals]; done) | rfl
def Q0 (n0 : Nat) (v : Option Value) (L : List Loc) : Prop := v = some (.int (1 : Int32)) ∧ Fr n0 L
set_option maxRecDepth 65536 in
set_option maxHeartbeats 40000000 in
theorem rm0 (l : Launch) (Z : State) (aq : Array Value) (hw : ∀ d ∈ tables_1, d.before aq Z = true) (ws : List Jvm.Cond) (q0 : Int64) (q1 : Int64) (h0 : Heap) (n0 : Nat) (Z0 : n0 ≤ h0.size) :
    MetFree l x (head1 (Jvm.Cond.code x code maxLocals ret :: ws) room_1) (fun a U => a = #[(.long q0), (.long q1)] ∧ Z.Warmed39 U.vm ∧ U.heap = h0) (fun _ _ _ _ _ => True) (fun _ U o U' => ∃ v L, o = .returned v ∧ Q0 n0 v L ∧ FrameEnd U o U' L room_1.cells room_1.slots) := by
  refine MetFree.of_bodySF (plainFor_of_name pn68487317) hisR ?_
  intro p e s m args below meth c s₁ Bd hml0 hP hK
  obtain ⟨rfl, hZ, hh⟩ := hP
  have hx := Bd.exec
  have hby := Bd.bytes
  have hml : c.maxLocals = 7 := hml0
  have hown : s.vm.findClass "tierlock/cli/ScenarioClockAdvancePinLaw" = some m.cls := findClass_of_methodNamed Bd.named
  have X0 : Stand p l e room_1 s m #[(.long q0), (.long q1)] below meth c s₁ [] 0 0 := Stand.of_body Bd
  have e0 : s₁.heap = h0 := by rw [← hh, Bd.state]; rfl
  have N0 := Fr.nil n0
  have pre0 : ∀ t, Steps p.tables e below (s₁.setTop (mkF m 0 #[.val (.long q0), .second, .val (.long q1), .second, .unset, .unset, .unset] [])) t → Steps p.tables e below (s₁.setTop (entryFrame m #[(.long q0), (.long q1)] maxLocals)) t := fun t k => castTop (ef_0 m q0 q1) k
  obtain ⟨T27, h27, X27, e27, E27, A27, D27, -, st27⟩ := newO X0 hx hZ hown (hw _ (List.mem_of_getElem? (i := 0) rfl)) (hw _ (List.mem_of_getElem? (i := 1) rfl)) (hw _ (List.mem_of_getElem? (i := 2) rfl)) e0 (g := (mkF m 0 #[.val (.long q0), .second, .val (.long q1), .second, .unset, .unset, .unset] [])) rfl (hb hby at_0) (by decide) (by decide)
  obtain ⟨b27, g27⟩ : ∃ z, z = h0.size := ⟨_, rfl⟩
  rw [← g27] at A27 D27 st27
  have g_b27 : n0 ≤ b27 := Nat.le_trans Z0 (Nat.le_of_eq g27.symm)
  have Z28 : n0 ≤ h27.size := Nat.le_trans Z0 E27.1
  have F27_millis : Fld Z h27 b27 "tierlock/cli/ScenarioClock" "millis" "J" (.long (0 : Int64)) := D27 (Or.inl (hw _ (List.mem_of_getElem? (i := 15) rfl))) (ty := .long) (by decide)
  obtain ⟨_, _, ⟨T29, L29, k29, n29⟩, -, X29, ⟨Lc29, hQ29, l29, y29, z29⟩, st29⟩ := X27.specialBack hx (y := (⟨"tierlock/cli/ScenarioClock", "<init>", "()V"⟩ : MethodName)) rfl hown (mvT hZ (hw _ (List.mem_of_getElem? (i := 3) rfl))) (mvT hZ (hw _ (List.mem_of_getElem? (i := 4) rfl))) (mvT hZ (hw _ (List.mem_of_getElem? (i := 5) rfl))) (by decide) (backOf (W := 1) (rm1 l Z aq hw [] b27 (0 : Int64) h27 n0 Z28 A27 F27_millis) hZ (hw _ (List.mem_of_getElem? (i := 5) rfl)) (hw _ (List.mem_of_getElem? (i := 2) rfl)) (by decide) (by decide)) (g := (mkF m 4 #[.val (.long q0), .second, .val (.long q1), .second, .unset, .unset, .unset] [(.ref b27), (.ref b27)])) rfl (by rw [hml]; rfl) (Steps.refl _) (a := b27) (argsL := []) (rest := [(.ref b27)]) (lenOf pd93421996 rfl) rfl (by show 2 * 0 + _ ≤ _; exact Nat.le_of_eq rfl) (hb hby at_4) (fun _ _ => ⟨rfl, e27, (by decide : 1 + 0 ≤ _), (by decide : 1 + 0 ≤ _)⟩)
  dsimp only [Pt.U, Pt.locs, Pt.cells, Pt.slots] at X29 l29 y29 z29 st29 hQ29
  subst l29 y29 z29
  obtain ⟨rfl, N29q, e29⟩ := hQ29
  have N30 := Fr.app N0 N29q
  obtain ⟨cq31, kq31, q31a, q31b, q31c⟩ := isOf hZ e29 A27
  obtain ⟨_, _, ⟨T31, L31, k31, n31⟩, -, X31, ⟨Lc31, hQ31, l31, y31, z31⟩, st31⟩ := X29.virtualBack hx (y := (⟨"tierlock/cli/ScenarioClock", "millis", "()J"⟩ : MethodName)) (z := (⟨"tierlock/cli/ScenarioClock", "millis", "()J"⟩ : MethodName)) hown (mvT hZ (hw _ (List.mem_of_getElem? (i := 9) rfl))) (mvT hZ (hw _ (List.mem_of_getElem? (i := 10) rfl))) (notFace_of_selects (args := #[]) (mvT hZ (hw _ (List.mem_of_getElem? (i := 12) rfl)))) (mvT hZ (hw _ (List.mem_of_getElem? (i := 12) rfl))) (mvT hZ (hw _ (List.mem_of_getElem? (i := 11) rfl))) (by decide) (backOf (W := 0) (rm3 l Z aq hw [] b27 (0 : Int64) h27 n0 Z28 A27 F27_millis) hZ (hw _ (List.mem_of_getElem? (i := 13) rfl)) (hw _ (List.mem_of_getElem? (i := 2) rfl)) (by decide) (by decide)) q31a q31c (g := (mkF m 11 #[.val (.long q0), .second, .val (.long q1), .second, .val (.ref b27), .unset, .unset] [(.ref b27)])) rfl (by rw [hml]; rfl) (Steps.refl _) (argsL := []) (rest := []) (lenOf pd93421984 rfl) rfl (by show 2 * 0 + _ ≤ _; exact Nat.le_of_eq rfl) (hb hby at_11) (fun _ _ => ⟨rfl, e29, (by decide : 1 + 0 ≤ _), (by decide : 1 + 0 ≤ _)⟩)
  dsimp only [Pt.U, Pt.locs, Pt.cells, Pt.slots] at X31 l31 y31 z31 st31 hQ31
  subst l31 y31 z31
  obtain ⟨rfl, N31q, e31⟩ := hQ31
  have N32 := Fr.app N30 N31q
  obtain ⟨cq33, kq33, q33a, q33b, q33c⟩ := isOf hZ e31 A27
  obtain ⟨_, _, ⟨T33, L33, k33, n33⟩, -, X33, ⟨Lc33, hQ33, l33, y33, z33⟩, st33⟩ := X31.virtualBack hx (y := (⟨"tierlock/cli/ScenarioClock", "advance", "(J)V"⟩ : MethodName)) (z := (⟨"tierlock/cli/ScenarioClock", "advance", "(J)V"⟩ : MethodName)) hown (mvT hZ (hw _ (List.mem_of_getElem? (i := 16) rfl))) (mvT hZ (hw _ (List.mem_of_getElem? (i := 17) rfl))) (notFace_of_selects (args := #[]) (mvT hZ (hw _ (List.mem_of_getElem? (i := 19) rfl)))) (mvT hZ (hw _ (List.mem_of_getElem? (i := 19) rfl))) (mvT hZ (hw _ (List.mem_of_getElem? (i := 18) rfl))) (by decide) (backOf (W := 0) (rm4 l Z aq hw [] b27 q0 (0 : Int64) h27 n0 Z28 A27 F27_millis g_b27 (own_plain0 q0 q1)) hZ (hw _ (List.mem_of_getElem? (i := 20) rfl)) (hw _ (List.mem_of_getElem? (i := 2) rfl)) (by decide) (by decide)) q33a q33c (g := (mkF m 29 #[.val (.long q0), .second, .val (.long q1), .second, .val (.ref b27), .val (.int (1 : Int32)), .unset] [(.long q0), (.ref b27)])) rfl (by rw [hml]; rfl) (Steps.refl _) (argsL := [(.long q0)]) (rest := []) (lenOf pd87993110 rfl) rfl (by show 2 * 0 + _ ≤ _; exact Nat.le_of_eq rfl) (hb hby at_29) (fun _ _ => ⟨rfl, e31, (by decide : 1 + 0 ≤ _), (by decide : 1 + 0 ≤ _)⟩)
  dsimp only [Pt.U, Pt.locs, Pt.cells, Pt.slots] at X33 l33 y33 z33 st33 hQ33
  subst l33 y33 z33
  obtain ⟨rfl, N33q, K33, E33_0, F33_0⟩ := hQ33
  have Z34 : n0 ≤ T33.heap.size := Nat.le_trans Z28 K33.1
  have N35 := Fr.app N32 N33q
  obtain ⟨cq36, kq36, q36a, q36b, q36c⟩ := isOf hZ rfl E33_0
  obtain ⟨_, _, ⟨T36, L36, k36, n36⟩, -, X36, ⟨Lc36, hQ36, l36, y36, z36⟩, st36⟩ := X33.virtualBack hx (y := (⟨"tierlock/cli/ScenarioClock", "millis", "()J"⟩ : MethodName)) (z := (⟨"tierlock/cli/ScenarioClock", "millis", "()J"⟩ : MethodName)) hown (mvT hZ (hw _ (List.mem_of_getElem? (i := 9) rfl))) (mvT hZ (hw _ (List.mem_of_getElem? (i := 10) rfl))) (notFace_of_selects (args := #[]) (mvT hZ (hw _ (List.mem_of_getElem? (i := 12) rfl)))) (mvT hZ (hw _ (List.mem_of_getElem? (i := 12) rfl))) (mvT hZ (hw _ (List.mem_of_getElem? (i := 11) rfl))) (by decide) (backOf (W := 0) (rm3 l Z aq hw [] b27 ((0 : Int64) + q0) T33.heap n0 Z34 E33_0 F33_0) hZ (hw _ (List.mem_of_getElem? (i := 13) rfl)) (hw _ (List.mem_of_getElem? (i := 2) rfl)) (by decide) (by decide)) q36a q36c (g := (mkF m 39 #[.val (.long q0), .second, .val (.long q1), .second, .val (.ref b27), .val (.int (1 : Int32)), .unset] [(.ref b27)])) rfl (by rw [hml]; rfl) (Steps.refl _) (argsL := []) (rest := []) (lenOf pd93421984 rfl) rfl (by show 2 * 0 + _ ≤ _; exact Nat.le_of_eq rfl) (hb hby at_39) (fun _ _ => ⟨rfl, rfl, (by decide : 1 + 0 ≤ _), (by decide : 1 + 0 ≤ _)⟩)
  dsimp only [Pt.U, Pt.locs, Pt.cells, Pt.slots] at X36 l36 y36 z36 st36 hQ36
  subst l36 y36 z36
  obtain ⟨rfl, N36q, e36⟩ := hQ36
  have N37 := Fr.app N35 N36q
  have pre38 : ∀ t, Steps p.tables e below (T36.setTop (mkF m 44 #[.val (.long q0), .second, .val (.long q1), .second, .val (.ref b27), .val (.int (1 : Int32)), .unset] [(.int (lcmpW ((0 : Int64) + q0) q0))])) t → Steps p.tables e below (s₁.setTop (entryFrame m #[(.long q0), (.long q1)] maxLocals)) t := fun t kt => by
    refine pre0 _ ?_
    show Steps p.tables e below (s₁.setTop (mkF m 0 #[.val (.long q0), .second, .val (.long q1), .second, .unset, .unset, .unset] [])) _
    refine st27 _ ?_
    show Steps p.tables e below (T27.setTop (mkF m 3 #[.val (.long q0), .second, .val (.long q1), .second, .unset, .unset, .unset] [(.ref b27)])) _
    refine XS.dup X27.here hx rfl (hb hby at_3) rfl rfl ?_
    show Steps p.tables e below (T27.setTop (mkF m 4 #[.val (.long q0), .second, .val (.long q1), .second, .unset, .unset, .unset] [(.ref b27), (.ref b27)])) _
    refine st29.trans ?_
    show Steps p.tables e below (T29.setTop (mkF m 7 #[.val (.long q0), .second, .val (.long q1), .second, .unset, .unset, .unset] [(.ref b27)])) _
    refine XS.astore X29.here hx rfl (hb hby at_7) rfl rfl (l' := #[.val (.long q0), .second, .val (.long q1), .second, .val (.ref b27), .unset, .unset]) rfl ?_
    show Steps p.tables e below (T29.setTop (mkF m 9 #[.val (.long q0), .second, .val (.long q1), .second, .val (.ref b27), .unset, .unset] [])) _
    refine XS.aload X29.here hx rfl (hb hby at_9) rfl rfl ?_
    show Steps p.tables e below (T29.setTop (mkF m 11 #[.val (.long q0), .second, .val (.long q1), .second, .val (.ref b27), .unset, .unset] [(.ref b27)])) _
    refine st31.trans ?_
    show Steps p.tables e below (T31.setTop (mkF m 14 #[.val (.long q0), .second, .val (.long q1), .second, .val (.ref b27), .unset, .unset] [(.long (0 : Int64))])) _
    refine XS.lconst X31.here hx rfl (hb hby at_14) ?_
    show Steps p.tables e below (T31.setTop (mkF m 15 #[.val (.long q0), .second, .val (.long q1), .second, .val (.ref b27), .unset, .unset] [(.long (0 : Int64)), (.long (0 : Int64))])) _
    refine XS.lcmp X31.here hx rfl (hb hby at_15) rfl ?_
    show Steps p.tables e below (T31.setTop (mkF m 16 #[.val (.long q0), .second, .val (.long q1), .second, .val (.ref b27), .unset, .unset] [(.int (lcmpW (0 : Int64) (0 : Int64)))])) _
    refine XS.ifNo X31.here hx rfl (hb hby at_16) rfl ((if0 _ _).trans (teq (own_lwE (by decide : (0 : Int64) = (0 : Int64)))).2) ?_
    show Steps p.tables e below (T31.setTop (mkF m 19 #[.val (.long q0), .second, .val (.long q1), .second, .val (.ref b27), .unset, .unset] [])) _
    refine XS.iconst X31.here hx rfl (hb hby at_19) ?_
    show Steps p.tables e below (T31.setTop (mkF m 20 #[.val (.long q0), .second, .val (.long q1), .second, .val (.ref b27), .unset, .unset] [(.int (1 : Int32))])) _
    refine XS.goto X31.here hx rfl (pc0 := 20) (pc' := 24) rfl (hb hby at_20) (by decide) (by decide) ?_
    show Steps p.tables e below (T31.setTop (mkF m 24 #[.val (.long q0), .second, .val (.long q1), .second, .val (.ref b27), .unset, .unset] [(.int (1 : Int32))])) _
    refine XS.istore X31.here hx rfl (hb hby at_24) rfl (l' := #[.val (.long q0), .second, .val (.long q1), .second, .val (.ref b27), .val (.int (1 : Int32)), .unset]) rfl ?_
    show Steps p.tables e below (T31.setTop (mkF m 26 #[.val (.long q0), .second, .val (.long q1), .second, .val (.ref b27), .val (.int (1 : Int32)), .unset] [])) _
    refine XS.aload X31.here hx rfl (hb hby at_26) rfl rfl ?_
    show Steps p.tables e below (T31.setTop (mkF m 28 #[.val (.long q0), .second, .val (.long q1), .second, .val (.ref b27), .val (.int (1 : Int32)), .unset] [(.ref b27)])) _
    refine XS.lloadN X31.here hx rfl (hb hby at_28) rfl ?_
    show Steps p.tables e below (T31.setTop (mkF m 29 #[.val (.long q0), .second, .val (.long q1), .second, .val (.ref b27), .val (.int (1 : Int32)), .unset] [(.long q0), (.ref b27)])) _
    refine st33.trans ?_
    show Steps p.tables e below (T33.setTop (mkF m 32 #[.val (.long q0), .second, .val (.long q1), .second, .val (.ref b27), .val (.int (1 : Int32)), .unset] [])) _
    refine XS.iload X33.here hx rfl (hb hby at_32) rfl ?_
    show Steps p.tables e below (T33.setTop (mkF m 34 #[.val (.long q0), .second, .val (.long q1), .second, .val (.ref b27), .val (.int (1 : Int32)), .unset] [(.int (1 : Int32))])) _
    refine XS.ifNo X33.here hx rfl (hb hby at_34) rfl ((if0 _ _).trans (feq (by decide : ¬ ((1 : Int32) = (0 : Int32)))).1) ?_
    show Steps p.tables e below (T33.setTop (mkF m 37 #[.val (.long q0), .second, .val (.long q1), .second, .val (.ref b27), .val (.int (1 : Int32)), .unset] [])) _
    refine XS.aload X33.here hx rfl (hb hby at_37) rfl rfl ?_
    show Steps p.tables e below (T33.setTop (mkF m 39 #[.val (.long q0), .second, .val (.long q1), .second, .val (.ref b27), .val (.int (1 : Int32)), .unset] [(.ref b27)])) _
    refine st36.trans ?_
    show Steps p.tables e below (T36.setTop (mkF m 42 #[.val (.long q0), .second, .val (.long q1), .second, .val (.ref b27), .val (.int (1 : Int32)), .unset] [(.long ((0 : Int64) + q0))])) _
    refine XS.lloadN X36.here hx rfl (hb hby at_42) rfl ?_
    show Steps p.tables e below (T36.setTop (mkF m 43 #[.val (.long q0), .second, .val (.long q1), .second, .val (.ref b27), .val (.int (1 : Int32)), .unset] [(.long q0), (.long ((0 : Int64) + q0))])) _
    refine XS.lcmp X36.here hx rfl (hb hby at_43) rfl ?_
    show Steps p.tables e below (T36.setTop (mkF m 44 #[.val (.long q0), .second, .val (.long q1), .second, .val (.ref b27), .val (.int (1 : Int32)), .unset] [(.int (lcmpW ((0 : Int64) + q0) q0))])) _
    exact kt
  obtain ⟨v1, hv1⟩ : ∃ z : Int32, z = (if ((0 : Int64) + q0) = q0 then (1 : Int32) else (0 : Int32)) := ⟨_, rfl⟩
  have pre40 : ∀ t, Steps p.tables e below (T36.setTop (mkF m 52 #[.val (.long q0), .second, .val (.long q1), .second, .val (.ref b27), .val (.int (1 : Int32)), .unset] [(.int v1)])) t → Steps p.tables e below (s₁.setTop (entryFrame m #[(.long q0), (.long q1)] maxLocals)) t := fun t kt => by
    refine pre38 _ ?_
    show Steps p.tables e below (T36.setTop (mkF m 44 #[.val (.long q0), .second, .val (.long q1), .second, .val (.ref b27), .val (.int (1 : Int32)), .unset] [(.int (lcmpW ((0 : Int64) + q0) q0))])) _
    by_cases hc39 : ((0 : Int64) + q0) = q0
    · rw [if_pos hc39] at hv1
      refine XS.ifNo X36.here hx rfl (hb hby at_44) rfl ((if0 _ _).trans (teq (own_lwE hc39)).2) ?_
      show Steps p.tables e below (T36.setTop (mkF m 47 #[.val (.long q0), .second, .val (.long q1), .second, .val (.ref b27), .val (.int (1 : Int32)), .unset] [])) _
      refine XS.iconst X36.here hx rfl (hb hby at_47) ?_
      show Steps p.tables e below (T36.setTop (mkF m 48 #[.val (.long q0), .second, .val (.long q1), .second, .val (.ref b27), .val (.int (1 : Int32)), .unset] [(.int (1 : Int32))])) _
      refine XS.goto X36.here hx rfl (pc0 := 48) (pc' := 52) rfl (hb hby at_48) (by decide) (by decide) ?_
      subst hv1
      exact kt
    · rw [if_neg hc39] at hv1
      refine XS.ifYes X36.here hx rfl (pc0 := 44) (pc' := 51) rfl (hb hby at_44) rfl ((if0 _ _).trans (feq (own_lwN hc39)).2) (by decide) (by decide) ?_
      show Steps p.tables e below (T36.setTop (mkF m 51 #[.val (.long q0), .second, .val (.long q1), .second, .val (.ref b27), .val (.int (1 : Int32)), .unset] [])) _
      refine XS.iconst X36.here hx rfl (hb hby at_51) ?_
      subst hv1
      exact kt
  have pre41 : ∀ t, Steps p.tables e below (T36.setTop (mkF m 57 #[.val (.long q0), .second, .val (.long q1), .second, .val (.ref b27), .val (.int v1), .unset] [(.int (lcmpW q1 (0 : Int64)))])) t → Steps p.tables e below (s₁.setTop (entryFrame m #[(.long q0), (.long q1)] maxLocals)) t := fun t kt => by
    refine pre40 _ ?_
    show Steps p.tables e below (T36.setTop (mkF m 52 #[.val (.long q0), .second, .val (.long q1), .second, .val (.ref b27), .val (.int (1 : Int32)), .unset] [(.int v1)])) _
    refine XS.istore X36.here hx rfl (hb hby at_52) rfl (l' := #[.val (.long q0), .second, .val (.long q1), .second, .val (.ref b27), .val (.int v1), .unset]) rfl ?_
    show Steps p.tables e below (T36.setTop (mkF m 54 #[.val (.long q0), .second, .val (.long q1), .second, .val (.ref b27), .val (.int v1), .unset] [])) _
    refine XS.lloadN X36.here hx rfl (hb hby at_54) rfl ?_
    show Steps p.tables e below (T36.setTop (mkF m 55 #[.val (.long q0), .second, .val (.long q1), .second, .val (.ref b27), .val (.int v1), .unset] [(.long q1)])) _
    refine XS.lconst X36.here hx rfl (hb hby at_55) ?_
    show Steps p.tables e below (T36.setTop (mkF m 56 #[.val (.long q0), .second, .val (.long q1), .second, .val (.ref b27), .val (.int v1), .unset] [(.long (0 : Int64)), (.long q1)])) _
    refine XS.lcmp X36.here hx rfl (hb hby at_56) rfl ?_
    show Steps p.tables e below (T36.setTop (mkF m 57 #[.val (.long q0), .second, .val (.long q1), .second, .val (.ref b27), .val (.int v1), .unset] [(.int (lcmpW q1 (0 : Int64)))])) _
    exact kt
  obtain ⟨v2, hv2⟩ : ∃ z : Int32, z = (if (0 : Int64) < q1 then (if ((9223372036854775807 : Int64) - q1) < q0 then (1 : Int32) else (if q1 < (0 : Int64) then (if q0 < ((-9223372036854775808 : Int64) - q1) then (1 : Int32) else (0 : Int32)) else (0 : Int32))) else (if q1 < (0 : Int64) then (if q0 < ((-9223372036854775808 : Int64) - q1) then (1 : Int32) else (0 : Int32)) else (0 : Int32))) := ⟨_, rfl⟩
  have pre48 : ∀ t, Steps p.tables e below (T36.setTop (mkF m 91 #[.val (.long q0), .second, .val (.long q1), .second, .val (.ref b27), .val (.int v1), .unset] [(.int v2)])) t → Steps p.tables e below (s₁.setTop (entryFrame m #[(.long q0), (.long q1)] maxLocals)) t := fun t kt => by
    refine pre41 _ ?_
    show Steps p.tables e below (T36.setTop (mkF m 57 #[.val (.long q0), .second, .val (.long q1), .second, .val (.ref b27), .val (.int v1), .unset] [(.int (lcmpW q1 (0 : Int64)))])) _
    by_cases hc42 : (0 : Int64) < q1
    · rw [if_pos hc42] at hv2
      refine XS.ifNo X36.here hx rfl (hb hby at_57) rfl ((if0 _ _).trans (tlt (own_lwG hc42)).2.2.2) ?_
      show Steps p.tables e below (T36.setTop (mkF m 60 #[.val (.long q0), .second, .val (.long q1), .second, .val (.ref b27), .val (.int v1), .unset] [])) _
      refine XS.lloadN X36.here hx rfl (hb hby at_60) rfl ?_
      show Steps p.tables e below (T36.setTop (mkF m 61 #[.val (.long q0), .second, .val (.long q1), .second, .val (.ref b27), .val (.int v1), .unset] [(.long q0)])) _
      refine X36.ldc2Long hx hown (mvT hZ (hw _ (List.mem_of_getElem? (i := 25) rfl))) (g := (mkF m 61 #[.val (.long q0), .second, .val (.long q1), .second, .val (.ref b27), .val (.int v1), .unset] [(.long q0)])) rfl (hb hby at_61) _ ?_
      show Steps p.tables e below (T36.setTop (mkF m 64 #[.val (.long q0), .second, .val (.long q1), .second, .val (.ref b27), .val (.int v1), .unset] [(.long (9223372036854775807 : Int64)), (.long q0)])) _
      refine XS.lloadN X36.here hx rfl (hb hby at_64) rfl ?_
      show Steps p.tables e below (T36.setTop (mkF m 65 #[.val (.long q0), .second, .val (.long q1), .second, .val (.ref b27), .val (.int v1), .unset] [(.long q1), (.long (9223372036854775807 : Int64)), (.long q0)])) _
      refine XS.lsub X36.here hx rfl (hb hby at_65) rfl ?_
      show Steps p.tables e below (T36.setTop (mkF m 66 #[.val (.long q0), .second, .val (.long q1), .second, .val (.ref b27), .val (.int v1), .unset] [(.long ((9223372036854775807 : Int64) - q1)), (.long q0)])) _
      refine XS.lcmp X36.here hx rfl (hb hby at_66) rfl ?_
      show Steps p.tables e below (T36.setTop (mkF m 67 #[.val (.long q0), .second, .val (.long q1), .second, .val (.ref b27), .val (.int v1), .unset] [(.int (lcmpW q0 ((9223372036854775807 : Int64) - q1)))])) _
      by_cases hc43 : ((9223372036854775807 : Int64) - q1) < q0
      · rw [if_pos hc43] at hv2
        refine XS.ifYes X36.here hx rfl (pc0 := 67) (pc' := 86) rfl (hb hby at_67) rfl ((if0 _ _).trans (tlt (own_lwG hc43)).2.2.1) (by decide) (by decide) ?_
        show Steps p.tables e below (T36.setTop (mkF m 86 #[.val (.long q0), .second, .val (.long q1), .second, .val (.ref b27), .val (.int v1), .unset] [])) _
        refine XS.iconst X36.here hx rfl (hb hby at_86) ?_
        show Steps p.tables e below (T36.setTop (mkF m 87 #[.val (.long q0), .second, .val (.long q1), .second, .val (.ref b27), .val (.int v1), .unset] [(.int (1 : Int32))])) _
        refine XS.goto X36.here hx rfl (pc0 := 87) (pc' := 91) rfl (hb hby at_87) (by decide) (by decide) ?_
        subst hv2
        exact kt
      · rw [if_neg hc43] at hv2
        refine XS.ifNo X36.here hx rfl (hb hby at_67) rfl ((if0 _ _).trans (flt (own_lwH hc43)).2.2.1) ?_
        show Steps p.tables e below (T36.setTop (mkF m 70 #[.val (.long q0), .second, .val (.long q1), .second, .val (.ref b27), .val (.int v1), .unset] [])) _
        refine XS.lloadN X36.here hx rfl (hb hby at_70) rfl ?_
        show Steps p.tables e below (T36.setTop (mkF m 71 #[.val (.long q0), .second, .val (.long q1), .second, .val (.ref b27), .val (.int v1), .unset] [(.long q1)])) _
        refine XS.lconst X36.here hx rfl (hb hby at_71) ?_
        show Steps p.tables e below (T36.setTop (mkF m 72 #[.val (.long q0), .second, .val (.long q1), .second, .val (.ref b27), .val (.int v1), .unset] [(.long (0 : Int64)), (.long q1)])) _
        refine XS.lcmp X36.here hx rfl (hb hby at_72) rfl ?_
        show Steps p.tables e below (T36.setTop (mkF m 73 #[.val (.long q0), .second, .val (.long q1), .second, .val (.ref b27), .val (.int v1), .unset] [(.int (lcmpW q1 (0 : Int64)))])) _
        by_cases hc44 : q1 < (0 : Int64)
        · rw [if_pos hc44] at hv2
          refine XS.ifNo X36.here hx rfl (hb hby at_73) rfl ((if0 _ _).trans (tlt (own_lwL hc44)).2.1) ?_
          show Steps p.tables e below (T36.setTop (mkF m 76 #[.val (.long q0), .second, .val (.long q1), .second, .val (.ref b27), .val (.int v1), .unset] [])) _
          refine XS.lloadN X36.here hx rfl (hb hby at_76) rfl ?_
          show Steps p.tables e below (T36.setTop (mkF m 77 #[.val (.long q0), .second, .val (.long q1), .second, .val (.ref b27), .val (.int v1), .unset] [(.long q0)])) _
          refine X36.ldc2Long hx hown (mvT hZ (hw _ (List.mem_of_getElem? (i := 26) rfl))) (g := (mkF m 77 #[.val (.long q0), .second, .val (.long q1), .second, .val (.ref b27), .val (.int v1), .unset] [(.long q0)])) rfl (hb hby at_77) _ ?_
          show Steps p.tables e below (T36.setTop (mkF m 80 #[.val (.long q0), .second, .val (.long q1), .second, .val (.ref b27), .val (.int v1), .unset] [(.long (-9223372036854775808 : Int64)), (.long q0)])) _
          refine XS.lloadN X36.here hx rfl (hb hby at_80) rfl ?_
          show Steps p.tables e below (T36.setTop (mkF m 81 #[.val (.long q0), .second, .val (.long q1), .second, .val (.ref b27), .val (.int v1), .unset] [(.long q1), (.long (-9223372036854775808 : Int64)), (.long q0)])) _
          refine XS.lsub X36.here hx rfl (hb hby at_81) rfl ?_
          show Steps p.tables e below (T36.setTop (mkF m 82 #[.val (.long q0), .second, .val (.long q1), .second, .val (.ref b27), .val (.int v1), .unset] [(.long ((-9223372036854775808 : Int64) - q1)), (.long q0)])) _
          refine XS.lcmp X36.here hx rfl (hb hby at_82) rfl ?_
          show Steps p.tables e below (T36.setTop (mkF m 83 #[.val (.long q0), .second, .val (.long q1), .second, .val (.ref b27), .val (.int v1), .unset] [(.int (lcmpW q0 ((-9223372036854775808 : Int64) - q1)))])) _
          by_cases hc45 : q0 < ((-9223372036854775808 : Int64) - q1)
          · rw [if_pos hc45] at hv2
            refine XS.ifNo X36.here hx rfl (hb hby at_83) rfl ((if0 _ _).trans (tlt (own_lwL hc45)).2.1) ?_
            show Steps p.tables e below (T36.setTop (mkF m 86 #[.val (.long q0), .second, .val (.long q1), .second, .val (.ref b27), .val (.int v1), .unset] [])) _
            refine XS.iconst X36.here hx rfl (hb hby at_86) ?_
            show Steps p.tables e below (T36.setTop (mkF m 87 #[.val (.long q0), .second, .val (.long q1), .second, .val (.ref b27), .val (.int v1), .unset] [(.int (1 : Int32))])) _
            refine XS.goto X36.here hx rfl (pc0 := 87) (pc' := 91) rfl (hb hby at_87) (by decide) (by decide) ?_
            subst hv2
            exact kt
          · rw [if_neg hc45] at hv2
            refine XS.ifYes X36.here hx rfl (pc0 := 83) (pc' := 90) rfl (hb hby at_83) rfl ((if0 _ _).trans (flt (own_lwM hc45)).2.1) (by decide) (by decide) ?_
            show Steps p.tables e below (T36.setTop (mkF m 90 #[.val (.long q0), .second, .val (.long q1), .second, .val (.ref b27), .val (.int v1), .unset] [])) _
            refine XS.iconst X36.here hx rfl (hb hby at_90) ?_
            subst hv2
            exact kt
        · rw [if_neg hc44] at hv2
          refine XS.ifYes X36.here hx rfl (pc0 := 73) (pc' := 90) rfl (hb hby at_73) rfl ((if0 _ _).trans (flt (own_lwM hc44)).2.1) (by decide) (by decide) ?_
          show Steps p.tables e below (T36.setTop (mkF m 90 #[.val (.long q0), .second, .val (.long q1), .second, .val (.ref b27), .val (.int v1), .unset] [])) _
          refine XS.iconst X36.here hx rfl (hb hby at_90) ?_
          subst hv2
          exact kt
    · rw [if_neg hc42] at hv2
      refine XS.ifYes X36.here hx rfl (pc0 := 57) (pc' := 70) rfl (hb hby at_57) rfl ((if0 _ _).trans (flt (own_lwH hc42)).2.2.2) (by decide) (by decide) ?_
      show Steps p.tables e below (T36.setTop (mkF m 70 #[.val (.long q0), .second, .val (.long q1), .second, .val (.ref b27), .val (.int v1), .unset] [])) _
      refine XS.lloadN X36.here hx rfl (hb hby at_70) rfl ?_
      show Steps p.tables e below (T36.setTop (mkF m 71 #[.val (.long q0), .second, .val (.long q1), .second, .val (.ref b27), .val (.int v1), .unset] [(.long q1)])) _
      refine XS.lconst X36.here hx rfl (hb hby at_71) ?_
      show Steps p.tables e below (T36.setTop (mkF m 72 #[.val (.long q0), .second, .val (.long q1), .second, .val (.ref b27), .val (.int v1), .unset] [(.long (0 : Int64)), (.long q1)])) _
      refine XS.lcmp X36.here hx rfl (hb hby at_72) rfl ?_
      show Steps p.tables e below (T36.setTop (mkF m 73 #[.val (.long q0), .second, .val (.long q1), .second, .val (.ref b27), .val (.int v1), .unset] [(.int (lcmpW q1 (0 : Int64)))])) _
      by_cases hc46 : q1 < (0 : Int64)
      · rw [if_pos hc46] at hv2
        refine XS.ifNo X36.here hx rfl (hb hby at_73) rfl ((if0 _ _).trans (tlt (own_lwL hc46)).2.1) ?_
        show Steps p.tables e below (T36.setTop (mkF m 76 #[.val (.long q0), .second, .val (.long q1), .second, .val (.ref b27), .val (.int v1), .unset] [])) _
        refine XS.lloadN X36.here hx rfl (hb hby at_76) rfl ?_
        show Steps p.tables e below (T36.setTop (mkF m 77 #[.val (.long q0), .second, .val (.long q1), .second, .val (.ref b27), .val (.int v1), .unset] [(.long q0)])) _
        refine X36.ldc2Long hx hown (mvT hZ (hw _ (List.mem_of_getElem? (i := 26) rfl))) (g := (mkF m 77 #[.val (.long q0), .second, .val (.long q1), .second, .val (.ref b27), .val (.int v1), .unset] [(.long q0)])) rfl (hb hby at_77) _ ?_
        show Steps p.tables e below (T36.setTop (mkF m 80 #[.val (.long q0), .second, .val (.long q1), .second, .val (.ref b27), .val (.int v1), .unset] [(.long (-9223372036854775808 : Int64)), (.long q0)])) _
        refine XS.lloadN X36.here hx rfl (hb hby at_80) rfl ?_
        show Steps p.tables e below (T36.setTop (mkF m 81 #[.val (.long q0), .second, .val (.long q1), .second, .val (.ref b27), .val (.int v1), .unset] [(.long q1), (.long (-9223372036854775808 : Int64)), (.long q0)])) _
        refine XS.lsub X36.here hx rfl (hb hby at_81) rfl ?_
        show Steps p.tables e below (T36.setTop (mkF m 82 #[.val (.long q0), .second, .val (.long q1), .second, .val (.ref b27), .val (.int v1), .unset] [(.long ((-9223372036854775808 : Int64) - q1)), (.long q0)])) _
        refine XS.lcmp X36.here hx rfl (hb hby at_82) rfl ?_
        show Steps p.tables e below (T36.setTop (mkF m 83 #[.val (.long q0), .second, .val (.long q1), .second, .val (.ref b27), .val (.int v1), .unset] [(.int (lcmpW q0 ((-9223372036854775808 : Int64) - q1)))])) _
        by_cases hc47 : q0 < ((-9223372036854775808 : Int64) - q1)
        · rw [if_pos hc47] at hv2
          refine XS.ifNo X36.here hx rfl (hb hby at_83) rfl ((if0 _ _).trans (tlt (own_lwL hc47)).2.1) ?_
          show Steps p.tables e below (T36.setTop (mkF m 86 #[.val (.long q0), .second, .val (.long q1), .second, .val (.ref b27), .val (.int v1), .unset] [])) _
          refine XS.iconst X36.here hx rfl (hb hby at_86) ?_
          show Steps p.tables e below (T36.setTop (mkF m 87 #[.val (.long q0), .second, .val (.long q1), .second, .val (.ref b27), .val (.int v1), .unset] [(.int (1 : Int32))])) _
          refine XS.goto X36.here hx rfl (pc0 := 87) (pc' := 91) rfl (hb hby at_87) (by decide) (by decide) ?_
          subst hv2
          exact kt
        · rw [if_neg hc47] at hv2
          refine XS.ifYes X36.here hx rfl (pc0 := 83) (pc' := 90) rfl (hb hby at_83) rfl ((if0 _ _).trans (flt (own_lwM hc47)).2.1) (by decide) (by decide) ?_
          show Steps p.tables e below (T36.setTop (mkF m 90 #[.val (.long q0), .second, .val (.long q1), .second, .val (.ref b27), .val (.int v1), .unset] [])) _
          refine XS.iconst X36.here hx rfl (hb hby at_90) ?_
          subst hv2
          exact kt
      · rw [if_neg hc46] at hv2
        refine XS.ifYes X36.here hx rfl (pc0 := 73) (pc' := 90) rfl (hb hby at_73) rfl ((if0 _ _).trans (flt (own_lwM hc46)).2.1) (by decide) (by decide) ?_
        show Steps p.tables e below (T36.setTop (mkF m 90 #[.val (.long q0), .second, .val (.long q1), .second, .val (.ref b27), .val (.int v1), .unset] [])) _
        refine XS.iconst X36.here hx rfl (hb hby at_90) ?_
        subst hv2
        exact kt
  have pre49 : ∀ t, Steps p.tables e below (T36.setTop (mkF m 95 #[.val (.long q0), .second, .val (.long q1), .second, .val (.ref b27), .val (.int v1), .val (.int v2)] [(.int v2)])) t → Steps p.tables e below (s₁.setTop (entryFrame m #[(.long q0), (.long q1)] maxLocals)) t := fun t kt => by
    refine pre48 _ ?_
    show Steps p.tables e below (T36.setTop (mkF m 91 #[.val (.long q0), .second, .val (.long q1), .second, .val (.ref b27), .val (.int v1), .unset] [(.int v2)])) _
    refine XS.istore X36.here hx rfl (hb hby at_91) rfl (l' := #[.val (.long q0), .second, .val (.long q1), .second, .val (.ref b27), .val (.int v1), .val (.int v2)]) rfl ?_
    show Steps p.tables e below (T36.setTop (mkF m 93 #[.val (.long q0), .second, .val (.long q1), .second, .val (.ref b27), .val (.int v1), .val (.int v2)] [])) _
    refine XS.iload X36.here hx rfl (hb hby at_93) rfl ?_
    show Steps p.tables e below (T36.setTop (mkF m 95 #[.val (.long q0), .second, .val (.long q1), .second, .val (.ref b27), .val (.int v1), .val (.int v2)] [(.int v2)])) _
    exact kt
  by_cases hc50 : v2 = (0 : Int32)
  · skip
    obtain ⟨cq51, kq51, q51a, q51b, q51c⟩ := isOf hZ e36 E33_0
    obtain ⟨_, _, ⟨T51, L51, k51, n51⟩, -, X51, ⟨Lc51, hQ51, l51, y51, z51⟩, st51⟩ := X36.virtualBack hx (y := (⟨"tierlock/cli/ScenarioClock", "advance", "(J)V"⟩ : MethodName)) (z := (⟨"tierlock/cli/ScenarioClock", "advance", "(J)V"⟩ : MethodName)) hown (mvT hZ (hw _ (List.mem_of_getElem? (i := 16) rfl))) (mvT hZ (hw _ (List.mem_of_getElem? (i := 17) rfl))) (notFace_of_selects (args := #[]) (mvT hZ (hw _ (List.mem_of_getElem? (i := 19) rfl)))) (mvT hZ (hw _ (List.mem_of_getElem? (i := 19) rfl))) (mvT hZ (hw _ (List.mem_of_getElem? (i := 18) rfl))) (by decide) (backOf (W := 0) (rm4 l Z aq hw [] b27 q1 ((0 : Int64) + q0) T33.heap n0 Z34 E33_0 F33_0 g_b27 (own_plain1 q0 q1 v1 hv1 v2 hv2 hc50)) hZ (hw _ (List.mem_of_getElem? (i := 20) rfl)) (hw _ (List.mem_of_getElem? (i := 2) rfl)) (by decide) (by decide)) q51a q51c (g := (mkF m 104 #[.val (.long q0), .second, .val (.long q1), .second, .val (.ref b27), .val (.int v1), .val (.int v2)] [(.long q1), (.ref b27)])) rfl (by rw [hml]; rfl) (Steps.refl _) (argsL := [(.long q1)]) (rest := []) (lenOf pd87993110 rfl) rfl (by show 2 * 0 + _ ≤ _; exact Nat.le_of_eq rfl) (hb hby at_104) (fun _ _ => ⟨rfl, e36, (by decide : 1 + 0 ≤ _), (by decide : 1 + 0 ≤ _)⟩)
    dsimp only [Pt.U, Pt.locs, Pt.cells, Pt.slots] at X51 l51 y51 z51 st51 hQ51
    subst l51 y51 z51
    obtain ⟨rfl, N51q, K51, E51_0, F51_0⟩ := hQ51
    have Z52 : n0 ≤ T51.heap.size := Nat.le_trans Z34 K51.1
    have N53 := Fr.app N37 N51q
    have pre54 : ∀ t, Steps p.tables e below (T51.setTop (mkF m 109 #[.val (.long q0), .second, .val (.long q1), .second, .val (.ref b27), .val (.int v1), .val (.int v2)] [(.int v1)])) t → Steps p.tables e below (s₁.setTop (entryFrame m #[(.long q0), (.long q1)] maxLocals)) t := fun t kt => by
      refine pre49 _ ?_
      show Steps p.tables e below (T36.setTop (mkF m 95 #[.val (.long q0), .second, .val (.long q1), .second, .val (.ref b27), .val (.int v1), .val (.int v2)] [(.int v2)])) _
      refine XS.ifYes X36.here hx rfl (pc0 := 95) (pc' := 101) rfl (hb hby at_95) rfl ((if0 _ _).trans (teq hc50).1) (by decide) (by decide) ?_
      show Steps p.tables e below (T36.setTop (mkF m 101 #[.val (.long q0), .second, .val (.long q1), .second, .val (.ref b27), .val (.int v1), .val (.int v2)] [])) _
      refine XS.aload X36.here hx rfl (hb hby at_101) rfl rfl ?_
      show Steps p.tables e below (T36.setTop (mkF m 103 #[.val (.long q0), .second, .val (.long q1), .second, .val (.ref b27), .val (.int v1), .val (.int v2)] [(.ref b27)])) _
      refine XS.lloadN X36.here hx rfl (hb hby at_103) rfl ?_
      show Steps p.tables e below (T36.setTop (mkF m 104 #[.val (.long q0), .second, .val (.long q1), .second, .val (.ref b27), .val (.int v1), .val (.int v2)] [(.long q1), (.ref b27)])) _
      refine st51.trans ?_
      show Steps p.tables e below (T51.setTop (mkF m 107 #[.val (.long q0), .second, .val (.long q1), .second, .val (.ref b27), .val (.int v1), .val (.int v2)] [])) _
      refine XS.iload X51.here hx rfl (hb hby at_107) rfl ?_
      show Steps p.tables e below (T51.setTop (mkF m 109 #[.val (.long q0), .second, .val (.long q1), .second, .val (.ref b27), .val (.int v1), .val (.int v2)] [(.int v1)])) _
      exact kt
    obtain ⟨v3, hv3⟩ : ∃ z : Int32, z = (if v1 = (0 : Int32) then (0 : Int32) else (if (((0 : Int64) + q0) + q1) = (q0 + q1) then (1 : Int32) else (0 : Int32))) := ⟨_, rfl⟩
    obtain ⟨T60, L60, X60, N60, Z60, E61, F62, pre60⟩ : ∃ (T' : State) (L' : List Loc), Stand p l e room_1 s m #[(.long q0), (.long q1)] below meth c T' L' 1 1 ∧ Fr n0 L' ∧ n0 ≤ T'.heap.size ∧ Exa Z T'.heap b27 "tierlock/cli/ScenarioClock" ∧ Fld Z T'.heap b27 "tierlock/cli/ScenarioClock" "millis" "J" (.long (((0 : Int64) + q0) + q1)) ∧ ∀ t, Steps p.tables e below (T'.setTop (mkF m 129 #[.val (.long q0), .second, .val (.long q1), .second, .val (.ref b27), .val (.int v1), .val (.int v2)] [(.int v3)])) t → Steps p.tables e below (s₁.setTop (entryFrame m #[(.long q0), (.long q1)] maxLocals)) t := by
      by_cases hc63 : v1 = (0 : Int32)
      · skip
        have pre64 : ∀ t, Steps p.tables e below (T51.setTop (mkF m 129 #[.val (.long q0), .second, .val (.long q1), .second, .val (.ref b27), .val (.int v1), .val (.int v2)] [(.int (0 : Int32))])) t → Steps p.tables e below (s₁.setTop (entryFrame m #[(.long q0), (.long q1)] maxLocals)) t := fun t kt => by
          refine pre54 _ ?_
          show Steps p.tables e below (T51.setTop (mkF m 109 #[.val (.long q0), .second, .val (.long q1), .second, .val (.ref b27), .val (.int v1), .val (.int v2)] [(.int v1)])) _
          refine XS.ifYes X51.here hx rfl (pc0 := 109) (pc' := 128) rfl (hb hby at_109) rfl ((if0 _ _).trans (teq hc63).1) (by decide) (by decide) ?_
          show Steps p.tables e below (T51.setTop (mkF m 128 #[.val (.long q0), .second, .val (.long q1), .second, .val (.ref b27), .val (.int v1), .val (.int v2)] [])) _
          refine XS.iconst X51.here hx rfl (hb hby at_128) ?_
          show Steps p.tables e below (T51.setTop (mkF m 129 #[.val (.long q0), .second, .val (.long q1), .second, .val (.ref b27), .val (.int v1), .val (.int v2)] [(.int (0 : Int32))])) _
          exact kt
        rw [if_pos hc63] at hv3
        subst hv3
        exact ⟨_, _, X51, N53, Z52, E51_0, F51_0, pre64⟩
      · skip
        obtain ⟨cq65, kq65, q65a, q65b, q65c⟩ := isOf hZ rfl E51_0
        obtain ⟨_, _, ⟨T65, L65, k65, n65⟩, -, X65, ⟨Lc65, hQ65, l65, y65, z65⟩, st65⟩ := X51.virtualBack hx (y := (⟨"tierlock/cli/ScenarioClock", "millis", "()J"⟩ : MethodName)) (z := (⟨"tierlock/cli/ScenarioClock", "millis", "()J"⟩ : MethodName)) hown (mvT hZ (hw _ (List.mem_of_getElem? (i := 9) rfl))) (mvT hZ (hw _ (List.mem_of_getElem? (i := 10) rfl))) (notFace_of_selects (args := #[]) (mvT hZ (hw _ (List.mem_of_getElem? (i := 12) rfl)))) (mvT hZ (hw _ (List.mem_of_getElem? (i := 12) rfl))) (mvT hZ (hw _ (List.mem_of_getElem? (i := 11) rfl))) (by decide) (backOf (W := 0) (rm3 l Z aq hw [] b27 (((0 : Int64) + q0) + q1) T51.heap n0 Z52 E51_0 F51_0) hZ (hw _ (List.mem_of_getElem? (i := 13) rfl)) (hw _ (List.mem_of_getElem? (i := 2) rfl)) (by decide) (by decide)) q65a q65c (g := (mkF m 114 #[.val (.long q0), .second, .val (.long q1), .second, .val (.ref b27), .val (.int v1), .val (.int v2)] [(.ref b27)])) rfl (by rw [hml]; rfl) (Steps.refl _) (argsL := []) (rest := []) (lenOf pd93421984 rfl) rfl (by show 2 * 0 + _ ≤ _; exact Nat.le_of_eq rfl) (hb hby at_114) (fun _ _ => ⟨rfl, rfl, (by decide : 1 + 0 ≤ _), (by decide : 1 + 0 ≤ _)⟩)
        dsimp only [Pt.U, Pt.locs, Pt.cells, Pt.slots] at X65 l65 y65 z65 st65 hQ65
        subst l65 y65 z65
        obtain ⟨rfl, N65q, e65⟩ := hQ65
        have N66 := Fr.app N53 N65q
        have pre67 : ∀ t, Steps p.tables e below (T65.setTop (mkF m 121 #[.val (.long q0), .second, .val (.long q1), .second, .val (.ref b27), .val (.int v1), .val (.int v2)] [(.int (lcmpW (((0 : Int64) + q0) + q1) (q0 + q1)))])) t → Steps p.tables e below (s₁.setTop (entryFrame m #[(.long q0), (.long q1)] maxLocals)) t := fun t kt => by
          refine pre54 _ ?_
          show Steps p.tables e below (T51.setTop (mkF m 109 #[.val (.long q0), .second, .val (.long q1), .second, .val (.ref b27), .val (.int v1), .val (.int v2)] [(.int v1)])) _
          refine XS.ifNo X51.here hx rfl (hb hby at_109) rfl ((if0 _ _).trans (feq hc63).1) ?_
          show Steps p.tables e below (T51.setTop (mkF m 112 #[.val (.long q0), .second, .val (.long q1), .second, .val (.ref b27), .val (.int v1), .val (.int v2)] [])) _
          refine XS.aload X51.here hx rfl (hb hby at_112) rfl rfl ?_
          show Steps p.tables e below (T51.setTop (mkF m 114 #[.val (.long q0), .second, .val (.long q1), .second, .val (.ref b27), .val (.int v1), .val (.int v2)] [(.ref b27)])) _
          refine st65.trans ?_
          show Steps p.tables e below (T65.setTop (mkF m 117 #[.val (.long q0), .second, .val (.long q1), .second, .val (.ref b27), .val (.int v1), .val (.int v2)] [(.long (((0 : Int64) + q0) + q1))])) _
          refine XS.lloadN X65.here hx rfl (hb hby at_117) rfl ?_
          show Steps p.tables e below (T65.setTop (mkF m 118 #[.val (.long q0), .second, .val (.long q1), .second, .val (.ref b27), .val (.int v1), .val (.int v2)] [(.long q0), (.long (((0 : Int64) + q0) + q1))])) _
          refine XS.lloadN X65.here hx rfl (hb hby at_118) rfl ?_
          show Steps p.tables e below (T65.setTop (mkF m 119 #[.val (.long q0), .second, .val (.long q1), .second, .val (.ref b27), .val (.int v1), .val (.int v2)] [(.long q1), (.long q0), (.long (((0 : Int64) + q0) + q1))])) _
          refine XS.ladd X65.here hx rfl (hb hby at_119) rfl ?_
          show Steps p.tables e below (T65.setTop (mkF m 120 #[.val (.long q0), .second, .val (.long q1), .second, .val (.ref b27), .val (.int v1), .val (.int v2)] [(.long (q0 + q1)), (.long (((0 : Int64) + q0) + q1))])) _
          refine XS.lcmp X65.here hx rfl (hb hby at_120) rfl ?_
          show Steps p.tables e below (T65.setTop (mkF m 121 #[.val (.long q0), .second, .val (.long q1), .second, .val (.ref b27), .val (.int v1), .val (.int v2)] [(.int (lcmpW (((0 : Int64) + q0) + q1) (q0 + q1)))])) _
          exact kt
        by_cases hc68 : (((0 : Int64) + q0) + q1) = (q0 + q1)
        · skip
          have pre69 : ∀ t, Steps p.tables e below (T65.setTop (mkF m 129 #[.val (.long q0), .second, .val (.long q1), .second, .val (.ref b27), .val (.int v1), .val (.int v2)] [(.int (1 : Int32))])) t → Steps p.tables e below (s₁.setTop (entryFrame m #[(.long q0), (.long q1)] maxLocals)) t := fun t kt => by
            refine pre67 _ ?_
            show Steps p.tables e below (T65.setTop (mkF m 121 #[.val (.long q0), .second, .val (.long q1), .second, .val (.ref b27), .val (.int v1), .val (.int v2)] [(.int (lcmpW (((0 : Int64) + q0) + q1) (q0 + q1)))])) _
            refine XS.ifNo X65.here hx rfl (hb hby at_121) rfl ((if0 _ _).trans (teq (own_lwE hc68)).2) ?_
            show Steps p.tables e below (T65.setTop (mkF m 124 #[.val (.long q0), .second, .val (.long q1), .second, .val (.ref b27), .val (.int v1), .val (.int v2)] [])) _
            refine XS.iconst X65.here hx rfl (hb hby at_124) ?_
            show Steps p.tables e below (T65.setTop (mkF m 125 #[.val (.long q0), .second, .val (.long q1), .second, .val (.ref b27), .val (.int v1), .val (.int v2)] [(.int (1 : Int32))])) _
            refine XS.goto X65.here hx rfl (pc0 := 125) (pc' := 129) rfl (hb hby at_125) (by decide) (by decide) ?_
            show Steps p.tables e below (T65.setTop (mkF m 129 #[.val (.long q0), .second, .val (.long q1), .second, .val (.ref b27), .val (.int v1), .val (.int v2)] [(.int (1 : Int32))])) _
            exact kt
          rw [if_neg hc63] at hv3
          rw [if_pos hc68] at hv3
          subst hv3
          exact ⟨_, _, X65, N66, (by rw [e65]; exact Z52), (by rw [e65]; exact E51_0), (by rw [e65]; exact F51_0), pre69⟩
        · skip
          have pre70 : ∀ t, Steps p.tables e below (T65.setTop (mkF m 129 #[.val (.long q0), .second, .val (.long q1), .second, .val (.ref b27), .val (.int v1), .val (.int v2)] [(.int (0 : Int32))])) t → Steps p.tables e below (s₁.setTop (entryFrame m #[(.long q0), (.long q1)] maxLocals)) t := fun t kt => by
            refine pre67 _ ?_
            show Steps p.tables e below (T65.setTop (mkF m 121 #[.val (.long q0), .second, .val (.long q1), .second, .val (.ref b27), .val (.int v1), .val (.int v2)] [(.int (lcmpW (((0 : Int64) + q0) + q1) (q0 + q1)))])) _
            refine XS.ifYes X65.here hx rfl (pc0 := 121) (pc' := 128) rfl (hb hby at_121) rfl ((if0 _ _).trans (feq (own_lwN hc68)).2) (by decide) (by decide) ?_
            show Steps p.tables e below (T65.setTop (mkF m 128 #[.val (.long q0), .second, .val (.long q1), .second, .val (.ref b27), .val (.int v1), .val (.int v2)] [])) _
            refine XS.iconst X65.here hx rfl (hb hby at_128) ?_
            show Steps p.tables e below (T65.setTop (mkF m 129 #[.val (.long q0), .second, .val (.long q1), .second, .val (.ref b27), .val (.int v1), .val (.int v2)] [(.int (0 : Int32))])) _
            exact kt
          rw [if_neg hc63] at hv3
          rw [if_neg hc68] at hv3
          subst hv3
          exact ⟨_, _, X65, N66, (by rw [e65]; exact Z52), (by rw [e65]; exact E51_0), (by rw [e65]; exact F51_0), pre70⟩
    have hfin : v3 = 1 := (own_plain2 q0 q1 v1 hv1 v2 hv2 v3 hv3 hc50)
    obtain ⟨fs, hr, hrun, hended, hW, hsame⟩ := X60.leave (v := some (.int (v3 &&& 1))) (fun h => by rw [Bd.returns] at h; cases h)
    refine ⟨_, _, pre60 _ ?_, hrun, hended, _, _, rfl, ?_, ⟨_, rfl⟩, hW, hsame.mono (by decide) (by decide)⟩
    · exact retN X60 hx (t := .boolean) Bd.returns (by simp) (hb hby at_129) hr
    · exact ⟨by rw [hfin]; rfl, N60⟩
  · skip
    have pre71 : ∀ t, Steps p.tables e below (T36.setTop (mkF m 100 #[.val (.long q0), .second, .val (.long q1), .second, .val (.ref b27), .val (.int v1), .val (.int v2)] [(.int v1)])) t → Steps p.tables e below (s₁.setTop (entryFrame m #[(.long q0), (.long q1)] maxLocals)) t := fun t kt => by
      refine pre49 _ ?_
      show Steps p.tables e below (T36.setTop (mkF m 95 #[.val (.long q0), .second, .val (.long q1), .second, .val (.ref b27), .val (.int v1), .val (.int v2)] [(.int v2)])) _
      refine XS.ifNo X36.here hx rfl (hb hby at_95) rfl ((if0 _ _).trans (feq hc50).1) ?_
      show Steps p.tables e below (T36.setTop (mkF m 98 #[.val (.long q0), .second, .val (.long q1), .second, .val (.ref b27), .val (.int v1), .val (.int v2)] [])) _
      refine XS.iload X36.here hx rfl (hb hby at_98) rfl ?_
      show Steps p.tables e below (T36.setTop (mkF m 100 #[.val (.long q0), .second, .val (.long q1), .second, .val (.ref b27), .val (.int v1), .val (.int v2)] [(.int v1)])) _
      exact kt
    have hfin : v1 = 1 := (own_plain3 q0 q1 v1 hv1 v2 hv2 hc50)
    obtain ⟨fs, hr, hrun, hended, hW, hsame⟩ := X36.leave (v := some (.int (v1 &&& 1))) (fun h => by rw [Bd.returns] at h; cases h)
    refine ⟨_, _, pre71 _ ?_, hrun, hended, _, _, rfl, ?_, ⟨_, rfl⟩, hW, hsame.mono (by decide) (by decide)⟩
    · exact retN X36 hx (t := .boolean) Bd.returns (by simp) (hb hby at_100) hr
    · exact ⟨by rw [hfin]; rfl, N37⟩
set_option maxRecDepth 65536 in
set_option maxHeartbeats 40000000 in
theorem comes_1 {Post : Tables → Env → Array Value → State → Outcome → State → Prop} (hpost : ∀ tb e args s v u, (limb_1_1.after args s (.returned v) u = true ∧ limb_1_2.after args s (.returned v) u = true ∧ True) → FrameEnd s (.returned v) u (Jvm.fieldLocs frame_1_writes args s ++ Jvm.arrayLocs frame_1_arrays args s ++ Jvm.staticLocs frame_1_statics s) 16 128 → Post tb e args s (.returned v) u) :
    ArmFor flags0 classFile x code maxLocals ret World_1 tables_1 room_1 Calls_1 rest_1 Pre_1 Post := by
  intro l hfl _ _ p e ha hc hk s m args below hf hA hF happ hP
  obtain ⟨hcalls, hrest, hpre⟩ := hP
  obtain ⟨-, -, -, hnamed, -, -, -, hat⟩ := (Spec.applies_iff hf).mp happ
  obtain ⟨hg, hn⟩ := and_e (Cond.before_iff.mp (show (Jvm.Cond.and given_1 narrow_1).before args s = true from hpre))
  obtain ⟨hcount, hg0⟩ := and_e hg
  obtain ⟨ha0, hg1⟩ := and_e hg0
  have ha1 := hg1
  obtain ⟨w0, w1, rfl⟩ : ∃ w0 w1 : Value, args = #[w0, w1] := by
    have hs : args.size = 2 := by simpa [Cond.value, given_1] using hcount
    obtain ⟨L⟩ := args
    match L, hs with
    | [w0, w1], _ => exact ⟨w0, w1, rfl⟩
  have hw := fun d (hd : d ∈ tables_1) => atoms_spec (ws := Jvm.Cond.code x code maxLocals ret :: tables_1) hat d (List.mem_cons_of_mem _ hd)
  obtain ⟨i0, ei0⟩ := isL_v ha0
  obtain rfl : w0 = (.long i0) := Option.some.inj ei0
  obtain ⟨i1, ei1⟩ := isL_v ha1
  obtain rfl : w1 = (.long i1) := Option.some.inj ei1
  obtain ⟨n, o, h1, h2, h3, _, L, rfl, ⟨rfl, N⟩, hq⟩ := rm0 l s _ hw tables_1 i0 i1 s.heap s.heap.size (Nat.le_refl _) p e ha hc hk s m _ below hf ((Spec.applies_iff_loose hf).mp happ).1 ⟨rfl, State.Warmed39.refl s, rfl⟩ trivial
  refine ⟨n, _, h1, h2, h3, hpost _ _ _ _ _ _ ⟨Cond.after_iff.mpr rfl, Cond.after_iff.mpr (eq_i res_at (Term.int_eval (1)) rfl), trivial⟩ ⟨hq.1, hq.2.1, (hq.2.2.sift fun y hy => Or.inr (N y hy)).mono (by decide) (by decide)⟩⟩
theorem main_1_1 : Claimed_1_1 := comes_1 fun _ _ _ _ _ _ h hF => ⟨h.1, hF⟩
theorem main_1_2 : Claimed_1_2 := comes_1 fun _ _ _ _ _ _ h hF => ⟨h.2.1, hF⟩
end Jvm.Pilot.@@N@@
namespace Jvm.Pilot.@@N@@
open Jvm Jvm.ClassFile Sem Op Lib Jvm.Free Jvm.Stand Jvm.Pilot.@@N@@.Jvm.D
/-! MADE BY PROGRAM (witnessworld.py) out of the Statement's table words and the real class files: 11 classes; the members and pool entries that the words name. The judged class is class 1, her method 1. -/
namespace start1
open Jvm.ClassFile
def u (s : String) : CpInfo := .utf8 (stringToUtf16 s)
/-- a pool by its gaps: so many unusable entries, then the entry; so many at the end -/
def gap : Nat → List CpInfo → List CpInfo
  | 0, r => r
  | n + 1, r => .unusable :: gap n r
def poolList (es : List (Nat × CpInfo)) (last : Nat) : List CpInfo := es.foldr (fun e r => gap e.1 (e.2 :: r)) (gap last [])
def pool (es : List (Nat × CpInfo)) (last : Nat) : Array CpInfo := ⟨poolList es last⟩
def fileOf (pool : Array CpInfo) (this : Nat) (attrs : Array Attribute := #[]) (ms : Array MethodInfo := #[]) (fl : Nat := 33) (sup : Nat := 0) (ifs : Array Nat := #[]) (fds : Array FieldInfo := #[]) : ClassFile where
  minorVersion := 0
  majorVersion := 65
  constantPool := pool
  accessFlags := fl
  thisClass := this
  superClass := sup
  interfaces := ifs
  fields := fds
  methods := ms
  attributes := attrs
def plain (name : String) (sup : Option ClassId) : Class where
  name := name
  kind := .ordinary
  loader := none
  accessFlags := 33
  super := sup
  interfaces := #[]
  cf := none
  fields := #[]
  methods := #[]
  instanceTypes := #[]
  staticTypes := #[]
  resolved := #[]
  callSites := []
  init := .initialized
  statics := none
  mirror := none

def pool0 : Array CpInfo := pool [(5, u "<init>"), (0, u "()V"), (1, .class_ 10), (1, u "java/lang/Object")] 113

def k0c0 : Code := { maxStack := 0, maxLocals := 1, code := object_method_1_code, exceptionTable := #[], attributes := #[] }
def k0m0 : Method := { name := "<init>", desc := "()V", sig := { parameters := [], returnType := none }, accessFlags := 1, code := some k0c0 }
/-- java/lang/Object -/
def k0 : Class := { plain "java/lang/Object" none with
  accessFlags := 33
  interfaces := #[]
  cf := some (fileOf pool0 8 #[] #[{ accessFlags := 1, nameIndex := 5, descriptorIndex := 6, attributes := #[] }] 33 0 #[] #[])
  fields := #[]
  methods := #[k0m0]
  instanceTypes := #[]
  staticTypes := #[]
  resolved := Array.replicate 124 none
  statics := none }

def pool1 : Array CpInfo := pool [(2, .class_ 4), (0, .nameAndType 5 6), (0, u "java/lang/Object"), (0, u "<init>"), (0, u "()V"), (0, .class_ 8), (0, u "tierlock/cli/ScenarioClock"), (0, .methodref 7 3), (0, .methodref 7 11), (0, .nameAndType 12 13), (0, u "millis"), (0, u "()J"), (0, .methodref 7 15), (0, .nameAndType 16 17), (0, u "advance"), (0, u "(J)V"), (2, .long 9223372036854775807), (1, .long 9223372036854775808), (1, .class_ 25), (0, u "tierlock/cli/ScenarioClockAdvancePinLaw"), (2, u "law"), (0, u "(JJ)Z")] 3

def k1m0 : Method := { name := "<init>", desc := "()V", sig := { parameters := [], returnType := none }, accessFlags := 1, code := none }
def k1c1 : Code := { maxStack := 6, maxLocals := 7, code := code, exceptionTable := #[], attributes := #[] }
def k1m1 : Method := { name := "law", desc := "(JJ)Z", sig := { parameters := [.long, .long], returnType := some .boolean }, accessFlags := 9, code := some k1c1 }
/-- tierlock/cli/ScenarioClockAdvancePinLaw -/
def k1 : Class := { plain "tierlock/cli/ScenarioClockAdvancePinLaw" (some 0) with
  accessFlags := 49
  interfaces := #[]
  cf := some (fileOf pool1 24 #[] #[{ accessFlags := 1, nameIndex := 5, descriptorIndex := 6, attributes := #[] }, { accessFlags := 9, nameIndex := 28, descriptorIndex := 29, attributes := #[] }] 49 2 #[] #[])
  fields := #[]
  methods := #[k1m0, k1m1]
  instanceTypes := #[]
  staticTypes := #[]
  resolved := Array.replicate 33 none
  statics := none }

def pool2 : Array CpInfo := pool [(22, .class_ 24), (1, u "java/time/InstantSource"), (31, .class_ 57), (0, u "java/lang/Object")] 22

/-- java/time/InstantSource -/
def k2 : Class := { plain "java/time/InstantSource" (some 0) with
  accessFlags := 1537
  interfaces := #[]
  cf := some (fileOf pool2 22 #[] #[] 1537 56 #[] #[])
  fields := #[]
  methods := #[]
  instanceTypes := #[]
  staticTypes := #[]
  resolved := Array.replicate 80 none
  statics := none }

def pool3 : Array CpInfo := pool [(1, .methodref 2 3), (0, .class_ 4), (0, .nameAndType 5 6), (0, u "java/lang/Object"), (0, u "<init>"), (0, u "()V"), (0, .fieldref 8 9), (0, .class_ 10), (0, .nameAndType 11 12), (0, u "tierlock/cli/ScenarioClock"), (0, u "millis"), (0, u "J"), (0, .methodref 14 15), (0, .class_ 16), (0, .nameAndType 17 18), (0, u "java/lang/Math"), (0, u "addExact"), (0, u "(JJ)J"), (6, .class_ 26), (0, u "java/time/InstantSource"), (2, u "advance"), (0, u "(J)V"), (0, u "()J")] 4

def k3c0 : Code := { maxStack := 1, maxLocals := 1, code := prog_29_method_1_code, exceptionTable := #[], attributes := #[] }
def k3m0 : Method := { name := "<init>", desc := "()V", sig := { parameters := [], returnType := none }, accessFlags := 0, code := some k3c0 }
def k3c1 : Code := { maxStack := 5, maxLocals := 3, code := prog_29_method_2_code, exceptionTable := #[], attributes := #[] }
def k3m1 : Method := { name := "advance", desc := "(J)V", sig := { parameters := [.long], returnType := none }, accessFlags := 0, code := some k3c1 }
def k3c2 : Code := { maxStack := 2, maxLocals := 1, code := prog_29_method_3_code, exceptionTable := #[], attributes := #[] }
def k3m2 : Method := { name := "millis", desc := "()J", sig := { parameters := [], returnType := some .long }, accessFlags := 1, code := some k3c2 }
/-- tierlock/cli/ScenarioClock -/
def k3 : Class := { plain "tierlock/cli/ScenarioClock" (some 0) with
  accessFlags := 48
  interfaces := #[2]
  cf := some (fileOf pool3 8 #[] #[{ accessFlags := 0, nameIndex := 5, descriptorIndex := 6, attributes := #[] }, { accessFlags := 0, nameIndex := 29, descriptorIndex := 30, attributes := #[] }, { accessFlags := 1, nameIndex := 11, descriptorIndex := 31, attributes := #[] }] 48 2 #[25] #[{ accessFlags := 66, nameIndex := 11, descriptorIndex := 12, attributes := #[] }])
  fields := #[{ name := "millis", type := .long, accessFlags := 66, slot := 0, constantValue := 0 }]
  methods := #[k3m0, k3m1, k3m2]
  instanceTypes := #[.long]
  staticTypes := #[]
  resolved := Array.replicate 36 none
  statics := none }

def pool4 : Array CpInfo := pool [(1, .class_ 2), (0, u "java/lang/Math"), (1, .class_ 6), (1, u "java/lang/Object"), (0, u "<init>"), (0, u "()V"), (89, .class_ 100), (1, u "java/lang/Math$RandomNumberGeneratorHolder"), (20, u "(JJ)J"), (50, u "negativeZeroFloatBits"), (0, u "J"), (2, u "negativeZeroDoubleBits"), (68, u "$assertionsDisabled"), (0, u "Z"), (91, u "twoToTheDoubleScaleDown"), (0, u "D"), (4, u "twoToTheDoubleScaleUp"), (9, u "E"), (3, u "PI"), (2, u "TAU"), (2, u "DEGREES_TO_RADIANS"), (0, u "RADIANS_TO_DEGREES"), (27, u "addExact")] 66

def k4m0 : Method := { name := "<init>", desc := "()V", sig := { parameters := [], returnType := none }, accessFlags := 2, code := none }
def k4c1 : Code := { maxStack := 6, maxLocals := 6, code := jdk_29_method_25_code, exceptionTable := #[], attributes := #[] }
def k4m1 : Method := { name := "addExact", desc := "(JJ)J", sig := { parameters := [.long, .long], returnType := some .long }, accessFlags := 9, code := some k4c1 }
/-- java/lang/Math -/
def k4 : Class := { plain "java/lang/Math" (some 0) with
  accessFlags := 49
  interfaces := #[]
  cf := some (fileOf pool4 1 #[.nestMembers #[98]] #[{ accessFlags := 2, nameIndex := 7, descriptorIndex := 8, attributes := #[] }, { accessFlags := 9, nameIndex := 393, descriptorIndex := 121, attributes := #[] }] 49 4 #[] #[{ accessFlags := 25, nameIndex := 354, descriptorIndex := 339, attributes := #[] }, { accessFlags := 25, nameIndex := 358, descriptorIndex := 339, attributes := #[] }, { accessFlags := 25, nameIndex := 361, descriptorIndex := 339, attributes := #[] }, { accessFlags := 26, nameIndex := 364, descriptorIndex := 339, attributes := #[] }, { accessFlags := 26, nameIndex := 365, descriptorIndex := 339, attributes := #[] }, { accessFlags := 26, nameIndex := 172, descriptorIndex := 173, attributes := #[] }, { accessFlags := 26, nameIndex := 176, descriptorIndex := 173, attributes := #[] }, { accessFlags := 8, nameIndex := 344, descriptorIndex := 339, attributes := #[] }, { accessFlags := 8, nameIndex := 338, descriptorIndex := 339, attributes := #[] }, { accessFlags := 4120, nameIndex := 245, descriptorIndex := 246, attributes := #[] }])
  fields := #[{ name := "E", type := .double, accessFlags := 25, slot := 0, constantValue := 0 }, { name := "PI", type := .double, accessFlags := 25, slot := 1, constantValue := 0 }, { name := "TAU", type := .double, accessFlags := 25, slot := 2, constantValue := 0 }, { name := "DEGREES_TO_RADIANS", type := .double, accessFlags := 26, slot := 3, constantValue := 0 }, { name := "RADIANS_TO_DEGREES", type := .double, accessFlags := 26, slot := 4, constantValue := 0 }, { name := "negativeZeroFloatBits", type := .long, accessFlags := 26, slot := 5, constantValue := 0 }, { name := "negativeZeroDoubleBits", type := .long, accessFlags := 26, slot := 6, constantValue := 0 }, { name := "twoToTheDoubleScaleUp", type := .double, accessFlags := 8, slot := 7, constantValue := 0 }, { name := "twoToTheDoubleScaleDown", type := .double, accessFlags := 8, slot := 8, constantValue := 0 }, { name := "$assertionsDisabled", type := .boolean, accessFlags := 4120, slot := 9, constantValue := 0 }]
  methods := #[k4m0, k4m1]
  instanceTypes := #[]
  staticTypes := #[.double, .double, .double, .double, .double, .long, .long, .double, .double, .boolean]
  resolved := Array.replicate 460 none
  statics := none }

def pool5 : Array CpInfo := pool [(1, u "java/lang/Cloneable"), (0, .class_ 1), (0, u "java/lang/Object"), (0, .class_ 3)] 3

/-- java/lang/Cloneable -/
def k5 : Class := { plain "java/lang/Cloneable" (some 0) with
  accessFlags := 1537
  interfaces := #[]
  cf := some (fileOf pool5 2 #[] #[] 1537 4 #[] #[])
  fields := #[]
  methods := #[]
  instanceTypes := #[]
  staticTypes := #[]
  resolved := Array.replicate 8 none
  statics := none }

def pool6 : Array CpInfo := pool [(1, u "java/io/Serializable"), (0, .class_ 1), (0, u "java/lang/Object"), (0, .class_ 3)] 3

/-- java/io/Serializable -/
def k6 : Class := { plain "java/io/Serializable" (some 0) with
  accessFlags := 1537
  interfaces := #[]
  cf := some (fileOf pool6 2 #[] #[] 1537 4 #[] #[])
  fields := #[]
  methods := #[]
  instanceTypes := #[]
  staticTypes := #[]
  resolved := Array.replicate 8 none
  statics := none }

/-- the primitive byte -/
def k7 : Class := { plain "byte" none with kind := .primitive 'B', accessFlags := 0x411 }
/-- [B -/
def k8 : Class := { plain "[B" (some 0) with kind := .array 7 .byte, interfaces := #[5, 6], accessFlags := 1041 }

/-- the primitive int -/
def k9 : Class := { plain "int" none with kind := .primitive 'I', accessFlags := 0x411 }
/-- [I -/
def k10 : Class := { plain "[I" (some 0) with kind := .array 9 .int, interfaces := #[5, 6], accessFlags := 1041 }

def heap : Heap := #[]
def classes : Array Class := #[k0, k1, k2, k3, k4, k5, k6, k7, k8, k9, k10]
def interned : List (Array UInt16 × Addr) := []
def slotsUsed : Nat := 0
def theMethod : MethodId := ⟨1, 1⟩
def args0 : Array Value := #[.long 5, .long 5]
def aboutOver (below : List Frame) : State where
  vm := { classes := classes, interned := interned.toArray }
  heap := heap
  slotsUsed := slotsUsed
  threads := #[{ frames := .invoking theMethod args0 :: below }]
def below0 : List Frame := [.native { method := ⟨0, 0⟩, args := #[] }]
def about1 : State := aboutOver below0
def p0 : Program := .bare "" "" ""
def e0 : Env := launch0.env 0 0 0
theorem w_frames : about1.frames = Frame.invoking theMethod args0 :: below0 := rfl
set_option maxRecDepth 65536 in
theorem w_args : argsFit about1.vm theMethod args0 = true := by decide +kernel
set_option maxRecDepth 65536 in
theorem w_heap : heapFits about1 = true := by decide +kernel
set_option maxRecDepth 65536 in
theorem w_runnable : about1.curStatus? = some .runnable := by decide +kernel
set_option maxRecDepth 65536 in
theorem w_alone : about1.alone = true := by decide +kernel
set_option maxRecDepth 65536 in
theorem w_named : about1.methodNamed? x = some theMethod := by decide +kernel
set_option maxRecDepth 65536 in
theorem w_hears : about1.hears theMethod below0 = true := by decide +kernel
set_option maxRecDepth 65536 in
theorem w_ripe : about1.ripe theMethod args0 below0 = true := by decide +kernel
theorem w_running : about1.status = .running := rfl
set_option maxRecDepth 65536 in
theorem w_room : about1.hasRoom e0.platform room_1 = true :=
  launch0.hasRoom_least _ room_1 (by decide +kernel) (by decide +kernel) (by decide +kernel) (by decide +kernel) (by decide +kernel) (by decide +kernel)
theorem allAtoms_all (ts : List Jvm.Cond) (a : Array Jvm.Value) (st : Jvm.State) : (allAtoms ts).before a st = ts.all (fun c => c.before a st) := by
  induction ts with
  | nil => rfl
  | cons c t ih =>
    show (Jvm.Cond.and c (allAtoms t)).before a st = _
    rw [Jvm.Cond.before_and, ih, List.all_cons]
def words1 : List Jvm.Cond := Jvm.Cond.code x code maxLocals ret :: tables_1
/-- a 'code' word, met by the world's own term for the bytes: nothing is compared byte by byte -/
theorem code_word {y : MethodName} {bytes : ByteArray} {mx : Nat} {rt : Option FieldType} {a : Array Value} {s : State} {m : MethodId} {meth : Method} {c : Code} (h1 : s.methodNamed? y = some m) (h2 : s.vm.method? m = some meth) (h3 : meth.code = some c) (h4 : c.code = bytes)
    (h5 : (c.maxLocals == mx && c.exceptionTable.isEmpty && decide (c.maxStack ≤ mostOperands) && decide (meth.sig.returnType = rt) && !meth.locks && decide (parseMethodDescriptor y.desc = some meth.sig)) = true) : (Jvm.Cond.code y bytes mx rt).before a s = true := by
  simp only [Bool.and_eq_true, beq_iff_eq, Bool.not_eq_true', decide_eq_true_eq] at h5
  obtain ⟨⟨⟨⟨⟨g1, g2⟩, g3⟩, g4⟩, g5⟩, g6⟩ := h5
  simp [Cond.before, Cond.holds, Cond.value, h1, h2, h3, h4, g1, g2, g3, g4, g5, g6]
def isCode : Jvm.Cond → Bool
  | .code _ _ _ _ => true
  | _ => false
theorem all_split {L : List Jvm.Cond} {P : Jvm.Cond → Bool} (h1 : L.all (fun c => isCode c || P c) = true) (h2 : ∀ c ∈ L.filter isCode, P c = true) : L.all P = true := by
  refine List.all_eq_true.mpr fun c hc => ?_
  have h := List.all_eq_true.mp h1 c hc
  rcases Bool.eq_false_or_eq_true (isCode c) with hi | hi
  · exact h2 c (List.mem_filter.mpr ⟨hc, hi⟩)
  · simpa [hi] using h
set_option maxRecDepth 65536 in
theorem w_c0 : (Jvm.Cond.code x code maxLocals ret).before args0 about1 = true := code_word (m := ⟨1, 1⟩) (meth := k1m1) (c := k1c1) (by decide +kernel) rfl rfl rfl (by decide +kernel)
set_option maxRecDepth 65536 in
theorem w_c1 : (Jvm.Cond.code ({ cls := "tierlock/cli/ScenarioClock", name := "<init>", desc := "()V" } : Jvm.MethodName) prog_29_method_1_code (1 : Nat) (Option.none : Option Jvm.ClassFile.FieldType)).before args0 about1 = true := code_word (m := ⟨3, 0⟩) (meth := k3m0) (c := k3c0) (by decide +kernel) rfl rfl rfl (by decide +kernel)
set_option maxRecDepth 65536 in
theorem w_c2 : (Jvm.Cond.code ({ cls := "java/lang/Object", name := "<init>", desc := "()V" } : Jvm.MethodName) object_method_1_code (1 : Nat) (Option.none : Option Jvm.ClassFile.FieldType)).before args0 about1 = true := code_word (m := ⟨0, 0⟩) (meth := k0m0) (c := k0c0) (by decide +kernel) rfl rfl rfl (by decide +kernel)
set_option maxRecDepth 65536 in
theorem w_c3 : (Jvm.Cond.code ({ cls := "tierlock/cli/ScenarioClock", name := "millis", desc := "()J" } : Jvm.MethodName) prog_29_method_3_code (1 : Nat) (Option.some Jvm.ClassFile.FieldType.long)).before args0 about1 = true := code_word (m := ⟨3, 2⟩) (meth := k3m2) (c := k3c2) (by decide +kernel) rfl rfl rfl (by decide +kernel)
set_option maxRecDepth 65536 in
theorem w_c4 : (Jvm.Cond.code ({ cls := "tierlock/cli/ScenarioClock", name := "advance", desc := "(J)V" } : Jvm.MethodName) prog_29_method_2_code (3 : Nat) (Option.none : Option Jvm.ClassFile.FieldType)).before args0 about1 = true := code_word (m := ⟨3, 1⟩) (meth := k3m1) (c := k3c1) (by decide +kernel) rfl rfl rfl (by decide +kernel)
set_option maxRecDepth 65536 in
theorem w_c5 : (Jvm.Cond.code ({ cls := "java/lang/Math", name := "addExact", desc := "(JJ)J" } : Jvm.MethodName) jdk_29_method_25_code (6 : Nat) (Option.some Jvm.ClassFile.FieldType.long)).before args0 about1 = true := code_word (m := ⟨4, 1⟩) (meth := k4m1) (c := k4c1) (by decide +kernel) rfl rfl rfl (by decide +kernel)
def codes1 : List Jvm.Cond := [Jvm.Cond.code x code maxLocals ret, Jvm.Cond.code ({ cls := "tierlock/cli/ScenarioClock", name := "<init>", desc := "()V" } : Jvm.MethodName) prog_29_method_1_code (1 : Nat) (Option.none : Option Jvm.ClassFile.FieldType), Jvm.Cond.code ({ cls := "java/lang/Object", name := "<init>", desc := "()V" } : Jvm.MethodName) object_method_1_code (1 : Nat) (Option.none : Option Jvm.ClassFile.FieldType), Jvm.Cond.code ({ cls := "tierlock/cli/ScenarioClock", name := "millis", desc := "()J" } : Jvm.MethodName) prog_29_method_3_code (1 : Nat) (Option.some Jvm.ClassFile.FieldType.long), Jvm.Cond.code ({ cls := "tierlock/cli/ScenarioClock", name := "advance", desc := "(J)V" } : Jvm.MethodName) prog_29_method_2_code (3 : Nat) (Option.none : Option Jvm.ClassFile.FieldType), Jvm.Cond.code ({ cls := "java/lang/Math", name := "addExact", desc := "(JJ)J" } : Jvm.MethodName) jdk_29_method_25_code (6 : Nat) (Option.some Jvm.ClassFile.FieldType.long)]
set_option maxRecDepth 65536 in
theorem codes_eq : words1.filter isCode = codes1 := rfl
theorem w_codes : ∀ c ∈ words1.filter isCode, c.before args0 about1 = true := by
  rw [codes_eq]
  intro c hc
  simp only [codes1, List.mem_cons, List.not_mem_nil, or_false] at hc
  rcases hc with rfl | rfl | rfl | rfl | rfl | rfl
  · exact w_c0
  · exact w_c1
  · exact w_c2
  · exact w_c3
  · exact w_c4
  · exact w_c5
set_option maxRecDepth 65536 in
theorem w_t1 : (words1.take 24).all (fun c => isCode c || c.before args0 about1) = true := by decide +kernel
set_option maxRecDepth 65536 in
theorem w_t2 : (words1.drop 24).all (fun c => isCode c || c.before args0 about1) = true := by decide +kernel
theorem w_tables : (allAtoms (Jvm.Cond.code x code maxLocals ret :: tables_1)).before args0 about1 = true := by
  rw [allAtoms_all]
  show words1.all (fun c => c.before args0 about1) = true
  refine all_split ?_ w_codes
  rw [← List.take_append_drop 24 words1, List.all_append, w_t1, w_t2]
  rfl
set_option maxRecDepth 65536 in
theorem w_case : (Jvm.Cond.and given_1 narrow_1).before args0 about1 = true := by decide +kernel
theorem w_applies : (headSpec (Jvm.Cond.code x code maxLocals ret :: tables_1) room_1).applies x e0.platform about1 = true :=
  (Spec.applies_iff w_frames).mpr ⟨w_running, w_runnable, w_alone, w_named, w_hears, w_ripe, w_room, w_tables⟩
theorem atStart : AtStart classFile x code maxLocals ret World_1 tables_1 room_1 Calls_1 rest_1 Pre_1 launch0 p0 e0 about1 theMethod args0 below0 :=
  ⟨lists_1, trivial, launch0.admits_env _ _ _, launch0.least_env, fairChoices_fair.cas, fairChoices_fair.clock, w_frames, w_args, w_heap, w_applies, trivial, trivial, w_case⟩
end start1
theorem witness_1 : WitnessClaimed_1 := ⟨start1.p0, start1.e0, start1.about1, start1.theMethod, start1.args0, start1.below0, start1.atStart⟩
end Jvm.Pilot.@@N@@
