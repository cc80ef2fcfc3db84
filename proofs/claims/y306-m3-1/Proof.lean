import JvmDerived
import JvmDerived.Pilot.@@N@@Statement
import JvmDerived.Pilot.@@N@@Code
set_option linter.unusedVariables false
set_option linter.unusedSimpArgs false
@@BLOCK:NumsL.lean.txt@@
namespace Jvm.RoadKit
open Sem ClassFile Op Lib Jvm.Stand Jvm.Free Jvm.LawKit
section New
variable {p : Program} {l : Launch} {e : Env} {R : Room} {s : State} {m : MethodId} {args : Array Value} {below : List Frame} {meth : Method} {c : Code} {T : State} {locs : List Loc} {cells slots : Nat}
theorem retI (X : Stand p l e R s m args below meth c T locs cells slots) (hx : p.tables.exec = Jvm.exec) {pc : Nat} {Ls : Array Slot} {z : Int32} {rest : List Value} (hret : meth.sig.returnType = some .int) (hd : decode c.code pc = .ok (.ireturn, 1)) {fs : List Frame}
    (hl : ∀ (f : JFrame) (acts : List Action), f.method = m → f.locked = none → f.entered = [] → (doReturn e (T.setTop f) acts (some (.int z))).1 = T.setFrames fs) : Steps p.tables e below (T.setTop (mkF m pc Ls (.int z :: rest))) (T.setFrames fs) := by
  have hm' : T.vm.method? m = some meth := X.method'
  have hn : narrow .int (.int z) = .int z := rfl
  show Steps p.tables e below (T.setTop { method := m, pc := pc, locals := Ls, stack := _ :: rest, locked := none }) _
  jvm_step X.here [X.here.top, hx, hd, hm', hret, hn]
  first | (intro acts; rw [hl _ acts rfl rfl rfl]) | rw [hl _ _ rfl rfl rfl]
  exact Steps.refl _
end New
end Jvm.RoadKit
namespace Jvm.Pilot.@@N@@
open Jvm Jvm.ClassFile Sem Op Lib Jvm.Free Jvm.Stand Jvm.LawKit Jvm.RoadKit Bundle Jvm.Pilot.@@N@@.Jvm.D
theorem own_lwN {x y : Int64} (h : ¬ x = y) : ¬ lcmpW x y = 0 := fun q => h ((lw_eq x y).mp q)
theorem own_lwE {x y : Int64} (h : x = y) : lcmpW x y = 0 := (lw_eq x y).mpr h
theorem own_lwL {x y : Int64} (h : x < y) : lcmpW x y < 0 := (lw_lt x y).mpr h
theorem own_lwM {x y : Int64} (h : ¬ x < y) : ¬ lcmpW x y < 0 := fun q => h ((lw_lt x y).mp q)
theorem own_lwG {x y : Int64} (h : y < x) : 0 < lcmpW x y := (lw_gt x y).mpr h
theorem own_lwH {x y : Int64} (h : ¬ y < x) : ¬ 0 < lcmpW x y := fun q => h ((lw_gt x y).mp q)
theorem own_F {Z : State} {h : Heap} {a : Addr} {C n d : String} {v w : Value} (q : v = w) (F : Fld Z h a C n d v) : Fld Z h a C n d w := q ▸ F
theorem own_rI {x y : Int32} (q : x = y) : (some (Value.int x)) = some (.int y) := by rw [q]
theorem own_rJ {x y : Int64} (q : x = y) : (some (Value.long x)) = some (.long y) := by rw [q]
theorem d2_0 : decode jdk_30_method_1_code 0 = .ok (.aload_n 0, 1) := by decide +kernel
theorem d2_1 : decode jdk_30_method_1_code 1 = .ok (.invokespecial 1, 3) := by decide +kernel
theorem d2_4 : decode jdk_30_method_1_code 4 = .ok (.return_, 1) := by decide +kernel
theorem pn90011078 : plainName "java/lang/Record" = true := by first | (simp [plainName, overriddenIn]; done) | decide +kernel
theorem ef_2 (m : MethodId) (a0 : Addr) : entryFrame m #[(.ref a0)] 1 = mkF m 0 #[.val (.ref a0)] [] := by first | (simp [entryFrame, mkF, argsToLocals, Value.category]; done) | rfl
def Q2 (Z : State) (a0 : Addr) (h0 : Heap) (n0 : Nat) (v : Option Value) (h : Heap) (L : List Loc) : Prop := v = none ∧ Fr n0 L ∧ h = h0
set_option maxRecDepth 65536 in
set_option maxHeartbeats 40000000 in
theorem rm2 (l : Launch) (Z : State) (aq : Array Value) (hw : ∀ d ∈ tables_1, d.before aq Z = true) (ws : List Jvm.Cond) (a0 : Addr) (h0 : Heap) (n0 : Nat) (Z0 : n0 ≤ h0.size) :
    MetFree l (⟨"java/lang/Record", "<init>", "()V"⟩ : MethodName) (head1 (Jvm.Cond.code (⟨"java/lang/Record", "<init>", "()V"⟩ : MethodName) jdk_30_method_1_code 1 none :: ws) ({ frames := 1, cells := 0, slots := 0, locals := 12 } : Room)) (fun a U => a = #[(.ref a0)] ∧ Z.Warmed39 U.vm ∧ U.heap = h0) (fun _ _ _ _ _ => True) (fun _ U o U' => ∃ v L, o = .returned v ∧ Q2 Z a0 h0 n0 v U'.heap L ∧ FrameEnd U o U' L ({ frames := 1, cells := 0, slots := 0, locals := 12 } : Room).cells ({ frames := 1, cells := 0, slots := 0, locals := 12 } : Room).slots) := by
  refine MetFree.of_bodySF (plainFor_of_name pn90011078) hisR ?_
  intro p e s m args below meth c s₁ Bd hml0 hP hK
  obtain ⟨rfl, hZ, hh⟩ := hP
  have hx := Bd.exec
  have hby := Bd.bytes
  have hml : c.maxLocals = 1 := hml0
  have hown : s.vm.findClass "java/lang/Record" = some m.cls := findClass_of_methodNamed Bd.named
  have hnm := (name_of_methodNamed Bd.named Bd.method).1
  have X0 : Stand p l e ({ frames := 1, cells := 0, slots := 0, locals := 12 } : Room) s m #[(.ref a0)] below meth c s₁ [] 0 0 := Stand.of_body Bd
  have e0 : s₁.heap = h0 := by rw [← hh, Bd.state]; rfl
  have N0 := Fr.nil n0
  have pre0 : ∀ t, Steps p.tables e below (s₁.setTop (mkF m 0 #[.val (.ref a0)] [])) t → Steps p.tables e below (s₁.setTop (entryFrame m #[(.ref a0)] 1)) t := fun t k => castTop (ef_2 m a0) k
  obtain ⟨T2, X2, e2, st2⟩ := initO X0 hx hZ hown (hw _ (List.mem_of_getElem? (i := 12) rfl)) (hw _ (List.mem_of_getElem? (i := 13) rfl)) (hw _ (List.mem_of_getElem? (i := 14) rfl)) e0 (g := (mkF m 1 #[.val (.ref a0)] [(.ref a0)])) rfl (by rw [hml]; rfl) rfl (hb hby d2_1) (by decide) (W := 0) (by show 2 * 0 + _ ≤ _; exact Nat.le_of_eq rfl) (by decide)
  have pre3 : ∀ t, Steps p.tables e below (T2.setTop (mkF m 4 #[.val (.ref a0)] [])) t → Steps p.tables e below (s₁.setTop (entryFrame m #[(.ref a0)] 1)) t := fun t kt => by
    refine pre0 _ ?_
    show Steps p.tables e below (s₁.setTop (mkF m 0 #[.val (.ref a0)] [])) _
    refine XS.aloadN X0.here hx rfl (hb hby d2_0) rfl rfl ?_
    show Steps p.tables e below (s₁.setTop (mkF m 1 #[.val (.ref a0)] [(.ref a0)])) _
    refine st2 _ ?_
    show Steps p.tables e below (T2.setTop (mkF m 4 #[.val (.ref a0)] [])) _
    exact kt
  obtain ⟨fs, hr, hrun, hended, hW, hsame⟩ := X2.leave (v := none) (fun _ => rfl)
  refine ⟨_, _, pre3 _ ?_, hrun, hended, _, _, rfl, ?_, ⟨_, rfl⟩, hW, hsame.mono (by decide) (by decide)⟩
  · exact X2.returnOut hx Bd.returns (hb hby d2_4) hr
  · show Q2 Z a0 h0 n0 _ T2.heap _
    rw [e2]
    exact ⟨rfl, N0, rfl⟩
theorem d1_0 : decode prog_117_method_1_code 0 = .ok (.aload_n 0, 1) := by decide +kernel
theorem d1_1 : decode prog_117_method_1_code 1 = .ok (.invokespecial 5, 3) := by decide +kernel
theorem d1_4 : decode prog_117_method_1_code 4 = .ok (.aload_n 0, 1) := by decide +kernel
theorem d1_5 : decode prog_117_method_1_code 5 = .ok (.iload_n 1, 1) := by decide +kernel
theorem d1_6 : decode prog_117_method_1_code 6 = .ok (.putfield 11, 3) := by decide +kernel
theorem d1_9 : decode prog_117_method_1_code 9 = .ok (.aload_n 0, 1) := by decide +kernel
theorem d1_10 : decode prog_117_method_1_code 10 = .ok (.iload_n 2, 1) := by decide +kernel
theorem d1_11 : decode prog_117_method_1_code 11 = .ok (.putfield 17, 3) := by decide +kernel
theorem d1_14 : decode prog_117_method_1_code 14 = .ok (.return_, 1) := by decide +kernel
theorem pn28436484 : plainName "com/example/twofold/twofold/wire/Codec$Head" = true := by first | (simp [plainName, overriddenIn]; done) | decide +kernel
theorem pd93421996 : parseMethodDescriptor "()V" = some ⟨[], none⟩ := by decide +kernel
theorem ef_1 (m : MethodId) (a0 : Addr) (p1 : Int32) (p2 : Int32) : entryFrame m #[(.ref a0), (.int p1), (.int p2)] 3 = mkF m 0 #[.val (.ref a0), .val (.int p1), .val (.int p2)] [] := by first | (simp [entryFrame, mkF, argsToLocals, Value.category]; done) | rfl
def Q1 (Z : State) (a0 : Addr) (p1 : Int32) (p2 : Int32) (u_length : Int32) (u_continued : Int32) (h0 : Heap) (n0 : Nat) (v : Option Value) (h : Heap) (L : List Loc) : Prop := v = none ∧ Fr n0 L ∧ Keep h0 h [a0] ∧ Exa Z h a0 "com/example/twofold/twofold/wire/Codec$Head" ∧ Fld Z h a0 "com/example/twofold/twofold/wire/Codec$Head" "length" "I" (.int p1) ∧ Fld Z h a0 "com/example/twofold/twofold/wire/Codec$Head" "continued" "Z" (.int (p2 &&& 1))
set_option maxRecDepth 65536 in
set_option maxHeartbeats 40000000 in
theorem rm1 (l : Launch) (Z : State) (aq : Array Value) (hw : ∀ d ∈ tables_1, d.before aq Z = true) (ws : List Jvm.Cond) (a0 : Addr) (p1 : Int32) (p2 : Int32) (u_length : Int32) (u_continued : Int32) (h0 : Heap) (n0 : Nat) (Z0 : n0 ≤ h0.size) (E_a0 : Exa Z h0 a0 "com/example/twofold/twofold/wire/Codec$Head") (F_length : Fld Z h0 a0 "com/example/twofold/twofold/wire/Codec$Head" "length" "I" (.int u_length)) (F_continued : Fld Z h0 a0 "com/example/twofold/twofold/wire/Codec$Head" "continued" "Z" (.int u_continued)) (g_a0 : n0 ≤ a0) :
    MetFree l (⟨"com/example/twofold/twofold/wire/Codec$Head", "<init>", "(IZ)V"⟩ : MethodName) (head1 (Jvm.Cond.code (⟨"com/example/twofold/twofold/wire/Codec$Head", "<init>", "(IZ)V"⟩ : MethodName) prog_117_method_1_code 3 none :: ws) ({ frames := 2, cells := 0, slots := 0, locals := 24 } : Room)) (fun a U => a = #[(.ref a0), (.int p1), (.int p2)] ∧ Z.Warmed39 U.vm ∧ U.heap = h0) (fun _ _ _ _ _ => True) (fun _ U o U' => ∃ v L, o = .returned v ∧ Q1 Z a0 p1 p2 u_length u_continued h0 n0 v U'.heap L ∧ FrameEnd U o U' L ({ frames := 2, cells := 0, slots := 0, locals := 24 } : Room).cells ({ frames := 2, cells := 0, slots := 0, locals := 24 } : Room).slots) := by
  refine MetFree.of_bodySF (plainFor_of_name pn28436484) hisR ?_
  intro p e s m args below meth c s₁ Bd hml0 hP hK
  obtain ⟨rfl, hZ, hh⟩ := hP
  have hx := Bd.exec
  have hby := Bd.bytes
  have hml : c.maxLocals = 3 := hml0
  have hown : s.vm.findClass "com/example/twofold/twofold/wire/Codec$Head" = some m.cls := findClass_of_methodNamed Bd.named
  have hnm := (name_of_methodNamed Bd.named Bd.method).1
  have X0 : Stand p l e ({ frames := 2, cells := 0, slots := 0, locals := 24 } : Room) s m #[(.ref a0), (.int p1), (.int p2)] below meth c s₁ [] 0 0 := Stand.of_body Bd
  have e0 : s₁.heap = h0 := by rw [← hh, Bd.state]; rfl
  have N0 := Fr.nil n0
  have K0 : Keep h0 h0 [a0] := Keep.refl _ _
  have pre0 : ∀ t, Steps p.tables e below (s₁.setTop (mkF m 0 #[.val (.ref a0), .val (.int p1), .val (.int p2)] [])) t → Steps p.tables e below (s₁.setTop (entryFrame m #[(.ref a0), (.int p1), (.int p2)] 3)) t := fun t k => castTop (ef_1 m a0 p1 p2) k
  obtain ⟨_, _, ⟨T20, L20, k20, n20⟩, -, X20, ⟨Lc20, hQ20, l20, y20, z20⟩, st20⟩ := X0.specialBack hx (y := (⟨"java/lang/Record", "<init>", "()V"⟩ : MethodName)) rfl hown (mvT hZ (hw _ (List.mem_of_getElem? (i := 7) rfl))) (mvT hZ (hw _ (List.mem_of_getElem? (i := 8) rfl))) (mvT hZ (hw _ (List.mem_of_getElem? (i := 11) rfl))) (by decide) (backOf (W := 0) (rm2 l Z aq hw [] a0 h0 n0 Z0 ) hZ (hw _ (List.mem_of_getElem? (i := 11) rfl)) (hw _ (List.mem_of_getElem? (i := 10) rfl)) (by decide) (by decide)) (g := (mkF m 1 #[.val (.ref a0), .val (.int p1), .val (.int p2)] [(.ref a0)])) rfl (by rw [hml]; rfl) (Steps.refl _) (a := a0) (argsL := []) (rest := []) (lenOf pd93421996 rfl) rfl (by show 2 * 0 + _ ≤ _; exact Nat.le_of_eq rfl) (hb hby d1_1) (fun _ _ => ⟨rfl, e0, (by decide : 0 + 0 ≤ _), (by decide : 0 + 0 ≤ _)⟩)
  dsimp only [Pt.U, Pt.locs, Pt.cells, Pt.slots] at X20 l20 y20 z20 st20 hQ20
  subst l20 y20 z20
  obtain ⟨rfl, N20q, e20⟩ := hQ20
  have N21 := Fr.app N0 N20q
  obtain ⟨T22, h22, X22, e22, W22, st22⟩ := putF X20 hx hZ hown (host := "") (Or.inl (hw _ (List.mem_of_getElem? (i := 15) rfl))) Via.refl e20 F_length E_a0 (Or.inr ⟨(hw _ (List.mem_of_getElem? (i := 16) rfl)), rfl, hnm⟩) (hw _ (List.mem_of_getElem? (i := 2) rfl)) (ty := .int) (by decide) rfl rfl (g := (mkF m 6 #[.val (.ref a0), .val (.int p1), .val (.int p2)] [(.int p1), (.ref a0)])) rfl rfl (hb hby d1_6)
  have E23 := E_a0.wr W22
  have F24 : Fld Z h22 a0 "com/example/twofold/twofold/wire/Codec$Head" "length" "I" (.int p1) := F_length.same W22
  have F25 := F_continued.other W22 (Or.inr (slot_ne (Or.inr (hw _ (List.mem_of_getElem? (i := 18) rfl))) (Or.inr (hw _ (List.mem_of_getElem? (i := 16) rfl))) (by decide) (t := .boolean) (t' := .int) (by decide) (by decide)))
  have N26 := Fr.snoc X22 N21 g_a0
  have K27 : Keep h0 h22 [a0] := K0.wr W22 (Or.inl (List.mem_of_getElem? (i := 0) rfl))
  have Z28 : n0 ≤ h22.size := Nat.le_trans Z0 (Keep.of_wr W22).1
  obtain ⟨T29, h29, X29, e29, W29, st29⟩ := putFN X22 hx hZ hown (hw _ (List.mem_of_getElem? (i := 17) rfl)) Via.refl e22 F25 E23 (Or.inr ⟨(hw _ (List.mem_of_getElem? (i := 18) rfl)), rfl, hnm⟩) (hw _ (List.mem_of_getElem? (i := 2) rfl)) (ty := .boolean) (v' := (.int (p2 &&& 1))) (by decide) rfl (fits_nar_bool _) (g := (mkF m 11 #[.val (.ref a0), .val (.int p1), .val (.int p2)] [(.int p2), (.ref a0)])) rfl rfl (hb hby d1_11)
  have E30 := E23.wr W29
  have F31 := F24.other W29 (Or.inr (slot_ne (Or.inr (hw _ (List.mem_of_getElem? (i := 16) rfl))) (Or.inr (hw _ (List.mem_of_getElem? (i := 18) rfl))) (by decide) (t := .int) (t' := .boolean) (by decide) (by decide)))
  have F32 : Fld Z h29 a0 "com/example/twofold/twofold/wire/Codec$Head" "continued" "Z" (.int (p2 &&& 1)) := F25.same W29
  have N33 := Fr.snoc X29 N26 g_a0
  have K34 : Keep h0 h29 [a0] := K27.wr W29 (Or.inl (List.mem_of_getElem? (i := 0) rfl))
  have Z35 : n0 ≤ h29.size := Nat.le_trans Z28 (Keep.of_wr W29).1
  have pre36 : ∀ t, Steps p.tables e below (T29.setTop (mkF m 14 #[.val (.ref a0), .val (.int p1), .val (.int p2)] [])) t → Steps p.tables e below (s₁.setTop (entryFrame m #[(.ref a0), (.int p1), (.int p2)] 3)) t := fun t kt => by
    refine pre0 _ ?_
    show Steps p.tables e below (s₁.setTop (mkF m 0 #[.val (.ref a0), .val (.int p1), .val (.int p2)] [])) _
    refine XS.aloadN X0.here hx rfl (hb hby d1_0) rfl rfl ?_
    show Steps p.tables e below (s₁.setTop (mkF m 1 #[.val (.ref a0), .val (.int p1), .val (.int p2)] [(.ref a0)])) _
    refine st20.trans ?_
    show Steps p.tables e below (T20.setTop (mkF m 4 #[.val (.ref a0), .val (.int p1), .val (.int p2)] [])) _
    refine XS.aloadN X20.here hx rfl (hb hby d1_4) rfl rfl ?_
    show Steps p.tables e below (T20.setTop (mkF m 5 #[.val (.ref a0), .val (.int p1), .val (.int p2)] [(.ref a0)])) _
    refine XS.iloadN X20.here hx rfl (hb hby d1_5) rfl ?_
    show Steps p.tables e below (T20.setTop (mkF m 6 #[.val (.ref a0), .val (.int p1), .val (.int p2)] [(.int p1), (.ref a0)])) _
    refine st22 _ ?_
    show Steps p.tables e below (T22.setTop (mkF m 9 #[.val (.ref a0), .val (.int p1), .val (.int p2)] [])) _
    refine XS.aloadN X22.here hx rfl (hb hby d1_9) rfl rfl ?_
    show Steps p.tables e below (T22.setTop (mkF m 10 #[.val (.ref a0), .val (.int p1), .val (.int p2)] [(.ref a0)])) _
    refine XS.iloadN X22.here hx rfl (hb hby d1_10) rfl ?_
    show Steps p.tables e below (T22.setTop (mkF m 11 #[.val (.ref a0), .val (.int p1), .val (.int p2)] [(.int p2), (.ref a0)])) _
    refine st29 _ ?_
    show Steps p.tables e below (T29.setTop (mkF m 14 #[.val (.ref a0), .val (.int p1), .val (.int p2)] [])) _
    exact kt
  obtain ⟨fs, hr, hrun, hended, hW, hsame⟩ := X29.leave (v := none) (fun _ => rfl)
  refine ⟨_, _, pre36 _ ?_, hrun, hended, _, _, rfl, ?_, ⟨_, rfl⟩, hW, hsame.mono (by decide) (by decide)⟩
  · exact X29.returnOut hx Bd.returns (hb hby d1_14) hr
  · show Q1 Z a0 p1 p2 u_length u_continued h0 n0 _ T29.heap _
    rw [e29]
    exact ⟨rfl, N33, K34, E30, F31, F32⟩
theorem d4_0 : decode prog_117_method_3_code 0 = .ok (.aload_n 0, 1) := by decide +kernel
theorem d4_1 : decode prog_117_method_3_code 1 = .ok (.getfield 11, 3) := by decide +kernel
theorem d4_4 : decode prog_117_method_3_code 4 = .ok (.bipush 9, 2) := by decide +kernel
theorem d4_6 : decode prog_117_method_3_code 6 = .ok (.if_icmp .lt 16, 3) := by decide +kernel
theorem d4_9 : decode prog_117_method_3_code 9 = .ok (.aload_n 0, 1) := by decide +kernel
theorem d4_10 : decode prog_117_method_3_code 10 = .ok (.getfield 11, 3) := by decide +kernel
theorem d4_13 : decode prog_117_method_3_code 13 = .ok (.ldc 36, 2) := by decide +kernel
theorem d4_15 : decode prog_117_method_3_code 15 = .ok (.if_icmp .gt 7, 3) := by decide +kernel
theorem d4_18 : decode prog_117_method_3_code 18 = .ok (.iconst 1, 1) := by decide +kernel
theorem d4_19 : decode prog_117_method_3_code 19 = .ok (.goto 4, 3) := by decide +kernel
theorem d4_22 : decode prog_117_method_3_code 22 = .ok (.iconst 0, 1) := by decide +kernel
theorem d4_23 : decode prog_117_method_3_code 23 = .ok (.ireturn, 1) := by decide +kernel
theorem ef_4 (m : MethodId) (a0 : Addr) : entryFrame m #[(.ref a0)] 1 = mkF m 0 #[.val (.ref a0)] [] := by first | (simp [entryFrame, mkF, argsToLocals, Value.category]; done) | rfl
def Q4 (Z : State) (a0 : Addr) (u_length : Int32) (u_continued : Int32) (h0 : Heap) (n0 : Nat) (v : Option Value) (h : Heap) (L : List Loc) : Prop := v = some (.int (if u_length < (9 : Int32) then (0 : Int32) else (if (4194304 : Int32) < u_length then (0 : Int32) else (1 : Int32)))) ∧ Fr n0 L ∧ h = h0
set_option maxRecDepth 65536 in
set_option maxHeartbeats 40000000 in
theorem rm4 (l : Launch) (Z : State) (aq : Array Value) (hw : ∀ d ∈ tables_1, d.before aq Z = true) (ws : List Jvm.Cond) (a0 : Addr) (u_length : Int32) (u_continued : Int32) (h0 : Heap) (n0 : Nat) (Z0 : n0 ≤ h0.size) (E_a0 : Exa Z h0 a0 "com/example/twofold/twofold/wire/Codec$Head") (F_length : Fld Z h0 a0 "com/example/twofold/twofold/wire/Codec$Head" "length" "I" (.int u_length)) (F_continued : Fld Z h0 a0 "com/example/twofold/twofold/wire/Codec$Head" "continued" "Z" (.int u_continued)) :
    MetFree l (⟨"com/example/twofold/twofold/wire/Codec$Head", "fits", "()Z"⟩ : MethodName) (head1 (Jvm.Cond.code (⟨"com/example/twofold/twofold/wire/Codec$Head", "fits", "()Z"⟩ : MethodName) prog_117_method_3_code 1 (some .boolean) :: ws) ({ frames := 0, cells := 0, slots := 0, locals := 0 } : Room)) (fun a U => a = #[(.ref a0)] ∧ Z.Warmed39 U.vm ∧ U.heap = h0) (fun _ _ _ _ _ => True) (fun _ U o U' => ∃ v L, o = .returned v ∧ Q4 Z a0 u_length u_continued h0 n0 v U'.heap L ∧ FrameEnd U o U' L ({ frames := 0, cells := 0, slots := 0, locals := 0 } : Room).cells ({ frames := 0, cells := 0, slots := 0, locals := 0 } : Room).slots) := by
  refine MetFree.of_bodySF (plainFor_of_name pn28436484) hisR ?_
  intro p e s m args below meth c s₁ Bd hml0 hP hK
  obtain ⟨rfl, hZ, hh⟩ := hP
  have hx := Bd.exec
  have hby := Bd.bytes
  have hml : c.maxLocals = 1 := hml0
  have hown : s.vm.findClass "com/example/twofold/twofold/wire/Codec$Head" = some m.cls := findClass_of_methodNamed Bd.named
  have hnm := (name_of_methodNamed Bd.named Bd.method).1
  have X0 : Stand p l e ({ frames := 0, cells := 0, slots := 0, locals := 0 } : Room) s m #[(.ref a0)] below meth c s₁ [] 0 0 := Stand.of_body Bd
  have e0 : s₁.heap = h0 := by rw [← hh, Bd.state]; rfl
  have N0 := Fr.nil n0
  have pre0 : ∀ t, Steps p.tables e below (s₁.setTop (mkF m 0 #[.val (.ref a0)] [])) t → Steps p.tables e below (s₁.setTop (entryFrame m #[(.ref a0)] 1)) t := fun t k => castTop (ef_4 m a0) k
  obtain ⟨T43, X43, e43, st43⟩ := getF X0 hx hZ hown (host := "") (Or.inl (hw _ (List.mem_of_getElem? (i := 15) rfl))) Via.refl e0 F_length (g := (mkF m 1 #[.val (.ref a0)] [(.ref a0)])) rfl rfl (hb hby d4_1)
  have pre44 : ∀ t, Steps p.tables e below (T43.setTop (mkF m 6 #[.val (.ref a0)] [(.int (9 : Int32)), (.int u_length)])) t → Steps p.tables e below (s₁.setTop (entryFrame m #[(.ref a0)] 1)) t := fun t kt => by
    refine pre0 _ ?_
    show Steps p.tables e below (s₁.setTop (mkF m 0 #[.val (.ref a0)] [])) _
    refine XS.aloadN X0.here hx rfl (hb hby d4_0) rfl rfl ?_
    show Steps p.tables e below (s₁.setTop (mkF m 1 #[.val (.ref a0)] [(.ref a0)])) _
    refine st43 _ ?_
    show Steps p.tables e below (T43.setTop (mkF m 4 #[.val (.ref a0)] [(.int u_length)])) _
    refine XS.bipush X43.here hx rfl (hb hby d4_4) ?_
    show Steps p.tables e below (T43.setTop (mkF m 6 #[.val (.ref a0)] [(.int (9 : Int32)), (.int u_length)])) _
    exact kt
  by_cases hc45 : u_length < (9 : Int32)
  · skip
    have pre46 : ∀ t, Steps p.tables e below (T43.setTop (mkF m 23 #[.val (.ref a0)] [(.int (0 : Int32))])) t → Steps p.tables e below (s₁.setTop (entryFrame m #[(.ref a0)] 1)) t := fun t kt => by
      refine pre44 _ ?_
      show Steps p.tables e below (T43.setTop (mkF m 6 #[.val (.ref a0)] [(.int (9 : Int32)), (.int u_length)])) _
      refine XS.icmpYes X43.here hx rfl (pc0 := 6) (pc' := 22) rfl (hb hby d4_6) rfl (tlt hc45).1 (by decide) (by decide) ?_
      show Steps p.tables e below (T43.setTop (mkF m 22 #[.val (.ref a0)] [])) _
      refine XS.iconst X43.here hx rfl (hb hby d4_22) ?_
      show Steps p.tables e below (T43.setTop (mkF m 23 #[.val (.ref a0)] [(.int (0 : Int32))])) _
      exact kt
    obtain ⟨fs, hr, hrun, hended, hW, hsame⟩ := X43.leave (v := some (.int (0 : Int32))) (fun h => by rw [Bd.returns] at h; cases h)
    refine ⟨_, _, pre46 _ ?_, hrun, hended, _, _, rfl, ?_, ⟨_, rfl⟩, hW, hsame.mono (by decide) (by decide)⟩
    · exact retN X43 hx (t := .boolean) Bd.returns (by simp) (hb hby d4_23) hr
    · show Q4 Z a0 u_length u_continued h0 n0 _ T43.heap _
      rw [e43]
      exact ⟨(own_rI (by rw [if_pos hc45] : (0 : Int32) = (if u_length < (9 : Int32) then (0 : Int32) else (if (4194304 : Int32) < u_length then (0 : Int32) else (1 : Int32))))), N0, rfl⟩
  · skip
    obtain ⟨T47, X47, e47, st47⟩ := getF X43 hx hZ hown (host := "") (Or.inl (hw _ (List.mem_of_getElem? (i := 15) rfl))) Via.refl e43 F_length (g := (mkF m 10 #[.val (.ref a0)] [(.ref a0)])) rfl rfl (hb hby d4_10)
    have pre48 : ∀ t, Steps p.tables e below (T47.setTop (mkF m 15 #[.val (.ref a0)] [(.int (4194304 : Int32)), (.int u_length)])) t → Steps p.tables e below (s₁.setTop (entryFrame m #[(.ref a0)] 1)) t := fun t kt => by
      refine pre44 _ ?_
      show Steps p.tables e below (T43.setTop (mkF m 6 #[.val (.ref a0)] [(.int (9 : Int32)), (.int u_length)])) _
      refine XS.icmpNo X43.here hx rfl (hb hby d4_6) rfl (flt hc45).1 ?_
      show Steps p.tables e below (T43.setTop (mkF m 9 #[.val (.ref a0)] [])) _
      refine XS.aloadN X43.here hx rfl (hb hby d4_9) rfl rfl ?_
      show Steps p.tables e below (T43.setTop (mkF m 10 #[.val (.ref a0)] [(.ref a0)])) _
      refine st47 _ ?_
      show Steps p.tables e below (T47.setTop (mkF m 13 #[.val (.ref a0)] [(.int u_length)])) _
      refine X47.ldcInt hx hown (mvT hZ (hw _ (List.mem_of_getElem? (i := 26) rfl))) (g := (mkF m 13 #[.val (.ref a0)] [(.int u_length)])) rfl (hb hby d4_13) _ ?_
      show Steps p.tables e below (T47.setTop (mkF m 15 #[.val (.ref a0)] [(.int (4194304 : Int32)), (.int u_length)])) _
      exact kt
    by_cases hc49 : (4194304 : Int32) < u_length
    · skip
      have pre50 : ∀ t, Steps p.tables e below (T47.setTop (mkF m 23 #[.val (.ref a0)] [(.int (0 : Int32))])) t → Steps p.tables e below (s₁.setTop (entryFrame m #[(.ref a0)] 1)) t := fun t kt => by
        refine pre48 _ ?_
        show Steps p.tables e below (T47.setTop (mkF m 15 #[.val (.ref a0)] [(.int (4194304 : Int32)), (.int u_length)])) _
        refine XS.icmpYes X47.here hx rfl (pc0 := 15) (pc' := 22) rfl (hb hby d4_15) rfl (tlt hc49).2.2.1 (by decide) (by decide) ?_
        show Steps p.tables e below (T47.setTop (mkF m 22 #[.val (.ref a0)] [])) _
        refine XS.iconst X47.here hx rfl (hb hby d4_22) ?_
        show Steps p.tables e below (T47.setTop (mkF m 23 #[.val (.ref a0)] [(.int (0 : Int32))])) _
        exact kt
      obtain ⟨fs, hr, hrun, hended, hW, hsame⟩ := X47.leave (v := some (.int (0 : Int32))) (fun h => by rw [Bd.returns] at h; cases h)
      refine ⟨_, _, pre50 _ ?_, hrun, hended, _, _, rfl, ?_, ⟨_, rfl⟩, hW, hsame.mono (by decide) (by decide)⟩
      · exact retN X47 hx (t := .boolean) Bd.returns (by simp) (hb hby d4_23) hr
      · show Q4 Z a0 u_length u_continued h0 n0 _ T47.heap _
        rw [e47]
        exact ⟨(own_rI (by rw [if_neg hc45, if_pos hc49] : (0 : Int32) = (if u_length < (9 : Int32) then (0 : Int32) else (if (4194304 : Int32) < u_length then (0 : Int32) else (1 : Int32))))), N0, rfl⟩
    · skip
      have pre51 : ∀ t, Steps p.tables e below (T47.setTop (mkF m 23 #[.val (.ref a0)] [(.int (1 : Int32))])) t → Steps p.tables e below (s₁.setTop (entryFrame m #[(.ref a0)] 1)) t := fun t kt => by
        refine pre48 _ ?_
        show Steps p.tables e below (T47.setTop (mkF m 15 #[.val (.ref a0)] [(.int (4194304 : Int32)), (.int u_length)])) _
        refine XS.icmpNo X47.here hx rfl (hb hby d4_15) rfl (flt hc49).2.2.1 ?_
        show Steps p.tables e below (T47.setTop (mkF m 18 #[.val (.ref a0)] [])) _
        refine XS.iconst X47.here hx rfl (hb hby d4_18) ?_
        show Steps p.tables e below (T47.setTop (mkF m 19 #[.val (.ref a0)] [(.int (1 : Int32))])) _
        refine XS.goto X47.here hx rfl (pc0 := 19) (pc' := 23) rfl (hb hby d4_19) (by decide) (by decide) ?_
        show Steps p.tables e below (T47.setTop (mkF m 23 #[.val (.ref a0)] [(.int (1 : Int32))])) _
        exact kt
      obtain ⟨fs, hr, hrun, hended, hW, hsame⟩ := X47.leave (v := some (.int (1 : Int32))) (fun h => by rw [Bd.returns] at h; cases h)
      refine ⟨_, _, pre51 _ ?_, hrun, hended, _, _, rfl, ?_, ⟨_, rfl⟩, hW, hsame.mono (by decide) (by decide)⟩
      · exact retN X47 hx (t := .boolean) Bd.returns (by simp) (hb hby d4_23) hr
      · show Q4 Z a0 u_length u_continued h0 n0 _ T47.heap _
        rw [e47]
        exact ⟨(own_rI (by rw [if_neg hc45, if_neg hc49] : (1 : Int32) = (if u_length < (9 : Int32) then (0 : Int32) else (if (4194304 : Int32) < u_length then (0 : Int32) else (1 : Int32))))), N0, rfl⟩
theorem pd84311919 : parseMethodDescriptor "(IZ)V" = some ⟨[.int, .boolean], none⟩ := by decide +kernel
theorem pd93422000 : parseMethodDescriptor "()Z" = some ⟨[], some .boolean⟩ := by decide +kernel
theorem pn54289219 : plainName "com/example/twofold/twofold/wire/HeadFitsPinLaw" = true := by first | (simp [plainName, overriddenIn]; done) | decide +kernel

theorem own_plain0 (p0 : Int32) (p1 : Int32)
    (v1 : Int32) (hv1 : v1 = (if (p1 &&& (3 : Int32)) = (0 : Int32) then p0 else (if (p1 &&& (3 : Int32)) = (1 : Int32) then ((7 : Int32) + (p0 &&& (3 : Int32))) else (if (p1 &&& (3 : Int32)) = (2 : Int32) then ((4194302 : Int32) + (p0 &&& (3 : Int32))) else (if (p1 &&& (4 : Int32)) = (0 : Int32) then ((2147483647 : Int32) - (p0 &&& (3 : Int32))) else ((-2147483648 : Int32) + (p0 &&& (3 : Int32))))))))
    (v2 : Int32) (hv2 : v2 = (if (((p1.toUInt32 >>> ((3 : Int32) &&& 31).toUInt32).toInt32) &&& (1 : Int32)) = (0 : Int32) then (0 : Int32) else (1 : Int32)))
    (v3 : Int32) (hv3 : v3 = (if v2 = (0 : Int32) then (1 : Int32) else (0 : Int32)))
    (v4 : Int32) (hv4 : v4 = (if ((v1.toInt64) - (9 : Int64)) < (0 : Int64) then (0 : Int32) else (if (4194295 : Int64) < ((v1.toInt64) - (9 : Int64)) then (0 : Int32) else (1 : Int32)))) : (if v1 < (9 : Int32) then (0 : Int32) else (if (4194304 : Int32) < v1 then (0 : Int32) else (1 : Int32))) = v4 := by
  rw [hv4]
  clear hv4 hv3 hv2 hv1
  have a := v1.toInt_lt
  have b := v1.le_toInt
  have c9 : (9 : Int64).toInt = 9 := rfl
  have e : (v1.toInt64 - (9 : Int64)).toInt = v1.toInt - 9 := by
    rw [Jvm.Kit.i64_sub (by rw [Jvm.Kit.i64_of_i32, c9]; omega) (by rw [Jvm.Kit.i64_of_i32, c9]; omega), Jvm.Kit.i64_of_i32, c9]
  have k1 : v1.toInt64 - (9 : Int64) < (0 : Int64) ↔ v1 < (9 : Int32) := by
    rw [Int64.lt_iff_toInt_lt, Int32.lt_iff_toInt_lt, e]
    show v1.toInt - 9 < 0 ↔ v1.toInt < 9
    omega
  have k2 : (4194295 : Int64) < v1.toInt64 - (9 : Int64) ↔ (4194304 : Int32) < v1 := by
    rw [Int64.lt_iff_toInt_lt, Int32.lt_iff_toInt_lt, e]
    show 4194295 < v1.toInt - 9 ↔ 4194304 < v1.toInt
    omega
  simp only [k1, k2]
theorem own_plain1 (p0 : Int32) (p1 : Int32)
    (v1 : Int32) (hv1 : v1 = (if (p1 &&& (3 : Int32)) = (0 : Int32) then p0 else (if (p1 &&& (3 : Int32)) = (1 : Int32) then ((7 : Int32) + (p0 &&& (3 : Int32))) else (if (p1 &&& (3 : Int32)) = (2 : Int32) then ((4194302 : Int32) + (p0 &&& (3 : Int32))) else (if (p1 &&& (4 : Int32)) = (0 : Int32) then ((2147483647 : Int32) - (p0 &&& (3 : Int32))) else ((-2147483648 : Int32) + (p0 &&& (3 : Int32))))))))
    (v2 : Int32) (hv2 : v2 = (if (((p1.toUInt32 >>> ((3 : Int32) &&& 31).toUInt32).toInt32) &&& (1 : Int32)) = (0 : Int32) then (0 : Int32) else (1 : Int32)))
    (v3 : Int32) (hv3 : v3 = (if v2 = (0 : Int32) then (1 : Int32) else (0 : Int32)))
    (v4 : Int32) (hv4 : v4 = (if ((v1.toInt64) - (9 : Int64)) < (0 : Int64) then (0 : Int32) else (if (4194295 : Int64) < ((v1.toInt64) - (9 : Int64)) then (0 : Int32) else (1 : Int32))))
    (v5 : Int32) (hv5 : v5 = (if (if v1 < (9 : Int32) then (0 : Int32) else (if (4194304 : Int32) < v1 then (0 : Int32) else (1 : Int32))) = v4 then (1 : Int32) else (0 : Int32))) : v5 = 1 := by
  rw [hv5, if_pos (own_plain0 p0 p1 v1 hv1 v2 hv2 v3 hv3 v4 hv4)]
theorem ef_0 (m : MethodId) (p0 : Int32) (p1 : Int32) : entryFrame m #[(.int p0), (.int p1)] maxLocals = mkF m 0 #[.val (.int p0), .val (.int p1), .unset, .unset, .unset, .unset, .unset, .unset, .unset, .unset] [] := by first | (simp [entryFrame, mkF, argsToLocals, Value.category, maxLocals]; done) | rfl
def Q0 (n0 : Nat) (v : Option Value) (L : List Loc) : Prop := v = some (.int (1 : Int32)) ∧ Fr n0 L
set_option maxRecDepth 65536 in
set_option maxHeartbeats 40000000 in
theorem rm0 (l : Launch) (Z : State) (aq : Array Value) (hw : ∀ d ∈ tables_1, d.before aq Z = true) (ws : List Jvm.Cond) (p0 : Int32) (p1 : Int32) (h0 : Heap) (n0 : Nat) (Z0 : n0 ≤ h0.size) :
    MetFree l x (head1 (Jvm.Cond.code x code maxLocals ret :: ws) room_1) (fun a U => a = #[(.int p0), (.int p1)] ∧ Z.Warmed39 U.vm ∧ U.heap = h0) (fun _ _ _ _ _ => True) (fun _ U o U' => ∃ v L, o = .returned v ∧ Q0 n0 v L ∧ FrameEnd U o U' L room_1.cells room_1.slots) := by
  refine MetFree.of_bodySF (plainFor_of_name pn54289219) hisR ?_
  intro p e s m args below meth c s₁ Bd hml0 hP hK
  obtain ⟨rfl, hZ, hh⟩ := hP
  have hx := Bd.exec
  have hby := Bd.bytes
  have hml : c.maxLocals = 10 := hml0
  have hown : s.vm.findClass "com/example/twofold/twofold/wire/HeadFitsPinLaw" = some m.cls := findClass_of_methodNamed Bd.named
  have X0 : Stand p l e room_1 s m #[(.int p0), (.int p1)] below meth c s₁ [] 0 0 := Stand.of_body Bd
  have e0 : s₁.heap = h0 := by rw [← hh, Bd.state]; rfl
  have N0 := Fr.nil n0
  have pre0 : ∀ t, Steps p.tables e below (s₁.setTop (mkF m 0 #[.val (.int p0), .val (.int p1), .unset, .unset, .unset, .unset, .unset, .unset, .unset, .unset] [])) t → Steps p.tables e below (s₁.setTop (entryFrame m #[(.int p0), (.int p1)] maxLocals)) t := fun t k => castTop (ef_0 m p0 p1) k
  have pre52 : ∀ t, Steps p.tables e below (s₁.setTop (mkF m 5 #[.val (.int p0), .val (.int p1), .val (.int (p1 &&& (3 : Int32))), .unset, .unset, .unset, .unset, .unset, .unset, .unset] [(.int (p1 &&& (3 : Int32)))])) t → Steps p.tables e below (s₁.setTop (entryFrame m #[(.int p0), (.int p1)] maxLocals)) t := fun t kt => by
    refine pre0 _ ?_
    show Steps p.tables e below (s₁.setTop (mkF m 0 #[.val (.int p0), .val (.int p1), .unset, .unset, .unset, .unset, .unset, .unset, .unset, .unset] [])) _
    refine XS.iloadN X0.here hx rfl (hb hby at_0) rfl ?_
    show Steps p.tables e below (s₁.setTop (mkF m 1 #[.val (.int p0), .val (.int p1), .unset, .unset, .unset, .unset, .unset, .unset, .unset, .unset] [(.int p1)])) _
    refine XS.iconst X0.here hx rfl (hb hby at_1) ?_
    show Steps p.tables e below (s₁.setTop (mkF m 2 #[.val (.int p0), .val (.int p1), .unset, .unset, .unset, .unset, .unset, .unset, .unset, .unset] [(.int (3 : Int32)), (.int p1)])) _
    refine XS.iand X0.here hx rfl (hb hby at_2) rfl ?_
    show Steps p.tables e below (s₁.setTop (mkF m 3 #[.val (.int p0), .val (.int p1), .unset, .unset, .unset, .unset, .unset, .unset, .unset, .unset] [(.int (p1 &&& (3 : Int32)))])) _
    refine XS.istoreN X0.here hx rfl (hb hby at_3) rfl (l' := #[.val (.int p0), .val (.int p1), .val (.int (p1 &&& (3 : Int32))), .unset, .unset, .unset, .unset, .unset, .unset, .unset]) rfl ?_
    show Steps p.tables e below (s₁.setTop (mkF m 4 #[.val (.int p0), .val (.int p1), .val (.int (p1 &&& (3 : Int32))), .unset, .unset, .unset, .unset, .unset, .unset, .unset] [])) _
    refine XS.iloadN X0.here hx rfl (hb hby at_4) rfl ?_
    show Steps p.tables e below (s₁.setTop (mkF m 5 #[.val (.int p0), .val (.int p1), .val (.int (p1 &&& (3 : Int32))), .unset, .unset, .unset, .unset, .unset, .unset, .unset] [(.int (p1 &&& (3 : Int32)))])) _
    exact kt
  obtain ⟨v1, hv1⟩ : ∃ z : Int32, z = (if (p1 &&& (3 : Int32)) = (0 : Int32) then p0 else (if (p1 &&& (3 : Int32)) = (1 : Int32) then ((7 : Int32) + (p0 &&& (3 : Int32))) else (if (p1 &&& (3 : Int32)) = (2 : Int32) then ((4194302 : Int32) + (p0 &&& (3 : Int32))) else (if (p1 &&& (4 : Int32)) = (0 : Int32) then ((2147483647 : Int32) - (p0 &&& (3 : Int32))) else ((-2147483648 : Int32) + (p0 &&& (3 : Int32))))))) := ⟨_, rfl⟩
  have pre57 : ∀ t, Steps p.tables e below (s₁.setTop (mkF m 66 #[.val (.int p0), .val (.int p1), .val (.int (p1 &&& (3 : Int32))), .val (.int v1), .unset, .unset, .unset, .unset, .unset, .unset] [])) t → Steps p.tables e below (s₁.setTop (entryFrame m #[(.int p0), (.int p1)] maxLocals)) t := fun t kt => by
    refine pre52 _ ?_
    show Steps p.tables e below (s₁.setTop (mkF m 5 #[.val (.int p0), .val (.int p1), .val (.int (p1 &&& (3 : Int32))), .unset, .unset, .unset, .unset, .unset, .unset, .unset] [(.int (p1 &&& (3 : Int32)))])) _
    by_cases hc53 : (p1 &&& (3 : Int32)) = (0 : Int32)
    · rw [if_pos hc53] at hv1
      refine XS.ifNo X0.here hx rfl (hb hby at_5) rfl ((if0 _ _).trans (teq hc53).2) ?_
      show Steps p.tables e below (s₁.setTop (mkF m 8 #[.val (.int p0), .val (.int p1), .val (.int (p1 &&& (3 : Int32))), .unset, .unset, .unset, .unset, .unset, .unset, .unset] [])) _
      refine XS.iloadN X0.here hx rfl (hb hby at_8) rfl ?_
      show Steps p.tables e below (s₁.setTop (mkF m 9 #[.val (.int p0), .val (.int p1), .val (.int (p1 &&& (3 : Int32))), .unset, .unset, .unset, .unset, .unset, .unset, .unset] [(.int p0)])) _
      refine XS.istoreN X0.here hx rfl (hb hby at_9) rfl (l' := #[.val (.int p0), .val (.int p1), .val (.int (p1 &&& (3 : Int32))), .val (.int p0), .unset, .unset, .unset, .unset, .unset, .unset]) rfl ?_
      show Steps p.tables e below (s₁.setTop (mkF m 10 #[.val (.int p0), .val (.int p1), .val (.int (p1 &&& (3 : Int32))), .val (.int p0), .unset, .unset, .unset, .unset, .unset, .unset] [])) _
      refine XS.goto X0.here hx rfl (pc0 := 10) (pc' := 66) rfl (hb hby at_10) (by decide) (by decide) ?_
      subst hv1
      exact kt
    · rw [if_neg hc53] at hv1
      refine XS.ifYes X0.here hx rfl (pc0 := 5) (pc' := 13) rfl (hb hby at_5) rfl ((if0 _ _).trans (feq hc53).2) (by decide) (by decide) ?_
      show Steps p.tables e below (s₁.setTop (mkF m 13 #[.val (.int p0), .val (.int p1), .val (.int (p1 &&& (3 : Int32))), .unset, .unset, .unset, .unset, .unset, .unset, .unset] [])) _
      refine XS.iloadN X0.here hx rfl (hb hby at_13) rfl ?_
      show Steps p.tables e below (s₁.setTop (mkF m 14 #[.val (.int p0), .val (.int p1), .val (.int (p1 &&& (3 : Int32))), .unset, .unset, .unset, .unset, .unset, .unset, .unset] [(.int (p1 &&& (3 : Int32)))])) _
      refine XS.iconst X0.here hx rfl (hb hby at_14) ?_
      show Steps p.tables e below (s₁.setTop (mkF m 15 #[.val (.int p0), .val (.int p1), .val (.int (p1 &&& (3 : Int32))), .unset, .unset, .unset, .unset, .unset, .unset, .unset] [(.int (1 : Int32)), (.int (p1 &&& (3 : Int32)))])) _
      by_cases hc54 : (p1 &&& (3 : Int32)) = (1 : Int32)
      · rw [if_pos hc54] at hv1
        refine XS.icmpNo X0.here hx rfl (hb hby at_15) rfl (teq hc54).2 ?_
        show Steps p.tables e below (s₁.setTop (mkF m 18 #[.val (.int p0), .val (.int p1), .val (.int (p1 &&& (3 : Int32))), .unset, .unset, .unset, .unset, .unset, .unset, .unset] [])) _
        refine XS.bipush X0.here hx rfl (hb hby at_18) ?_
        show Steps p.tables e below (s₁.setTop (mkF m 20 #[.val (.int p0), .val (.int p1), .val (.int (p1 &&& (3 : Int32))), .unset, .unset, .unset, .unset, .unset, .unset, .unset] [(.int (7 : Int32))])) _
        refine XS.iloadN X0.here hx rfl (hb hby at_20) rfl ?_
        show Steps p.tables e below (s₁.setTop (mkF m 21 #[.val (.int p0), .val (.int p1), .val (.int (p1 &&& (3 : Int32))), .unset, .unset, .unset, .unset, .unset, .unset, .unset] [(.int p0), (.int (7 : Int32))])) _
        refine XS.iconst X0.here hx rfl (hb hby at_21) ?_
        show Steps p.tables e below (s₁.setTop (mkF m 22 #[.val (.int p0), .val (.int p1), .val (.int (p1 &&& (3 : Int32))), .unset, .unset, .unset, .unset, .unset, .unset, .unset] [(.int (3 : Int32)), (.int p0), (.int (7 : Int32))])) _
        refine XS.iand X0.here hx rfl (hb hby at_22) rfl ?_
        show Steps p.tables e below (s₁.setTop (mkF m 23 #[.val (.int p0), .val (.int p1), .val (.int (p1 &&& (3 : Int32))), .unset, .unset, .unset, .unset, .unset, .unset, .unset] [(.int (p0 &&& (3 : Int32))), (.int (7 : Int32))])) _
        refine XS.iadd X0.here hx rfl (hb hby at_23) rfl ?_
        show Steps p.tables e below (s₁.setTop (mkF m 24 #[.val (.int p0), .val (.int p1), .val (.int (p1 &&& (3 : Int32))), .unset, .unset, .unset, .unset, .unset, .unset, .unset] [(.int ((7 : Int32) + (p0 &&& (3 : Int32))))])) _
        refine XS.istoreN X0.here hx rfl (hb hby at_24) rfl (l' := #[.val (.int p0), .val (.int p1), .val (.int (p1 &&& (3 : Int32))), .val (.int ((7 : Int32) + (p0 &&& (3 : Int32)))), .unset, .unset, .unset, .unset, .unset, .unset]) rfl ?_
        show Steps p.tables e below (s₁.setTop (mkF m 25 #[.val (.int p0), .val (.int p1), .val (.int (p1 &&& (3 : Int32))), .val (.int ((7 : Int32) + (p0 &&& (3 : Int32)))), .unset, .unset, .unset, .unset, .unset, .unset] [])) _
        refine XS.goto X0.here hx rfl (pc0 := 25) (pc' := 66) rfl (hb hby at_25) (by decide) (by decide) ?_
        subst hv1
        exact kt
      · rw [if_neg hc54] at hv1
        refine XS.icmpYes X0.here hx rfl (pc0 := 15) (pc' := 28) rfl (hb hby at_15) rfl (feq hc54).2 (by decide) (by decide) ?_
        show Steps p.tables e below (s₁.setTop (mkF m 28 #[.val (.int p0), .val (.int p1), .val (.int (p1 &&& (3 : Int32))), .unset, .unset, .unset, .unset, .unset, .unset, .unset] [])) _
        refine XS.iloadN X0.here hx rfl (hb hby at_28) rfl ?_
        show Steps p.tables e below (s₁.setTop (mkF m 29 #[.val (.int p0), .val (.int p1), .val (.int (p1 &&& (3 : Int32))), .unset, .unset, .unset, .unset, .unset, .unset, .unset] [(.int (p1 &&& (3 : Int32)))])) _
        refine XS.iconst X0.here hx rfl (hb hby at_29) ?_
        show Steps p.tables e below (s₁.setTop (mkF m 30 #[.val (.int p0), .val (.int p1), .val (.int (p1 &&& (3 : Int32))), .unset, .unset, .unset, .unset, .unset, .unset, .unset] [(.int (2 : Int32)), (.int (p1 &&& (3 : Int32)))])) _
        by_cases hc55 : (p1 &&& (3 : Int32)) = (2 : Int32)
        · rw [if_pos hc55] at hv1
          refine XS.icmpNo X0.here hx rfl (hb hby at_30) rfl (teq hc55).2 ?_
          show Steps p.tables e below (s₁.setTop (mkF m 33 #[.val (.int p0), .val (.int p1), .val (.int (p1 &&& (3 : Int32))), .unset, .unset, .unset, .unset, .unset, .unset, .unset] [])) _
          refine X0.ldcInt hx hown (mvT hZ (hw _ (List.mem_of_getElem? (i := 28) rfl))) (g := (mkF m 33 #[.val (.int p0), .val (.int p1), .val (.int (p1 &&& (3 : Int32))), .unset, .unset, .unset, .unset, .unset, .unset, .unset] [])) rfl (hb hby at_33) _ ?_
          show Steps p.tables e below (s₁.setTop (mkF m 35 #[.val (.int p0), .val (.int p1), .val (.int (p1 &&& (3 : Int32))), .unset, .unset, .unset, .unset, .unset, .unset, .unset] [(.int (4194302 : Int32))])) _
          refine XS.iloadN X0.here hx rfl (hb hby at_35) rfl ?_
          show Steps p.tables e below (s₁.setTop (mkF m 36 #[.val (.int p0), .val (.int p1), .val (.int (p1 &&& (3 : Int32))), .unset, .unset, .unset, .unset, .unset, .unset, .unset] [(.int p0), (.int (4194302 : Int32))])) _
          refine XS.iconst X0.here hx rfl (hb hby at_36) ?_
          show Steps p.tables e below (s₁.setTop (mkF m 37 #[.val (.int p0), .val (.int p1), .val (.int (p1 &&& (3 : Int32))), .unset, .unset, .unset, .unset, .unset, .unset, .unset] [(.int (3 : Int32)), (.int p0), (.int (4194302 : Int32))])) _
          refine XS.iand X0.here hx rfl (hb hby at_37) rfl ?_
          show Steps p.tables e below (s₁.setTop (mkF m 38 #[.val (.int p0), .val (.int p1), .val (.int (p1 &&& (3 : Int32))), .unset, .unset, .unset, .unset, .unset, .unset, .unset] [(.int (p0 &&& (3 : Int32))), (.int (4194302 : Int32))])) _
          refine XS.iadd X0.here hx rfl (hb hby at_38) rfl ?_
          show Steps p.tables e below (s₁.setTop (mkF m 39 #[.val (.int p0), .val (.int p1), .val (.int (p1 &&& (3 : Int32))), .unset, .unset, .unset, .unset, .unset, .unset, .unset] [(.int ((4194302 : Int32) + (p0 &&& (3 : Int32))))])) _
          refine XS.istoreN X0.here hx rfl (hb hby at_39) rfl (l' := #[.val (.int p0), .val (.int p1), .val (.int (p1 &&& (3 : Int32))), .val (.int ((4194302 : Int32) + (p0 &&& (3 : Int32)))), .unset, .unset, .unset, .unset, .unset, .unset]) rfl ?_
          show Steps p.tables e below (s₁.setTop (mkF m 40 #[.val (.int p0), .val (.int p1), .val (.int (p1 &&& (3 : Int32))), .val (.int ((4194302 : Int32) + (p0 &&& (3 : Int32)))), .unset, .unset, .unset, .unset, .unset, .unset] [])) _
          refine XS.goto X0.here hx rfl (pc0 := 40) (pc' := 66) rfl (hb hby at_40) (by decide) (by decide) ?_
          subst hv1
          exact kt
        · rw [if_neg hc55] at hv1
          refine XS.icmpYes X0.here hx rfl (pc0 := 30) (pc' := 43) rfl (hb hby at_30) rfl (feq hc55).2 (by decide) (by decide) ?_
          show Steps p.tables e below (s₁.setTop (mkF m 43 #[.val (.int p0), .val (.int p1), .val (.int (p1 &&& (3 : Int32))), .unset, .unset, .unset, .unset, .unset, .unset, .unset] [])) _
          refine XS.iloadN X0.here hx rfl (hb hby at_43) rfl ?_
          show Steps p.tables e below (s₁.setTop (mkF m 44 #[.val (.int p0), .val (.int p1), .val (.int (p1 &&& (3 : Int32))), .unset, .unset, .unset, .unset, .unset, .unset, .unset] [(.int p1)])) _
          refine XS.iconst X0.here hx rfl (hb hby at_44) ?_
          show Steps p.tables e below (s₁.setTop (mkF m 45 #[.val (.int p0), .val (.int p1), .val (.int (p1 &&& (3 : Int32))), .unset, .unset, .unset, .unset, .unset, .unset, .unset] [(.int (4 : Int32)), (.int p1)])) _
          refine XS.iand X0.here hx rfl (hb hby at_45) rfl ?_
          show Steps p.tables e below (s₁.setTop (mkF m 46 #[.val (.int p0), .val (.int p1), .val (.int (p1 &&& (3 : Int32))), .unset, .unset, .unset, .unset, .unset, .unset, .unset] [(.int (p1 &&& (4 : Int32)))])) _
          by_cases hc56 : (p1 &&& (4 : Int32)) = (0 : Int32)
          · rw [if_pos hc56] at hv1
            refine XS.ifYes X0.here hx rfl (pc0 := 46) (pc' := 59) rfl (hb hby at_46) rfl ((if0 _ _).trans (teq hc56).1) (by decide) (by decide) ?_
            show Steps p.tables e below (s₁.setTop (mkF m 59 #[.val (.int p0), .val (.int p1), .val (.int (p1 &&& (3 : Int32))), .unset, .unset, .unset, .unset, .unset, .unset, .unset] [])) _
            refine X0.ldcInt hx hown (mvT hZ (hw _ (List.mem_of_getElem? (i := 0) rfl))) (g := (mkF m 59 #[.val (.int p0), .val (.int p1), .val (.int (p1 &&& (3 : Int32))), .unset, .unset, .unset, .unset, .unset, .unset, .unset] [])) rfl (hb hby at_59) _ ?_
            show Steps p.tables e below (s₁.setTop (mkF m 61 #[.val (.int p0), .val (.int p1), .val (.int (p1 &&& (3 : Int32))), .unset, .unset, .unset, .unset, .unset, .unset, .unset] [(.int (2147483647 : Int32))])) _
            refine XS.iloadN X0.here hx rfl (hb hby at_61) rfl ?_
            show Steps p.tables e below (s₁.setTop (mkF m 62 #[.val (.int p0), .val (.int p1), .val (.int (p1 &&& (3 : Int32))), .unset, .unset, .unset, .unset, .unset, .unset, .unset] [(.int p0), (.int (2147483647 : Int32))])) _
            refine XS.iconst X0.here hx rfl (hb hby at_62) ?_
            show Steps p.tables e below (s₁.setTop (mkF m 63 #[.val (.int p0), .val (.int p1), .val (.int (p1 &&& (3 : Int32))), .unset, .unset, .unset, .unset, .unset, .unset, .unset] [(.int (3 : Int32)), (.int p0), (.int (2147483647 : Int32))])) _
            refine XS.iand X0.here hx rfl (hb hby at_63) rfl ?_
            show Steps p.tables e below (s₁.setTop (mkF m 64 #[.val (.int p0), .val (.int p1), .val (.int (p1 &&& (3 : Int32))), .unset, .unset, .unset, .unset, .unset, .unset, .unset] [(.int (p0 &&& (3 : Int32))), (.int (2147483647 : Int32))])) _
            refine XS.isub X0.here hx rfl (hb hby at_64) rfl ?_
            show Steps p.tables e below (s₁.setTop (mkF m 65 #[.val (.int p0), .val (.int p1), .val (.int (p1 &&& (3 : Int32))), .unset, .unset, .unset, .unset, .unset, .unset, .unset] [(.int ((2147483647 : Int32) - (p0 &&& (3 : Int32))))])) _
            refine XS.istoreN X0.here hx rfl (hb hby at_65) rfl (l' := #[.val (.int p0), .val (.int p1), .val (.int (p1 &&& (3 : Int32))), .val (.int ((2147483647 : Int32) - (p0 &&& (3 : Int32)))), .unset, .unset, .unset, .unset, .unset, .unset]) rfl ?_
            subst hv1
            exact kt
          · rw [if_neg hc56] at hv1
            refine XS.ifNo X0.here hx rfl (hb hby at_46) rfl ((if0 _ _).trans (feq hc56).1) ?_
            show Steps p.tables e below (s₁.setTop (mkF m 49 #[.val (.int p0), .val (.int p1), .val (.int (p1 &&& (3 : Int32))), .unset, .unset, .unset, .unset, .unset, .unset, .unset] [])) _
            refine X0.ldcInt hx hown (mvT hZ (hw _ (List.mem_of_getElem? (i := 27) rfl))) (g := (mkF m 49 #[.val (.int p0), .val (.int p1), .val (.int (p1 &&& (3 : Int32))), .unset, .unset, .unset, .unset, .unset, .unset, .unset] [])) rfl (hb hby at_49) _ ?_
            show Steps p.tables e below (s₁.setTop (mkF m 51 #[.val (.int p0), .val (.int p1), .val (.int (p1 &&& (3 : Int32))), .unset, .unset, .unset, .unset, .unset, .unset, .unset] [(.int (-2147483648 : Int32))])) _
            refine XS.iloadN X0.here hx rfl (hb hby at_51) rfl ?_
            show Steps p.tables e below (s₁.setTop (mkF m 52 #[.val (.int p0), .val (.int p1), .val (.int (p1 &&& (3 : Int32))), .unset, .unset, .unset, .unset, .unset, .unset, .unset] [(.int p0), (.int (-2147483648 : Int32))])) _
            refine XS.iconst X0.here hx rfl (hb hby at_52) ?_
            show Steps p.tables e below (s₁.setTop (mkF m 53 #[.val (.int p0), .val (.int p1), .val (.int (p1 &&& (3 : Int32))), .unset, .unset, .unset, .unset, .unset, .unset, .unset] [(.int (3 : Int32)), (.int p0), (.int (-2147483648 : Int32))])) _
            refine XS.iand X0.here hx rfl (hb hby at_53) rfl ?_
            show Steps p.tables e below (s₁.setTop (mkF m 54 #[.val (.int p0), .val (.int p1), .val (.int (p1 &&& (3 : Int32))), .unset, .unset, .unset, .unset, .unset, .unset, .unset] [(.int (p0 &&& (3 : Int32))), (.int (-2147483648 : Int32))])) _
            refine XS.iadd X0.here hx rfl (hb hby at_54) rfl ?_
            show Steps p.tables e below (s₁.setTop (mkF m 55 #[.val (.int p0), .val (.int p1), .val (.int (p1 &&& (3 : Int32))), .unset, .unset, .unset, .unset, .unset, .unset, .unset] [(.int ((-2147483648 : Int32) + (p0 &&& (3 : Int32))))])) _
            refine XS.istoreN X0.here hx rfl (hb hby at_55) rfl (l' := #[.val (.int p0), .val (.int p1), .val (.int (p1 &&& (3 : Int32))), .val (.int ((-2147483648 : Int32) + (p0 &&& (3 : Int32)))), .unset, .unset, .unset, .unset, .unset, .unset]) rfl ?_
            show Steps p.tables e below (s₁.setTop (mkF m 56 #[.val (.int p0), .val (.int p1), .val (.int (p1 &&& (3 : Int32))), .val (.int ((-2147483648 : Int32) + (p0 &&& (3 : Int32)))), .unset, .unset, .unset, .unset, .unset, .unset] [])) _
            refine XS.goto X0.here hx rfl (pc0 := 56) (pc' := 66) rfl (hb hby at_56) (by decide) (by decide) ?_
            subst hv1
            exact kt
  have pre58 : ∀ t, Steps p.tables e below (s₁.setTop (mkF m 71 #[.val (.int p0), .val (.int p1), .val (.int (p1 &&& (3 : Int32))), .val (.int v1), .unset, .unset, .unset, .unset, .unset, .unset] [(.int (((p1.toUInt32 >>> ((3 : Int32) &&& 31).toUInt32).toInt32) &&& (1 : Int32)))])) t → Steps p.tables e below (s₁.setTop (entryFrame m #[(.int p0), (.int p1)] maxLocals)) t := fun t kt => by
    refine pre57 _ ?_
    show Steps p.tables e below (s₁.setTop (mkF m 66 #[.val (.int p0), .val (.int p1), .val (.int (p1 &&& (3 : Int32))), .val (.int v1), .unset, .unset, .unset, .unset, .unset, .unset] [])) _
    refine XS.iloadN X0.here hx rfl (hb hby at_66) rfl ?_
    show Steps p.tables e below (s₁.setTop (mkF m 67 #[.val (.int p0), .val (.int p1), .val (.int (p1 &&& (3 : Int32))), .val (.int v1), .unset, .unset, .unset, .unset, .unset, .unset] [(.int p1)])) _
    refine XS.iconst X0.here hx rfl (hb hby at_67) ?_
    show Steps p.tables e below (s₁.setTop (mkF m 68 #[.val (.int p0), .val (.int p1), .val (.int (p1 &&& (3 : Int32))), .val (.int v1), .unset, .unset, .unset, .unset, .unset, .unset] [(.int (3 : Int32)), (.int p1)])) _
    refine XS.iushr X0.here hx rfl (hb hby at_68) rfl ?_
    show Steps p.tables e below (s₁.setTop (mkF m 69 #[.val (.int p0), .val (.int p1), .val (.int (p1 &&& (3 : Int32))), .val (.int v1), .unset, .unset, .unset, .unset, .unset, .unset] [(.int ((p1.toUInt32 >>> ((3 : Int32) &&& 31).toUInt32).toInt32))])) _
    refine XS.iconst X0.here hx rfl (hb hby at_69) ?_
    show Steps p.tables e below (s₁.setTop (mkF m 70 #[.val (.int p0), .val (.int p1), .val (.int (p1 &&& (3 : Int32))), .val (.int v1), .unset, .unset, .unset, .unset, .unset, .unset] [(.int (1 : Int32)), (.int ((p1.toUInt32 >>> ((3 : Int32) &&& 31).toUInt32).toInt32))])) _
    refine XS.iand X0.here hx rfl (hb hby at_70) rfl ?_
    show Steps p.tables e below (s₁.setTop (mkF m 71 #[.val (.int p0), .val (.int p1), .val (.int (p1 &&& (3 : Int32))), .val (.int v1), .unset, .unset, .unset, .unset, .unset, .unset] [(.int (((p1.toUInt32 >>> ((3 : Int32) &&& 31).toUInt32).toInt32) &&& (1 : Int32)))])) _
    exact kt
  obtain ⟨v2, hv2⟩ : ∃ z : Int32, z = (if (((p1.toUInt32 >>> ((3 : Int32) &&& 31).toUInt32).toInt32) &&& (1 : Int32)) = (0 : Int32) then (0 : Int32) else (1 : Int32)) := ⟨_, rfl⟩
  have pre60 : ∀ t, Steps p.tables e below (s₁.setTop (mkF m 79 #[.val (.int p0), .val (.int p1), .val (.int (p1 &&& (3 : Int32))), .val (.int v1), .unset, .unset, .unset, .unset, .unset, .unset] [(.int v2)])) t → Steps p.tables e below (s₁.setTop (entryFrame m #[(.int p0), (.int p1)] maxLocals)) t := fun t kt => by
    refine pre58 _ ?_
    show Steps p.tables e below (s₁.setTop (mkF m 71 #[.val (.int p0), .val (.int p1), .val (.int (p1 &&& (3 : Int32))), .val (.int v1), .unset, .unset, .unset, .unset, .unset, .unset] [(.int (((p1.toUInt32 >>> ((3 : Int32) &&& 31).toUInt32).toInt32) &&& (1 : Int32)))])) _
    by_cases hc59 : (((p1.toUInt32 >>> ((3 : Int32) &&& 31).toUInt32).toInt32) &&& (1 : Int32)) = (0 : Int32)
    · rw [if_pos hc59] at hv2
      refine XS.ifYes X0.here hx rfl (pc0 := 71) (pc' := 78) rfl (hb hby at_71) rfl ((if0 _ _).trans (teq hc59).1) (by decide) (by decide) ?_
      show Steps p.tables e below (s₁.setTop (mkF m 78 #[.val (.int p0), .val (.int p1), .val (.int (p1 &&& (3 : Int32))), .val (.int v1), .unset, .unset, .unset, .unset, .unset, .unset] [])) _
      refine XS.iconst X0.here hx rfl (hb hby at_78) ?_
      subst hv2
      exact kt
    · rw [if_neg hc59] at hv2
      refine XS.ifNo X0.here hx rfl (hb hby at_71) rfl ((if0 _ _).trans (feq hc59).1) ?_
      show Steps p.tables e below (s₁.setTop (mkF m 74 #[.val (.int p0), .val (.int p1), .val (.int (p1 &&& (3 : Int32))), .val (.int v1), .unset, .unset, .unset, .unset, .unset, .unset] [])) _
      refine XS.iconst X0.here hx rfl (hb hby at_74) ?_
      show Steps p.tables e below (s₁.setTop (mkF m 75 #[.val (.int p0), .val (.int p1), .val (.int (p1 &&& (3 : Int32))), .val (.int v1), .unset, .unset, .unset, .unset, .unset, .unset] [(.int (1 : Int32))])) _
      refine XS.goto X0.here hx rfl (pc0 := 75) (pc' := 79) rfl (hb hby at_75) (by decide) (by decide) ?_
      subst hv2
      exact kt
  obtain ⟨T61, h61, X61, e61, E61, A61, D61, -, st61⟩ := newO X0 hx hZ hown (hw _ (List.mem_of_getElem? (i := 1) rfl)) (hw _ (List.mem_of_getElem? (i := 2) rfl)) (hw _ (List.mem_of_getElem? (i := 3) rfl)) e0 (g := (mkF m 81 #[.val (.int p0), .val (.int p1), .val (.int (p1 &&& (3 : Int32))), .val (.int v1), .val (.int v2), .unset, .unset, .unset, .unset, .unset] [])) rfl (hb hby at_81) (by decide) (by decide)
  obtain ⟨b61, g61⟩ : ∃ z, z = h0.size := ⟨_, rfl⟩
  rw [← g61] at A61 D61 st61
  have g_b61 : n0 ≤ b61 := Nat.le_trans Z0 (Nat.le_of_eq g61.symm)
  have Z62 : n0 ≤ h61.size := Nat.le_trans Z0 E61.1
  have F61_length : Fld Z h61 b61 "com/example/twofold/twofold/wire/Codec$Head" "length" "I" (.int (0 : Int32)) := D61 (Or.inr (hw _ (List.mem_of_getElem? (i := 16) rfl))) (ty := .int) (by decide)
  have F61_continued : Fld Z h61 b61 "com/example/twofold/twofold/wire/Codec$Head" "continued" "Z" (.int (0 : Int32)) := D61 (Or.inr (hw _ (List.mem_of_getElem? (i := 18) rfl))) (ty := .boolean) (by decide)
  obtain ⟨_, _, ⟨T63, L63, k63, n63⟩, -, X63, ⟨Lc63, hQ63, l63, y63, z63⟩, st63⟩ := X61.specialBack hx (y := (⟨"com/example/twofold/twofold/wire/Codec$Head", "<init>", "(IZ)V"⟩ : MethodName)) rfl hown (mvT hZ (hw _ (List.mem_of_getElem? (i := 4) rfl))) (mvT hZ (hw _ (List.mem_of_getElem? (i := 5) rfl))) (mvT hZ (hw _ (List.mem_of_getElem? (i := 6) rfl))) (by decide) (backOf (W := 1) (rm1 l Z aq hw [] b61 v1 v2 (0 : Int32) (0 : Int32) h61 n0 Z62 A61 F61_length F61_continued g_b61) hZ (hw _ (List.mem_of_getElem? (i := 6) rfl)) (hw _ (List.mem_of_getElem? (i := 3) rfl)) (by decide) (by decide)) (g := (mkF m 88 #[.val (.int p0), .val (.int p1), .val (.int (p1 &&& (3 : Int32))), .val (.int v1), .val (.int v2), .unset, .unset, .unset, .unset, .unset] [(.int v2), (.int v1), (.ref b61), (.ref b61)])) rfl (by rw [hml]; rfl) (Steps.refl _) (a := b61) (argsL := [(.int v1), (.int v2)]) (rest := [(.ref b61)]) (lenOf pd84311919 rfl) rfl (by show 2 * 0 + _ ≤ _; exact Nat.le_of_eq rfl) (hb hby at_88) (fun _ _ => ⟨rfl, e61, (by decide : 1 + 0 ≤ _), (by decide : 2 + 0 ≤ _)⟩)
  dsimp only [Pt.U, Pt.locs, Pt.cells, Pt.slots] at X63 l63 y63 z63 st63 hQ63
  subst l63 y63 z63
  obtain ⟨rfl, N63q, K63, E63_0, F63_0, F63_1⟩ := hQ63
  have Z64 : n0 ≤ T63.heap.size := Nat.le_trans Z62 K63.1
  have N65 := Fr.app N0 N63q
  obtain ⟨T66, h66, X66, e66, E66, A66, D66, -, st66⟩ := newO X63 hx hZ hown (hw _ (List.mem_of_getElem? (i := 1) rfl)) (hw _ (List.mem_of_getElem? (i := 2) rfl)) (hw _ (List.mem_of_getElem? (i := 3) rfl)) rfl (g := (mkF m 93 #[.val (.int p0), .val (.int p1), .val (.int (p1 &&& (3 : Int32))), .val (.int v1), .val (.int v2), .val (.ref b61), .unset, .unset, .unset, .unset] [])) rfl (hb hby at_93) (by decide) (by decide)
  obtain ⟨b66, g66⟩ : ∃ z, z = T63.heap.size := ⟨_, rfl⟩
  rw [← g66] at A66 D66 st66
  have ne_b61_b66 : b61 ≠ b66 := Nat.ne_of_lt (Nat.lt_of_lt_of_le E63_0.lt (Nat.le_of_eq g66.symm))
  have g_b66 : n0 ≤ b66 := Nat.le_trans Z64 (Nat.le_of_eq g66.symm)
  have E67 := E63_0.ext E66
  have F68 := F63_0.ext E66
  have F69 := F63_1.ext E66
  have Z70 : n0 ≤ h66.size := Nat.le_trans Z64 E66.1
  have F66_length : Fld Z h66 b66 "com/example/twofold/twofold/wire/Codec$Head" "length" "I" (.int (0 : Int32)) := D66 (Or.inr (hw _ (List.mem_of_getElem? (i := 16) rfl))) (ty := .int) (by decide)
  have F66_continued : Fld Z h66 b66 "com/example/twofold/twofold/wire/Codec$Head" "continued" "Z" (.int (0 : Int32)) := D66 (Or.inr (hw _ (List.mem_of_getElem? (i := 18) rfl))) (ty := .boolean) (by decide)
  have pre71 : ∀ t, Steps p.tables e below (T66.setTop (mkF m 100 #[.val (.int p0), .val (.int p1), .val (.int (p1 &&& (3 : Int32))), .val (.int v1), .val (.int v2), .val (.ref b61), .unset, .unset, .unset, .unset] [(.int v2), (.int v1), (.ref b66), (.ref b66)])) t → Steps p.tables e below (s₁.setTop (entryFrame m #[(.int p0), (.int p1)] maxLocals)) t := fun t kt => by
    refine pre60 _ ?_
    show Steps p.tables e below (s₁.setTop (mkF m 79 #[.val (.int p0), .val (.int p1), .val (.int (p1 &&& (3 : Int32))), .val (.int v1), .unset, .unset, .unset, .unset, .unset, .unset] [(.int v2)])) _
    refine XS.istore X0.here hx rfl (hb hby at_79) rfl (l' := #[.val (.int p0), .val (.int p1), .val (.int (p1 &&& (3 : Int32))), .val (.int v1), .val (.int v2), .unset, .unset, .unset, .unset, .unset]) rfl ?_
    show Steps p.tables e below (s₁.setTop (mkF m 81 #[.val (.int p0), .val (.int p1), .val (.int (p1 &&& (3 : Int32))), .val (.int v1), .val (.int v2), .unset, .unset, .unset, .unset, .unset] [])) _
    refine st61 _ ?_
    show Steps p.tables e below (T61.setTop (mkF m 84 #[.val (.int p0), .val (.int p1), .val (.int (p1 &&& (3 : Int32))), .val (.int v1), .val (.int v2), .unset, .unset, .unset, .unset, .unset] [(.ref b61)])) _
    refine XS.dup X61.here hx rfl (hb hby at_84) rfl rfl ?_
    show Steps p.tables e below (T61.setTop (mkF m 85 #[.val (.int p0), .val (.int p1), .val (.int (p1 &&& (3 : Int32))), .val (.int v1), .val (.int v2), .unset, .unset, .unset, .unset, .unset] [(.ref b61), (.ref b61)])) _
    refine XS.iloadN X61.here hx rfl (hb hby at_85) rfl ?_
    show Steps p.tables e below (T61.setTop (mkF m 86 #[.val (.int p0), .val (.int p1), .val (.int (p1 &&& (3 : Int32))), .val (.int v1), .val (.int v2), .unset, .unset, .unset, .unset, .unset] [(.int v1), (.ref b61), (.ref b61)])) _
    refine XS.iload X61.here hx rfl (hb hby at_86) rfl ?_
    show Steps p.tables e below (T61.setTop (mkF m 88 #[.val (.int p0), .val (.int p1), .val (.int (p1 &&& (3 : Int32))), .val (.int v1), .val (.int v2), .unset, .unset, .unset, .unset, .unset] [(.int v2), (.int v1), (.ref b61), (.ref b61)])) _
    refine st63.trans ?_
    show Steps p.tables e below (T63.setTop (mkF m 91 #[.val (.int p0), .val (.int p1), .val (.int (p1 &&& (3 : Int32))), .val (.int v1), .val (.int v2), .unset, .unset, .unset, .unset, .unset] [(.ref b61)])) _
    refine XS.astore X63.here hx rfl (hb hby at_91) rfl rfl (l' := #[.val (.int p0), .val (.int p1), .val (.int (p1 &&& (3 : Int32))), .val (.int v1), .val (.int v2), .val (.ref b61), .unset, .unset, .unset, .unset]) rfl ?_
    show Steps p.tables e below (T63.setTop (mkF m 93 #[.val (.int p0), .val (.int p1), .val (.int (p1 &&& (3 : Int32))), .val (.int v1), .val (.int v2), .val (.ref b61), .unset, .unset, .unset, .unset] [])) _
    refine st66 _ ?_
    show Steps p.tables e below (T66.setTop (mkF m 96 #[.val (.int p0), .val (.int p1), .val (.int (p1 &&& (3 : Int32))), .val (.int v1), .val (.int v2), .val (.ref b61), .unset, .unset, .unset, .unset] [(.ref b66)])) _
    refine XS.dup X66.here hx rfl (hb hby at_96) rfl rfl ?_
    show Steps p.tables e below (T66.setTop (mkF m 97 #[.val (.int p0), .val (.int p1), .val (.int (p1 &&& (3 : Int32))), .val (.int v1), .val (.int v2), .val (.ref b61), .unset, .unset, .unset, .unset] [(.ref b66), (.ref b66)])) _
    refine XS.iloadN X66.here hx rfl (hb hby at_97) rfl ?_
    show Steps p.tables e below (T66.setTop (mkF m 98 #[.val (.int p0), .val (.int p1), .val (.int (p1 &&& (3 : Int32))), .val (.int v1), .val (.int v2), .val (.ref b61), .unset, .unset, .unset, .unset] [(.int v1), (.ref b66), (.ref b66)])) _
    refine XS.iload X66.here hx rfl (hb hby at_98) rfl ?_
    show Steps p.tables e below (T66.setTop (mkF m 100 #[.val (.int p0), .val (.int p1), .val (.int (p1 &&& (3 : Int32))), .val (.int v1), .val (.int v2), .val (.ref b61), .unset, .unset, .unset, .unset] [(.int v2), (.int v1), (.ref b66), (.ref b66)])) _
    exact kt
  obtain ⟨v3, hv3⟩ : ∃ z : Int32, z = (if v2 = (0 : Int32) then (1 : Int32) else (0 : Int32)) := ⟨_, rfl⟩
  have pre73 : ∀ t, Steps p.tables e below (T66.setTop (mkF m 108 #[.val (.int p0), .val (.int p1), .val (.int (p1 &&& (3 : Int32))), .val (.int v1), .val (.int v2), .val (.ref b61), .unset, .unset, .unset, .unset] [(.int v3), (.int v1), (.ref b66), (.ref b66)])) t → Steps p.tables e below (s₁.setTop (entryFrame m #[(.int p0), (.int p1)] maxLocals)) t := fun t kt => by
    refine pre71 _ ?_
    show Steps p.tables e below (T66.setTop (mkF m 100 #[.val (.int p0), .val (.int p1), .val (.int (p1 &&& (3 : Int32))), .val (.int v1), .val (.int v2), .val (.ref b61), .unset, .unset, .unset, .unset] [(.int v2), (.int v1), (.ref b66), (.ref b66)])) _
    by_cases hc72 : v2 = (0 : Int32)
    · rw [if_pos hc72] at hv3
      refine XS.ifNo X66.here hx rfl (hb hby at_100) rfl ((if0 _ _).trans (teq hc72).2) ?_
      show Steps p.tables e below (T66.setTop (mkF m 103 #[.val (.int p0), .val (.int p1), .val (.int (p1 &&& (3 : Int32))), .val (.int v1), .val (.int v2), .val (.ref b61), .unset, .unset, .unset, .unset] [(.int v1), (.ref b66), (.ref b66)])) _
      refine XS.iconst X66.here hx rfl (hb hby at_103) ?_
      show Steps p.tables e below (T66.setTop (mkF m 104 #[.val (.int p0), .val (.int p1), .val (.int (p1 &&& (3 : Int32))), .val (.int v1), .val (.int v2), .val (.ref b61), .unset, .unset, .unset, .unset] [(.int (1 : Int32)), (.int v1), (.ref b66), (.ref b66)])) _
      refine XS.goto X66.here hx rfl (pc0 := 104) (pc' := 108) rfl (hb hby at_104) (by decide) (by decide) ?_
      subst hv3
      exact kt
    · rw [if_neg hc72] at hv3
      refine XS.ifYes X66.here hx rfl (pc0 := 100) (pc' := 107) rfl (hb hby at_100) rfl ((if0 _ _).trans (feq hc72).2) (by decide) (by decide) ?_
      show Steps p.tables e below (T66.setTop (mkF m 107 #[.val (.int p0), .val (.int p1), .val (.int (p1 &&& (3 : Int32))), .val (.int v1), .val (.int v2), .val (.ref b61), .unset, .unset, .unset, .unset] [(.int v1), (.ref b66), (.ref b66)])) _
      refine XS.iconst X66.here hx rfl (hb hby at_107) ?_
      subst hv3
      exact kt
  obtain ⟨_, _, ⟨T74, L74, k74, n74⟩, -, X74, ⟨Lc74, hQ74, l74, y74, z74⟩, st74⟩ := X66.specialBack hx (y := (⟨"com/example/twofold/twofold/wire/Codec$Head", "<init>", "(IZ)V"⟩ : MethodName)) rfl hown (mvT hZ (hw _ (List.mem_of_getElem? (i := 4) rfl))) (mvT hZ (hw _ (List.mem_of_getElem? (i := 5) rfl))) (mvT hZ (hw _ (List.mem_of_getElem? (i := 6) rfl))) (by decide) (backOf (W := 1) (rm1 l Z aq hw [] b66 v1 v3 (0 : Int32) (0 : Int32) h66 n0 Z70 A66 F66_length F66_continued g_b66) hZ (hw _ (List.mem_of_getElem? (i := 6) rfl)) (hw _ (List.mem_of_getElem? (i := 3) rfl)) (by decide) (by decide)) (g := (mkF m 108 #[.val (.int p0), .val (.int p1), .val (.int (p1 &&& (3 : Int32))), .val (.int v1), .val (.int v2), .val (.ref b61), .unset, .unset, .unset, .unset] [(.int v3), (.int v1), (.ref b66), (.ref b66)])) rfl (by rw [hml]; rfl) (Steps.refl _) (a := b66) (argsL := [(.int v1), (.int v3)]) (rest := [(.ref b66)]) (lenOf pd84311919 rfl) rfl (by show 2 * 0 + _ ≤ _; exact Nat.le_of_eq rfl) (hb hby at_108) (fun _ _ => ⟨rfl, e66, (by decide : 2 + 0 ≤ _), (by decide : 4 + 0 ≤ _)⟩)
  dsimp only [Pt.U, Pt.locs, Pt.cells, Pt.slots] at X74 l74 y74 z74 st74 hQ74
  subst l74 y74 z74
  obtain ⟨rfl, N74q, K74, E74_0, F74_0, F74_1⟩ := hQ74
  have E75 := E67.keep K74
  have F76 := F68.keep K74 (ninS ne_b61_b66 nin0)
  have F77 := F69.keep K74 (ninS ne_b61_b66 nin0)
  have Z78 : n0 ≤ T74.heap.size := Nat.le_trans Z70 K74.1
  have N79 := Fr.app N65 N74q
  have pre80 : ∀ t, Steps p.tables e below (T74.setTop (mkF m 125 #[.val (.int p0), .val (.int p1), .val (.int (p1 &&& (3 : Int32))), .val (.int v1), .val (.int v2), .val (.ref b61), .val (.ref b66), .val (.long ((v1.toInt64) - (9 : Int64))), .second, .unset] [(.int (lcmpW ((v1.toInt64) - (9 : Int64)) (0 : Int64)))])) t → Steps p.tables e below (s₁.setTop (entryFrame m #[(.int p0), (.int p1)] maxLocals)) t := fun t kt => by
    refine pre73 _ ?_
    show Steps p.tables e below (T66.setTop (mkF m 108 #[.val (.int p0), .val (.int p1), .val (.int (p1 &&& (3 : Int32))), .val (.int v1), .val (.int v2), .val (.ref b61), .unset, .unset, .unset, .unset] [(.int v3), (.int v1), (.ref b66), (.ref b66)])) _
    refine st74.trans ?_
    show Steps p.tables e below (T74.setTop (mkF m 111 #[.val (.int p0), .val (.int p1), .val (.int (p1 &&& (3 : Int32))), .val (.int v1), .val (.int v2), .val (.ref b61), .unset, .unset, .unset, .unset] [(.ref b66)])) _
    refine XS.astore X74.here hx rfl (hb hby at_111) rfl rfl (l' := #[.val (.int p0), .val (.int p1), .val (.int (p1 &&& (3 : Int32))), .val (.int v1), .val (.int v2), .val (.ref b61), .val (.ref b66), .unset, .unset, .unset]) rfl ?_
    show Steps p.tables e below (T74.setTop (mkF m 113 #[.val (.int p0), .val (.int p1), .val (.int (p1 &&& (3 : Int32))), .val (.int v1), .val (.int v2), .val (.ref b61), .val (.ref b66), .unset, .unset, .unset] [])) _
    refine XS.iloadN X74.here hx rfl (hb hby at_113) rfl ?_
    show Steps p.tables e below (T74.setTop (mkF m 114 #[.val (.int p0), .val (.int p1), .val (.int (p1 &&& (3 : Int32))), .val (.int v1), .val (.int v2), .val (.ref b61), .val (.ref b66), .unset, .unset, .unset] [(.int v1)])) _
    refine XS.i2l X74.here hx rfl (hb hby at_114) rfl ?_
    show Steps p.tables e below (T74.setTop (mkF m 115 #[.val (.int p0), .val (.int p1), .val (.int (p1 &&& (3 : Int32))), .val (.int v1), .val (.int v2), .val (.ref b61), .val (.ref b66), .unset, .unset, .unset] [(.long (v1.toInt64))])) _
    refine X74.ldc2Long hx hown (mvT hZ (hw _ (List.mem_of_getElem? (i := 19) rfl))) (g := (mkF m 115 #[.val (.int p0), .val (.int p1), .val (.int (p1 &&& (3 : Int32))), .val (.int v1), .val (.int v2), .val (.ref b61), .val (.ref b66), .unset, .unset, .unset] [(.long (v1.toInt64))])) rfl (hb hby at_115) _ ?_
    show Steps p.tables e below (T74.setTop (mkF m 118 #[.val (.int p0), .val (.int p1), .val (.int (p1 &&& (3 : Int32))), .val (.int v1), .val (.int v2), .val (.ref b61), .val (.ref b66), .unset, .unset, .unset] [(.long (9 : Int64)), (.long (v1.toInt64))])) _
    refine XS.lsub X74.here hx rfl (hb hby at_118) rfl ?_
    show Steps p.tables e below (T74.setTop (mkF m 119 #[.val (.int p0), .val (.int p1), .val (.int (p1 &&& (3 : Int32))), .val (.int v1), .val (.int v2), .val (.ref b61), .val (.ref b66), .unset, .unset, .unset] [(.long ((v1.toInt64) - (9 : Int64)))])) _
    refine XS.lstore X74.here hx rfl (hb hby at_119) rfl (l' := #[.val (.int p0), .val (.int p1), .val (.int (p1 &&& (3 : Int32))), .val (.int v1), .val (.int v2), .val (.ref b61), .val (.ref b66), .val (.long ((v1.toInt64) - (9 : Int64))), .second, .unset]) rfl ?_
    show Steps p.tables e below (T74.setTop (mkF m 121 #[.val (.int p0), .val (.int p1), .val (.int (p1 &&& (3 : Int32))), .val (.int v1), .val (.int v2), .val (.ref b61), .val (.ref b66), .val (.long ((v1.toInt64) - (9 : Int64))), .second, .unset] [])) _
    refine XS.lload X74.here hx rfl (hb hby at_121) rfl ?_
    show Steps p.tables e below (T74.setTop (mkF m 123 #[.val (.int p0), .val (.int p1), .val (.int (p1 &&& (3 : Int32))), .val (.int v1), .val (.int v2), .val (.ref b61), .val (.ref b66), .val (.long ((v1.toInt64) - (9 : Int64))), .second, .unset] [(.long ((v1.toInt64) - (9 : Int64)))])) _
    refine XS.lconst X74.here hx rfl (hb hby at_123) ?_
    show Steps p.tables e below (T74.setTop (mkF m 124 #[.val (.int p0), .val (.int p1), .val (.int (p1 &&& (3 : Int32))), .val (.int v1), .val (.int v2), .val (.ref b61), .val (.ref b66), .val (.long ((v1.toInt64) - (9 : Int64))), .second, .unset] [(.long (0 : Int64)), (.long ((v1.toInt64) - (9 : Int64)))])) _
    refine XS.lcmp X74.here hx rfl (hb hby at_124) rfl ?_
    show Steps p.tables e below (T74.setTop (mkF m 125 #[.val (.int p0), .val (.int p1), .val (.int (p1 &&& (3 : Int32))), .val (.int v1), .val (.int v2), .val (.ref b61), .val (.ref b66), .val (.long ((v1.toInt64) - (9 : Int64))), .second, .unset] [(.int (lcmpW ((v1.toInt64) - (9 : Int64)) (0 : Int64)))])) _
    exact kt
  obtain ⟨v4, hv4⟩ : ∃ z : Int32, z = (if ((v1.toInt64) - (9 : Int64)) < (0 : Int64) then (0 : Int32) else (if (4194295 : Int64) < ((v1.toInt64) - (9 : Int64)) then (0 : Int32) else (1 : Int32))) := ⟨_, rfl⟩
  have pre83 : ∀ t, Steps p.tables e below (T74.setTop (mkF m 142 #[.val (.int p0), .val (.int p1), .val (.int (p1 &&& (3 : Int32))), .val (.int v1), .val (.int v2), .val (.ref b61), .val (.ref b66), .val (.long ((v1.toInt64) - (9 : Int64))), .second, .unset] [(.int v4)])) t → Steps p.tables e below (s₁.setTop (entryFrame m #[(.int p0), (.int p1)] maxLocals)) t := fun t kt => by
    refine pre80 _ ?_
    show Steps p.tables e below (T74.setTop (mkF m 125 #[.val (.int p0), .val (.int p1), .val (.int (p1 &&& (3 : Int32))), .val (.int v1), .val (.int v2), .val (.ref b61), .val (.ref b66), .val (.long ((v1.toInt64) - (9 : Int64))), .second, .unset] [(.int (lcmpW ((v1.toInt64) - (9 : Int64)) (0 : Int64)))])) _
    by_cases hc81 : ((v1.toInt64) - (9 : Int64)) < (0 : Int64)
    · rw [if_pos hc81] at hv4
      refine XS.ifYes X74.here hx rfl (pc0 := 125) (pc' := 141) rfl (hb hby at_125) rfl ((if0 _ _).trans (tlt (own_lwL hc81)).1) (by decide) (by decide) ?_
      show Steps p.tables e below (T74.setTop (mkF m 141 #[.val (.int p0), .val (.int p1), .val (.int (p1 &&& (3 : Int32))), .val (.int v1), .val (.int v2), .val (.ref b61), .val (.ref b66), .val (.long ((v1.toInt64) - (9 : Int64))), .second, .unset] [])) _
      refine XS.iconst X74.here hx rfl (hb hby at_141) ?_
      subst hv4
      exact kt
    · rw [if_neg hc81] at hv4
      refine XS.ifNo X74.here hx rfl (hb hby at_125) rfl ((if0 _ _).trans (flt (own_lwM hc81)).1) ?_
      show Steps p.tables e below (T74.setTop (mkF m 128 #[.val (.int p0), .val (.int p1), .val (.int (p1 &&& (3 : Int32))), .val (.int v1), .val (.int v2), .val (.ref b61), .val (.ref b66), .val (.long ((v1.toInt64) - (9 : Int64))), .second, .unset] [])) _
      refine XS.lload X74.here hx rfl (hb hby at_128) rfl ?_
      show Steps p.tables e below (T74.setTop (mkF m 130 #[.val (.int p0), .val (.int p1), .val (.int (p1 &&& (3 : Int32))), .val (.int v1), .val (.int v2), .val (.ref b61), .val (.ref b66), .val (.long ((v1.toInt64) - (9 : Int64))), .second, .unset] [(.long ((v1.toInt64) - (9 : Int64)))])) _
      refine X74.ldc2Long hx hown (mvT hZ (hw _ (List.mem_of_getElem? (i := 20) rfl))) (g := (mkF m 130 #[.val (.int p0), .val (.int p1), .val (.int (p1 &&& (3 : Int32))), .val (.int v1), .val (.int v2), .val (.ref b61), .val (.ref b66), .val (.long ((v1.toInt64) - (9 : Int64))), .second, .unset] [(.long ((v1.toInt64) - (9 : Int64)))])) rfl (hb hby at_130) _ ?_
      show Steps p.tables e below (T74.setTop (mkF m 133 #[.val (.int p0), .val (.int p1), .val (.int (p1 &&& (3 : Int32))), .val (.int v1), .val (.int v2), .val (.ref b61), .val (.ref b66), .val (.long ((v1.toInt64) - (9 : Int64))), .second, .unset] [(.long (4194295 : Int64)), (.long ((v1.toInt64) - (9 : Int64)))])) _
      refine XS.lcmp X74.here hx rfl (hb hby at_133) rfl ?_
      show Steps p.tables e below (T74.setTop (mkF m 134 #[.val (.int p0), .val (.int p1), .val (.int (p1 &&& (3 : Int32))), .val (.int v1), .val (.int v2), .val (.ref b61), .val (.ref b66), .val (.long ((v1.toInt64) - (9 : Int64))), .second, .unset] [(.int (lcmpW ((v1.toInt64) - (9 : Int64)) (4194295 : Int64)))])) _
      by_cases hc82 : (4194295 : Int64) < ((v1.toInt64) - (9 : Int64))
      · rw [if_pos hc82] at hv4
        refine XS.ifYes X74.here hx rfl (pc0 := 134) (pc' := 141) rfl (hb hby at_134) rfl ((if0 _ _).trans (tlt (own_lwG hc82)).2.2.1) (by decide) (by decide) ?_
        show Steps p.tables e below (T74.setTop (mkF m 141 #[.val (.int p0), .val (.int p1), .val (.int (p1 &&& (3 : Int32))), .val (.int v1), .val (.int v2), .val (.ref b61), .val (.ref b66), .val (.long ((v1.toInt64) - (9 : Int64))), .second, .unset] [])) _
        refine XS.iconst X74.here hx rfl (hb hby at_141) ?_
        subst hv4
        exact kt
      · rw [if_neg hc82] at hv4
        refine XS.ifNo X74.here hx rfl (hb hby at_134) rfl ((if0 _ _).trans (flt (own_lwH hc82)).2.2.1) ?_
        show Steps p.tables e below (T74.setTop (mkF m 137 #[.val (.int p0), .val (.int p1), .val (.int (p1 &&& (3 : Int32))), .val (.int v1), .val (.int v2), .val (.ref b61), .val (.ref b66), .val (.long ((v1.toInt64) - (9 : Int64))), .second, .unset] [])) _
        refine XS.iconst X74.here hx rfl (hb hby at_137) ?_
        show Steps p.tables e below (T74.setTop (mkF m 138 #[.val (.int p0), .val (.int p1), .val (.int (p1 &&& (3 : Int32))), .val (.int v1), .val (.int v2), .val (.ref b61), .val (.ref b66), .val (.long ((v1.toInt64) - (9 : Int64))), .second, .unset] [(.int (1 : Int32))])) _
        refine XS.goto X74.here hx rfl (pc0 := 138) (pc' := 142) rfl (hb hby at_138) (by decide) (by decide) ?_
        subst hv4
        exact kt
  obtain ⟨cq84, kq84, q84a, q84b, q84c⟩ := isOf hZ rfl E75
  obtain ⟨_, _, ⟨T84, L84, k84, n84⟩, -, X84, ⟨Lc84, hQ84, l84, y84, z84⟩, st84⟩ := X74.virtualBack hx (y := (⟨"com/example/twofold/twofold/wire/Codec$Head", "fits", "()Z"⟩ : MethodName)) (z := (⟨"com/example/twofold/twofold/wire/Codec$Head", "fits", "()Z"⟩ : MethodName)) hown (mvT hZ (hw _ (List.mem_of_getElem? (i := 21) rfl))) (mvT hZ (hw _ (List.mem_of_getElem? (i := 22) rfl))) (notFace_of_selects (args := #[]) (mvT hZ (hw _ (List.mem_of_getElem? (i := 24) rfl)))) (mvT hZ (hw _ (List.mem_of_getElem? (i := 24) rfl))) (mvT hZ (hw _ (List.mem_of_getElem? (i := 23) rfl))) (by decide) (backOf (W := 0) (rm4 l Z aq hw [] b61 v1 (v2 &&& 1) T74.heap n0 Z78 E75 F76 F77) hZ (hw _ (List.mem_of_getElem? (i := 25) rfl)) (hw _ (List.mem_of_getElem? (i := 3) rfl)) (by decide) (by decide)) q84a q84c (g := (mkF m 146 #[.val (.int p0), .val (.int p1), .val (.int (p1 &&& (3 : Int32))), .val (.int v1), .val (.int v2), .val (.ref b61), .val (.ref b66), .val (.long ((v1.toInt64) - (9 : Int64))), .second, .val (.int v4)] [(.ref b61)])) rfl (by rw [hml]; rfl) (Steps.refl _) (argsL := []) (rest := []) (lenOf pd93422000 rfl) rfl (by show 2 * 0 + _ ≤ _; exact Nat.le_of_eq rfl) (hb hby at_146) (fun _ _ => ⟨rfl, rfl, (by decide : 2 + 0 ≤ _), (by decide : 4 + 0 ≤ _)⟩)
  dsimp only [Pt.U, Pt.locs, Pt.cells, Pt.slots] at X84 l84 y84 z84 st84 hQ84
  subst l84 y84 z84
  obtain ⟨rfl, N84q, e84⟩ := hQ84
  have N85 := Fr.app N79 N84q
  obtain ⟨cq86, kq86, q86a, q86b, q86c⟩ := isOf hZ e84 E74_0
  obtain ⟨_, _, ⟨T86, L86, k86, n86⟩, -, X86, ⟨Lc86, hQ86, l86, y86, z86⟩, st86⟩ := X84.virtualBack hx (y := (⟨"com/example/twofold/twofold/wire/Codec$Head", "fits", "()Z"⟩ : MethodName)) (z := (⟨"com/example/twofold/twofold/wire/Codec$Head", "fits", "()Z"⟩ : MethodName)) hown (mvT hZ (hw _ (List.mem_of_getElem? (i := 21) rfl))) (mvT hZ (hw _ (List.mem_of_getElem? (i := 22) rfl))) (notFace_of_selects (args := #[]) (mvT hZ (hw _ (List.mem_of_getElem? (i := 24) rfl)))) (mvT hZ (hw _ (List.mem_of_getElem? (i := 24) rfl))) (mvT hZ (hw _ (List.mem_of_getElem? (i := 23) rfl))) (by decide) (backOf (W := 0) (rm4 l Z aq hw [] b66 v1 (v3 &&& 1) T74.heap n0 Z78 E74_0 F74_0 F74_1) hZ (hw _ (List.mem_of_getElem? (i := 25) rfl)) (hw _ (List.mem_of_getElem? (i := 3) rfl)) (by decide) (by decide)) q86a q86c (g := (mkF m 156 #[.val (.int p0), .val (.int p1), .val (.int (p1 &&& (3 : Int32))), .val (.int v1), .val (.int v2), .val (.ref b61), .val (.ref b66), .val (.long ((v1.toInt64) - (9 : Int64))), .second, .val (.int v4)] [(.ref b66)])) rfl (by rw [hml]; rfl) (Steps.refl _) (argsL := []) (rest := []) (lenOf pd93422000 rfl) rfl (by show 2 * 0 + _ ≤ _; exact Nat.le_of_eq rfl) (hb hby at_156) (fun _ _ => ⟨rfl, e84, (by decide : 2 + 0 ≤ _), (by decide : 4 + 0 ≤ _)⟩)
  dsimp only [Pt.U, Pt.locs, Pt.cells, Pt.slots] at X86 l86 y86 z86 st86 hQ86
  subst l86 y86 z86
  obtain ⟨rfl, N86q, e86⟩ := hQ86
  have N87 := Fr.app N85 N86q
  have pre88 : ∀ t, Steps p.tables e below (T86.setTop (mkF m 161 #[.val (.int p0), .val (.int p1), .val (.int (p1 &&& (3 : Int32))), .val (.int v1), .val (.int v2), .val (.ref b61), .val (.ref b66), .val (.long ((v1.toInt64) - (9 : Int64))), .second, .val (.int v4)] [(.int v4), (.int (if v1 < (9 : Int32) then (0 : Int32) else (if (4194304 : Int32) < v1 then (0 : Int32) else (1 : Int32))))])) t → Steps p.tables e below (s₁.setTop (entryFrame m #[(.int p0), (.int p1)] maxLocals)) t := fun t kt => by
    refine pre83 _ ?_
    show Steps p.tables e below (T74.setTop (mkF m 142 #[.val (.int p0), .val (.int p1), .val (.int (p1 &&& (3 : Int32))), .val (.int v1), .val (.int v2), .val (.ref b61), .val (.ref b66), .val (.long ((v1.toInt64) - (9 : Int64))), .second, .unset] [(.int v4)])) _
    refine XS.istore X74.here hx rfl (hb hby at_142) rfl (l' := #[.val (.int p0), .val (.int p1), .val (.int (p1 &&& (3 : Int32))), .val (.int v1), .val (.int v2), .val (.ref b61), .val (.ref b66), .val (.long ((v1.toInt64) - (9 : Int64))), .second, .val (.int v4)]) rfl ?_
    show Steps p.tables e below (T74.setTop (mkF m 144 #[.val (.int p0), .val (.int p1), .val (.int (p1 &&& (3 : Int32))), .val (.int v1), .val (.int v2), .val (.ref b61), .val (.ref b66), .val (.long ((v1.toInt64) - (9 : Int64))), .second, .val (.int v4)] [])) _
    refine XS.aload X74.here hx rfl (hb hby at_144) rfl rfl ?_
    show Steps p.tables e below (T74.setTop (mkF m 146 #[.val (.int p0), .val (.int p1), .val (.int (p1 &&& (3 : Int32))), .val (.int v1), .val (.int v2), .val (.ref b61), .val (.ref b66), .val (.long ((v1.toInt64) - (9 : Int64))), .second, .val (.int v4)] [(.ref b61)])) _
    refine st84.trans ?_
    show Steps p.tables e below (T84.setTop (mkF m 149 #[.val (.int p0), .val (.int p1), .val (.int (p1 &&& (3 : Int32))), .val (.int v1), .val (.int v2), .val (.ref b61), .val (.ref b66), .val (.long ((v1.toInt64) - (9 : Int64))), .second, .val (.int v4)] [(.int (if v1 < (9 : Int32) then (0 : Int32) else (if (4194304 : Int32) < v1 then (0 : Int32) else (1 : Int32))))])) _
    refine XS.iload X84.here hx rfl (hb hby at_149) rfl ?_
    show Steps p.tables e below (T84.setTop (mkF m 151 #[.val (.int p0), .val (.int p1), .val (.int (p1 &&& (3 : Int32))), .val (.int v1), .val (.int v2), .val (.ref b61), .val (.ref b66), .val (.long ((v1.toInt64) - (9 : Int64))), .second, .val (.int v4)] [(.int v4), (.int (if v1 < (9 : Int32) then (0 : Int32) else (if (4194304 : Int32) < v1 then (0 : Int32) else (1 : Int32))))])) _
    refine XS.icmpNo X84.here hx rfl (hb hby at_151) rfl (teq (own_plain0 p0 p1 v1 hv1 v2 hv2 v3 hv3 v4 hv4)).2 ?_
    show Steps p.tables e below (T84.setTop (mkF m 154 #[.val (.int p0), .val (.int p1), .val (.int (p1 &&& (3 : Int32))), .val (.int v1), .val (.int v2), .val (.ref b61), .val (.ref b66), .val (.long ((v1.toInt64) - (9 : Int64))), .second, .val (.int v4)] [])) _
    refine XS.aload X84.here hx rfl (hb hby at_154) rfl rfl ?_
    show Steps p.tables e below (T84.setTop (mkF m 156 #[.val (.int p0), .val (.int p1), .val (.int (p1 &&& (3 : Int32))), .val (.int v1), .val (.int v2), .val (.ref b61), .val (.ref b66), .val (.long ((v1.toInt64) - (9 : Int64))), .second, .val (.int v4)] [(.ref b66)])) _
    refine st86.trans ?_
    show Steps p.tables e below (T86.setTop (mkF m 159 #[.val (.int p0), .val (.int p1), .val (.int (p1 &&& (3 : Int32))), .val (.int v1), .val (.int v2), .val (.ref b61), .val (.ref b66), .val (.long ((v1.toInt64) - (9 : Int64))), .second, .val (.int v4)] [(.int (if v1 < (9 : Int32) then (0 : Int32) else (if (4194304 : Int32) < v1 then (0 : Int32) else (1 : Int32))))])) _
    refine XS.iload X86.here hx rfl (hb hby at_159) rfl ?_
    show Steps p.tables e below (T86.setTop (mkF m 161 #[.val (.int p0), .val (.int p1), .val (.int (p1 &&& (3 : Int32))), .val (.int v1), .val (.int v2), .val (.ref b61), .val (.ref b66), .val (.long ((v1.toInt64) - (9 : Int64))), .second, .val (.int v4)] [(.int v4), (.int (if v1 < (9 : Int32) then (0 : Int32) else (if (4194304 : Int32) < v1 then (0 : Int32) else (1 : Int32))))])) _
    exact kt
  obtain ⟨v5, hv5⟩ : ∃ z : Int32, z = (if (if v1 < (9 : Int32) then (0 : Int32) else (if (4194304 : Int32) < v1 then (0 : Int32) else (1 : Int32))) = v4 then (1 : Int32) else (0 : Int32)) := ⟨_, rfl⟩
  have pre90 : ∀ t, Steps p.tables e below (T86.setTop (mkF m 169 #[.val (.int p0), .val (.int p1), .val (.int (p1 &&& (3 : Int32))), .val (.int v1), .val (.int v2), .val (.ref b61), .val (.ref b66), .val (.long ((v1.toInt64) - (9 : Int64))), .second, .val (.int v4)] [(.int v5)])) t → Steps p.tables e below (s₁.setTop (entryFrame m #[(.int p0), (.int p1)] maxLocals)) t := fun t kt => by
    refine pre88 _ ?_
    show Steps p.tables e below (T86.setTop (mkF m 161 #[.val (.int p0), .val (.int p1), .val (.int (p1 &&& (3 : Int32))), .val (.int v1), .val (.int v2), .val (.ref b61), .val (.ref b66), .val (.long ((v1.toInt64) - (9 : Int64))), .second, .val (.int v4)] [(.int v4), (.int (if v1 < (9 : Int32) then (0 : Int32) else (if (4194304 : Int32) < v1 then (0 : Int32) else (1 : Int32))))])) _
    by_cases hc89 : (if v1 < (9 : Int32) then (0 : Int32) else (if (4194304 : Int32) < v1 then (0 : Int32) else (1 : Int32))) = v4
    · rw [if_pos hc89] at hv5
      refine XS.icmpNo X86.here hx rfl (hb hby at_161) rfl (teq hc89).2 ?_
      show Steps p.tables e below (T86.setTop (mkF m 164 #[.val (.int p0), .val (.int p1), .val (.int (p1 &&& (3 : Int32))), .val (.int v1), .val (.int v2), .val (.ref b61), .val (.ref b66), .val (.long ((v1.toInt64) - (9 : Int64))), .second, .val (.int v4)] [])) _
      refine XS.iconst X86.here hx rfl (hb hby at_164) ?_
      show Steps p.tables e below (T86.setTop (mkF m 165 #[.val (.int p0), .val (.int p1), .val (.int (p1 &&& (3 : Int32))), .val (.int v1), .val (.int v2), .val (.ref b61), .val (.ref b66), .val (.long ((v1.toInt64) - (9 : Int64))), .second, .val (.int v4)] [(.int (1 : Int32))])) _
      refine XS.goto X86.here hx rfl (pc0 := 165) (pc' := 169) rfl (hb hby at_165) (by decide) (by decide) ?_
      subst hv5
      exact kt
    · rw [if_neg hc89] at hv5
      refine XS.icmpYes X86.here hx rfl (pc0 := 161) (pc' := 168) rfl (hb hby at_161) rfl (feq hc89).2 (by decide) (by decide) ?_
      show Steps p.tables e below (T86.setTop (mkF m 168 #[.val (.int p0), .val (.int p1), .val (.int (p1 &&& (3 : Int32))), .val (.int v1), .val (.int v2), .val (.ref b61), .val (.ref b66), .val (.long ((v1.toInt64) - (9 : Int64))), .second, .val (.int v4)] [])) _
      refine XS.iconst X86.here hx rfl (hb hby at_168) ?_
      subst hv5
      exact kt
  have hfin : v5 = 1 := (own_plain1 p0 p1 v1 hv1 v2 hv2 v3 hv3 v4 hv4 v5 hv5)
  obtain ⟨fs, hr, hrun, hended, hW, hsame⟩ := X86.leave (v := some (.int (v5 &&& 1))) (fun h => by rw [Bd.returns] at h; cases h)
  refine ⟨_, _, pre90 _ ?_, hrun, hended, _, _, rfl, ?_, ⟨_, rfl⟩, hW, hsame.mono (by decide) (by decide)⟩
  · exact retN X86 hx (t := .boolean) Bd.returns (by simp) (hb hby at_169) hr
  · exact ⟨by rw [hfin]; rfl, N87⟩
set_option maxRecDepth 65536 in
set_option maxHeartbeats 40000000 in
theorem comes_1 {Post : Tables → Env → Array Value → State → Outcome → State → Prop} (hpost : ∀ tb e args s v u, (limb_1_1.after args s (.returned v) u = true ∧ limb_1_2.after args s (.returned v) u = true ∧ True) → FrameEnd s (.returned v) u (Jvm.fieldLocs frame_1_writes args s ++ Jvm.arrayLocs frame_1_arrays args s ++ Jvm.staticLocs frame_1_statics s) 16 128 → Post tb e args s (.returned v) u) :
    ArmFor flags0 classFile x code maxLocals ret World_1 tables_1 room_1 Calls_1 rest_1 Pre_1 Post := by
  intro l hfl _ _ p e ha hc hk s m args below hf hA hF happ hP
  obtain ⟨hcalls, hrest, hpre⟩ := hP
  obtain ⟨-, -, -, hnamed, -, -, -, hat⟩ := (Spec.applies_iff hf).mp happ
  obtain ⟨hg, hn⟩ := and_e (Cond.before_iff.mp (show (Jvm.Cond.and given_1 narrow_1).before args s = true from hpre))
  obtain ⟨hcount, hg0⟩ := and_e hg
  obtain ⟨ha0, hg1⟩ := and_e hg0
  have ha1 := hg1
  obtain ⟨w0, w1, rfl⟩ : ∃ w0 w1 : Value, args = #[w0, w1] := by
    have hs : args.size = 2 := by simpa [Cond.value, given_1] using hcount
    obtain ⟨L⟩ := args
    match L, hs with
    | [w0, w1], _ => exact ⟨w0, w1, rfl⟩
  have hw := fun d (hd : d ∈ tables_1) => atoms_spec (ws := Jvm.Cond.code x code maxLocals ret :: tables_1) hat d (List.mem_cons_of_mem _ hd)
  obtain ⟨i0, ei0⟩ := is_v ha0
  obtain rfl : w0 = (.int i0) := Option.some.inj ei0
  obtain ⟨i1, ei1⟩ := is_v ha1
  obtain rfl : w1 = (.int i1) := Option.some.inj ei1
  obtain ⟨n, o, h1, h2, h3, _, L, rfl, ⟨rfl, N⟩, hq⟩ := rm0 l s _ hw tables_1 i0 i1 s.heap s.heap.size (Nat.le_refl _) p e ha hc hk s m _ below hf ((Spec.applies_iff_loose hf).mp happ).1 ⟨rfl, State.Warmed39.refl s, rfl⟩ trivial
  refine ⟨n, _, h1, h2, h3, hpost _ _ _ _ _ _ ⟨Cond.after_iff.mpr rfl, Cond.after_iff.mpr (eq_i res_at (Term.int_eval (1)) rfl), trivial⟩ ⟨hq.1, hq.2.1, (hq.2.2.sift fun y hy => Or.inr (N y hy)).mono (by decide) (by decide)⟩⟩
theorem main_1_1 : Claimed_1_1 := comes_1 fun _ _ _ _ _ _ h hF => ⟨h.1, hF⟩
theorem main_1_2 : Claimed_1_2 := comes_1 fun _ _ _ _ _ _ h hF => ⟨h.2.1, hF⟩
end Jvm.Pilot.@@N@@
namespace Jvm.Pilot.@@N@@
open Jvm Jvm.ClassFile Sem Op Lib Jvm.Free Jvm.Stand Jvm.Pilot.@@N@@.Jvm.D
/-! MADE BY PROGRAM (witnessworld.py) out of the Statement's table words and the real class files: 10 classes; the members and pool entries that the words name. The judged class is class 1, her method 1. -/
namespace start1
open Jvm.ClassFile
def u (s : String) : CpInfo := .utf8 (stringToUtf16 s)
/-- a pool by its gaps: so many unusable entries, then the entry; so many at the end -/
def gap : Nat → List CpInfo → List CpInfo
  | 0, r => r
  | n + 1, r => .unusable :: gap n r
def poolList (es : List (Nat × CpInfo)) (last : Nat) : List CpInfo := es.foldr (fun e r => gap e.1 (e.2 :: r)) (gap last [])
def pool (es : List (Nat × CpInfo)) (last : Nat) : Array CpInfo := ⟨poolList es last⟩
def fileOf (pool : Array CpInfo) (this : Nat) (attrs : Array Attribute := #[]) (ms : Array MethodInfo := #[]) (fl : Nat := 33) (sup : Nat := 0) (ifs : Array Nat := #[]) (fds : Array FieldInfo := #[]) : ClassFile where
  minorVersion := 0
  majorVersion := 65
  constantPool := pool
  accessFlags := fl
  thisClass := this
  superClass := sup
  interfaces := ifs
  fields := fds
  methods := ms
  attributes := attrs
def plain (name : String) (sup : Option ClassId) : Class where
  name := name
  kind := .ordinary
  loader := none
  accessFlags := 33
  super := sup
  interfaces := #[]
  cf := none
  fields := #[]
  methods := #[]
  instanceTypes := #[]
  staticTypes := #[]
  resolved := #[]
  callSites := []
  init := .initialized
  statics := none
  mirror := none

def pool0 : Array CpInfo := pool [(5, u "<init>"), (0, u "()V"), (1, .class_ 10), (1, u "java/lang/Object")] 113

def k0c0 : Code := { maxStack := 0, maxLocals := 1, code := object_method_1_code, exceptionTable := #[], attributes := #[] }
def k0m0 : Method := { name := "<init>", desc := "()V", sig := { parameters := [], returnType := none }, accessFlags := 1, code := some k0c0 }
/-- java/lang/Object -/
def k0 : Class := { plain "java/lang/Object" none with
  accessFlags := 33
  interfaces := #[]
  cf := some (fileOf pool0 8 #[] #[{ accessFlags := 1, nameIndex := 5, descriptorIndex := 6, attributes := #[] }] 33 0 #[] #[])
  fields := #[]
  methods := #[k0m0]
  instanceTypes := #[]
  staticTypes := #[]
  resolved := Array.replicate 124 none
  statics := none }

def pool1 : Array CpInfo := pool [(2, .class_ 4), (1, u "java/lang/Object"), (0, u "<init>"), (0, u "()V"), (0, .integer 4194302), (2, .integer 2147483648), (0, .integer 2147483647), (0, .class_ 13), (0, u "com/example/twofold/twofold/wire/Codec$Head"), (0, .methodref 12 15), (0, .nameAndType 5 16), (0, u "(IZ)V"), (0, .long 9), (1, .long 4194295), (1, .methodref 12 22), (0, .nameAndType 23 24), (0, u "fits"), (0, u "()Z"), (0, .class_ 26), (0, u "com/example/twofold/twofold/wire/HeadFitsPinLaw"), (2, u "law"), (0, u "(II)Z")] 7

def k1m0 : Method := { name := "<init>", desc := "()V", sig := { parameters := [], returnType := none }, accessFlags := 1, code := none }
def k1c1 : Code := { maxStack := 4, maxLocals := 10, code := code, exceptionTable := #[], attributes := #[] }
def k1m1 : Method := { name := "law", desc := "(II)Z", sig := { parameters := [.int, .int], returnType := some .boolean }, accessFlags := 9, code := some k1c1 }
/-- com/example/twofold/twofold/wire/HeadFitsPinLaw -/
def k1 : Class := { plain "com/example/twofold/twofold/wire/HeadFitsPinLaw" (some 0) with
  accessFlags := 49
  interfaces := #[]
  cf := some (fileOf pool1 25 #[] #[{ accessFlags := 1, nameIndex := 5, descriptorIndex := 6, attributes := #[] }, { accessFlags := 9, nameIndex := 29, descriptorIndex := 30, attributes := #[] }] 49 2 #[] #[])
  fields := #[]
  methods := #[k1m0, k1m1]
  instanceTypes := #[]
  staticTypes := #[]
  resolved := Array.replicate 38 none
  statics := none }

def pool2 : Array CpInfo := pool [(1, .methodref 2 3), (0, .class_ 4), (0, .nameAndType 5 6), (0, u "java/lang/Object"), (0, u "<init>"), (0, u "()V"), (0, .class_ 8), (0, u "java/lang/Record")] 13

def k2c0 : Code := { maxStack := 1, maxLocals := 1, code := jdk_30_method_1_code, exceptionTable := #[], attributes := #[] }
def k2m0 : Method := { name := "<init>", desc := "()V", sig := { parameters := [], returnType := none }, accessFlags := 4, code := some k2c0 }
/-- java/lang/Record -/
def k2 : Class := { plain "java/lang/Record" (some 0) with
  accessFlags := 1057
  interfaces := #[]
  cf := some (fileOf pool2 7 #[] #[{ accessFlags := 4, nameIndex := 5, descriptorIndex := 6, attributes := #[] }] 1057 2 #[] #[])
  fields := #[]
  methods := #[k2m0]
  instanceTypes := #[]
  staticTypes := #[]
  resolved := Array.replicate 22 none
  statics := none }

def pool3 : Array CpInfo := pool [(3, .class_ 4), (0, u "com/example/twofold/twofold/wire/Codec"), (0, .methodref 6 7), (0, .class_ 8), (0, .nameAndType 9 10), (0, u "java/lang/Record"), (0, u "<init>"), (0, u "()V"), (0, .fieldref 12 13), (0, .class_ 14), (0, .nameAndType 15 16), (0, u "com/example/twofold/twofold/wire/Codec$Head"), (0, u "length"), (0, u "I"), (0, .fieldref 12 18), (0, .nameAndType 19 20), (0, u "continued"), (0, u "Z"), (14, u "(IZ)V"), (0, .integer 4194304), (18, u "BYTES"), (2, u "CONTINUED"), (0, u "LEAST_LENGTH"), (9, u "fits"), (0, u "()Z")] 30

def k3c0 : Code := { maxStack := 2, maxLocals := 3, code := prog_117_method_1_code, exceptionTable := #[], attributes := #[] }
def k3m0 : Method := { name := "<init>", desc := "(IZ)V", sig := { parameters := [.int, .boolean], returnType := none }, accessFlags := 0, code := some k3c0 }
def k3c1 : Code := { maxStack := 2, maxLocals := 1, code := prog_117_method_3_code, exceptionTable := #[], attributes := #[] }
def k3m1 : Method := { name := "fits", desc := "()Z", sig := { parameters := [], returnType := some .boolean }, accessFlags := 0, code := some k3c1 }
/-- com/example/twofold/twofold/wire/Codec$Head -/
def k3 : Class := { plain "com/example/twofold/twofold/wire/Codec$Head" (some 2) with
  accessFlags := 48
  interfaces := #[]
  cf := some (fileOf pool3 12 #[.nestHost 3] #[{ accessFlags := 0, nameIndex := 9, descriptorIndex := 35, attributes := #[] }, { accessFlags := 0, nameIndex := 69, descriptorIndex := 70, attributes := #[] }] 48 6 #[] #[{ accessFlags := 18, nameIndex := 15, descriptorIndex := 16, attributes := #[] }, { accessFlags := 18, nameIndex := 19, descriptorIndex := 20, attributes := #[] }, { accessFlags := 24, nameIndex := 55, descriptorIndex := 16, attributes := #[] }, { accessFlags := 26, nameIndex := 58, descriptorIndex := 16, attributes := #[] }, { accessFlags := 26, nameIndex := 59, descriptorIndex := 16, attributes := #[] }])
  fields := #[{ name := "length", type := .int, accessFlags := 18, slot := 0, constantValue := 0 }, { name := "continued", type := .boolean, accessFlags := 18, slot := 1, constantValue := 0 }, { name := "BYTES", type := .int, accessFlags := 24, slot := 0, constantValue := 0 }, { name := "CONTINUED", type := .int, accessFlags := 26, slot := 1, constantValue := 0 }, { name := "LEAST_LENGTH", type := .int, accessFlags := 26, slot := 2, constantValue := 0 }]
  methods := #[k3m0, k3m1]
  instanceTypes := #[.int, .boolean]
  staticTypes := #[.int, .int, .int]
  resolved := Array.replicate 101 none
  statics := none }

def pool4 : Array CpInfo := pool [(1, u "java/lang/Cloneable"), (0, .class_ 1), (0, u "java/lang/Object"), (0, .class_ 3)] 3

/-- java/lang/Cloneable -/
def k4 : Class := { plain "java/lang/Cloneable" (some 0) with
  accessFlags := 1537
  interfaces := #[]
  cf := some (fileOf pool4 2 #[] #[] 1537 4 #[] #[])
  fields := #[]
  methods := #[]
  instanceTypes := #[]
  staticTypes := #[]
  resolved := Array.replicate 8 none
  statics := none }

def pool5 : Array CpInfo := pool [(1, u "java/io/Serializable"), (0, .class_ 1), (0, u "java/lang/Object"), (0, .class_ 3)] 3

/-- java/io/Serializable -/
def k5 : Class := { plain "java/io/Serializable" (some 0) with
  accessFlags := 1537
  interfaces := #[]
  cf := some (fileOf pool5 2 #[] #[] 1537 4 #[] #[])
  fields := #[]
  methods := #[]
  instanceTypes := #[]
  staticTypes := #[]
  resolved := Array.replicate 8 none
  statics := none }

/-- the primitive byte -/
def k6 : Class := { plain "byte" none with kind := .primitive 'B', accessFlags := 0x411 }
/-- [B -/
def k7 : Class := { plain "[B" (some 0) with kind := .array 6 .byte, interfaces := #[4, 5], accessFlags := 1041 }

/-- the primitive int -/
def k8 : Class := { plain "int" none with kind := .primitive 'I', accessFlags := 0x411 }
/-- [I -/
def k9 : Class := { plain "[I" (some 0) with kind := .array 8 .int, interfaces := #[4, 5], accessFlags := 1041 }

def heap : Heap := #[]
def classes : Array Class := #[k0, k1, k2, k3, k4, k5, k6, k7, k8, k9]
def interned : List (Array UInt16 × Addr) := []
def slotsUsed : Nat := 0
def theMethod : MethodId := ⟨1, 1⟩
def args0 : Array Value := #[.int 5, .int 5]
def aboutOver (below : List Frame) : State where
  vm := { classes := classes, interned := interned.toArray }
  heap := heap
  slotsUsed := slotsUsed
  threads := #[{ frames := .invoking theMethod args0 :: below }]
def below0 : List Frame := [.native { method := ⟨0, 0⟩, args := #[] }]
def about1 : State := aboutOver below0
def p0 : Program := .bare "" "" ""
def e0 : Env := launch0.env 0 0 0
theorem w_frames : about1.frames = Frame.invoking theMethod args0 :: below0 := rfl
set_option maxRecDepth 65536 in
theorem w_args : argsFit about1.vm theMethod args0 = true := by decide +kernel
set_option maxRecDepth 65536 in
theorem w_heap : heapFits about1 = true := by decide +kernel
set_option maxRecDepth 65536 in
theorem w_runnable : about1.curStatus? = some .runnable := by decide +kernel
set_option maxRecDepth 65536 in
theorem w_alone : about1.alone = true := by decide +kernel
set_option maxRecDepth 65536 in
theorem w_named : about1.methodNamed? x = some theMethod := by decide +kernel
set_option maxRecDepth 65536 in
theorem w_hears : about1.hears theMethod below0 = true := by decide +kernel
set_option maxRecDepth 65536 in
theorem w_ripe : about1.ripe theMethod args0 below0 = true := by decide +kernel
theorem w_running : about1.status = .running := rfl
set_option maxRecDepth 65536 in
theorem w_room : about1.hasRoom e0.platform room_1 = true :=
  launch0.hasRoom_least _ room_1 (by decide +kernel) (by decide +kernel) (by decide +kernel) (by decide +kernel) (by decide +kernel) (by decide +kernel)
theorem allAtoms_all (ts : List Jvm.Cond) (a : Array Jvm.Value) (st : Jvm.State) : (allAtoms ts).before a st = ts.all (fun c => c.before a st) := by
  induction ts with
  | nil => rfl
  | cons c t ih =>
    show (Jvm.Cond.and c (allAtoms t)).before a st = _
    rw [Jvm.Cond.before_and, ih, List.all_cons]
def words1 : List Jvm.Cond := Jvm.Cond.code x code maxLocals ret :: tables_1
/-- a 'code' word, met by the world's own term for the bytes: nothing is compared byte by byte -/
theorem code_word {y : MethodName} {bytes : ByteArray} {mx : Nat} {rt : Option FieldType} {a : Array Value} {s : State} {m : MethodId} {meth : Method} {c : Code} (h1 : s.methodNamed? y = some m) (h2 : s.vm.method? m = some meth) (h3 : meth.code = some c) (h4 : c.code = bytes)
    (h5 : (c.maxLocals == mx && c.exceptionTable.isEmpty && decide (c.maxStack ≤ mostOperands) && decide (meth.sig.returnType = rt) && !meth.locks && decide (parseMethodDescriptor y.desc = some meth.sig)) = true) : (Jvm.Cond.code y bytes mx rt).before a s = true := by
  simp only [Bool.and_eq_true, beq_iff_eq, Bool.not_eq_true', decide_eq_true_eq] at h5
  obtain ⟨⟨⟨⟨⟨g1, g2⟩, g3⟩, g4⟩, g5⟩, g6⟩ := h5
  simp [Cond.before, Cond.holds, Cond.value, h1, h2, h3, h4, g1, g2, g3, g4, g5, g6]
def isCode : Jvm.Cond → Bool
  | .code _ _ _ _ => true
  | _ => false
theorem all_split {L : List Jvm.Cond} {P : Jvm.Cond → Bool} (h1 : L.all (fun c => isCode c || P c) = true) (h2 : ∀ c ∈ L.filter isCode, P c = true) : L.all P = true := by
  refine List.all_eq_true.mpr fun c hc => ?_
  have h := List.all_eq_true.mp h1 c hc
  rcases Bool.eq_false_or_eq_true (isCode c) with hi | hi
  · exact h2 c (List.mem_filter.mpr ⟨hc, hi⟩)
  · simpa [hi] using h
set_option maxRecDepth 65536 in
theorem w_c0 : (Jvm.Cond.code x code maxLocals ret).before args0 about1 = true := code_word (m := ⟨1, 1⟩) (meth := k1m1) (c := k1c1) (by decide +kernel) rfl rfl rfl (by decide +kernel)
set_option maxRecDepth 65536 in
theorem w_c1 : (Jvm.Cond.code ({ cls := "com/example/twofold/twofold/wire/Codec$Head", name := "<init>", desc := "(IZ)V" } : Jvm.MethodName) prog_117_method_1_code (3 : Nat) (Option.none : Option Jvm.ClassFile.FieldType)).before args0 about1 = true := code_word (m := ⟨3, 0⟩) (meth := k3m0) (c := k3c0) (by decide +kernel) rfl rfl rfl (by decide +kernel)
set_option maxRecDepth 65536 in
theorem w_c2 : (Jvm.Cond.code ({ cls := "java/lang/Record", name := "<init>", desc := "()V" } : Jvm.MethodName) jdk_30_method_1_code (1 : Nat) (Option.none : Option Jvm.ClassFile.FieldType)).before args0 about1 = true := code_word (m := ⟨2, 0⟩) (meth := k2m0) (c := k2c0) (by decide +kernel) rfl rfl rfl (by decide +kernel)
set_option maxRecDepth 65536 in
theorem w_c3 : (Jvm.Cond.code ({ cls := "java/lang/Object", name := "<init>", desc := "()V" } : Jvm.MethodName) object_method_1_code (1 : Nat) (Option.none : Option Jvm.ClassFile.FieldType)).before args0 about1 = true := code_word (m := ⟨0, 0⟩) (meth := k0m0) (c := k0c0) (by decide +kernel) rfl rfl rfl (by decide +kernel)
set_option maxRecDepth 65536 in
theorem w_c4 : (Jvm.Cond.code ({ cls := "com/example/twofold/twofold/wire/Codec$Head", name := "fits", desc := "()Z" } : Jvm.MethodName) prog_117_method_3_code (1 : Nat) (Option.some Jvm.ClassFile.FieldType.boolean)).before args0 about1 = true := code_word (m := ⟨3, 1⟩) (meth := k3m1) (c := k3c1) (by decide +kernel) rfl rfl rfl (by decide +kernel)
def codes1 : List Jvm.Cond := [Jvm.Cond.code x code maxLocals ret, Jvm.Cond.code ({ cls := "com/example/twofold/twofold/wire/Codec$Head", name := "<init>", desc := "(IZ)V" } : Jvm.MethodName) prog_117_method_1_code (3 : Nat) (Option.none : Option Jvm.ClassFile.FieldType), Jvm.Cond.code ({ cls := "java/lang/Record", name := "<init>", desc := "()V" } : Jvm.MethodName) jdk_30_method_1_code (1 : Nat) (Option.none : Option Jvm.ClassFile.FieldType), Jvm.Cond.code ({ cls := "java/lang/Object", name := "<init>", desc := "()V" } : Jvm.MethodName) object_method_1_code (1 : Nat) (Option.none : Option Jvm.ClassFile.FieldType), Jvm.Cond.code ({ cls := "com/example/twofold/twofold/wire/Codec$Head", name := "fits", desc := "()Z" } : Jvm.MethodName) prog_117_method_3_code (1 : Nat) (Option.some Jvm.ClassFile.FieldType.boolean)]
set_option maxRecDepth 65536 in
theorem codes_eq : words1.filter isCode = codes1 := rfl
theorem w_codes : ∀ c ∈ words1.filter isCode, c.before args0 about1 = true := by
  rw [codes_eq]
  intro c hc
  simp only [codes1, List.mem_cons, List.not_mem_nil, or_false] at hc
  rcases hc with rfl | rfl | rfl | rfl | rfl
  · exact w_c0
  · exact w_c1
  · exact w_c2
  · exact w_c3
  · exact w_c4
set_option maxRecDepth 65536 in
theorem w_t1 : (words1.take 24).all (fun c => isCode c || c.before args0 about1) = true := by decide +kernel
set_option maxRecDepth 65536 in
theorem w_t2 : (words1.drop 24).all (fun c => isCode c || c.before args0 about1) = true := by decide +kernel
theorem w_tables : (allAtoms (Jvm.Cond.code x code maxLocals ret :: tables_1)).before args0 about1 = true := by
  rw [allAtoms_all]
  show words1.all (fun c => c.before args0 about1) = true
  refine all_split ?_ w_codes
  rw [← List.take_append_drop 24 words1, List.all_append, w_t1, w_t2]
  rfl
set_option maxRecDepth 65536 in
theorem w_case : (Jvm.Cond.and given_1 narrow_1).before args0 about1 = true := by decide +kernel
theorem w_applies : (headSpec (Jvm.Cond.code x code maxLocals ret :: tables_1) room_1).applies x e0.platform about1 = true :=
  (Spec.applies_iff w_frames).mpr ⟨w_running, w_runnable, w_alone, w_named, w_hears, w_ripe, w_room, w_tables⟩
theorem atStart : AtStart classFile x code maxLocals ret World_1 tables_1 room_1 Calls_1 rest_1 Pre_1 launch0 p0 e0 about1 theMethod args0 below0 :=
  ⟨lists_1, trivial, launch0.admits_env _ _ _, launch0.least_env, fairChoices_fair.cas, fairChoices_fair.clock, w_frames, w_args, w_heap, w_applies, trivial, trivial, w_case⟩
end start1
theorem witness_1 : WitnessClaimed_1 := ⟨start1.p0, start1.e0, start1.about1, start1.theMethod, start1.args0, start1.below0, start1.atStart⟩
end Jvm.Pilot.@@N@@
