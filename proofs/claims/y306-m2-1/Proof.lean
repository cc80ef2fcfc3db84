import JvmDerived
import JvmDerived.Pilot.@@N@@Statement
import JvmDerived.Pilot.@@N@@Code
set_option linter.unusedVariables false
set_option linter.unusedSimpArgs false
@@BLOCK:NumsL.lean.txt@@
namespace Jvm.RoadKit
open Sem ClassFile Op Lib Jvm.Stand Jvm.Free Jvm.LawKit
section New
variable {p : Program} {l : Launch} {e : Env} {R : Room} {s : State} {m : MethodId} {args : Array Value} {below : List Frame} {meth : Method} {c : Code} {T : State} {locs : List Loc} {cells slots : Nat}
theorem retI (X : Stand p l e R s m args below meth c T locs cells slots) (hx : p.tables.exec = Jvm.exec) {pc : Nat} {Ls : Array Slot} {z : Int32} {rest : List Value} (hret : meth.sig.returnType = some .int) (hd : decode c.code pc = .ok (.ireturn, 1)) {fs : List Frame}
    (hl : ∀ (f : JFrame) (acts : List Action), f.method = m → f.locked = none → f.entered = [] → (doReturn e (T.setTop f) acts (some (.int z))).1 = T.setFrames fs) : Steps p.tables e below (T.setTop (mkF m pc Ls (.int z :: rest))) (T.setFrames fs) := by
  have hm' : T.vm.method? m = some meth := X.method'
  have hn : narrow .int (.int z) = .int z := rfl
  show Steps p.tables e below (T.setTop { method := m, pc := pc, locals := Ls, stack := _ :: rest, locked := none }) _
  jvm_step X.here [X.here.top, hx, hd, hm', hret, hn]
  first | (intro acts; rw [hl _ acts rfl rfl rfl]) | rw [hl _ _ rfl rfl rfl]
  exact Steps.refl _
end New
end Jvm.RoadKit
namespace Jvm.Pilot.@@N@@
open Jvm Jvm.ClassFile Sem Op Lib Jvm.Free Jvm.Stand Jvm.LawKit Jvm.RoadKit Bundle Jvm.Pilot.@@N@@.Jvm.D
theorem own_lwN {x y : Int64} (h : ¬ x = y) : ¬ lcmpW x y = 0 := fun q => h ((lw_eq x y).mp q)
theorem own_lwE {x y : Int64} (h : x = y) : lcmpW x y = 0 := (lw_eq x y).mpr h
theorem own_lwL {x y : Int64} (h : x < y) : lcmpW x y < 0 := (lw_lt x y).mpr h
theorem own_lwM {x y : Int64} (h : ¬ x < y) : ¬ lcmpW x y < 0 := fun q => h ((lw_lt x y).mp q)
theorem own_lwG {x y : Int64} (h : y < x) : 0 < lcmpW x y := (lw_gt x y).mpr h
theorem own_lwH {x y : Int64} (h : ¬ y < x) : ¬ 0 < lcmpW x y := fun q => h ((lw_gt x y).mp q)
theorem own_F {Z : State} {h : Heap} {a : Addr} {C n d : String} {v w : Value} (q : v = w) (F : Fld Z h a C n d v) : Fld Z h a C n d w := q ▸ F
theorem own_rI {x y : Int32} (q : x = y) : (some (Value.int x)) = some (.int y) := by rw [q]
theorem own_rJ {x y : Int64} (q : x = y) : (some (Value.long x)) = some (.long y) := by rw [q]
theorem d2_0 : decode jdk_30_method_1_code 0 = .ok (.aload_n 0, 1) := by decide +kernel
theorem d2_1 : decode jdk_30_method_1_code 1 = .ok (.invokespecial 1, 3) := by decide +kernel
theorem d2_4 : decode jdk_30_method_1_code 4 = .ok (.return_, 1) := by decide +kernel
theorem pn90011078 : plainName "java/lang/Record" = true := by first | (simp [plainName, overriddenIn]; done) | decide +kernel
theorem ef_2 (m : MethodId) (a0 : Addr) : entryFrame m #[(.ref a0)] 1 = mkF m 0 #[.val (.ref a0)] [] := by first | (simp [entryFrame, mkF, argsToLocals, Value.category]; done) | rfl
def Q2 (Z : State) (a0 : Addr) (h0 : Heap) (n0 : Nat) (v : Option Value) (h : Heap) (L : List Loc) : Prop := v = none ∧ Fr n0 L ∧ h = h0
set_option maxRecDepth 65536 in
set_option maxHeartbeats 40000000 in
theorem rm2 (l : Launch) (Z : State) (aq : Array Value) (hw : ∀ d ∈ tables_1, d.before aq Z = true) (ws : List Jvm.Cond) (a0 : Addr) (h0 : Heap) (n0 : Nat) (Z0 : n0 ≤ h0.size) :
    MetFree l (⟨"java/lang/Record", "<init>", "()V"⟩ : MethodName) (head1 (Jvm.Cond.code (⟨"java/lang/Record", "<init>", "()V"⟩ : MethodName) jdk_30_method_1_code 1 none :: ws) ({ frames := 1, cells := 0, slots := 0, locals := 12 } : Room)) (fun a U => a = #[(.ref a0)] ∧ Z.Warmed39 U.vm ∧ U.heap = h0) (fun _ _ _ _ _ => True) (fun _ U o U' => ∃ v L, o = .returned v ∧ Q2 Z a0 h0 n0 v U'.heap L ∧ FrameEnd U o U' L ({ frames := 1, cells := 0, slots := 0, locals := 12 } : Room).cells ({ frames := 1, cells := 0, slots := 0, locals := 12 } : Room).slots) := by
  refine MetFree.of_bodySF (plainFor_of_name pn90011078) hisR ?_
  intro p e s m args below meth c s₁ Bd hml0 hP hK
  obtain ⟨rfl, hZ, hh⟩ := hP
  have hx := Bd.exec
  have hby := Bd.bytes
  have hml : c.maxLocals = 1 := hml0
  have hown : s.vm.findClass "java/lang/Record" = some m.cls := findClass_of_methodNamed Bd.named
  have hnm := (name_of_methodNamed Bd.named Bd.method).1
  have X0 : Stand p l e ({ frames := 1, cells := 0, slots := 0, locals := 12 } : Room) s m #[(.ref a0)] below meth c s₁ [] 0 0 := Stand.of_body Bd
  have e0 : s₁.heap = h0 := by rw [← hh, Bd.state]; rfl
  have N0 := Fr.nil n0
  have pre0 : ∀ t, Steps p.tables e below (s₁.setTop (mkF m 0 #[.val (.ref a0)] [])) t → Steps p.tables e below (s₁.setTop (entryFrame m #[(.ref a0)] 1)) t := fun t k => castTop (ef_2 m a0) k
  obtain ⟨T2, X2, e2, st2⟩ := initO X0 hx hZ hown (hw _ (List.mem_of_getElem? (i := 13) rfl)) (hw _ (List.mem_of_getElem? (i := 14) rfl)) (hw _ (List.mem_of_getElem? (i := 15) rfl)) e0 (g := (mkF m 1 #[.val (.ref a0)] [(.ref a0)])) rfl (by rw [hml]; rfl) rfl (hb hby d2_1) (by decide) (W := 0) (by show 2 * 0 + _ ≤ _; exact Nat.le_of_eq rfl) (by decide)
  have pre3 : ∀ t, Steps p.tables e below (T2.setTop (mkF m 4 #[.val (.ref a0)] [])) t → Steps p.tables e below (s₁.setTop (entryFrame m #[(.ref a0)] 1)) t := fun t kt => by
    refine pre0 _ ?_
    show Steps p.tables e below (s₁.setTop (mkF m 0 #[.val (.ref a0)] [])) _
    refine XS.aloadN X0.here hx rfl (hb hby d2_0) rfl rfl ?_
    show Steps p.tables e below (s₁.setTop (mkF m 1 #[.val (.ref a0)] [(.ref a0)])) _
    refine st2 _ ?_
    show Steps p.tables e below (T2.setTop (mkF m 4 #[.val (.ref a0)] [])) _
    exact kt
  obtain ⟨fs, hr, hrun, hended, hW, hsame⟩ := X2.leave (v := none) (fun _ => rfl)
  refine ⟨_, _, pre3 _ ?_, hrun, hended, _, _, rfl, ?_, ⟨_, rfl⟩, hW, hsame.mono (by decide) (by decide)⟩
  · exact X2.returnOut hx Bd.returns (hb hby d2_4) hr
  · show Q2 Z a0 h0 n0 _ T2.heap _
    rw [e2]
    exact ⟨rfl, N0, rfl⟩
theorem d1_0 : decode prog_8_method_1_code 0 = .ok (.aload_n 0, 1) := by decide +kernel
theorem d1_1 : decode prog_8_method_1_code 1 = .ok (.invokespecial 1, 3) := by decide +kernel
theorem d1_4 : decode prog_8_method_1_code 4 = .ok (.aload_n 0, 1) := by decide +kernel
theorem d1_5 : decode prog_8_method_1_code 5 = .ok (.lload_n 1, 1) := by decide +kernel
theorem d1_6 : decode prog_8_method_1_code 6 = .ok (.putfield 7, 3) := by decide +kernel
theorem d1_9 : decode prog_8_method_1_code 9 = .ok (.aload_n 0, 1) := by decide +kernel
theorem d1_10 : decode prog_8_method_1_code 10 = .ok (.lload_n 3, 1) := by decide +kernel
theorem d1_11 : decode prog_8_method_1_code 11 = .ok (.putfield 13, 3) := by decide +kernel
theorem d1_14 : decode prog_8_method_1_code 14 = .ok (.aload_n 0, 1) := by decide +kernel
theorem d1_15 : decode prog_8_method_1_code 15 = .ok (.lload 5, 2) := by decide +kernel
theorem d1_17 : decode prog_8_method_1_code 17 = .ok (.putfield 16, 3) := by decide +kernel
theorem d1_20 : decode prog_8_method_1_code 20 = .ok (.aload_n 0, 1) := by decide +kernel
theorem d1_21 : decode prog_8_method_1_code 21 = .ok (.lload 7, 2) := by decide +kernel
theorem d1_23 : decode prog_8_method_1_code 23 = .ok (.putfield 19, 3) := by decide +kernel
theorem d1_26 : decode prog_8_method_1_code 26 = .ok (.aload_n 0, 1) := by decide +kernel
theorem d1_27 : decode prog_8_method_1_code 27 = .ok (.lload 9, 2) := by decide +kernel
theorem d1_29 : decode prog_8_method_1_code 29 = .ok (.putfield 22, 3) := by decide +kernel
theorem d1_32 : decode prog_8_method_1_code 32 = .ok (.aload_n 0, 1) := by decide +kernel
theorem d1_33 : decode prog_8_method_1_code 33 = .ok (.lload 11, 2) := by decide +kernel
theorem d1_35 : decode prog_8_method_1_code 35 = .ok (.putfield 25, 3) := by decide +kernel
theorem d1_38 : decode prog_8_method_1_code 38 = .ok (.aload_n 0, 1) := by decide +kernel
theorem d1_39 : decode prog_8_method_1_code 39 = .ok (.lload 13, 2) := by decide +kernel
theorem d1_41 : decode prog_8_method_1_code 41 = .ok (.putfield 28, 3) := by decide +kernel
theorem d1_44 : decode prog_8_method_1_code 44 = .ok (.aload_n 0, 1) := by decide +kernel
theorem d1_45 : decode prog_8_method_1_code 45 = .ok (.lload 15, 2) := by decide +kernel
theorem d1_47 : decode prog_8_method_1_code 47 = .ok (.putfield 31, 3) := by decide +kernel
theorem d1_50 : decode prog_8_method_1_code 50 = .ok (.return_, 1) := by decide +kernel
theorem pn25911640 : plainName "com/example/twofold/twofold/bench/Bank$Result" = true := by first | (simp [plainName, overriddenIn]; done) | decide +kernel
theorem pd93421996 : parseMethodDescriptor "()V" = some ⟨[], none⟩ := by decide +kernel
theorem ef_1 (m : MethodId) (a0 : Addr) (q1 : Int64) (q2 : Int64) (q3 : Int64) (q4 : Int64) (q5 : Int64) (q6 : Int64) (q7 : Int64) (q8 : Int64) : entryFrame m #[(.ref a0), (.long q1), (.long q2), (.long q3), (.long q4), (.long q5), (.long q6), (.long q7), (.long q8)] 17 = mkF m 0 #[.val (.ref a0), .val (.long q1), .second, .val (.long q2), .second, .val (.long q3), .second, .val (.long q4), .second, .val (.long q5), .second, .val (.long q6), .second, .val (.long q7), .second, .val (.long q8), .second] [] := by first | (simp [entryFrame, mkF, argsToLocals, Value.category]; done) | rfl
def Q1 (Z : State) (a0 : Addr) (q1 : Int64) (q2 : Int64) (q3 : Int64) (q4 : Int64) (q5 : Int64) (q6 : Int64) (q7 : Int64) (q8 : Int64) (u_committed : Int64) (u_aborted : Int64) (u_unknown : Int64) (u_audits : Int64) (u_badAudits : Int64) (u_sum : Int64) (u_expected : Int64) (u_tps : Int64) (h0 : Heap) (n0 : Nat) (v : Option Value) (h : Heap) (L : List Loc) : Prop := v = none ∧ Fr n0 L ∧ Keep h0 h [a0] ∧ Exa Z h a0 "com/example/twofold/twofold/bench/Bank$Result" ∧ Fld Z h a0 "com/example/twofold/twofold/bench/Bank$Result" "committed" "J" (.long q1) ∧ Fld Z h a0 "com/example/twofold/twofold/bench/Bank$Result" "aborted" "J" (.long q2) ∧ Fld Z h a0 "com/example/twofold/twofold/bench/Bank$Result" "unknown" "J" (.long q3) ∧ Fld Z h a0 "com/example/twofold/twofold/bench/Bank$Result" "audits" "J" (.long q4) ∧ Fld Z h a0 "com/example/twofold/twofold/bench/Bank$Result" "badAudits" "J" (.long q5) ∧ Fld Z h a0 "com/example/twofold/twofold/bench/Bank$Result" "sum" "J" (.long q6) ∧ Fld Z h a0 "com/example/twofold/twofold/bench/Bank$Result" "expected" "J" (.long q7) ∧ Fld Z h a0 "com/example/twofold/twofold/bench/Bank$Result" "tps" "J" (.long q8)
set_option maxRecDepth 65536 in
set_option maxHeartbeats 40000000 in
theorem rm1 (l : Launch) (Z : State) (aq : Array Value) (hw : ∀ d ∈ tables_1, d.before aq Z = true) (ws : List Jvm.Cond) (a0 : Addr) (q1 : Int64) (q2 : Int64) (q3 : Int64) (q4 : Int64) (q5 : Int64) (q6 : Int64) (q7 : Int64) (q8 : Int64) (u_committed : Int64) (u_aborted : Int64) (u_unknown : Int64) (u_audits : Int64) (u_badAudits : Int64) (u_sum : Int64) (u_expected : Int64) (u_tps : Int64) (h0 : Heap) (n0 : Nat) (Z0 : n0 ≤ h0.size) (E_a0 : Exa Z h0 a0 "com/example/twofold/twofold/bench/Bank$Result") (F_committed : Fld Z h0 a0 "com/example/twofold/twofold/bench/Bank$Result" "committed" "J" (.long u_committed)) (F_aborted : Fld Z h0 a0 "com/example/twofold/twofold/bench/Bank$Result" "aborted" "J" (.long u_aborted)) (F_unknown : Fld Z h0 a0 "com/example/twofold/twofold/bench/Bank$Result" "unknown" "J" (.long u_unknown)) (F_audits : Fld Z h0 a0 "com/example/twofold/twofold/bench/Bank$Result" "audits" "J" (.long u_audits)) (F_badAudits : Fld Z h0 a0 "com/example/twofold/twofold/bench/Bank$Result" "badAudits" "J" (.long u_badAudits)) (F_sum : Fld Z h0 a0 "com/example/twofold/twofold/bench/Bank$Result" "sum" "J" (.long u_sum)) (F_expected : Fld Z h0 a0 "com/example/twofold/twofold/bench/Bank$Result" "expected" "J" (.long u_expected)) (F_tps : Fld Z h0 a0 "com/example/twofold/twofold/bench/Bank$Result" "tps" "J" (.long u_tps)) (g_a0 : n0 ≤ a0) :
    MetFree l (⟨"com/example/twofold/twofold/bench/Bank$Result", "<init>", "(JJJJJJJJ)V"⟩ : MethodName) (head1 (Jvm.Cond.code (⟨"com/example/twofold/twofold/bench/Bank$Result", "<init>", "(JJJJJJJJ)V"⟩ : MethodName) prog_8_method_1_code 17 none :: ws) ({ frames := 2, cells := 0, slots := 0, locals := 24 } : Room)) (fun a U => a = #[(.ref a0), (.long q1), (.long q2), (.long q3), (.long q4), (.long q5), (.long q6), (.long q7), (.long q8)] ∧ Z.Warmed39 U.vm ∧ U.heap = h0) (fun _ _ _ _ _ => True) (fun _ U o U' => ∃ v L, o = .returned v ∧ Q1 Z a0 q1 q2 q3 q4 q5 q6 q7 q8 u_committed u_aborted u_unknown u_audits u_badAudits u_sum u_expected u_tps h0 n0 v U'.heap L ∧ FrameEnd U o U' L ({ frames := 2, cells := 0, slots := 0, locals := 24 } : Room).cells ({ frames := 2, cells := 0, slots := 0, locals := 24 } : Room).slots) := by
  refine MetFree.of_bodySF (plainFor_of_name pn25911640) hisR ?_
  intro p e s m args below meth c s₁ Bd hml0 hP hK
  obtain ⟨rfl, hZ, hh⟩ := hP
  have hx := Bd.exec
  have hby := Bd.bytes
  have hml : c.maxLocals = 17 := hml0
  have hown : s.vm.findClass "com/example/twofold/twofold/bench/Bank$Result" = some m.cls := findClass_of_methodNamed Bd.named
  have hnm := (name_of_methodNamed Bd.named Bd.method).1
  have X0 : Stand p l e ({ frames := 2, cells := 0, slots := 0, locals := 24 } : Room) s m #[(.ref a0), (.long q1), (.long q2), (.long q3), (.long q4), (.long q5), (.long q6), (.long q7), (.long q8)] below meth c s₁ [] 0 0 := Stand.of_body Bd
  have e0 : s₁.heap = h0 := by rw [← hh, Bd.state]; rfl
  have N0 := Fr.nil n0
  have K0 : Keep h0 h0 [a0] := Keep.refl _ _
  have pre0 : ∀ t, Steps p.tables e below (s₁.setTop (mkF m 0 #[.val (.ref a0), .val (.long q1), .second, .val (.long q2), .second, .val (.long q3), .second, .val (.long q4), .second, .val (.long q5), .second, .val (.long q6), .second, .val (.long q7), .second, .val (.long q8), .second] [])) t → Steps p.tables e below (s₁.setTop (entryFrame m #[(.ref a0), (.long q1), (.long q2), (.long q3), (.long q4), (.long q5), (.long q6), (.long q7), (.long q8)] 17)) t := fun t k => castTop (ef_1 m a0 q1 q2 q3 q4 q5 q6 q7 q8) k
  obtain ⟨_, _, ⟨T110, L110, k110, n110⟩, -, X110, ⟨Lc110, hQ110, l110, y110, z110⟩, st110⟩ := X0.specialBack hx (y := (⟨"java/lang/Record", "<init>", "()V"⟩ : MethodName)) rfl hown (mvT hZ (hw _ (List.mem_of_getElem? (i := 8) rfl))) (mvT hZ (hw _ (List.mem_of_getElem? (i := 9) rfl))) (mvT hZ (hw _ (List.mem_of_getElem? (i := 12) rfl))) (by decide) (backOf (W := 0) (rm2 l Z aq hw [] a0 h0 n0 Z0 ) hZ (hw _ (List.mem_of_getElem? (i := 12) rfl)) (hw _ (List.mem_of_getElem? (i := 11) rfl)) (by decide) (by decide)) (g := (mkF m 1 #[.val (.ref a0), .val (.long q1), .second, .val (.long q2), .second, .val (.long q3), .second, .val (.long q4), .second, .val (.long q5), .second, .val (.long q6), .second, .val (.long q7), .second, .val (.long q8), .second] [(.ref a0)])) rfl (by rw [hml]; rfl) (Steps.refl _) (a := a0) (argsL := []) (rest := []) (lenOf pd93421996 rfl) rfl (by show 2 * 0 + _ ≤ _; exact Nat.le_of_eq rfl) (hb hby d1_1) (fun _ _ => ⟨rfl, e0, (by decide : 0 + 0 ≤ _), (by decide : 0 + 0 ≤ _)⟩)
  dsimp only [Pt.U, Pt.locs, Pt.cells, Pt.slots] at X110 l110 y110 z110 st110 hQ110
  subst l110 y110 z110
  obtain ⟨rfl, N110q, e110⟩ := hQ110
  have N111 := Fr.app N0 N110q
  obtain ⟨T112, h112, X112, e112, W112, st112⟩ := putF X110 hx hZ hown (host := "") (Or.inl (hw _ (List.mem_of_getElem? (i := 16) rfl))) Via.refl e110 F_committed E_a0 (Or.inr ⟨(hw _ (List.mem_of_getElem? (i := 17) rfl)), rfl, hnm⟩) (hw _ (List.mem_of_getElem? (i := 1) rfl)) (ty := .long) (by decide) rfl rfl (g := (mkF m 6 #[.val (.ref a0), .val (.long q1), .second, .val (.long q2), .second, .val (.long q3), .second, .val (.long q4), .second, .val (.long q5), .second, .val (.long q6), .second, .val (.long q7), .second, .val (.long q8), .second] [(.long q1), (.ref a0)])) rfl rfl (hb hby d1_6)
  have E113 := E_a0.wr W112
  have F114 : Fld Z h112 a0 "com/example/twofold/twofold/bench/Bank$Result" "committed" "J" (.long q1) := F_committed.same W112
  have F115 := F_aborted.other W112 (Or.inr (slot_ne (Or.inr (hw _ (List.mem_of_getElem? (i := 19) rfl))) (Or.inr (hw _ (List.mem_of_getElem? (i := 17) rfl))) (by decide) (t := .long) (t' := .long) (by decide) (by decide)))
  have F116 := F_unknown.other W112 (Or.inr (slot_ne (Or.inr (hw _ (List.mem_of_getElem? (i := 21) rfl))) (Or.inr (hw _ (List.mem_of_getElem? (i := 17) rfl))) (by decide) (t := .long) (t' := .long) (by decide) (by decide)))
  have F117 := F_audits.other W112 (Or.inr (slot_ne (Or.inr (hw _ (List.mem_of_getElem? (i := 23) rfl))) (Or.inr (hw _ (List.mem_of_getElem? (i := 17) rfl))) (by decide) (t := .long) (t' := .long) (by decide) (by decide)))
  have F118 := F_badAudits.other W112 (Or.inr (slot_ne (Or.inr (hw _ (List.mem_of_getElem? (i := 25) rfl))) (Or.inr (hw _ (List.mem_of_getElem? (i := 17) rfl))) (by decide) (t := .long) (t' := .long) (by decide) (by decide)))
  have F119 := F_sum.other W112 (Or.inr (slot_ne (Or.inr (hw _ (List.mem_of_getElem? (i := 27) rfl))) (Or.inr (hw _ (List.mem_of_getElem? (i := 17) rfl))) (by decide) (t := .long) (t' := .long) (by decide) (by decide)))
  have F120 := F_expected.other W112 (Or.inr (slot_ne (Or.inr (hw _ (List.mem_of_getElem? (i := 29) rfl))) (Or.inr (hw _ (List.mem_of_getElem? (i := 17) rfl))) (by decide) (t := .long) (t' := .long) (by decide) (by decide)))
  have F121 := F_tps.other W112 (Or.inr (slot_ne (Or.inr (hw _ (List.mem_of_getElem? (i := 31) rfl))) (Or.inr (hw _ (List.mem_of_getElem? (i := 17) rfl))) (by decide) (t := .long) (t' := .long) (by decide) (by decide)))
  have N122 := Fr.snoc X112 N111 g_a0
  have K123 : Keep h0 h112 [a0] := K0.wr W112 (Or.inl (List.mem_of_getElem? (i := 0) rfl))
  have Z124 : n0 ≤ h112.size := Nat.le_trans Z0 (Keep.of_wr W112).1
  obtain ⟨T125, h125, X125, e125, W125, st125⟩ := putF X112 hx hZ hown (host := "") (Or.inl (hw _ (List.mem_of_getElem? (i := 18) rfl))) Via.refl e112 F115 E113 (Or.inr ⟨(hw _ (List.mem_of_getElem? (i := 19) rfl)), rfl, hnm⟩) (hw _ (List.mem_of_getElem? (i := 1) rfl)) (ty := .long) (by decide) rfl rfl (g := (mkF m 11 #[.val (.ref a0), .val (.long q1), .second, .val (.long q2), .second, .val (.long q3), .second, .val (.long q4), .second, .val (.long q5), .second, .val (.long q6), .second, .val (.long q7), .second, .val (.long q8), .second] [(.long q2), (.ref a0)])) rfl rfl (hb hby d1_11)
  have E126 := E113.wr W125
  have F127 := F114.other W125 (Or.inr (slot_ne (Or.inr (hw _ (List.mem_of_getElem? (i := 17) rfl))) (Or.inr (hw _ (List.mem_of_getElem? (i := 19) rfl))) (by decide) (t := .long) (t' := .long) (by decide) (by decide)))
  have F128 : Fld Z h125 a0 "com/example/twofold/twofold/bench/Bank$Result" "aborted" "J" (.long q2) := F115.same W125
  have F129 := F116.other W125 (Or.inr (slot_ne (Or.inr (hw _ (List.mem_of_getElem? (i := 21) rfl))) (Or.inr (hw _ (List.mem_of_getElem? (i := 19) rfl))) (by decide) (t := .long) (t' := .long) (by decide) (by decide)))
  have F130 := F117.other W125 (Or.inr (slot_ne (Or.inr (hw _ (List.mem_of_getElem? (i := 23) rfl))) (Or.inr (hw _ (List.mem_of_getElem? (i := 19) rfl))) (by decide) (t := .long) (t' := .long) (by decide) (by decide)))
  have F131 := F118.other W125 (Or.inr (slot_ne (Or.inr (hw _ (List.mem_of_getElem? (i := 25) rfl))) (Or.inr (hw _ (List.mem_of_getElem? (i := 19) rfl))) (by decide) (t := .long) (t' := .long) (by decide) (by decide)))
  have F132 := F119.other W125 (Or.inr (slot_ne (Or.inr (hw _ (List.mem_of_getElem? (i := 27) rfl))) (Or.inr (hw _ (List.mem_of_getElem? (i := 19) rfl))) (by decide) (t := .long) (t' := .long) (by decide) (by decide)))
  have F133 := F120.other W125 (Or.inr (slot_ne (Or.inr (hw _ (List.mem_of_getElem? (i := 29) rfl))) (Or.inr (hw _ (List.mem_of_getElem? (i := 19) rfl))) (by decide) (t := .long) (t' := .long) (by decide) (by decide)))
  have F134 := F121.other W125 (Or.inr (slot_ne (Or.inr (hw _ (List.mem_of_getElem? (i := 31) rfl))) (Or.inr (hw _ (List.mem_of_getElem? (i := 19) rfl))) (by decide) (t := .long) (t' := .long) (by decide) (by decide)))
  have N135 := Fr.snoc X125 N122 g_a0
  have K136 : Keep h0 h125 [a0] := K123.wr W125 (Or.inl (List.mem_of_getElem? (i := 0) rfl))
  have Z137 : n0 ≤ h125.size := Nat.le_trans Z124 (Keep.of_wr W125).1
  obtain ⟨T138, h138, X138, e138, W138, st138⟩ := putF X125 hx hZ hown (host := "") (Or.inl (hw _ (List.mem_of_getElem? (i := 20) rfl))) Via.refl e125 F129 E126 (Or.inr ⟨(hw _ (List.mem_of_getElem? (i := 21) rfl)), rfl, hnm⟩) (hw _ (List.mem_of_getElem? (i := 1) rfl)) (ty := .long) (by decide) rfl rfl (g := (mkF m 17 #[.val (.ref a0), .val (.long q1), .second, .val (.long q2), .second, .val (.long q3), .second, .val (.long q4), .second, .val (.long q5), .second, .val (.long q6), .second, .val (.long q7), .second, .val (.long q8), .second] [(.long q3), (.ref a0)])) rfl rfl (hb hby d1_17)
  have E139 := E126.wr W138
  have F140 := F127.other W138 (Or.inr (slot_ne (Or.inr (hw _ (List.mem_of_getElem? (i := 17) rfl))) (Or.inr (hw _ (List.mem_of_getElem? (i := 21) rfl))) (by decide) (t := .long) (t' := .long) (by decide) (by decide)))
  have F141 := F128.other W138 (Or.inr (slot_ne (Or.inr (hw _ (List.mem_of_getElem? (i := 19) rfl))) (Or.inr (hw _ (List.mem_of_getElem? (i := 21) rfl))) (by decide) (t := .long) (t' := .long) (by decide) (by decide)))
  have F142 : Fld Z h138 a0 "com/example/twofold/twofold/bench/Bank$Result" "unknown" "J" (.long q3) := F129.same W138
  have F143 := F130.other W138 (Or.inr (slot_ne (Or.inr (hw _ (List.mem_of_getElem? (i := 23) rfl))) (Or.inr (hw _ (List.mem_of_getElem? (i := 21) rfl))) (by decide) (t := .long) (t' := .long) (by decide) (by decide)))
  have F144 := F131.other W138 (Or.inr (slot_ne (Or.inr (hw _ (List.mem_of_getElem? (i := 25) rfl))) (Or.inr (hw _ (List.mem_of_getElem? (i := 21) rfl))) (by decide) (t := .long) (t' := .long) (by decide) (by decide)))
  have F145 := F132.other W138 (Or.inr (slot_ne (Or.inr (hw _ (List.mem_of_getElem? (i := 27) rfl))) (Or.inr (hw _ (List.mem_of_getElem? (i := 21) rfl))) (by decide) (t := .long) (t' := .long) (by decide) (by decide)))
  have F146 := F133.other W138 (Or.inr (slot_ne (Or.inr (hw _ (List.mem_of_getElem? (i := 29) rfl))) (Or.inr (hw _ (List.mem_of_getElem? (i := 21) rfl))) (by decide) (t := .long) (t' := .long) (by decide) (by decide)))
  have F147 := F134.other W138 (Or.inr (slot_ne (Or.inr (hw _ (List.mem_of_getElem? (i := 31) rfl))) (Or.inr (hw _ (List.mem_of_getElem? (i := 21) rfl))) (by decide) (t := .long) (t' := .long) (by decide) (by decide)))
  have N148 := Fr.snoc X138 N135 g_a0
  have K149 : Keep h0 h138 [a0] := K136.wr W138 (Or.inl (List.mem_of_getElem? (i := 0) rfl))
  have Z150 : n0 ≤ h138.size := Nat.le_trans Z137 (Keep.of_wr W138).1
  obtain ⟨T151, h151, X151, e151, W151, st151⟩ := putF X138 hx hZ hown (host := "") (Or.inl (hw _ (List.mem_of_getElem? (i := 22) rfl))) Via.refl e138 F143 E139 (Or.inr ⟨(hw _ (List.mem_of_getElem? (i := 23) rfl)), rfl, hnm⟩) (hw _ (List.mem_of_getElem? (i := 1) rfl)) (ty := .long) (by decide) rfl rfl (g := (mkF m 23 #[.val (.ref a0), .val (.long q1), .second, .val (.long q2), .second, .val (.long q3), .second, .val (.long q4), .second, .val (.long q5), .second, .val (.long q6), .second, .val (.long q7), .second, .val (.long q8), .second] [(.long q4), (.ref a0)])) rfl rfl (hb hby d1_23)
  have E152 := E139.wr W151
  have F153 := F140.other W151 (Or.inr (slot_ne (Or.inr (hw _ (List.mem_of_getElem? (i := 17) rfl))) (Or.inr (hw _ (List.mem_of_getElem? (i := 23) rfl))) (by decide) (t := .long) (t' := .long) (by decide) (by decide)))
  have F154 := F141.other W151 (Or.inr (slot_ne (Or.inr (hw _ (List.mem_of_getElem? (i := 19) rfl))) (Or.inr (hw _ (List.mem_of_getElem? (i := 23) rfl))) (by decide) (t := .long) (t' := .long) (by decide) (by decide)))
  have F155 := F142.other W151 (Or.inr (slot_ne (Or.inr (hw _ (List.mem_of_getElem? (i := 21) rfl))) (Or.inr (hw _ (List.mem_of_getElem? (i := 23) rfl))) (by decide) (t := .long) (t' := .long) (by decide) (by decide)))
  have F156 : Fld Z h151 a0 "com/example/twofold/twofold/bench/Bank$Result" "audits" "J" (.long q4) := F143.same W151
  have F157 := F144.other W151 (Or.inr (slot_ne (Or.inr (hw _ (List.mem_of_getElem? (i := 25) rfl))) (Or.inr (hw _ (List.mem_of_getElem? (i := 23) rfl))) (by decide) (t := .long) (t' := .long) (by decide) (by decide)))
  have F158 := F145.other W151 (Or.inr (slot_ne (Or.inr (hw _ (List.mem_of_getElem? (i := 27) rfl))) (Or.inr (hw _ (List.mem_of_getElem? (i := 23) rfl))) (by decide) (t := .long) (t' := .long) (by decide) (by decide)))
  have F159 := F146.other W151 (Or.inr (slot_ne (Or.inr (hw _ (List.mem_of_getElem? (i := 29) rfl))) (Or.inr (hw _ (List.mem_of_getElem? (i := 23) rfl))) (by decide) (t := .long) (t' := .long) (by decide) (by decide)))
  have F160 := F147.other W151 (Or.inr (slot_ne (Or.inr (hw _ (List.mem_of_getElem? (i := 31) rfl))) (Or.inr (hw _ (List.mem_of_getElem? (i := 23) rfl))) (by decide) (t := .long) (t' := .long) (by decide) (by decide)))
  have N161 := Fr.snoc X151 N148 g_a0
  have K162 : Keep h0 h151 [a0] := K149.wr W151 (Or.inl (List.mem_of_getElem? (i := 0) rfl))
  have Z163 : n0 ≤ h151.size := Nat.le_trans Z150 (Keep.of_wr W151).1
  obtain ⟨T164, h164, X164, e164, W164, st164⟩ := putF X151 hx hZ hown (host := "") (Or.inl (hw _ (List.mem_of_getElem? (i := 24) rfl))) Via.refl e151 F157 E152 (Or.inr ⟨(hw _ (List.mem_of_getElem? (i := 25) rfl)), rfl, hnm⟩) (hw _ (List.mem_of_getElem? (i := 1) rfl)) (ty := .long) (by decide) rfl rfl (g := (mkF m 29 #[.val (.ref a0), .val (.long q1), .second, .val (.long q2), .second, .val (.long q3), .second, .val (.long q4), .second, .val (.long q5), .second, .val (.long q6), .second, .val (.long q7), .second, .val (.long q8), .second] [(.long q5), (.ref a0)])) rfl rfl (hb hby d1_29)
  have E165 := E152.wr W164
  have F166 := F153.other W164 (Or.inr (slot_ne (Or.inr (hw _ (List.mem_of_getElem? (i := 17) rfl))) (Or.inr (hw _ (List.mem_of_getElem? (i := 25) rfl))) (by decide) (t := .long) (t' := .long) (by decide) (by decide)))
  have F167 := F154.other W164 (Or.inr (slot_ne (Or.inr (hw _ (List.mem_of_getElem? (i := 19) rfl))) (Or.inr (hw _ (List.mem_of_getElem? (i := 25) rfl))) (by decide) (t := .long) (t' := .long) (by decide) (by decide)))
  have F168 := F155.other W164 (Or.inr (slot_ne (Or.inr (hw _ (List.mem_of_getElem? (i := 21) rfl))) (Or.inr (hw _ (List.mem_of_getElem? (i := 25) rfl))) (by decide) (t := .long) (t' := .long) (by decide) (by decide)))
  have F169 := F156.other W164 (Or.inr (slot_ne (Or.inr (hw _ (List.mem_of_getElem? (i := 23) rfl))) (Or.inr (hw _ (List.mem_of_getElem? (i := 25) rfl))) (by decide) (t := .long) (t' := .long) (by decide) (by decide)))
  have F170 : Fld Z h164 a0 "com/example/twofold/twofold/bench/Bank$Result" "badAudits" "J" (.long q5) := F157.same W164
  have F171 := F158.other W164 (Or.inr (slot_ne (Or.inr (hw _ (List.mem_of_getElem? (i := 27) rfl))) (Or.inr (hw _ (List.mem_of_getElem? (i := 25) rfl))) (by decide) (t := .long) (t' := .long) (by decide) (by decide)))
  have F172 := F159.other W164 (Or.inr (slot_ne (Or.inr (hw _ (List.mem_of_getElem? (i := 29) rfl))) (Or.inr (hw _ (List.mem_of_getElem? (i := 25) rfl))) (by decide) (t := .long) (t' := .long) (by decide) (by decide)))
  have F173 := F160.other W164 (Or.inr (slot_ne (Or.inr (hw _ (List.mem_of_getElem? (i := 31) rfl))) (Or.inr (hw _ (List.mem_of_getElem? (i := 25) rfl))) (by decide) (t := .long) (t' := .long) (by decide) (by decide)))
  have N174 := Fr.snoc X164 N161 g_a0
  have K175 : Keep h0 h164 [a0] := K162.wr W164 (Or.inl (List.mem_of_getElem? (i := 0) rfl))
  have Z176 : n0 ≤ h164.size := Nat.le_trans Z163 (Keep.of_wr W164).1
  obtain ⟨T177, h177, X177, e177, W177, st177⟩ := putF X164 hx hZ hown (host := "") (Or.inl (hw _ (List.mem_of_getElem? (i := 26) rfl))) Via.refl e164 F171 E165 (Or.inr ⟨(hw _ (List.mem_of_getElem? (i := 27) rfl)), rfl, hnm⟩) (hw _ (List.mem_of_getElem? (i := 1) rfl)) (ty := .long) (by decide) rfl rfl (g := (mkF m 35 #[.val (.ref a0), .val (.long q1), .second, .val (.long q2), .second, .val (.long q3), .second, .val (.long q4), .second, .val (.long q5), .second, .val (.long q6), .second, .val (.long q7), .second, .val (.long q8), .second] [(.long q6), (.ref a0)])) rfl rfl (hb hby d1_35)
  have E178 := E165.wr W177
  have F179 := F166.other W177 (Or.inr (slot_ne (Or.inr (hw _ (List.mem_of_getElem? (i := 17) rfl))) (Or.inr (hw _ (List.mem_of_getElem? (i := 27) rfl))) (by decide) (t := .long) (t' := .long) (by decide) (by decide)))
  have F180 := F167.other W177 (Or.inr (slot_ne (Or.inr (hw _ (List.mem_of_getElem? (i := 19) rfl))) (Or.inr (hw _ (List.mem_of_getElem? (i := 27) rfl))) (by decide) (t := .long) (t' := .long) (by decide) (by decide)))
  have F181 := F168.other W177 (Or.inr (slot_ne (Or.inr (hw _ (List.mem_of_getElem? (i := 21) rfl))) (Or.inr (hw _ (List.mem_of_getElem? (i := 27) rfl))) (by decide) (t := .long) (t' := .long) (by decide) (by decide)))
  have F182 := F169.other W177 (Or.inr (slot_ne (Or.inr (hw _ (List.mem_of_getElem? (i := 23) rfl))) (Or.inr (hw _ (List.mem_of_getElem? (i := 27) rfl))) (by decide) (t := .long) (t' := .long) (by decide) (by decide)))
  have F183 := F170.other W177 (Or.inr (slot_ne (Or.inr (hw _ (List.mem_of_getElem? (i := 25) rfl))) (Or.inr (hw _ (List.mem_of_getElem? (i := 27) rfl))) (by decide) (t := .long) (t' := .long) (by decide) (by decide)))
  have F184 : Fld Z h177 a0 "com/example/twofold/twofold/bench/Bank$Result" "sum" "J" (.long q6) := F171.same W177
  have F185 := F172.other W177 (Or.inr (slot_ne (Or.inr (hw _ (List.mem_of_getElem? (i := 29) rfl))) (Or.inr (hw _ (List.mem_of_getElem? (i := 27) rfl))) (by decide) (t := .long) (t' := .long) (by decide) (by decide)))
  have F186 := F173.other W177 (Or.inr (slot_ne (Or.inr (hw _ (List.mem_of_getElem? (i := 31) rfl))) (Or.inr (hw _ (List.mem_of_getElem? (i := 27) rfl))) (by decide) (t := .long) (t' := .long) (by decide) (by decide)))
  have N187 := Fr.snoc X177 N174 g_a0
  have K188 : Keep h0 h177 [a0] := K175.wr W177 (Or.inl (List.mem_of_getElem? (i := 0) rfl))
  have Z189 : n0 ≤ h177.size := Nat.le_trans Z176 (Keep.of_wr W177).1
  obtain ⟨T190, h190, X190, e190, W190, st190⟩ := putF X177 hx hZ hown (host := "") (Or.inl (hw _ (List.mem_of_getElem? (i := 28) rfl))) Via.refl e177 F185 E178 (Or.inr ⟨(hw _ (List.mem_of_getElem? (i := 29) rfl)), rfl, hnm⟩) (hw _ (List.mem_of_getElem? (i := 1) rfl)) (ty := .long) (by decide) rfl rfl (g := (mkF m 41 #[.val (.ref a0), .val (.long q1), .second, .val (.long q2), .second, .val (.long q3), .second, .val (.long q4), .second, .val (.long q5), .second, .val (.long q6), .second, .val (.long q7), .second, .val (.long q8), .second] [(.long q7), (.ref a0)])) rfl rfl (hb hby d1_41)
  have E191 := E178.wr W190
  have F192 := F179.other W190 (Or.inr (slot_ne (Or.inr (hw _ (List.mem_of_getElem? (i := 17) rfl))) (Or.inr (hw _ (List.mem_of_getElem? (i := 29) rfl))) (by decide) (t := .long) (t' := .long) (by decide) (by decide)))
  have F193 := F180.other W190 (Or.inr (slot_ne (Or.inr (hw _ (List.mem_of_getElem? (i := 19) rfl))) (Or.inr (hw _ (List.mem_of_getElem? (i := 29) rfl))) (by decide) (t := .long) (t' := .long) (by decide) (by decide)))
  have F194 := F181.other W190 (Or.inr (slot_ne (Or.inr (hw _ (List.mem_of_getElem? (i := 21) rfl))) (Or.inr (hw _ (List.mem_of_getElem? (i := 29) rfl))) (by decide) (t := .long) (t' := .long) (by decide) (by decide)))
  have F195 := F182.other W190 (Or.inr (slot_ne (Or.inr (hw _ (List.mem_of_getElem? (i := 23) rfl))) (Or.inr (hw _ (List.mem_of_getElem? (i := 29) rfl))) (by decide) (t := .long) (t' := .long) (by decide) (by decide)))
  have F196 := F183.other W190 (Or.inr (slot_ne (Or.inr (hw _ (List.mem_of_getElem? (i := 25) rfl))) (Or.inr (hw _ (List.mem_of_getElem? (i := 29) rfl))) (by decide) (t := .long) (t' := .long) (by decide) (by decide)))
  have F197 := F184.other W190 (Or.inr (slot_ne (Or.inr (hw _ (List.mem_of_getElem? (i := 27) rfl))) (Or.inr (hw _ (List.mem_of_getElem? (i := 29) rfl))) (by decide) (t := .long) (t' := .long) (by decide) (by decide)))
  have F198 : Fld Z h190 a0 "com/example/twofold/twofold/bench/Bank$Result" "expected" "J" (.long q7) := F185.same W190
  have F199 := F186.other W190 (Or.inr (slot_ne (Or.inr (hw _ (List.mem_of_getElem? (i := 31) rfl))) (Or.inr (hw _ (List.mem_of_getElem? (i := 29) rfl))) (by decide) (t := .long) (t' := .long) (by decide) (by decide)))
  have N200 := Fr.snoc X190 N187 g_a0
  have K201 : Keep h0 h190 [a0] := K188.wr W190 (Or.inl (List.mem_of_getElem? (i := 0) rfl))
  have Z202 : n0 ≤ h190.size := Nat.le_trans Z189 (Keep.of_wr W190).1
  obtain ⟨T203, h203, X203, e203, W203, st203⟩ := putF X190 hx hZ hown (host := "") (Or.inl (hw _ (List.mem_of_getElem? (i := 30) rfl))) Via.refl e190 F199 E191 (Or.inr ⟨(hw _ (List.mem_of_getElem? (i := 31) rfl)), rfl, hnm⟩) (hw _ (List.mem_of_getElem? (i := 1) rfl)) (ty := .long) (by decide) rfl rfl (g := (mkF m 47 #[.val (.ref a0), .val (.long q1), .second, .val (.long q2), .second, .val (.long q3), .second, .val (.long q4), .second, .val (.long q5), .second, .val (.long q6), .second, .val (.long q7), .second, .val (.long q8), .second] [(.long q8), (.ref a0)])) rfl rfl (hb hby d1_47)
  have E204 := E191.wr W203
  have F205 := F192.other W203 (Or.inr (slot_ne (Or.inr (hw _ (List.mem_of_getElem? (i := 17) rfl))) (Or.inr (hw _ (List.mem_of_getElem? (i := 31) rfl))) (by decide) (t := .long) (t' := .long) (by decide) (by decide)))
  have F206 := F193.other W203 (Or.inr (slot_ne (Or.inr (hw _ (List.mem_of_getElem? (i := 19) rfl))) (Or.inr (hw _ (List.mem_of_getElem? (i := 31) rfl))) (by decide) (t := .long) (t' := .long) (by decide) (by decide)))
  have F207 := F194.other W203 (Or.inr (slot_ne (Or.inr (hw _ (List.mem_of_getElem? (i := 21) rfl))) (Or.inr (hw _ (List.mem_of_getElem? (i := 31) rfl))) (by decide) (t := .long) (t' := .long) (by decide) (by decide)))
  have F208 := F195.other W203 (Or.inr (slot_ne (Or.inr (hw _ (List.mem_of_getElem? (i := 23) rfl))) (Or.inr (hw _ (List.mem_of_getElem? (i := 31) rfl))) (by decide) (t := .long) (t' := .long) (by decide) (by decide)))
  have F209 := F196.other W203 (Or.inr (slot_ne (Or.inr (hw _ (List.mem_of_getElem? (i := 25) rfl))) (Or.inr (hw _ (List.mem_of_getElem? (i := 31) rfl))) (by decide) (t := .long) (t' := .long) (by decide) (by decide)))
  have F210 := F197.other W203 (Or.inr (slot_ne (Or.inr (hw _ (List.mem_of_getElem? (i := 27) rfl))) (Or.inr (hw _ (List.mem_of_getElem? (i := 31) rfl))) (by decide) (t := .long) (t' := .long) (by decide) (by decide)))
  have F211 := F198.other W203 (Or.inr (slot_ne (Or.inr (hw _ (List.mem_of_getElem? (i := 29) rfl))) (Or.inr (hw _ (List.mem_of_getElem? (i := 31) rfl))) (by decide) (t := .long) (t' := .long) (by decide) (by decide)))
  have F212 : Fld Z h203 a0 "com/example/twofold/twofold/bench/Bank$Result" "tps" "J" (.long q8) := F199.same W203
  have N213 := Fr.snoc X203 N200 g_a0
  have K214 : Keep h0 h203 [a0] := K201.wr W203 (Or.inl (List.mem_of_getElem? (i := 0) rfl))
  have Z215 : n0 ≤ h203.size := Nat.le_trans Z202 (Keep.of_wr W203).1
  have pre216 : ∀ t, Steps p.tables e below (T203.setTop (mkF m 50 #[.val (.ref a0), .val (.long q1), .second, .val (.long q2), .second, .val (.long q3), .second, .val (.long q4), .second, .val (.long q5), .second, .val (.long q6), .second, .val (.long q7), .second, .val (.long q8), .second] [])) t → Steps p.tables e below (s₁.setTop (entryFrame m #[(.ref a0), (.long q1), (.long q2), (.long q3), (.long q4), (.long q5), (.long q6), (.long q7), (.long q8)] 17)) t := fun t kt => by
    refine pre0 _ ?_
    show Steps p.tables e below (s₁.setTop (mkF m 0 #[.val (.ref a0), .val (.long q1), .second, .val (.long q2), .second, .val (.long q3), .second, .val (.long q4), .second, .val (.long q5), .second, .val (.long q6), .second, .val (.long q7), .second, .val (.long q8), .second] [])) _
    refine XS.aloadN X0.here hx rfl (hb hby d1_0) rfl rfl ?_
    show Steps p.tables e below (s₁.setTop (mkF m 1 #[.val (.ref a0), .val (.long q1), .second, .val (.long q2), .second, .val (.long q3), .second, .val (.long q4), .second, .val (.long q5), .second, .val (.long q6), .second, .val (.long q7), .second, .val (.long q8), .second] [(.ref a0)])) _
    refine st110.trans ?_
    show Steps p.tables e below (T110.setTop (mkF m 4 #[.val (.ref a0), .val (.long q1), .second, .val (.long q2), .second, .val (.long q3), .second, .val (.long q4), .second, .val (.long q5), .second, .val (.long q6), .second, .val (.long q7), .second, .val (.long q8), .second] [])) _
    refine XS.aloadN X110.here hx rfl (hb hby d1_4) rfl rfl ?_
    show Steps p.tables e below (T110.setTop (mkF m 5 #[.val (.ref a0), .val (.long q1), .second, .val (.long q2), .second, .val (.long q3), .second, .val (.long q4), .second, .val (.long q5), .second, .val (.long q6), .second, .val (.long q7), .second, .val (.long q8), .second] [(.ref a0)])) _
    refine XS.lloadN X110.here hx rfl (hb hby d1_5) rfl ?_
    show Steps p.tables e below (T110.setTop (mkF m 6 #[.val (.ref a0), .val (.long q1), .second, .val (.long q2), .second, .val (.long q3), .second, .val (.long q4), .second, .val (.long q5), .second, .val (.long q6), .second, .val (.long q7), .second, .val (.long q8), .second] [(.long q1), (.ref a0)])) _
    refine st112 _ ?_
    show Steps p.tables e below (T112.setTop (mkF m 9 #[.val (.ref a0), .val (.long q1), .second, .val (.long q2), .second, .val (.long q3), .second, .val (.long q4), .second, .val (.long q5), .second, .val (.long q6), .second, .val (.long q7), .second, .val (.long q8), .second] [])) _
    refine XS.aloadN X112.here hx rfl (hb hby d1_9) rfl rfl ?_
    show Steps p.tables e below (T112.setTop (mkF m 10 #[.val (.ref a0), .val (.long q1), .second, .val (.long q2), .second, .val (.long q3), .second, .val (.long q4), .second, .val (.long q5), .second, .val (.long q6), .second, .val (.long q7), .second, .val (.long q8), .second] [(.ref a0)])) _
    refine XS.lloadN X112.here hx rfl (hb hby d1_10) rfl ?_
    show Steps p.tables e below (T112.setTop (mkF m 11 #[.val (.ref a0), .val (.long q1), .second, .val (.long q2), .second, .val (.long q3), .second, .val (.long q4), .second, .val (.long q5), .second, .val (.long q6), .second, .val (.long q7), .second, .val (.long q8), .second] [(.long q2), (.ref a0)])) _
    refine st125 _ ?_
    show Steps p.tables e below (T125.setTop (mkF m 14 #[.val (.ref a0), .val (.long q1), .second, .val (.long q2), .second, .val (.long q3), .second, .val (.long q4), .second, .val (.long q5), .second, .val (.long q6), .second, .val (.long q7), .second, .val (.long q8), .second] [])) _
    refine XS.aloadN X125.here hx rfl (hb hby d1_14) rfl rfl ?_
    show Steps p.tables e below (T125.setTop (mkF m 15 #[.val (.ref a0), .val (.long q1), .second, .val (.long q2), .second, .val (.long q3), .second, .val (.long q4), .second, .val (.long q5), .second, .val (.long q6), .second, .val (.long q7), .second, .val (.long q8), .second] [(.ref a0)])) _
    refine XS.lload X125.here hx rfl (hb hby d1_15) rfl ?_
    show Steps p.tables e below (T125.setTop (mkF m 17 #[.val (.ref a0), .val (.long q1), .second, .val (.long q2), .second, .val (.long q3), .second, .val (.long q4), .second, .val (.long q5), .second, .val (.long q6), .second, .val (.long q7), .second, .val (.long q8), .second] [(.long q3), (.ref a0)])) _
    refine st138 _ ?_
    show Steps p.tables e below (T138.setTop (mkF m 20 #[.val (.ref a0), .val (.long q1), .second, .val (.long q2), .second, .val (.long q3), .second, .val (.long q4), .second, .val (.long q5), .second, .val (.long q6), .second, .val (.long q7), .second, .val (.long q8), .second] [])) _
    refine XS.aloadN X138.here hx rfl (hb hby d1_20) rfl rfl ?_
    show Steps p.tables e below (T138.setTop (mkF m 21 #[.val (.ref a0), .val (.long q1), .second, .val (.long q2), .second, .val (.long q3), .second, .val (.long q4), .second, .val (.long q5), .second, .val (.long q6), .second, .val (.long q7), .second, .val (.long q8), .second] [(.ref a0)])) _
    refine XS.lload X138.here hx rfl (hb hby d1_21) rfl ?_
    show Steps p.tables e below (T138.setTop (mkF m 23 #[.val (.ref a0), .val (.long q1), .second, .val (.long q2), .second, .val (.long q3), .second, .val (.long q4), .second, .val (.long q5), .second, .val (.long q6), .second, .val (.long q7), .second, .val (.long q8), .second] [(.long q4), (.ref a0)])) _
    refine st151 _ ?_
    show Steps p.tables e below (T151.setTop (mkF m 26 #[.val (.ref a0), .val (.long q1), .second, .val (.long q2), .second, .val (.long q3), .second, .val (.long q4), .second, .val (.long q5), .second, .val (.long q6), .second, .val (.long q7), .second, .val (.long q8), .second] [])) _
    refine XS.aloadN X151.here hx rfl (hb hby d1_26) rfl rfl ?_
    show Steps p.tables e below (T151.setTop (mkF m 27 #[.val (.ref a0), .val (.long q1), .second, .val (.long q2), .second, .val (.long q3), .second, .val (.long q4), .second, .val (.long q5), .second, .val (.long q6), .second, .val (.long q7), .second, .val (.long q8), .second] [(.ref a0)])) _
    refine XS.lload X151.here hx rfl (hb hby d1_27) rfl ?_
    show Steps p.tables e below (T151.setTop (mkF m 29 #[.val (.ref a0), .val (.long q1), .second, .val (.long q2), .second, .val (.long q3), .second, .val (.long q4), .second, .val (.long q5), .second, .val (.long q6), .second, .val (.long q7), .second, .val (.long q8), .second] [(.long q5), (.ref a0)])) _
    refine st164 _ ?_
    show Steps p.tables e below (T164.setTop (mkF m 32 #[.val (.ref a0), .val (.long q1), .second, .val (.long q2), .second, .val (.long q3), .second, .val (.long q4), .second, .val (.long q5), .second, .val (.long q6), .second, .val (.long q7), .second, .val (.long q8), .second] [])) _
    refine XS.aloadN X164.here hx rfl (hb hby d1_32) rfl rfl ?_
    show Steps p.tables e below (T164.setTop (mkF m 33 #[.val (.ref a0), .val (.long q1), .second, .val (.long q2), .second, .val (.long q3), .second, .val (.long q4), .second, .val (.long q5), .second, .val (.long q6), .second, .val (.long q7), .second, .val (.long q8), .second] [(.ref a0)])) _
    refine XS.lload X164.here hx rfl (hb hby d1_33) rfl ?_
    show Steps p.tables e below (T164.setTop (mkF m 35 #[.val (.ref a0), .val (.long q1), .second, .val (.long q2), .second, .val (.long q3), .second, .val (.long q4), .second, .val (.long q5), .second, .val (.long q6), .second, .val (.long q7), .second, .val (.long q8), .second] [(.long q6), (.ref a0)])) _
    refine st177 _ ?_
    show Steps p.tables e below (T177.setTop (mkF m 38 #[.val (.ref a0), .val (.long q1), .second, .val (.long q2), .second, .val (.long q3), .second, .val (.long q4), .second, .val (.long q5), .second, .val (.long q6), .second, .val (.long q7), .second, .val (.long q8), .second] [])) _
    refine XS.aloadN X177.here hx rfl (hb hby d1_38) rfl rfl ?_
    show Steps p.tables e below (T177.setTop (mkF m 39 #[.val (.ref a0), .val (.long q1), .second, .val (.long q2), .second, .val (.long q3), .second, .val (.long q4), .second, .val (.long q5), .second, .val (.long q6), .second, .val (.long q7), .second, .val (.long q8), .second] [(.ref a0)])) _
    refine XS.lload X177.here hx rfl (hb hby d1_39) rfl ?_
    show Steps p.tables e below (T177.setTop (mkF m 41 #[.val (.ref a0), .val (.long q1), .second, .val (.long q2), .second, .val (.long q3), .second, .val (.long q4), .second, .val (.long q5), .second, .val (.long q6), .second, .val (.long q7), .second, .val (.long q8), .second] [(.long q7), (.ref a0)])) _
    refine st190 _ ?_
    show Steps p.tables e below (T190.setTop (mkF m 44 #[.val (.ref a0), .val (.long q1), .second, .val (.long q2), .second, .val (.long q3), .second, .val (.long q4), .second, .val (.long q5), .second, .val (.long q6), .second, .val (.long q7), .second, .val (.long q8), .second] [])) _
    refine XS.aloadN X190.here hx rfl (hb hby d1_44) rfl rfl ?_
    show Steps p.tables e below (T190.setTop (mkF m 45 #[.val (.ref a0), .val (.long q1), .second, .val (.long q2), .second, .val (.long q3), .second, .val (.long q4), .second, .val (.long q5), .second, .val (.long q6), .second, .val (.long q7), .second, .val (.long q8), .second] [(.ref a0)])) _
    refine XS.lload X190.here hx rfl (hb hby d1_45) rfl ?_
    show Steps p.tables e below (T190.setTop (mkF m 47 #[.val (.ref a0), .val (.long q1), .second, .val (.long q2), .second, .val (.long q3), .second, .val (.long q4), .second, .val (.long q5), .second, .val (.long q6), .second, .val (.long q7), .second, .val (.long q8), .second] [(.long q8), (.ref a0)])) _
    refine st203 _ ?_
    show Steps p.tables e below (T203.setTop (mkF m 50 #[.val (.ref a0), .val (.long q1), .second, .val (.long q2), .second, .val (.long q3), .second, .val (.long q4), .second, .val (.long q5), .second, .val (.long q6), .second, .val (.long q7), .second, .val (.long q8), .second] [])) _
    exact kt
  obtain ⟨fs, hr, hrun, hended, hW, hsame⟩ := X203.leave (v := none) (fun _ => rfl)
  refine ⟨_, _, pre216 _ ?_, hrun, hended, _, _, rfl, ?_, ⟨_, rfl⟩, hW, hsame.mono (by decide) (by decide)⟩
  · exact X203.returnOut hx Bd.returns (hb hby d1_50) hr
  · show Q1 Z a0 q1 q2 q3 q4 q5 q6 q7 q8 u_committed u_aborted u_unknown u_audits u_badAudits u_sum u_expected u_tps h0 n0 _ T203.heap _
    rw [e203]
    exact ⟨rfl, N213, K214, E204, F205, F206, F207, F208, F209, F210, F211, F212⟩
theorem d4_0 : decode prog_8_method_2_code 0 = .ok (.aload_n 0, 1) := by decide +kernel
theorem d4_1 : decode prog_8_method_2_code 1 = .ok (.getfield 22, 3) := by decide +kernel
theorem d4_4 : decode prog_8_method_2_code 4 = .ok (.lconst 0, 1) := by decide +kernel
theorem d4_5 : decode prog_8_method_2_code 5 = .ok (.lcmp, 1) := by decide +kernel
theorem d4_6 : decode prog_8_method_2_code 6 = .ok (.ifCond .ne 19, 3) := by decide +kernel
theorem d4_9 : decode prog_8_method_2_code 9 = .ok (.aload_n 0, 1) := by decide +kernel
theorem d4_10 : decode prog_8_method_2_code 10 = .ok (.getfield 25, 3) := by decide +kernel
theorem d4_13 : decode prog_8_method_2_code 13 = .ok (.aload_n 0, 1) := by decide +kernel
theorem d4_14 : decode prog_8_method_2_code 14 = .ok (.getfield 28, 3) := by decide +kernel
theorem d4_17 : decode prog_8_method_2_code 17 = .ok (.lcmp, 1) := by decide +kernel
theorem d4_18 : decode prog_8_method_2_code 18 = .ok (.ifCond .ne 7, 3) := by decide +kernel
theorem d4_21 : decode prog_8_method_2_code 21 = .ok (.iconst 1, 1) := by decide +kernel
theorem d4_22 : decode prog_8_method_2_code 22 = .ok (.goto 4, 3) := by decide +kernel
theorem d4_25 : decode prog_8_method_2_code 25 = .ok (.iconst 0, 1) := by decide +kernel
theorem d4_26 : decode prog_8_method_2_code 26 = .ok (.ireturn, 1) := by decide +kernel
theorem ef_4 (m : MethodId) (a0 : Addr) : entryFrame m #[(.ref a0)] 1 = mkF m 0 #[.val (.ref a0)] [] := by first | (simp [entryFrame, mkF, argsToLocals, Value.category]; done) | rfl
def Q4 (Z : State) (a0 : Addr) (u_committed : Int64) (u_aborted : Int64) (u_unknown : Int64) (u_audits : Int64) (u_badAudits : Int64) (u_sum : Int64) (u_expected : Int64) (u_tps : Int64) (h0 : Heap) (n0 : Nat) (v : Option Value) (h : Heap) (L : List Loc) : Prop := v = some (.int (if u_badAudits = (0 : Int64) then (if u_sum = u_expected then (1 : Int32) else (0 : Int32)) else (0 : Int32))) ∧ Fr n0 L ∧ h = h0
set_option maxRecDepth 65536 in
set_option maxHeartbeats 40000000 in
theorem rm4 (l : Launch) (Z : State) (aq : Array Value) (hw : ∀ d ∈ tables_1, d.before aq Z = true) (ws : List Jvm.Cond) (a0 : Addr) (u_committed : Int64) (u_aborted : Int64) (u_unknown : Int64) (u_audits : Int64) (u_badAudits : Int64) (u_sum : Int64) (u_expected : Int64) (u_tps : Int64) (h0 : Heap) (n0 : Nat) (Z0 : n0 ≤ h0.size) (E_a0 : Exa Z h0 a0 "com/example/twofold/twofold/bench/Bank$Result") (F_committed : Fld Z h0 a0 "com/example/twofold/twofold/bench/Bank$Result" "committed" "J" (.long u_committed)) (F_aborted : Fld Z h0 a0 "com/example/twofold/twofold/bench/Bank$Result" "aborted" "J" (.long u_aborted)) (F_unknown : Fld Z h0 a0 "com/example/twofold/twofold/bench/Bank$Result" "unknown" "J" (.long u_unknown)) (F_audits : Fld Z h0 a0 "com/example/twofold/twofold/bench/Bank$Result" "audits" "J" (.long u_audits)) (F_badAudits : Fld Z h0 a0 "com/example/twofold/twofold/bench/Bank$Result" "badAudits" "J" (.long u_badAudits)) (F_sum : Fld Z h0 a0 "com/example/twofold/twofold/bench/Bank$Result" "sum" "J" (.long u_sum)) (F_expected : Fld Z h0 a0 "com/example/twofold/twofold/bench/Bank$Result" "expected" "J" (.long u_expected)) (F_tps : Fld Z h0 a0 "com/example/twofold/twofold/bench/Bank$Result" "tps" "J" (.long u_tps)) :
    MetFree l (⟨"com/example/twofold/twofold/bench/Bank$Result", "balanced", "()Z"⟩ : MethodName) (head1 (Jvm.Cond.code (⟨"com/example/twofold/twofold/bench/Bank$Result", "balanced", "()Z"⟩ : MethodName) prog_8_method_2_code 1 (some .boolean) :: ws) ({ frames := 0, cells := 0, slots := 0, locals := 0 } : Room)) (fun a U => a = #[(.ref a0)] ∧ Z.Warmed39 U.vm ∧ U.heap = h0) (fun _ _ _ _ _ => True) (fun _ U o U' => ∃ v L, o = .returned v ∧ Q4 Z a0 u_committed u_aborted u_unknown u_audits u_badAudits u_sum u_expected u_tps h0 n0 v U'.heap L ∧ FrameEnd U o U' L ({ frames := 0, cells := 0, slots := 0, locals := 0 } : Room).cells ({ frames := 0, cells := 0, slots := 0, locals := 0 } : Room).slots) := by
  refine MetFree.of_bodySF (plainFor_of_name pn25911640) hisR ?_
  intro p e s m args below meth c s₁ Bd hml0 hP hK
  obtain ⟨rfl, hZ, hh⟩ := hP
  have hx := Bd.exec
  have hby := Bd.bytes
  have hml : c.maxLocals = 1 := hml0
  have hown : s.vm.findClass "com/example/twofold/twofold/bench/Bank$Result" = some m.cls := findClass_of_methodNamed Bd.named
  have hnm := (name_of_methodNamed Bd.named Bd.method).1
  have X0 : Stand p l e ({ frames := 0, cells := 0, slots := 0, locals := 0 } : Room) s m #[(.ref a0)] below meth c s₁ [] 0 0 := Stand.of_body Bd
  have e0 : s₁.heap = h0 := by rw [← hh, Bd.state]; rfl
  have N0 := Fr.nil n0
  have pre0 : ∀ t, Steps p.tables e below (s₁.setTop (mkF m 0 #[.val (.ref a0)] [])) t → Steps p.tables e below (s₁.setTop (entryFrame m #[(.ref a0)] 1)) t := fun t k => castTop (ef_4 m a0) k
  obtain ⟨T224, X224, e224, st224⟩ := getF X0 hx hZ hown (host := "") (Or.inl (hw _ (List.mem_of_getElem? (i := 24) rfl))) Via.refl e0 F_badAudits (g := (mkF m 1 #[.val (.ref a0)] [(.ref a0)])) rfl rfl (hb hby d4_1)
  have pre225 : ∀ t, Steps p.tables e below (T224.setTop (mkF m 6 #[.val (.ref a0)] [(.int (lcmpW u_badAudits (0 : Int64)))])) t → Steps p.tables e below (s₁.setTop (entryFrame m #[(.ref a0)] 1)) t := fun t kt => by
    refine pre0 _ ?_
    show Steps p.tables e below (s₁.setTop (mkF m 0 #[.val (.ref a0)] [])) _
    refine XS.aloadN X0.here hx rfl (hb hby d4_0) rfl rfl ?_
    show Steps p.tables e below (s₁.setTop (mkF m 1 #[.val (.ref a0)] [(.ref a0)])) _
    refine st224 _ ?_
    show Steps p.tables e below (T224.setTop (mkF m 4 #[.val (.ref a0)] [(.long u_badAudits)])) _
    refine XS.lconst X224.here hx rfl (hb hby d4_4) ?_
    show Steps p.tables e below (T224.setTop (mkF m 5 #[.val (.ref a0)] [(.long (0 : Int64)), (.long u_badAudits)])) _
    refine XS.lcmp X224.here hx rfl (hb hby d4_5) rfl ?_
    show Steps p.tables e below (T224.setTop (mkF m 6 #[.val (.ref a0)] [(.int (lcmpW u_badAudits (0 : Int64)))])) _
    exact kt
  by_cases hc226 : u_badAudits = (0 : Int64)
  · skip
    obtain ⟨T227, X227, e227, st227⟩ := getF X224 hx hZ hown (host := "") (Or.inl (hw _ (List.mem_of_getElem? (i := 26) rfl))) Via.refl e224 F_sum (g := (mkF m 10 #[.val (.ref a0)] [(.ref a0)])) rfl rfl (hb hby d4_10)
    obtain ⟨T228, X228, e228, st228⟩ := getF X227 hx hZ hown (host := "") (Or.inl (hw _ (List.mem_of_getElem? (i := 28) rfl))) Via.refl e227 F_expected (g := (mkF m 14 #[.val (.ref a0)] [(.ref a0), (.long u_sum)])) rfl rfl (hb hby d4_14)
    have pre229 : ∀ t, Steps p.tables e below (T228.setTop (mkF m 18 #[.val (.ref a0)] [(.int (lcmpW u_sum u_expected))])) t → Steps p.tables e below (s₁.setTop (entryFrame m #[(.ref a0)] 1)) t := fun t kt => by
      refine pre225 _ ?_
      show Steps p.tables e below (T224.setTop (mkF m 6 #[.val (.ref a0)] [(.int (lcmpW u_badAudits (0 : Int64)))])) _
      refine XS.ifNo X224.here hx rfl (hb hby d4_6) rfl ((if0 _ _).trans (teq (own_lwE hc226)).2) ?_
      show Steps p.tables e below (T224.setTop (mkF m 9 #[.val (.ref a0)] [])) _
      refine XS.aloadN X224.here hx rfl (hb hby d4_9) rfl rfl ?_
      show Steps p.tables e below (T224.setTop (mkF m 10 #[.val (.ref a0)] [(.ref a0)])) _
      refine st227 _ ?_
      show Steps p.tables e below (T227.setTop (mkF m 13 #[.val (.ref a0)] [(.long u_sum)])) _
      refine XS.aloadN X227.here hx rfl (hb hby d4_13) rfl rfl ?_
      show Steps p.tables e below (T227.setTop (mkF m 14 #[.val (.ref a0)] [(.ref a0), (.long u_sum)])) _
      refine st228 _ ?_
      show Steps p.tables e below (T228.setTop (mkF m 17 #[.val (.ref a0)] [(.long u_expected), (.long u_sum)])) _
      refine XS.lcmp X228.here hx rfl (hb hby d4_17) rfl ?_
      show Steps p.tables e below (T228.setTop (mkF m 18 #[.val (.ref a0)] [(.int (lcmpW u_sum u_expected))])) _
      exact kt
    by_cases hc230 : u_sum = u_expected
    · skip
      have pre231 : ∀ t, Steps p.tables e below (T228.setTop (mkF m 26 #[.val (.ref a0)] [(.int (1 : Int32))])) t → Steps p.tables e below (s₁.setTop (entryFrame m #[(.ref a0)] 1)) t := fun t kt => by
        refine pre229 _ ?_
        show Steps p.tables e below (T228.setTop (mkF m 18 #[.val (.ref a0)] [(.int (lcmpW u_sum u_expected))])) _
        refine XS.ifNo X228.here hx rfl (hb hby d4_18) rfl ((if0 _ _).trans (teq (own_lwE hc230)).2) ?_
        show Steps p.tables e below (T228.setTop (mkF m 21 #[.val (.ref a0)] [])) _
        refine XS.iconst X228.here hx rfl (hb hby d4_21) ?_
        show Steps p.tables e below (T228.setTop (mkF m 22 #[.val (.ref a0)] [(.int (1 : Int32))])) _
        refine XS.goto X228.here hx rfl (pc0 := 22) (pc' := 26) rfl (hb hby d4_22) (by decide) (by decide) ?_
        show Steps p.tables e below (T228.setTop (mkF m 26 #[.val (.ref a0)] [(.int (1 : Int32))])) _
        exact kt
      obtain ⟨fs, hr, hrun, hended, hW, hsame⟩ := X228.leave (v := some (.int (1 : Int32))) (fun h => by rw [Bd.returns] at h; cases h)
      refine ⟨_, _, pre231 _ ?_, hrun, hended, _, _, rfl, ?_, ⟨_, rfl⟩, hW, hsame.mono (by decide) (by decide)⟩
      · exact retN X228 hx (t := .boolean) Bd.returns (by simp) (hb hby d4_26) hr
      · show Q4 Z a0 u_committed u_aborted u_unknown u_audits u_badAudits u_sum u_expected u_tps h0 n0 _ T228.heap _
        rw [e228]
        exact ⟨(own_rI (by rw [if_pos hc226, if_pos hc230] : (1 : Int32) = (if u_badAudits = (0 : Int64) then (if u_sum = u_expected then (1 : Int32) else (0 : Int32)) else (0 : Int32)))), N0, rfl⟩
    · skip
      have pre232 : ∀ t, Steps p.tables e below (T228.setTop (mkF m 26 #[.val (.ref a0)] [(.int (0 : Int32))])) t → Steps p.tables e below (s₁.setTop (entryFrame m #[(.ref a0)] 1)) t := fun t kt => by
        refine pre229 _ ?_
        show Steps p.tables e below (T228.setTop (mkF m 18 #[.val (.ref a0)] [(.int (lcmpW u_sum u_expected))])) _
        refine XS.ifYes X228.here hx rfl (pc0 := 18) (pc' := 25) rfl (hb hby d4_18) rfl ((if0 _ _).trans (feq (own_lwN hc230)).2) (by decide) (by decide) ?_
        show Steps p.tables e below (T228.setTop (mkF m 25 #[.val (.ref a0)] [])) _
        refine XS.iconst X228.here hx rfl (hb hby d4_25) ?_
        show Steps p.tables e below (T228.setTop (mkF m 26 #[.val (.ref a0)] [(.int (0 : Int32))])) _
        exact kt
      obtain ⟨fs, hr, hrun, hended, hW, hsame⟩ := X228.leave (v := some (.int (0 : Int32))) (fun h => by rw [Bd.returns] at h; cases h)
      refine ⟨_, _, pre232 _ ?_, hrun, hended, _, _, rfl, ?_, ⟨_, rfl⟩, hW, hsame.mono (by decide) (by decide)⟩
      · exact retN X228 hx (t := .boolean) Bd.returns (by simp) (hb hby d4_26) hr
      · show Q4 Z a0 u_committed u_aborted u_unknown u_audits u_badAudits u_sum u_expected u_tps h0 n0 _ T228.heap _
        rw [e228]
        exact ⟨(own_rI (by rw [if_pos hc226, if_neg hc230] : (0 : Int32) = (if u_badAudits = (0 : Int64) then (if u_sum = u_expected then (1 : Int32) else (0 : Int32)) else (0 : Int32)))), N0, rfl⟩
  · skip
    have pre233 : ∀ t, Steps p.tables e below (T224.setTop (mkF m 26 #[.val (.ref a0)] [(.int (0 : Int32))])) t → Steps p.tables e below (s₁.setTop (entryFrame m #[(.ref a0)] 1)) t := fun t kt => by
      refine pre225 _ ?_
      show Steps p.tables e below (T224.setTop (mkF m 6 #[.val (.ref a0)] [(.int (lcmpW u_badAudits (0 : Int64)))])) _
      refine XS.ifYes X224.here hx rfl (pc0 := 6) (pc' := 25) rfl (hb hby d4_6) rfl ((if0 _ _).trans (feq (own_lwN hc226)).2) (by decide) (by decide) ?_
      show Steps p.tables e below (T224.setTop (mkF m 25 #[.val (.ref a0)] [])) _
      refine XS.iconst X224.here hx rfl (hb hby d4_25) ?_
      show Steps p.tables e below (T224.setTop (mkF m 26 #[.val (.ref a0)] [(.int (0 : Int32))])) _
      exact kt
    obtain ⟨fs, hr, hrun, hended, hW, hsame⟩ := X224.leave (v := some (.int (0 : Int32))) (fun h => by rw [Bd.returns] at h; cases h)
    refine ⟨_, _, pre233 _ ?_, hrun, hended, _, _, rfl, ?_, ⟨_, rfl⟩, hW, hsame.mono (by decide) (by decide)⟩
    · exact retN X224 hx (t := .boolean) Bd.returns (by simp) (hb hby d4_26) hr
    · show Q4 Z a0 u_committed u_aborted u_unknown u_audits u_badAudits u_sum u_expected u_tps h0 n0 _ T224.heap _
      rw [e224]
      exact ⟨(own_rI (by rw [if_neg hc226] : (0 : Int32) = (if u_badAudits = (0 : Int64) then (if u_sum = u_expected then (1 : Int32) else (0 : Int32)) else (0 : Int32)))), N0, rfl⟩
theorem pd47852284 : parseMethodDescriptor "(JJJJJJJJ)V" = some ⟨[.long, .long, .long, .long, .long, .long, .long, .long], none⟩ := by decide +kernel
theorem pd93422000 : parseMethodDescriptor "()Z" = some ⟨[], some .boolean⟩ := by decide +kernel
theorem pn68421805 : plainName "com/example/twofold/twofold/bench/ResultBalancedPinLaw" = true := by first | (simp [plainName, overriddenIn]; done) | decide +kernel
theorem own_or0 (a b : Int64) : (a ||| b) = 0 ↔ a = 0 ∧ b = 0 := by
  simp only [← Int64.toBitVec_inj, Int64.toBitVec_or, Int64.toBitVec_zero]
  exact BitVec.or_eq_zero_iff
theorem own_xor0 (a b : Int64) : (a ^^^ b) = 0 ↔ a = b := by
  simp only [← Int64.toBitVec_inj, Int64.toBitVec_xor, Int64.toBitVec_zero]
  exact BitVec.xor_eq_zero_iff

theorem own_plain0 (q0 : Int64) (q1 : Int64) (q2 : Int64) (q3 : Int64) (p4 : Int32)
    (v1 : Int64) (hv1 : v1 = (if (p4 &&& (1 : Int32)) = (0 : Int32) then q0 else (0 : Int64)))
    (v2 : Int64) (hv2 : v2 = (if (p4 &&& (2 : Int32)) = (0 : Int32) then q1 else q2))
    (v3 : Int32) (hv3 : v3 = (if (v1 ||| (v2 ^^^ q2)) = (0 : Int64) then (1 : Int32) else (0 : Int32)))
    (v4 : Int32) (hv4 : v4 = (if (if v1 = (0 : Int64) then (if v2 = q2 then (1 : Int32) else (0 : Int32)) else (0 : Int32)) = v3 then (1 : Int32) else (0 : Int32))) : v4 = 1 := by
  subst hv4
  rw [hv3]
  have e1 := own_or0 v1 (v2 ^^^ q2)
  have e2 := own_xor0 v2 q2
  clear hv3 hv1 hv2
  by_cases c1 : v1 = 0 <;> by_cases c2 : v2 = q2 <;> simp_all
theorem ef_0 (m : MethodId) (q0 : Int64) (q1 : Int64) (q2 : Int64) (q3 : Int64) (p4 : Int32) : entryFrame m #[(.long q0), (.long q1), (.long q2), (.long q3), (.int p4)] maxLocals = mkF m 0 #[.val (.long q0), .second, .val (.long q1), .second, .val (.long q2), .second, .val (.long q3), .second, .val (.int p4), .unset, .unset, .unset, .unset, .unset, .unset] [] := by first | (simp [entryFrame, mkF, argsToLocals, Value.category, maxLocals]; done) | rfl
def Q0 (n0 : Nat) (v : Option Value) (L : List Loc) : Prop := v = some (.int (1 : Int32)) ∧ Fr n0 L
set_option maxRecDepth 65536 in
set_option maxHeartbeats 40000000 in
theorem rm0 (l : Launch) (Z : State) (aq : Array Value) (hw : ∀ d ∈ tables_1, d.before aq Z = true) (ws : List Jvm.Cond) (q0 : Int64) (q1 : Int64) (q2 : Int64) (q3 : Int64) (p4 : Int32) (h0 : Heap) (n0 : Nat) (Z0 : n0 ≤ h0.size) :
    MetFree l x (head1 (Jvm.Cond.code x code maxLocals ret :: ws) room_1) (fun a U => a = #[(.long q0), (.long q1), (.long q2), (.long q3), (.int p4)] ∧ Z.Warmed39 U.vm ∧ U.heap = h0) (fun _ _ _ _ _ => True) (fun _ U o U' => ∃ v L, o = .returned v ∧ Q0 n0 v L ∧ FrameEnd U o U' L room_1.cells room_1.slots) := by
  refine MetFree.of_bodySF (plainFor_of_name pn68421805) hisR ?_
  intro p e s m args below meth c s₁ Bd hml0 hP hK
  obtain ⟨rfl, hZ, hh⟩ := hP
  have hx := Bd.exec
  have hby := Bd.bytes
  have hml : c.maxLocals = 15 := hml0
  have hown : s.vm.findClass "com/example/twofold/twofold/bench/ResultBalancedPinLaw" = some m.cls := findClass_of_methodNamed Bd.named
  have X0 : Stand p l e room_1 s m #[(.long q0), (.long q1), (.long q2), (.long q3), (.int p4)] below meth c s₁ [] 0 0 := Stand.of_body Bd
  have e0 : s₁.heap = h0 := by rw [← hh, Bd.state]; rfl
  have N0 := Fr.nil n0
  have pre0 : ∀ t, Steps p.tables e below (s₁.setTop (mkF m 0 #[.val (.long q0), .second, .val (.long q1), .second, .val (.long q2), .second, .val (.long q3), .second, .val (.int p4), .unset, .unset, .unset, .unset, .unset, .unset] [])) t → Steps p.tables e below (s₁.setTop (entryFrame m #[(.long q0), (.long q1), (.long q2), (.long q3), (.int p4)] maxLocals)) t := fun t k => castTop (ef_0 m q0 q1 q2 q3 p4) k
  have pre234 : ∀ t, Steps p.tables e below (s₁.setTop (mkF m 4 #[.val (.long q0), .second, .val (.long q1), .second, .val (.long q2), .second, .val (.long q3), .second, .val (.int p4), .unset, .unset, .unset, .unset, .unset, .unset] [(.int (p4 &&& (1 : Int32)))])) t → Steps p.tables e below (s₁.setTop (entryFrame m #[(.long q0), (.long q1), (.long q2), (.long q3), (.int p4)] maxLocals)) t := fun t kt => by
    refine pre0 _ ?_
    show Steps p.tables e below (s₁.setTop (mkF m 0 #[.val (.long q0), .second, .val (.long q1), .second, .val (.long q2), .second, .val (.long q3), .second, .val (.int p4), .unset, .unset, .unset, .unset, .unset, .unset] [])) _
    refine XS.iload X0.here hx rfl (hb hby at_0) rfl ?_
    show Steps p.tables e below (s₁.setTop (mkF m 2 #[.val (.long q0), .second, .val (.long q1), .second, .val (.long q2), .second, .val (.long q3), .second, .val (.int p4), .unset, .unset, .unset, .unset, .unset, .unset] [(.int p4)])) _
    refine XS.iconst X0.here hx rfl (hb hby at_2) ?_
    show Steps p.tables e below (s₁.setTop (mkF m 3 #[.val (.long q0), .second, .val (.long q1), .second, .val (.long q2), .second, .val (.long q3), .second, .val (.int p4), .unset, .unset, .unset, .unset, .unset, .unset] [(.int (1 : Int32)), (.int p4)])) _
    refine XS.iand X0.here hx rfl (hb hby at_3) rfl ?_
    show Steps p.tables e below (s₁.setTop (mkF m 4 #[.val (.long q0), .second, .val (.long q1), .second, .val (.long q2), .second, .val (.long q3), .second, .val (.int p4), .unset, .unset, .unset, .unset, .unset, .unset] [(.int (p4 &&& (1 : Int32)))])) _
    exact kt
  obtain ⟨v1, hv1⟩ : ∃ z : Int64, z = (if (p4 &&& (1 : Int32)) = (0 : Int32) then q0 else (0 : Int64)) := ⟨_, rfl⟩
  have pre236 : ∀ t, Steps p.tables e below (s₁.setTop (mkF m 12 #[.val (.long q0), .second, .val (.long q1), .second, .val (.long q2), .second, .val (.long q3), .second, .val (.int p4), .unset, .unset, .unset, .unset, .unset, .unset] [(.long v1)])) t → Steps p.tables e below (s₁.setTop (entryFrame m #[(.long q0), (.long q1), (.long q2), (.long q3), (.int p4)] maxLocals)) t := fun t kt => by
    refine pre234 _ ?_
    show Steps p.tables e below (s₁.setTop (mkF m 4 #[.val (.long q0), .second, .val (.long q1), .second, .val (.long q2), .second, .val (.long q3), .second, .val (.int p4), .unset, .unset, .unset, .unset, .unset, .unset] [(.int (p4 &&& (1 : Int32)))])) _
    by_cases hc235 : (p4 &&& (1 : Int32)) = (0 : Int32)
    · rw [if_pos hc235] at hv1
      refine XS.ifYes X0.here hx rfl (pc0 := 4) (pc' := 11) rfl (hb hby at_4) rfl ((if0 _ _).trans (teq hc235).1) (by decide) (by decide) ?_
      show Steps p.tables e below (s₁.setTop (mkF m 11 #[.val (.long q0), .second, .val (.long q1), .second, .val (.long q2), .second, .val (.long q3), .second, .val (.int p4), .unset, .unset, .unset, .unset, .unset, .unset] [])) _
      refine XS.lloadN X0.here hx rfl (hb hby at_11) rfl ?_
      subst hv1
      exact kt
    · rw [if_neg hc235] at hv1
      refine XS.ifNo X0.here hx rfl (hb hby at_4) rfl ((if0 _ _).trans (feq hc235).1) ?_
      show Steps p.tables e below (s₁.setTop (mkF m 7 #[.val (.long q0), .second, .val (.long q1), .second, .val (.long q2), .second, .val (.long q3), .second, .val (.int p4), .unset, .unset, .unset, .unset, .unset, .unset] [])) _
      refine XS.lconst X0.here hx rfl (hb hby at_7) ?_
      show Steps p.tables e below (s₁.setTop (mkF m 8 #[.val (.long q0), .second, .val (.long q1), .second, .val (.long q2), .second, .val (.long q3), .second, .val (.int p4), .unset, .unset, .unset, .unset, .unset, .unset] [(.long (0 : Int64))])) _
      refine XS.goto X0.here hx rfl (pc0 := 8) (pc' := 12) rfl (hb hby at_8) (by decide) (by decide) ?_
      subst hv1
      exact kt
  have pre237 : ∀ t, Steps p.tables e below (s₁.setTop (mkF m 18 #[.val (.long q0), .second, .val (.long q1), .second, .val (.long q2), .second, .val (.long q3), .second, .val (.int p4), .val (.long v1), .second, .unset, .unset, .unset, .unset] [(.int (p4 &&& (2 : Int32)))])) t → Steps p.tables e below (s₁.setTop (entryFrame m #[(.long q0), (.long q1), (.long q2), (.long q3), (.int p4)] maxLocals)) t := fun t kt => by
    refine pre236 _ ?_
    show Steps p.tables e below (s₁.setTop (mkF m 12 #[.val (.long q0), .second, .val (.long q1), .second, .val (.long q2), .second, .val (.long q3), .second, .val (.int p4), .unset, .unset, .unset, .unset, .unset, .unset] [(.long v1)])) _
    refine XS.lstore X0.here hx rfl (hb hby at_12) rfl (l' := #[.val (.long q0), .second, .val (.long q1), .second, .val (.long q2), .second, .val (.long q3), .second, .val (.int p4), .val (.long v1), .second, .unset, .unset, .unset, .unset]) rfl ?_
    show Steps p.tables e below (s₁.setTop (mkF m 14 #[.val (.long q0), .second, .val (.long q1), .second, .val (.long q2), .second, .val (.long q3), .second, .val (.int p4), .val (.long v1), .second, .unset, .unset, .unset, .unset] [])) _
    refine XS.iload X0.here hx rfl (hb hby at_14) rfl ?_
    show Steps p.tables e below (s₁.setTop (mkF m 16 #[.val (.long q0), .second, .val (.long q1), .second, .val (.long q2), .second, .val (.long q3), .second, .val (.int p4), .val (.long v1), .second, .unset, .unset, .unset, .unset] [(.int p4)])) _
    refine XS.iconst X0.here hx rfl (hb hby at_16) ?_
    show Steps p.tables e below (s₁.setTop (mkF m 17 #[.val (.long q0), .second, .val (.long q1), .second, .val (.long q2), .second, .val (.long q3), .second, .val (.int p4), .val (.long v1), .second, .unset, .unset, .unset, .unset] [(.int (2 : Int32)), (.int p4)])) _
    refine XS.iand X0.here hx rfl (hb hby at_17) rfl ?_
    show Steps p.tables e below (s₁.setTop (mkF m 18 #[.val (.long q0), .second, .val (.long q1), .second, .val (.long q2), .second, .val (.long q3), .second, .val (.int p4), .val (.long v1), .second, .unset, .unset, .unset, .unset] [(.int (p4 &&& (2 : Int32)))])) _
    exact kt
  obtain ⟨v2, hv2⟩ : ∃ z : Int64, z = (if (p4 &&& (2 : Int32)) = (0 : Int32) then q1 else q2) := ⟨_, rfl⟩
  have pre239 : ∀ t, Steps p.tables e below (s₁.setTop (mkF m 27 #[.val (.long q0), .second, .val (.long q1), .second, .val (.long q2), .second, .val (.long q3), .second, .val (.int p4), .val (.long v1), .second, .unset, .unset, .unset, .unset] [(.long v2)])) t → Steps p.tables e below (s₁.setTop (entryFrame m #[(.long q0), (.long q1), (.long q2), (.long q3), (.int p4)] maxLocals)) t := fun t kt => by
    refine pre237 _ ?_
    show Steps p.tables e below (s₁.setTop (mkF m 18 #[.val (.long q0), .second, .val (.long q1), .second, .val (.long q2), .second, .val (.long q3), .second, .val (.int p4), .val (.long v1), .second, .unset, .unset, .unset, .unset] [(.int (p4 &&& (2 : Int32)))])) _
    by_cases hc238 : (p4 &&& (2 : Int32)) = (0 : Int32)
    · rw [if_pos hc238] at hv2
      refine XS.ifYes X0.here hx rfl (pc0 := 18) (pc' := 26) rfl (hb hby at_18) rfl ((if0 _ _).trans (teq hc238).1) (by decide) (by decide) ?_
      show Steps p.tables e below (s₁.setTop (mkF m 26 #[.val (.long q0), .second, .val (.long q1), .second, .val (.long q2), .second, .val (.long q3), .second, .val (.int p4), .val (.long v1), .second, .unset, .unset, .unset, .unset] [])) _
      refine XS.lloadN X0.here hx rfl (hb hby at_26) rfl ?_
      subst hv2
      exact kt
    · rw [if_neg hc238] at hv2
      refine XS.ifNo X0.here hx rfl (hb hby at_18) rfl ((if0 _ _).trans (feq hc238).1) ?_
      show Steps p.tables e below (s₁.setTop (mkF m 21 #[.val (.long q0), .second, .val (.long q1), .second, .val (.long q2), .second, .val (.long q3), .second, .val (.int p4), .val (.long v1), .second, .unset, .unset, .unset, .unset] [])) _
      refine XS.lload X0.here hx rfl (hb hby at_21) rfl ?_
      show Steps p.tables e below (s₁.setTop (mkF m 23 #[.val (.long q0), .second, .val (.long q1), .second, .val (.long q2), .second, .val (.long q3), .second, .val (.int p4), .val (.long v1), .second, .unset, .unset, .unset, .unset] [(.long q2)])) _
      refine XS.goto X0.here hx rfl (pc0 := 23) (pc' := 27) rfl (hb hby at_23) (by decide) (by decide) ?_
      subst hv2
      exact kt
  obtain ⟨T240, h240, X240, e240, E240, A240, D240, -, st240⟩ := newO X0 hx hZ hown (hw _ (List.mem_of_getElem? (i := 0) rfl)) (hw _ (List.mem_of_getElem? (i := 1) rfl)) (hw _ (List.mem_of_getElem? (i := 2) rfl)) e0 (g := (mkF m 29 #[.val (.long q0), .second, .val (.long q1), .second, .val (.long q2), .second, .val (.long q3), .second, .val (.int p4), .val (.long v1), .second, .val (.long v2), .second, .unset, .unset] [])) rfl (hb hby at_29) (by decide) (by decide)
  obtain ⟨b240, g240⟩ : ∃ z, z = h0.size := ⟨_, rfl⟩
  rw [← g240] at A240 D240 st240
  have g_b240 : n0 ≤ b240 := Nat.le_trans Z0 (Nat.le_of_eq g240.symm)
  have Z241 : n0 ≤ h240.size := Nat.le_trans Z0 E240.1
  have F240_committed : Fld Z h240 b240 "com/example/twofold/twofold/bench/Bank$Result" "committed" "J" (.long (0 : Int64)) := D240 (Or.inr (hw _ (List.mem_of_getElem? (i := 17) rfl))) (ty := .long) (by decide)
  have F240_aborted : Fld Z h240 b240 "com/example/twofold/twofold/bench/Bank$Result" "aborted" "J" (.long (0 : Int64)) := D240 (Or.inr (hw _ (List.mem_of_getElem? (i := 19) rfl))) (ty := .long) (by decide)
  have F240_unknown : Fld Z h240 b240 "com/example/twofold/twofold/bench/Bank$Result" "unknown" "J" (.long (0 : Int64)) := D240 (Or.inr (hw _ (List.mem_of_getElem? (i := 21) rfl))) (ty := .long) (by decide)
  have F240_audits : Fld Z h240 b240 "com/example/twofold/twofold/bench/Bank$Result" "audits" "J" (.long (0 : Int64)) := D240 (Or.inr (hw _ (List.mem_of_getElem? (i := 23) rfl))) (ty := .long) (by decide)
  have F240_badAudits : Fld Z h240 b240 "com/example/twofold/twofold/bench/Bank$Result" "badAudits" "J" (.long (0 : Int64)) := D240 (Or.inr (hw _ (List.mem_of_getElem? (i := 25) rfl))) (ty := .long) (by decide)
  have F240_sum : Fld Z h240 b240 "com/example/twofold/twofold/bench/Bank$Result" "sum" "J" (.long (0 : Int64)) := D240 (Or.inr (hw _ (List.mem_of_getElem? (i := 27) rfl))) (ty := .long) (by decide)
  have F240_expected : Fld Z h240 b240 "com/example/twofold/twofold/bench/Bank$Result" "expected" "J" (.long (0 : Int64)) := D240 (Or.inr (hw _ (List.mem_of_getElem? (i := 29) rfl))) (ty := .long) (by decide)
  have F240_tps : Fld Z h240 b240 "com/example/twofold/twofold/bench/Bank$Result" "tps" "J" (.long (0 : Int64)) := D240 (Or.inr (hw _ (List.mem_of_getElem? (i := 31) rfl))) (ty := .long) (by decide)
  obtain ⟨_, _, ⟨T242, L242, k242, n242⟩, -, X242, ⟨Lc242, hQ242, l242, y242, z242⟩, st242⟩ := X240.specialBack hx (y := (⟨"com/example/twofold/twofold/bench/Bank$Result", "<init>", "(JJJJJJJJ)V"⟩ : MethodName)) rfl hown (mvT hZ (hw _ (List.mem_of_getElem? (i := 5) rfl))) (mvT hZ (hw _ (List.mem_of_getElem? (i := 6) rfl))) (mvT hZ (hw _ (List.mem_of_getElem? (i := 7) rfl))) (by decide) (backOf (W := 1) (rm1 l Z aq hw [] b240 q3 (q3 ^^^ (-1 : Int64)) (q3 * (31 : Int64)) (q3 ^^^ q0) v1 v2 q2 (q3 + q1) (0 : Int64) (0 : Int64) (0 : Int64) (0 : Int64) (0 : Int64) (0 : Int64) (0 : Int64) (0 : Int64) h240 n0 Z241 A240 F240_committed F240_aborted F240_unknown F240_audits F240_badAudits F240_sum F240_expected F240_tps g_b240) hZ (hw _ (List.mem_of_getElem? (i := 7) rfl)) (hw _ (List.mem_of_getElem? (i := 2) rfl)) (by decide) (by decide)) (g := (mkF m 61 #[.val (.long q0), .second, .val (.long q1), .second, .val (.long q2), .second, .val (.long q3), .second, .val (.int p4), .val (.long v1), .second, .val (.long v2), .second, .unset, .unset] [(.long (q3 + q1)), (.long q2), (.long v2), (.long v1), (.long (q3 ^^^ q0)), (.long (q3 * (31 : Int64))), (.long (q3 ^^^ (-1 : Int64))), (.long q3), (.ref b240), (.ref b240)])) rfl (by rw [hml]; rfl) (Steps.refl _) (a := b240) (argsL := [(.long q3), (.long (q3 ^^^ (-1 : Int64))), (.long (q3 * (31 : Int64))), (.long (q3 ^^^ q0)), (.long v1), (.long v2), (.long q2), (.long (q3 + q1))]) (rest := [(.ref b240)]) (lenOf pd47852284 rfl) rfl (by show 2 * 0 + _ ≤ _; exact Nat.le_of_eq rfl) (hb hby at_61) (fun _ _ => ⟨rfl, e240, (by decide : 1 + 0 ≤ _), (by decide : 8 + 0 ≤ _)⟩)
  dsimp only [Pt.U, Pt.locs, Pt.cells, Pt.slots] at X242 l242 y242 z242 st242 hQ242
  subst l242 y242 z242
  obtain ⟨rfl, N242q, K242, E242_0, F242_0, F242_1, F242_2, F242_3, F242_4, F242_5, F242_6, F242_7⟩ := hQ242
  have Z243 : n0 ≤ T242.heap.size := Nat.le_trans Z241 K242.1
  have N244 := Fr.app N0 N242q
  have pre245 : ∀ t, Steps p.tables e below (T242.setTop (mkF m 76 #[.val (.long q0), .second, .val (.long q1), .second, .val (.long q2), .second, .val (.long q3), .second, .val (.int p4), .val (.long v1), .second, .val (.long v2), .second, .val (.ref b240), .unset] [(.int (lcmpW (v1 ||| (v2 ^^^ q2)) (0 : Int64)))])) t → Steps p.tables e below (s₁.setTop (entryFrame m #[(.long q0), (.long q1), (.long q2), (.long q3), (.int p4)] maxLocals)) t := fun t kt => by
    refine pre239 _ ?_
    show Steps p.tables e below (s₁.setTop (mkF m 27 #[.val (.long q0), .second, .val (.long q1), .second, .val (.long q2), .second, .val (.long q3), .second, .val (.int p4), .val (.long v1), .second, .unset, .unset, .unset, .unset] [(.long v2)])) _
    refine XS.lstore X0.here hx rfl (hb hby at_27) rfl (l' := #[.val (.long q0), .second, .val (.long q1), .second, .val (.long q2), .second, .val (.long q3), .second, .val (.int p4), .val (.long v1), .second, .val (.long v2), .second, .unset, .unset]) rfl ?_
    show Steps p.tables e below (s₁.setTop (mkF m 29 #[.val (.long q0), .second, .val (.long q1), .second, .val (.long q2), .second, .val (.long q3), .second, .val (.int p4), .val (.long v1), .second, .val (.long v2), .second, .unset, .unset] [])) _
    refine st240 _ ?_
    show Steps p.tables e below (T240.setTop (mkF m 32 #[.val (.long q0), .second, .val (.long q1), .second, .val (.long q2), .second, .val (.long q3), .second, .val (.int p4), .val (.long v1), .second, .val (.long v2), .second, .unset, .unset] [(.ref b240)])) _
    refine XS.dup X240.here hx rfl (hb hby at_32) rfl rfl ?_
    show Steps p.tables e below (T240.setTop (mkF m 33 #[.val (.long q0), .second, .val (.long q1), .second, .val (.long q2), .second, .val (.long q3), .second, .val (.int p4), .val (.long v1), .second, .val (.long v2), .second, .unset, .unset] [(.ref b240), (.ref b240)])) _
    refine XS.lload X240.here hx rfl (hb hby at_33) rfl ?_
    show Steps p.tables e below (T240.setTop (mkF m 35 #[.val (.long q0), .second, .val (.long q1), .second, .val (.long q2), .second, .val (.long q3), .second, .val (.int p4), .val (.long v1), .second, .val (.long v2), .second, .unset, .unset] [(.long q3), (.ref b240), (.ref b240)])) _
    refine XS.lload X240.here hx rfl (hb hby at_35) rfl ?_
    show Steps p.tables e below (T240.setTop (mkF m 37 #[.val (.long q0), .second, .val (.long q1), .second, .val (.long q2), .second, .val (.long q3), .second, .val (.int p4), .val (.long v1), .second, .val (.long v2), .second, .unset, .unset] [(.long q3), (.long q3), (.ref b240), (.ref b240)])) _
    refine X240.ldc2Long hx hown (mvT hZ (hw _ (List.mem_of_getElem? (i := 3) rfl))) (g := (mkF m 37 #[.val (.long q0), .second, .val (.long q1), .second, .val (.long q2), .second, .val (.long q3), .second, .val (.int p4), .val (.long v1), .second, .val (.long v2), .second, .unset, .unset] [(.long q3), (.long q3), (.ref b240), (.ref b240)])) rfl (hb hby at_37) _ ?_
    show Steps p.tables e below (T240.setTop (mkF m 40 #[.val (.long q0), .second, .val (.long q1), .second, .val (.long q2), .second, .val (.long q3), .second, .val (.int p4), .val (.long v1), .second, .val (.long v2), .second, .unset, .unset] [(.long (-1 : Int64)), (.long q3), (.long q3), (.ref b240), (.ref b240)])) _
    refine XS.lxor X240.here hx rfl (hb hby at_40) rfl ?_
    show Steps p.tables e below (T240.setTop (mkF m 41 #[.val (.long q0), .second, .val (.long q1), .second, .val (.long q2), .second, .val (.long q3), .second, .val (.int p4), .val (.long v1), .second, .val (.long v2), .second, .unset, .unset] [(.long (q3 ^^^ (-1 : Int64))), (.long q3), (.ref b240), (.ref b240)])) _
    refine XS.lload X240.here hx rfl (hb hby at_41) rfl ?_
    show Steps p.tables e below (T240.setTop (mkF m 43 #[.val (.long q0), .second, .val (.long q1), .second, .val (.long q2), .second, .val (.long q3), .second, .val (.int p4), .val (.long v1), .second, .val (.long v2), .second, .unset, .unset] [(.long q3), (.long (q3 ^^^ (-1 : Int64))), (.long q3), (.ref b240), (.ref b240)])) _
    refine X240.ldc2Long hx hown (mvT hZ (hw _ (List.mem_of_getElem? (i := 4) rfl))) (g := (mkF m 43 #[.val (.long q0), .second, .val (.long q1), .second, .val (.long q2), .second, .val (.long q3), .second, .val (.int p4), .val (.long v1), .second, .val (.long v2), .second, .unset, .unset] [(.long q3), (.long (q3 ^^^ (-1 : Int64))), (.long q3), (.ref b240), (.ref b240)])) rfl (hb hby at_43) _ ?_
    show Steps p.tables e below (T240.setTop (mkF m 46 #[.val (.long q0), .second, .val (.long q1), .second, .val (.long q2), .second, .val (.long q3), .second, .val (.int p4), .val (.long v1), .second, .val (.long v2), .second, .unset, .unset] [(.long (31 : Int64)), (.long q3), (.long (q3 ^^^ (-1 : Int64))), (.long q3), (.ref b240), (.ref b240)])) _
    refine XS.lmul X240.here hx rfl (hb hby at_46) rfl ?_
    show Steps p.tables e below (T240.setTop (mkF m 47 #[.val (.long q0), .second, .val (.long q1), .second, .val (.long q2), .second, .val (.long q3), .second, .val (.int p4), .val (.long v1), .second, .val (.long v2), .second, .unset, .unset] [(.long (q3 * (31 : Int64))), (.long (q3 ^^^ (-1 : Int64))), (.long q3), (.ref b240), (.ref b240)])) _
    refine XS.lload X240.here hx rfl (hb hby at_47) rfl ?_
    show Steps p.tables e below (T240.setTop (mkF m 49 #[.val (.long q0), .second, .val (.long q1), .second, .val (.long q2), .second, .val (.long q3), .second, .val (.int p4), .val (.long v1), .second, .val (.long v2), .second, .unset, .unset] [(.long q3), (.long (q3 * (31 : Int64))), (.long (q3 ^^^ (-1 : Int64))), (.long q3), (.ref b240), (.ref b240)])) _
    refine XS.lloadN X240.here hx rfl (hb hby at_49) rfl ?_
    show Steps p.tables e below (T240.setTop (mkF m 50 #[.val (.long q0), .second, .val (.long q1), .second, .val (.long q2), .second, .val (.long q3), .second, .val (.int p4), .val (.long v1), .second, .val (.long v2), .second, .unset, .unset] [(.long q0), (.long q3), (.long (q3 * (31 : Int64))), (.long (q3 ^^^ (-1 : Int64))), (.long q3), (.ref b240), (.ref b240)])) _
    refine XS.lxor X240.here hx rfl (hb hby at_50) rfl ?_
    show Steps p.tables e below (T240.setTop (mkF m 51 #[.val (.long q0), .second, .val (.long q1), .second, .val (.long q2), .second, .val (.long q3), .second, .val (.int p4), .val (.long v1), .second, .val (.long v2), .second, .unset, .unset] [(.long (q3 ^^^ q0)), (.long (q3 * (31 : Int64))), (.long (q3 ^^^ (-1 : Int64))), (.long q3), (.ref b240), (.ref b240)])) _
    refine XS.lload X240.here hx rfl (hb hby at_51) rfl ?_
    show Steps p.tables e below (T240.setTop (mkF m 53 #[.val (.long q0), .second, .val (.long q1), .second, .val (.long q2), .second, .val (.long q3), .second, .val (.int p4), .val (.long v1), .second, .val (.long v2), .second, .unset, .unset] [(.long v1), (.long (q3 ^^^ q0)), (.long (q3 * (31 : Int64))), (.long (q3 ^^^ (-1 : Int64))), (.long q3), (.ref b240), (.ref b240)])) _
    refine XS.lload X240.here hx rfl (hb hby at_53) rfl ?_
    show Steps p.tables e below (T240.setTop (mkF m 55 #[.val (.long q0), .second, .val (.long q1), .second, .val (.long q2), .second, .val (.long q3), .second, .val (.int p4), .val (.long v1), .second, .val (.long v2), .second, .unset, .unset] [(.long v2), (.long v1), (.long (q3 ^^^ q0)), (.long (q3 * (31 : Int64))), (.long (q3 ^^^ (-1 : Int64))), (.long q3), (.ref b240), (.ref b240)])) _
    refine XS.lload X240.here hx rfl (hb hby at_55) rfl ?_
    show Steps p.tables e below (T240.setTop (mkF m 57 #[.val (.long q0), .second, .val (.long q1), .second, .val (.long q2), .second, .val (.long q3), .second, .val (.int p4), .val (.long v1), .second, .val (.long v2), .second, .unset, .unset] [(.long q2), (.long v2), (.long v1), (.long (q3 ^^^ q0)), (.long (q3 * (31 : Int64))), (.long (q3 ^^^ (-1 : Int64))), (.long q3), (.ref b240), (.ref b240)])) _
    refine XS.lload X240.here hx rfl (hb hby at_57) rfl ?_
    show Steps p.tables e below (T240.setTop (mkF m 59 #[.val (.long q0), .second, .val (.long q1), .second, .val (.long q2), .second, .val (.long q3), .second, .val (.int p4), .val (.long v1), .second, .val (.long v2), .second, .unset, .unset] [(.long q3), (.long q2), (.long v2), (.long v1), (.long (q3 ^^^ q0)), (.long (q3 * (31 : Int64))), (.long (q3 ^^^ (-1 : Int64))), (.long q3), (.ref b240), (.ref b240)])) _
    refine XS.lloadN X240.here hx rfl (hb hby at_59) rfl ?_
    show Steps p.tables e below (T240.setTop (mkF m 60 #[.val (.long q0), .second, .val (.long q1), .second, .val (.long q2), .second, .val (.long q3), .second, .val (.int p4), .val (.long v1), .second, .val (.long v2), .second, .unset, .unset] [(.long q1), (.long q3), (.long q2), (.long v2), (.long v1), (.long (q3 ^^^ q0)), (.long (q3 * (31 : Int64))), (.long (q3 ^^^ (-1 : Int64))), (.long q3), (.ref b240), (.ref b240)])) _
    refine XS.ladd X240.here hx rfl (hb hby at_60) rfl ?_
    show Steps p.tables e below (T240.setTop (mkF m 61 #[.val (.long q0), .second, .val (.long q1), .second, .val (.long q2), .second, .val (.long q3), .second, .val (.int p4), .val (.long v1), .second, .val (.long v2), .second, .unset, .unset] [(.long (q3 + q1)), (.long q2), (.long v2), (.long v1), (.long (q3 ^^^ q0)), (.long (q3 * (31 : Int64))), (.long (q3 ^^^ (-1 : Int64))), (.long q3), (.ref b240), (.ref b240)])) _
    refine st242.trans ?_
    show Steps p.tables e below (T242.setTop (mkF m 64 #[.val (.long q0), .second, .val (.long q1), .second, .val (.long q2), .second, .val (.long q3), .second, .val (.int p4), .val (.long v1), .second, .val (.long v2), .second, .unset, .unset] [(.ref b240)])) _
    refine XS.astore X242.here hx rfl (hb hby at_64) rfl rfl (l' := #[.val (.long q0), .second, .val (.long q1), .second, .val (.long q2), .second, .val (.long q3), .second, .val (.int p4), .val (.long v1), .second, .val (.long v2), .second, .val (.ref b240), .unset]) rfl ?_
    show Steps p.tables e below (T242.setTop (mkF m 66 #[.val (.long q0), .second, .val (.long q1), .second, .val (.long q2), .second, .val (.long q3), .second, .val (.int p4), .val (.long v1), .second, .val (.long v2), .second, .val (.ref b240), .unset] [])) _
    refine XS.lload X242.here hx rfl (hb hby at_66) rfl ?_
    show Steps p.tables e below (T242.setTop (mkF m 68 #[.val (.long q0), .second, .val (.long q1), .second, .val (.long q2), .second, .val (.long q3), .second, .val (.int p4), .val (.long v1), .second, .val (.long v2), .second, .val (.ref b240), .unset] [(.long v1)])) _
    refine XS.lload X242.here hx rfl (hb hby at_68) rfl ?_
    show Steps p.tables e below (T242.setTop (mkF m 70 #[.val (.long q0), .second, .val (.long q1), .second, .val (.long q2), .second, .val (.long q3), .second, .val (.int p4), .val (.long v1), .second, .val (.long v2), .second, .val (.ref b240), .unset] [(.long v2), (.long v1)])) _
    refine XS.lload X242.here hx rfl (hb hby at_70) rfl ?_
    show Steps p.tables e below (T242.setTop (mkF m 72 #[.val (.long q0), .second, .val (.long q1), .second, .val (.long q2), .second, .val (.long q3), .second, .val (.int p4), .val (.long v1), .second, .val (.long v2), .second, .val (.ref b240), .unset] [(.long q2), (.long v2), (.long v1)])) _
    refine XS.lxor X242.here hx rfl (hb hby at_72) rfl ?_
    show Steps p.tables e below (T242.setTop (mkF m 73 #[.val (.long q0), .second, .val (.long q1), .second, .val (.long q2), .second, .val (.long q3), .second, .val (.int p4), .val (.long v1), .second, .val (.long v2), .second, .val (.ref b240), .unset] [(.long (v2 ^^^ q2)), (.long v1)])) _
    refine XS.lor X242.here hx rfl (hb hby at_73) rfl ?_
    show Steps p.tables e below (T242.setTop (mkF m 74 #[.val (.long q0), .second, .val (.long q1), .second, .val (.long q2), .second, .val (.long q3), .second, .val (.int p4), .val (.long v1), .second, .val (.long v2), .second, .val (.ref b240), .unset] [(.long (v1 ||| (v2 ^^^ q2)))])) _
    refine XS.lconst X242.here hx rfl (hb hby at_74) ?_
    show Steps p.tables e below (T242.setTop (mkF m 75 #[.val (.long q0), .second, .val (.long q1), .second, .val (.long q2), .second, .val (.long q3), .second, .val (.int p4), .val (.long v1), .second, .val (.long v2), .second, .val (.ref b240), .unset] [(.long (0 : Int64)), (.long (v1 ||| (v2 ^^^ q2)))])) _
    refine XS.lcmp X242.here hx rfl (hb hby at_75) rfl ?_
    show Steps p.tables e below (T242.setTop (mkF m 76 #[.val (.long q0), .second, .val (.long q1), .second, .val (.long q2), .second, .val (.long q3), .second, .val (.int p4), .val (.long v1), .second, .val (.long v2), .second, .val (.ref b240), .unset] [(.int (lcmpW (v1 ||| (v2 ^^^ q2)) (0 : Int64)))])) _
    exact kt
  obtain ⟨v3, hv3⟩ : ∃ z : Int32, z = (if (v1 ||| (v2 ^^^ q2)) = (0 : Int64) then (1 : Int32) else (0 : Int32)) := ⟨_, rfl⟩
  have pre247 : ∀ t, Steps p.tables e below (T242.setTop (mkF m 84 #[.val (.long q0), .second, .val (.long q1), .second, .val (.long q2), .second, .val (.long q3), .second, .val (.int p4), .val (.long v1), .second, .val (.long v2), .second, .val (.ref b240), .unset] [(.int v3)])) t → Steps p.tables e below (s₁.setTop (entryFrame m #[(.long q0), (.long q1), (.long q2), (.long q3), (.int p4)] maxLocals)) t := fun t kt => by
    refine pre245 _ ?_
    show Steps p.tables e below (T242.setTop (mkF m 76 #[.val (.long q0), .second, .val (.long q1), .second, .val (.long q2), .second, .val (.long q3), .second, .val (.int p4), .val (.long v1), .second, .val (.long v2), .second, .val (.ref b240), .unset] [(.int (lcmpW (v1 ||| (v2 ^^^ q2)) (0 : Int64)))])) _
    by_cases hc246 : (v1 ||| (v2 ^^^ q2)) = (0 : Int64)
    · rw [if_pos hc246] at hv3
      refine XS.ifNo X242.here hx rfl (hb hby at_76) rfl ((if0 _ _).trans (teq (own_lwE hc246)).2) ?_
      show Steps p.tables e below (T242.setTop (mkF m 79 #[.val (.long q0), .second, .val (.long q1), .second, .val (.long q2), .second, .val (.long q3), .second, .val (.int p4), .val (.long v1), .second, .val (.long v2), .second, .val (.ref b240), .unset] [])) _
      refine XS.iconst X242.here hx rfl (hb hby at_79) ?_
      show Steps p.tables e below (T242.setTop (mkF m 80 #[.val (.long q0), .second, .val (.long q1), .second, .val (.long q2), .second, .val (.long q3), .second, .val (.int p4), .val (.long v1), .second, .val (.long v2), .second, .val (.ref b240), .unset] [(.int (1 : Int32))])) _
      refine XS.goto X242.here hx rfl (pc0 := 80) (pc' := 84) rfl (hb hby at_80) (by decide) (by decide) ?_
      subst hv3
      exact kt
    · rw [if_neg hc246] at hv3
      refine XS.ifYes X242.here hx rfl (pc0 := 76) (pc' := 83) rfl (hb hby at_76) rfl ((if0 _ _).trans (feq (own_lwN hc246)).2) (by decide) (by decide) ?_
      show Steps p.tables e below (T242.setTop (mkF m 83 #[.val (.long q0), .second, .val (.long q1), .second, .val (.long q2), .second, .val (.long q3), .second, .val (.int p4), .val (.long v1), .second, .val (.long v2), .second, .val (.ref b240), .unset] [])) _
      refine XS.iconst X242.here hx rfl (hb hby at_83) ?_
      subst hv3
      exact kt
  obtain ⟨cq248, kq248, q248a, q248b, q248c⟩ := isOf hZ rfl E242_0
  obtain ⟨_, _, ⟨T248, L248, k248, n248⟩, -, X248, ⟨Lc248, hQ248, l248, y248, z248⟩, st248⟩ := X242.virtualBack hx (y := (⟨"com/example/twofold/twofold/bench/Bank$Result", "balanced", "()Z"⟩ : MethodName)) (z := (⟨"com/example/twofold/twofold/bench/Bank$Result", "balanced", "()Z"⟩ : MethodName)) hown (mvT hZ (hw _ (List.mem_of_getElem? (i := 32) rfl))) (mvT hZ (hw _ (List.mem_of_getElem? (i := 33) rfl))) (notFace_of_selects (args := #[]) (mvT hZ (hw _ (List.mem_of_getElem? (i := 35) rfl)))) (mvT hZ (hw _ (List.mem_of_getElem? (i := 35) rfl))) (mvT hZ (hw _ (List.mem_of_getElem? (i := 34) rfl))) (by decide) (backOf (W := 0) (rm4 l Z aq hw [] b240 q3 (q3 ^^^ (-1 : Int64)) (q3 * (31 : Int64)) (q3 ^^^ q0) v1 v2 q2 (q3 + q1) T242.heap n0 Z243 E242_0 F242_0 F242_1 F242_2 F242_3 F242_4 F242_5 F242_6 F242_7) hZ (hw _ (List.mem_of_getElem? (i := 36) rfl)) (hw _ (List.mem_of_getElem? (i := 2) rfl)) (by decide) (by decide)) q248a q248c (g := (mkF m 88 #[.val (.long q0), .second, .val (.long q1), .second, .val (.long q2), .second, .val (.long q3), .second, .val (.int p4), .val (.long v1), .second, .val (.long v2), .second, .val (.ref b240), .val (.int v3)] [(.ref b240)])) rfl (by rw [hml]; rfl) (Steps.refl _) (argsL := []) (rest := []) (lenOf pd93422000 rfl) rfl (by show 2 * 0 + _ ≤ _; exact Nat.le_of_eq rfl) (hb hby at_88) (fun _ _ => ⟨rfl, rfl, (by decide : 1 + 0 ≤ _), (by decide : 8 + 0 ≤ _)⟩)
  dsimp only [Pt.U, Pt.locs, Pt.cells, Pt.slots] at X248 l248 y248 z248 st248 hQ248
  subst l248 y248 z248
  obtain ⟨rfl, N248q, e248⟩ := hQ248
  have N249 := Fr.app N244 N248q
  have pre250 : ∀ t, Steps p.tables e below (T248.setTop (mkF m 93 #[.val (.long q0), .second, .val (.long q1), .second, .val (.long q2), .second, .val (.long q3), .second, .val (.int p4), .val (.long v1), .second, .val (.long v2), .second, .val (.ref b240), .val (.int v3)] [(.int v3), (.int (if v1 = (0 : Int64) then (if v2 = q2 then (1 : Int32) else (0 : Int32)) else (0 : Int32)))])) t → Steps p.tables e below (s₁.setTop (entryFrame m #[(.long q0), (.long q1), (.long q2), (.long q3), (.int p4)] maxLocals)) t := fun t kt => by
    refine pre247 _ ?_
    show Steps p.tables e below (T242.setTop (mkF m 84 #[.val (.long q0), .second, .val (.long q1), .second, .val (.long q2), .second, .val (.long q3), .second, .val (.int p4), .val (.long v1), .second, .val (.long v2), .second, .val (.ref b240), .unset] [(.int v3)])) _
    refine XS.istore X242.here hx rfl (hb hby at_84) rfl (l' := #[.val (.long q0), .second, .val (.long q1), .second, .val (.long q2), .second, .val (.long q3), .second, .val (.int p4), .val (.long v1), .second, .val (.long v2), .second, .val (.ref b240), .val (.int v3)]) rfl ?_
    show Steps p.tables e below (T242.setTop (mkF m 86 #[.val (.long q0), .second, .val (.long q1), .second, .val (.long q2), .second, .val (.long q3), .second, .val (.int p4), .val (.long v1), .second, .val (.long v2), .second, .val (.ref b240), .val (.int v3)] [])) _
    refine XS.aload X242.here hx rfl (hb hby at_86) rfl rfl ?_
    show Steps p.tables e below (T242.setTop (mkF m 88 #[.val (.long q0), .second, .val (.long q1), .second, .val (.long q2), .second, .val (.long q3), .second, .val (.int p4), .val (.long v1), .second, .val (.long v2), .second, .val (.ref b240), .val (.int v3)] [(.ref b240)])) _
    refine st248.trans ?_
    show Steps p.tables e below (T248.setTop (mkF m 91 #[.val (.long q0), .second, .val (.long q1), .second, .val (.long q2), .second, .val (.long q3), .second, .val (.int p4), .val (.long v1), .second, .val (.long v2), .second, .val (.ref b240), .val (.int v3)] [(.int (if v1 = (0 : Int64) then (if v2 = q2 then (1 : Int32) else (0 : Int32)) else (0 : Int32)))])) _
    refine XS.iload X248.here hx rfl (hb hby at_91) rfl ?_
    show Steps p.tables e below (T248.setTop (mkF m 93 #[.val (.long q0), .second, .val (.long q1), .second, .val (.long q2), .second, .val (.long q3), .second, .val (.int p4), .val (.long v1), .second, .val (.long v2), .second, .val (.ref b240), .val (.int v3)] [(.int v3), (.int (if v1 = (0 : Int64) then (if v2 = q2 then (1 : Int32) else (0 : Int32)) else (0 : Int32)))])) _
    exact kt
  obtain ⟨v4, hv4⟩ : ∃ z : Int32, z = (if (if v1 = (0 : Int64) then (if v2 = q2 then (1 : Int32) else (0 : Int32)) else (0 : Int32)) = v3 then (1 : Int32) else (0 : Int32)) := ⟨_, rfl⟩
  have pre252 : ∀ t, Steps p.tables e below (T248.setTop (mkF m 101 #[.val (.long q0), .second, .val (.long q1), .second, .val (.long q2), .second, .val (.long q3), .second, .val (.int p4), .val (.long v1), .second, .val (.long v2), .second, .val (.ref b240), .val (.int v3)] [(.int v4)])) t → Steps p.tables e below (s₁.setTop (entryFrame m #[(.long q0), (.long q1), (.long q2), (.long q3), (.int p4)] maxLocals)) t := fun t kt => by
    refine pre250 _ ?_
    show Steps p.tables e below (T248.setTop (mkF m 93 #[.val (.long q0), .second, .val (.long q1), .second, .val (.long q2), .second, .val (.long q3), .second, .val (.int p4), .val (.long v1), .second, .val (.long v2), .second, .val (.ref b240), .val (.int v3)] [(.int v3), (.int (if v1 = (0 : Int64) then (if v2 = q2 then (1 : Int32) else (0 : Int32)) else (0 : Int32)))])) _
    by_cases hc251 : (if v1 = (0 : Int64) then (if v2 = q2 then (1 : Int32) else (0 : Int32)) else (0 : Int32)) = v3
    · rw [if_pos hc251] at hv4
      refine XS.icmpNo X248.here hx rfl (hb hby at_93) rfl (teq hc251).2 ?_
      show Steps p.tables e below (T248.setTop (mkF m 96 #[.val (.long q0), .second, .val (.long q1), .second, .val (.long q2), .second, .val (.long q3), .second, .val (.int p4), .val (.long v1), .second, .val (.long v2), .second, .val (.ref b240), .val (.int v3)] [])) _
      refine XS.iconst X248.here hx rfl (hb hby at_96) ?_
      show Steps p.tables e below (T248.setTop (mkF m 97 #[.val (.long q0), .second, .val (.long q1), .second, .val (.long q2), .second, .val (.long q3), .second, .val (.int p4), .val (.long v1), .second, .val (.long v2), .second, .val (.ref b240), .val (.int v3)] [(.int (1 : Int32))])) _
      refine XS.goto X248.here hx rfl (pc0 := 97) (pc' := 101) rfl (hb hby at_97) (by decide) (by decide) ?_
      subst hv4
      exact kt
    · rw [if_neg hc251] at hv4
      refine XS.icmpYes X248.here hx rfl (pc0 := 93) (pc' := 100) rfl (hb hby at_93) rfl (feq hc251).2 (by decide) (by decide) ?_
      show Steps p.tables e below (T248.setTop (mkF m 100 #[.val (.long q0), .second, .val (.long q1), .second, .val (.long q2), .second, .val (.long q3), .second, .val (.int p4), .val (.long v1), .second, .val (.long v2), .second, .val (.ref b240), .val (.int v3)] [])) _
      refine XS.iconst X248.here hx rfl (hb hby at_100) ?_
      subst hv4
      exact kt
  have hfin : v4 = 1 := (own_plain0 q0 q1 q2 q3 p4 v1 hv1 v2 hv2 v3 hv3 v4 hv4)
  obtain ⟨fs, hr, hrun, hended, hW, hsame⟩ := X248.leave (v := some (.int (v4 &&& 1))) (fun h => by rw [Bd.returns] at h; cases h)
  refine ⟨_, _, pre252 _ ?_, hrun, hended, _, _, rfl, ?_, ⟨_, rfl⟩, hW, hsame.mono (by decide) (by decide)⟩
  · exact retN X248 hx (t := .boolean) Bd.returns (by simp) (hb hby at_101) hr
  · exact ⟨by rw [hfin]; rfl, N249⟩
set_option maxRecDepth 65536 in
set_option maxHeartbeats 40000000 in
theorem comes_1 {Post : Tables → Env → Array Value → State → Outcome → State → Prop} (hpost : ∀ tb e args s v u, (limb_1_1.after args s (.returned v) u = true ∧ limb_1_2.after args s (.returned v) u = true ∧ True) → FrameEnd s (.returned v) u (Jvm.fieldLocs frame_1_writes args s ++ Jvm.arrayLocs frame_1_arrays args s ++ Jvm.staticLocs frame_1_statics s) 16 128 → Post tb e args s (.returned v) u) :
    ArmFor flags0 classFile x code maxLocals ret World_1 tables_1 room_1 Calls_1 rest_1 Pre_1 Post := by
  intro l hfl _ _ p e ha hc hk s m args below hf hA hF happ hP
  obtain ⟨hcalls, hrest, hpre⟩ := hP
  obtain ⟨-, -, -, hnamed, -, -, -, hat⟩ := (Spec.applies_iff hf).mp happ
  obtain ⟨hg, hn⟩ := and_e (Cond.before_iff.mp (show (Jvm.Cond.and given_1 narrow_1).before args s = true from hpre))
  obtain ⟨hcount, hg0⟩ := and_e hg
  obtain ⟨ha0, hg1⟩ := and_e hg0
  obtain ⟨ha1, hg2⟩ := and_e hg1
  obtain ⟨ha2, hg3⟩ := and_e hg2
  obtain ⟨ha3, hg4⟩ := and_e hg3
  have ha4 := hg4
  obtain ⟨w0, w1, w2, w3, w4, rfl⟩ : ∃ w0 w1 w2 w3 w4 : Value, args = #[w0, w1, w2, w3, w4] := by
    have hs : args.size = 5 := by simpa [Cond.value, given_1] using hcount
    obtain ⟨L⟩ := args
    match L, hs with
    | [w0, w1, w2, w3, w4], _ => exact ⟨w0, w1, w2, w3, w4, rfl⟩
  have hw := fun d (hd : d ∈ tables_1) => atoms_spec (ws := Jvm.Cond.code x code maxLocals ret :: tables_1) hat d (List.mem_cons_of_mem _ hd)
  obtain ⟨i0, ei0⟩ := isL_v ha0
  obtain rfl : w0 = (.long i0) := Option.some.inj ei0
  obtain ⟨i1, ei1⟩ := isL_v ha1
  obtain rfl : w1 = (.long i1) := Option.some.inj ei1
  obtain ⟨i2, ei2⟩ := isL_v ha2
  obtain rfl : w2 = (.long i2) := Option.some.inj ei2
  obtain ⟨i3, ei3⟩ := isL_v ha3
  obtain rfl : w3 = (.long i3) := Option.some.inj ei3
  obtain ⟨i4, ei4⟩ := is_v ha4
  obtain rfl : w4 = (.int i4) := Option.some.inj ei4
  obtain ⟨n, o, h1, h2, h3, _, L, rfl, ⟨rfl, N⟩, hq⟩ := rm0 l s _ hw tables_1 i0 i1 i2 i3 i4 s.heap s.heap.size (Nat.le_refl _) p e ha hc hk s m _ below hf ((Spec.applies_iff_loose hf).mp happ).1 ⟨rfl, State.Warmed39.refl s, rfl⟩ trivial
  refine ⟨n, _, h1, h2, h3, hpost _ _ _ _ _ _ ⟨Cond.after_iff.mpr rfl, Cond.after_iff.mpr (eq_i res_at (Term.int_eval (1)) rfl), trivial⟩ ⟨hq.1, hq.2.1, (hq.2.2.sift fun y hy => Or.inr (N y hy)).mono (by decide) (by decide)⟩⟩
theorem main_1_1 : Claimed_1_1 := comes_1 fun _ _ _ _ _ _ h hF => ⟨h.1, hF⟩
theorem main_1_2 : Claimed_1_2 := comes_1 fun _ _ _ _ _ _ h hF => ⟨h.2.1, hF⟩
end Jvm.Pilot.@@N@@
namespace Jvm.Pilot.@@N@@
open Jvm Jvm.ClassFile Sem Op Lib Jvm.Free Jvm.Stand Jvm.Pilot.@@N@@.Jvm.D
/-! MADE BY PROGRAM (witnessworld.py) out of the Statement's table words and the real class files: 10 classes; the members and pool entries that the words name. The judged class is class 1, her method 1. -/
namespace start1
open Jvm.ClassFile
def u (s : String) : CpInfo := .utf8 (stringToUtf16 s)
/-- a pool by its gaps: so many unusable entries, then the entry; so many at the end -/
def gap : Nat → List CpInfo → List CpInfo
  | 0, r => r
  | n + 1, r => .unusable :: gap n r
def poolList (es : List (Nat × CpInfo)) (last : Nat) : List CpInfo := es.foldr (fun e r => gap e.1 (e.2 :: r)) (gap last [])
def pool (es : List (Nat × CpInfo)) (last : Nat) : Array CpInfo := ⟨poolList es last⟩
def fileOf (pool : Array CpInfo) (this : Nat) (attrs : Array Attribute := #[]) (ms : Array MethodInfo := #[]) (fl : Nat := 33) (sup : Nat := 0) (ifs : Array Nat := #[]) (fds : Array FieldInfo := #[]) : ClassFile where
  minorVersion := 0
  majorVersion := 65
  constantPool := pool
  accessFlags := fl
  thisClass := this
  superClass := sup
  interfaces := ifs
  fields := fds
  methods := ms
  attributes := attrs
def plain (name : String) (sup : Option ClassId) : Class where
  name := name
  kind := .ordinary
  loader := none
  accessFlags := 33
  super := sup
  interfaces := #[]
  cf := none
  fields := #[]
  methods := #[]
  instanceTypes := #[]
  staticTypes := #[]
  resolved := #[]
  callSites := []
  init := .initialized
  statics := none
  mirror := none

def pool0 : Array CpInfo := pool [(5, u "<init>"), (0, u "()V"), (1, .class_ 10), (1, u "java/lang/Object")] 113

def k0c0 : Code := { maxStack := 0, maxLocals := 1, code := object_method_1_code, exceptionTable := #[], attributes := #[] }
def k0m0 : Method := { name := "<init>", desc := "()V", sig := { parameters := [], returnType := none }, accessFlags := 1, code := some k0c0 }
/-- java/lang/Object -/
def k0 : Class := { plain "java/lang/Object" none with
  accessFlags := 33
  interfaces := #[]
  cf := some (fileOf pool0 8 #[] #[{ accessFlags := 1, nameIndex := 5, descriptorIndex := 6, attributes := #[] }] 33 0 #[] #[])
  fields := #[]
  methods := #[k0m0]
  instanceTypes := #[]
  staticTypes := #[]
  resolved := Array.replicate 124 none
  statics := none }

def pool1 : Array CpInfo := pool [(2, .class_ 4), (1, u "java/lang/Object"), (0, u "<init>"), (0, u "()V"), (0, .class_ 8), (0, u "com/example/twofold/twofold/bench/Bank$Result"), (0, .long 18446744073709551615), (1, .long 31), (1, .methodref 7 14), (0, .nameAndType 5 15), (0, u "(JJJJJJJJ)V"), (0, .methodref 7 17), (0, .nameAndType 18 19), (0, u "balanced"), (0, u "()Z"), (0, .class_ 21), (0, u "com/example/twofold/twofold/bench/ResultBalancedPinLaw"), (2, u "law"), (0, u "(JJJJI)Z")] 7

def k1m0 : Method := { name := "<init>", desc := "()V", sig := { parameters := [], returnType := none }, accessFlags := 1, code := none }
def k1c1 : Code := { maxStack := 20, maxLocals := 15, code := code, exceptionTable := #[], attributes := #[] }
def k1m1 : Method := { name := "law", desc := "(JJJJI)Z", sig := { parameters := [.long, .long, .long, .long, .int], returnType := some .boolean }, accessFlags := 9, code := some k1c1 }
/-- com/example/twofold/twofold/bench/ResultBalancedPinLaw -/
def k1 : Class := { plain "com/example/twofold/twofold/bench/ResultBalancedPinLaw" (some 0) with
  accessFlags := 49
  interfaces := #[]
  cf := some (fileOf pool1 20 #[] #[{ accessFlags := 1, nameIndex := 5, descriptorIndex := 6, attributes := #[] }, { accessFlags := 9, nameIndex := 24, descriptorIndex := 25, attributes := #[] }] 49 2 #[] #[])
  fields := #[]
  methods := #[k1m0, k1m1]
  instanceTypes := #[]
  staticTypes := #[]
  resolved := Array.replicate 33 none
  statics := none }

def pool2 : Array CpInfo := pool [(1, .methodref 2 3), (0, .class_ 4), (0, .nameAndType 5 6), (0, u "java/lang/Object"), (0, u "<init>"), (0, u "()V"), (0, .class_ 8), (0, u "java/lang/Record")] 13

def k2c0 : Code := { maxStack := 1, maxLocals := 1, code := jdk_30_method_1_code, exceptionTable := #[], attributes := #[] }
def k2m0 : Method := { name := "<init>", desc := "()V", sig := { parameters := [], returnType := none }, accessFlags := 4, code := some k2c0 }
/-- java/lang/Record -/
def k2 : Class := { plain "java/lang/Record" (some 0) with
  accessFlags := 1057
  interfaces := #[]
  cf := some (fileOf pool2 7 #[] #[{ accessFlags := 4, nameIndex := 5, descriptorIndex := 6, attributes := #[] }] 1057 2 #[] #[])
  fields := #[]
  methods := #[k2m0]
  instanceTypes := #[]
  staticTypes := #[]
  resolved := Array.replicate 22 none
  statics := none }

def pool3 : Array CpInfo := pool [(1, .methodref 2 3), (0, .class_ 4), (0, .nameAndType 5 6), (0, u "java/lang/Record"), (0, u "<init>"), (0, u "()V"), (0, .fieldref 8 9), (0, .class_ 10), (0, .nameAndType 11 12), (0, u "com/example/twofold/twofold/bench/Bank$Result"), (0, u "committed"), (0, u "J"), (0, .fieldref 8 14), (0, .nameAndType 15 12), (0, u "aborted"), (0, .fieldref 8 17), (0, .nameAndType 18 12), (0, u "unknown"), (0, .fieldref 8 20), (0, .nameAndType 21 12), (0, u "audits"), (0, .fieldref 8 23), (0, .nameAndType 24 12), (0, u "badAudits"), (0, .fieldref 8 26), (0, .nameAndType 27 12), (0, u "sum"), (0, .fieldref 8 29), (0, .nameAndType 30 12), (0, u "expected"), (0, .fieldref 8 32), (0, .nameAndType 33 12), (0, u "tps"), (12, u "(JJJJJJJJ)V"), (3, u "balanced"), (0, u "()Z"), (9, .class_ 62), (0, u "com/example/twofold/twofold/bench/Bank")] 34

def k3c0 : Code := { maxStack := 3, maxLocals := 17, code := prog_8_method_1_code, exceptionTable := #[], attributes := #[] }
def k3m0 : Method := { name := "<init>", desc := "(JJJJJJJJ)V", sig := { parameters := [.long, .long, .long, .long, .long, .long, .long, .long], returnType := none }, accessFlags := 1, code := some k3c0 }
def k3c1 : Code := { maxStack := 4, maxLocals := 1, code := prog_8_method_2_code, exceptionTable := #[], attributes := #[] }
def k3m1 : Method := { name := "balanced", desc := "()Z", sig := { parameters := [], returnType := some .boolean }, accessFlags := 1, code := some k3c1 }
/-- com/example/twofold/twofold/bench/Bank$Result -/
def k3 : Class := { plain "com/example/twofold/twofold/bench/Bank$Result" (some 2) with
  accessFlags := 49
  interfaces := #[]
  cf := some (fileOf pool3 8 #[.nestHost 61] #[{ accessFlags := 1, nameIndex := 5, descriptorIndex := 46, attributes := #[] }, { accessFlags := 1, nameIndex := 50, descriptorIndex := 51, attributes := #[] }] 49 2 #[] #[{ accessFlags := 18, nameIndex := 11, descriptorIndex := 12, attributes := #[] }, { accessFlags := 18, nameIndex := 15, descriptorIndex := 12, attributes := #[] }, { accessFlags := 18, nameIndex := 18, descriptorIndex := 12, attributes := #[] }, { accessFlags := 18, nameIndex := 21, descriptorIndex := 12, attributes := #[] }, { accessFlags := 18, nameIndex := 24, descriptorIndex := 12, attributes := #[] }, { accessFlags := 18, nameIndex := 27, descriptorIndex := 12, attributes := #[] }, { accessFlags := 18, nameIndex := 30, descriptorIndex := 12, attributes := #[] }, { accessFlags := 18, nameIndex := 33, descriptorIndex := 12, attributes := #[] }])
  fields := #[{ name := "committed", type := .long, accessFlags := 18, slot := 0, constantValue := 0 }, { name := "aborted", type := .long, accessFlags := 18, slot := 1, constantValue := 0 }, { name := "unknown", type := .long, accessFlags := 18, slot := 2, constantValue := 0 }, { name := "audits", type := .long, accessFlags := 18, slot := 3, constantValue := 0 }, { name := "badAudits", type := .long, accessFlags := 18, slot := 4, constantValue := 0 }, { name := "sum", type := .long, accessFlags := 18, slot := 5, constantValue := 0 }, { name := "expected", type := .long, accessFlags := 18, slot := 6, constantValue := 0 }, { name := "tps", type := .long, accessFlags := 18, slot := 7, constantValue := 0 }]
  methods := #[k3m0, k3m1]
  instanceTypes := #[.long, .long, .long, .long, .long, .long, .long, .long]
  staticTypes := #[]
  resolved := Array.replicate 97 none
  statics := none }

def pool4 : Array CpInfo := pool [(1, u "java/lang/Cloneable"), (0, .class_ 1), (0, u "java/lang/Object"), (0, .class_ 3)] 3

/-- java/lang/Cloneable -/
def k4 : Class := { plain "java/lang/Cloneable" (some 0) with
  accessFlags := 1537
  interfaces := #[]
  cf := some (fileOf pool4 2 #[] #[] 1537 4 #[] #[])
  fields := #[]
  methods := #[]
  instanceTypes := #[]
  staticTypes := #[]
  resolved := Array.replicate 8 none
  statics := none }

def pool5 : Array CpInfo := pool [(1, u "java/io/Serializable"), (0, .class_ 1), (0, u "java/lang/Object"), (0, .class_ 3)] 3

/-- java/io/Serializable -/
def k5 : Class := { plain "java/io/Serializable" (some 0) with
  accessFlags := 1537
  interfaces := #[]
  cf := some (fileOf pool5 2 #[] #[] 1537 4 #[] #[])
  fields := #[]
  methods := #[]
  instanceTypes := #[]
  staticTypes := #[]
  resolved := Array.replicate 8 none
  statics := none }

/-- the primitive byte -/
def k6 : Class := { plain "byte" none with kind := .primitive 'B', accessFlags := 0x411 }
/-- [B -/
def k7 : Class := { plain "[B" (some 0) with kind := .array 6 .byte, interfaces := #[4, 5], accessFlags := 1041 }

/-- the primitive int -/
def k8 : Class := { plain "int" none with kind := .primitive 'I', accessFlags := 0x411 }
/-- [I -/
def k9 : Class := { plain "[I" (some 0) with kind := .array 8 .int, interfaces := #[4, 5], accessFlags := 1041 }

def heap : Heap := #[]
def classes : Array Class := #[k0, k1, k2, k3, k4, k5, k6, k7, k8, k9]
def interned : List (Array UInt16 × Addr) := []
def slotsUsed : Nat := 0
def theMethod : MethodId := ⟨1, 1⟩
def args0 : Array Value := #[.long 5, .long 5, .long 5, .long 5, .int 5]
def aboutOver (below : List Frame) : State where
  vm := { classes := classes, interned := interned.toArray }
  heap := heap
  slotsUsed := slotsUsed
  threads := #[{ frames := .invoking theMethod args0 :: below }]
def below0 : List Frame := [.native { method := ⟨0, 0⟩, args := #[] }]
def about1 : State := aboutOver below0
def p0 : Program := .bare "" "" ""
def e0 : Env := launch0.env 0 0 0
theorem w_frames : about1.frames = Frame.invoking theMethod args0 :: below0 := rfl
set_option maxRecDepth 65536 in
theorem w_args : argsFit about1.vm theMethod args0 = true := by decide +kernel
set_option maxRecDepth 65536 in
theorem w_heap : heapFits about1 = true := by decide +kernel
set_option maxRecDepth 65536 in
theorem w_runnable : about1.curStatus? = some .runnable := by decide +kernel
set_option maxRecDepth 65536 in
theorem w_alone : about1.alone = true := by decide +kernel
set_option maxRecDepth 65536 in
theorem w_named : about1.methodNamed? x = some theMethod := by decide +kernel
set_option maxRecDepth 65536 in
theorem w_hears : about1.hears theMethod below0 = true := by decide +kernel
set_option maxRecDepth 65536 in
theorem w_ripe : about1.ripe theMethod args0 below0 = true := by decide +kernel
theorem w_running : about1.status = .running := rfl
set_option maxRecDepth 65536 in
theorem w_room : about1.hasRoom e0.platform room_1 = true :=
  launch0.hasRoom_least _ room_1 (by decide +kernel) (by decide +kernel) (by decide +kernel) (by decide +kernel) (by decide +kernel) (by decide +kernel)
theorem allAtoms_all (ts : List Jvm.Cond) (a : Array Jvm.Value) (st : Jvm.State) : (allAtoms ts).before a st = ts.all (fun c => c.before a st) := by
  induction ts with
  | nil => rfl
  | cons c t ih =>
    show (Jvm.Cond.and c (allAtoms t)).before a st = _
    rw [Jvm.Cond.before_and, ih, List.all_cons]
def words1 : List Jvm.Cond := Jvm.Cond.code x code maxLocals ret :: tables_1
/-- a 'code' word, met by the world's own term for the bytes: nothing is compared byte by byte -/
theorem code_word {y : MethodName} {bytes : ByteArray} {mx : Nat} {rt : Option FieldType} {a : Array Value} {s : State} {m : MethodId} {meth : Method} {c : Code} (h1 : s.methodNamed? y = some m) (h2 : s.vm.method? m = some meth) (h3 : meth.code = some c) (h4 : c.code = bytes)
    (h5 : (c.maxLocals == mx && c.exceptionTable.isEmpty && decide (c.maxStack ≤ mostOperands) && decide (meth.sig.returnType = rt) && !meth.locks && decide (parseMethodDescriptor y.desc = some meth.sig)) = true) : (Jvm.Cond.code y bytes mx rt).before a s = true := by
  simp only [Bool.and_eq_true, beq_iff_eq, Bool.not_eq_true', decide_eq_true_eq] at h5
  obtain ⟨⟨⟨⟨⟨g1, g2⟩, g3⟩, g4⟩, g5⟩, g6⟩ := h5
  simp [Cond.before, Cond.holds, Cond.value, h1, h2, h3, h4, g1, g2, g3, g4, g5, g6]
def isCode : Jvm.Cond → Bool
  | .code _ _ _ _ => true
  | _ => false
theorem all_split {L : List Jvm.Cond} {P : Jvm.Cond → Bool} (h1 : L.all (fun c => isCode c || P c) = true) (h2 : ∀ c ∈ L.filter isCode, P c = true) : L.all P = true := by
  refine List.all_eq_true.mpr fun c hc => ?_
  have h := List.all_eq_true.mp h1 c hc
  rcases Bool.eq_false_or_eq_true (isCode c) with hi | hi
  · exact h2 c (List.mem_filter.mpr ⟨hc, hi⟩)
  · simpa [hi] using h
set_option maxRecDepth 65536 in
theorem w_c0 : (Jvm.Cond.code x code maxLocals ret).before args0 about1 = true := code_word (m := ⟨1, 1⟩) (meth := k1m1) (c := k1c1) (by decide +kernel) rfl rfl rfl (by decide +kernel)
set_option maxRecDepth 65536 in
theorem w_c1 : (Jvm.Cond.code ({ cls := "com/example/twofold/twofold/bench/Bank$Result", name := "<init>", desc := "(JJJJJJJJ)V" } : Jvm.MethodName) prog_8_method_1_code (17 : Nat) (Option.none : Option Jvm.ClassFile.FieldType)).before args0 about1 = true := code_word (m := ⟨3, 0⟩) (meth := k3m0) (c := k3c0) (by decide +kernel) rfl rfl rfl (by decide +kernel)
set_option maxRecDepth 65536 in
theorem w_c2 : (Jvm.Cond.code ({ cls := "java/lang/Record", name := "<init>", desc := "()V" } : Jvm.MethodName) jdk_30_method_1_code (1 : Nat) (Option.none : Option Jvm.ClassFile.FieldType)).before args0 about1 = true := code_word (m := ⟨2, 0⟩) (meth := k2m0) (c := k2c0) (by decide +kernel) rfl rfl rfl (by decide +kernel)
set_option maxRecDepth 65536 in
theorem w_c3 : (Jvm.Cond.code ({ cls := "java/lang/Object", name := "<init>", desc := "()V" } : Jvm.MethodName) object_method_1_code (1 : Nat) (Option.none : Option Jvm.ClassFile.FieldType)).before args0 about1 = true := code_word (m := ⟨0, 0⟩) (meth := k0m0) (c := k0c0) (by decide +kernel) rfl rfl rfl (by decide +kernel)
set_option maxRecDepth 65536 in
theorem w_c4 : (Jvm.Cond.code ({ cls := "com/example/twofold/twofold/bench/Bank$Result", name := "balanced", desc := "()Z" } : Jvm.MethodName) prog_8_method_2_code (1 : Nat) (Option.some Jvm.ClassFile.FieldType.boolean)).before args0 about1 = true := code_word (m := ⟨3, 1⟩) (meth := k3m1) (c := k3c1) (by decide +kernel) rfl rfl rfl (by decide +kernel)
def codes1 : List Jvm.Cond := [Jvm.Cond.code x code maxLocals ret, Jvm.Cond.code ({ cls := "com/example/twofold/twofold/bench/Bank$Result", name := "<init>", desc := "(JJJJJJJJ)V" } : Jvm.MethodName) prog_8_method_1_code (17 : Nat) (Option.none : Option Jvm.ClassFile.FieldType), Jvm.Cond.code ({ cls := "java/lang/Record", name := "<init>", desc := "()V" } : Jvm.MethodName) jdk_30_method_1_code (1 : Nat) (Option.none : Option Jvm.ClassFile.FieldType), Jvm.Cond.code ({ cls := "java/lang/Object", name := "<init>", desc := "()V" } : Jvm.MethodName) object_method_1_code (1 : Nat) (Option.none : Option Jvm.ClassFile.FieldType), Jvm.Cond.code ({ cls := "com/example/twofold/twofold/bench/Bank$Result", name := "balanced", desc := "()Z" } : Jvm.MethodName) prog_8_method_2_code (1 : Nat) (Option.some Jvm.ClassFile.FieldType.boolean)]
set_option maxRecDepth 65536 in
theorem codes_eq : words1.filter isCode = codes1 := rfl
theorem w_codes : ∀ c ∈ words1.filter isCode, c.before args0 about1 = true := by
  rw [codes_eq]
  intro c hc
  simp only [codes1, List.mem_cons, List.not_mem_nil, or_false] at hc
  rcases hc with rfl | rfl | rfl | rfl | rfl
  · exact w_c0
  · exact w_c1
  · exact w_c2
  · exact w_c3
  · exact w_c4
set_option maxRecDepth 65536 in
theorem w_t1 : (words1.take 24).all (fun c => isCode c || c.before args0 about1) = true := by decide +kernel
set_option maxRecDepth 65536 in
theorem w_t2 : (words1.drop 24).all (fun c => isCode c || c.before args0 about1) = true := by decide +kernel
theorem w_tables : (allAtoms (Jvm.Cond.code x code maxLocals ret :: tables_1)).before args0 about1 = true := by
  rw [allAtoms_all]
  show words1.all (fun c => c.before args0 about1) = true
  refine all_split ?_ w_codes
  rw [← List.take_append_drop 24 words1, List.all_append, w_t1, w_t2]
  rfl
set_option maxRecDepth 65536 in
theorem w_case : (Jvm.Cond.and given_1 narrow_1).before args0 about1 = true := by decide +kernel
theorem w_applies : (headSpec (Jvm.Cond.code x code maxLocals ret :: tables_1) room_1).applies x e0.platform about1 = true :=
  (Spec.applies_iff w_frames).mpr ⟨w_running, w_runnable, w_alone, w_named, w_hears, w_ripe, w_room, w_tables⟩
theorem atStart : AtStart classFile x code maxLocals ret World_1 tables_1 room_1 Calls_1 rest_1 Pre_1 launch0 p0 e0 about1 theMethod args0 below0 :=
  ⟨lists_1, trivial, launch0.admits_env _ _ _, launch0.least_env, fairChoices_fair.cas, fairChoices_fair.clock, w_frames, w_args, w_heap, w_applies, trivial, trivial, w_case⟩
end start1
theorem witness_1 : WitnessClaimed_1 := ⟨start1.p0, start1.e0, start1.about1, start1.theMethod, start1.args0, start1.below0, start1.atStart⟩
end Jvm.Pilot.@@N@@
