import JvmDerived
import JvmDerived.Pilot.@@N@@Statement
import JvmDerived.Pilot.@@N@@Code
set_option linter.unusedVariables false
set_option linter.unusedSimpArgs false
@@BLOCK:NumsL.lean.txt@@
namespace Jvm.RoadKit
open Sem ClassFile Op Lib Jvm.Stand Jvm.Free Jvm.LawKit
section New
variable {p : Program} {l : Launch} {e : Env} {R : Room} {s : State} {m : MethodId} {args : Array Value} {below : List Frame} {meth : Method} {c : Code} {T : State} {locs : List Loc} {cells slots : Nat}
theorem retI (X : Stand p l e R s m args below meth c T locs cells slots) (hx : p.tables.exec = Jvm.exec) {pc : Nat} {Ls : Array Slot} {z : Int32} {rest : List Value} (hret : meth.sig.returnType = some .int) (hd : decode c.code pc = .ok (.ireturn, 1)) {fs : List Frame}
    (hl : ∀ (f : JFrame) (acts : List Action), f.method = m → f.locked = none → f.entered = [] → (doReturn e (T.setTop f) acts (some (.int z))).1 = T.setFrames fs) : Steps p.tables e below (T.setTop (mkF m pc Ls (.int z :: rest))) (T.setFrames fs) := by
  have hm' : T.vm.method? m = some meth := X.method'
  have hn : narrow .int (.int z) = .int z := rfl
  show Steps p.tables e below (T.setTop { method := m, pc := pc, locals := Ls, stack := _ :: rest, locked := none }) _
  jvm_step X.here [X.here.top, hx, hd, hm', hret, hn]
  first | (intro acts; rw [hl _ acts rfl rfl rfl]) | rw [hl _ _ rfl rfl rfl]
  exact Steps.refl _
end New
end Jvm.RoadKit
namespace Jvm.Pilot.@@N@@
open Jvm Jvm.ClassFile Sem Op Lib Jvm.Free Jvm.Stand Jvm.LawKit Jvm.RoadKit Bundle Jvm.Pilot.@@N@@.Jvm.D
theorem own_lwN {x y : Int64} (h : ¬ x = y) : ¬ lcmpW x y = 0 := fun q => h ((lw_eq x y).mp q)
theorem own_lwE {x y : Int64} (h : x = y) : lcmpW x y = 0 := (lw_eq x y).mpr h
theorem own_lwL {x y : Int64} (h : x < y) : lcmpW x y < 0 := (lw_lt x y).mpr h
theorem own_lwM {x y : Int64} (h : ¬ x < y) : ¬ lcmpW x y < 0 := fun q => h ((lw_lt x y).mp q)
theorem own_lwG {x y : Int64} (h : y < x) : 0 < lcmpW x y := (lw_gt x y).mpr h
theorem own_lwH {x y : Int64} (h : ¬ y < x) : ¬ 0 < lcmpW x y := fun q => h ((lw_gt x y).mp q)
theorem own_F {Z : State} {h : Heap} {a : Addr} {C n d : String} {v w : Value} (q : v = w) (F : Fld Z h a C n d v) : Fld Z h a C n d w := q ▸ F
theorem own_rI {x y : Int32} (q : x = y) : (some (Value.int x)) = some (.int y) := by rw [q]
theorem own_rJ {x y : Int64} (q : x = y) : (some (Value.long x)) = some (.long y) := by rw [q]
theorem d1_0 : decode prog_28_method_1_code 0 = .ok (.aload_n 0, 1) := by decide +kernel
theorem d1_1 : decode prog_28_method_1_code 1 = .ok (.invokespecial 1, 3) := by decide +kernel
theorem d1_4 : decode prog_28_method_1_code 4 = .ok (.aload_n 0, 1) := by decide +kernel
theorem d1_5 : decode prog_28_method_1_code 5 = .ok (.iconst 0, 1) := by decide +kernel
theorem d1_6 : decode prog_28_method_1_code 6 = .ok (.newarray .byte, 2) := by decide +kernel
theorem d1_8 : decode prog_28_method_1_code 8 = .ok (.putfield 7, 3) := by decide +kernel
theorem d1_11 : decode prog_28_method_1_code 11 = .ok (.return_, 1) := by decide +kernel
theorem pn57130369 : plainName "com/example/wee_find/weefind/MatchContext" = true := by first | (simp [plainName, overriddenIn]; done) | decide +kernel
theorem ef_1 (m : MethodId) (a0 : Addr) : entryFrame m #[(.ref a0)] 1 = mkF m 0 #[.val (.ref a0)] [] := by first | (simp [entryFrame, mkF, argsToLocals, Value.category]; done) | rfl
def Q1 (Z : State) (a0 : Addr) (u_offset : Int64) (u_before : Int32) (u_start : Int32) (u_end : Int32) (u_after : Int32) (h0 : Heap) (n0 : Nat) (v : Option Value) (h : Heap) (L : List Loc) : Prop := ∃ r_ : Addr, v = none ∧ Fr n0 L ∧ Keep h0 h [a0] ∧ Exa Z h a0 "com/example/wee_find/weefind/MatchContext" ∧ Fld Z h a0 "com/example/wee_find/weefind/MatchContext" "bytes" "[B" (.ref r_) ∧ Fld Z h a0 "com/example/wee_find/weefind/MatchContext" "offset" "J" (.long u_offset) ∧ Fld Z h a0 "com/example/wee_find/weefind/MatchContext" "before" "I" (.int u_before) ∧ Fld Z h a0 "com/example/wee_find/weefind/MatchContext" "start" "I" (.int u_start) ∧ Fld Z h a0 "com/example/wee_find/weefind/MatchContext" "end" "I" (.int u_end) ∧ Fld Z h a0 "com/example/wee_find/weefind/MatchContext" "after" "I" (.int u_after)
set_option maxRecDepth 65536 in
set_option maxHeartbeats 40000000 in
theorem rm1 (l : Launch) (Z : State) (aq : Array Value) (hw : ∀ d ∈ tables_1, d.before aq Z = true) (ws : List Jvm.Cond) (a0 : Addr) (u_offset : Int64) (u_before : Int32) (u_start : Int32) (u_end : Int32) (u_after : Int32) (h0 : Heap) (n0 : Nat) (Z0 : n0 ≤ h0.size) (E_a0 : Exa Z h0 a0 "com/example/wee_find/weefind/MatchContext") (F_bytes : Fld Z h0 a0 "com/example/wee_find/weefind/MatchContext" "bytes" "[B" .null) (F_offset : Fld Z h0 a0 "com/example/wee_find/weefind/MatchContext" "offset" "J" (.long u_offset)) (F_before : Fld Z h0 a0 "com/example/wee_find/weefind/MatchContext" "before" "I" (.int u_before)) (F_start : Fld Z h0 a0 "com/example/wee_find/weefind/MatchContext" "start" "I" (.int u_start)) (F_end : Fld Z h0 a0 "com/example/wee_find/weefind/MatchContext" "end" "I" (.int u_end)) (F_after : Fld Z h0 a0 "com/example/wee_find/weefind/MatchContext" "after" "I" (.int u_after)) (g_a0 : n0 ≤ a0) :
    MetFree l (⟨"com/example/wee_find/weefind/MatchContext", "<init>", "()V"⟩ : MethodName) (head1 (Jvm.Cond.code (⟨"com/example/wee_find/weefind/MatchContext", "<init>", "()V"⟩ : MethodName) prog_28_method_1_code 1 none :: ws) ({ frames := 1, cells := 1, slots := 0, locals := 12 } : Room)) (fun a U => a = #[(.ref a0)] ∧ Z.Warmed39 U.vm ∧ U.heap = h0) (fun _ _ _ _ _ => True) (fun _ U o U' => ∃ v L, o = .returned v ∧ Q1 Z a0 u_offset u_before u_start u_end u_after h0 n0 v U'.heap L ∧ FrameEnd U o U' L ({ frames := 1, cells := 1, slots := 0, locals := 12 } : Room).cells ({ frames := 1, cells := 1, slots := 0, locals := 12 } : Room).slots) := by
  refine MetFree.of_bodySF (plainFor_of_name pn57130369) hisR ?_
  intro p e s m args below meth c s₁ Bd hml0 hP hK
  obtain ⟨rfl, hZ, hh⟩ := hP
  have hx := Bd.exec
  have hby := Bd.bytes
  have hml : c.maxLocals = 1 := hml0
  have hown : s.vm.findClass "com/example/wee_find/weefind/MatchContext" = some m.cls := findClass_of_methodNamed Bd.named
  have hnm := (name_of_methodNamed Bd.named Bd.method).1
  have X0 : Stand p l e ({ frames := 1, cells := 1, slots := 0, locals := 12 } : Room) s m #[(.ref a0)] below meth c s₁ [] 0 0 := Stand.of_body Bd
  have e0 : s₁.heap = h0 := by rw [← hh, Bd.state]; rfl
  have N0 := Fr.nil n0
  have K0 : Keep h0 h0 [a0] := Keep.refl _ _
  have pre0 : ∀ t, Steps p.tables e below (s₁.setTop (mkF m 0 #[.val (.ref a0)] [])) t → Steps p.tables e below (s₁.setTop (entryFrame m #[(.ref a0)] 1)) t := fun t k => castTop (ef_1 m a0) k
  obtain ⟨T25, X25, e25, st25⟩ := initO X0 hx hZ hown (hw _ (List.mem_of_getElem? (i := 7) rfl)) (hw _ (List.mem_of_getElem? (i := 8) rfl)) (hw _ (List.mem_of_getElem? (i := 9) rfl)) e0 (g := (mkF m 1 #[.val (.ref a0)] [(.ref a0)])) rfl (by rw [hml]; rfl) rfl (hb hby d1_1) (by decide) (W := 0) (by show 2 * 0 + _ ≤ _; exact Nat.le_of_eq rfl) (by decide)
  obtain ⟨T26, h26, k26, X26, e26, E26, A26, EE26, st26⟩ := newPE X25 hx hZ (hw _ (List.mem_of_getElem? (i := 0) rfl)) e25 (g := (mkF m 6 #[.val (.ref a0)] [(.int (0 : Int32)), (.ref a0)])) rfl (hb hby d1_6) rfl (by decide) (cap := 0) (by decide) (by decide) (by decide) (by decide) (ad := "[B") (by decide)
  obtain ⟨b26, g26⟩ : ∃ z, z = h0.size := ⟨_, rfl⟩
  rw [← g26] at A26 EE26 st26
  have ne_a0_b26 : a0 ≠ b26 := Nat.ne_of_lt (Nat.lt_of_lt_of_le E_a0.lt (Nat.le_of_eq g26.symm))
  have g_b26 : n0 ≤ b26 := Nat.le_trans Z0 (Nat.le_of_eq g26.symm)
  have sz_b26 : h0.size ≤ b26 := Nat.le_trans K0.1 (Nat.le_of_eq g26.symm)
  have E27 := E_a0.ext E26
  have F28 := F_bytes.ext E26
  have F29 := F_offset.ext E26
  have F30 := F_before.ext E26
  have F31 := F_start.ext E26
  have F32 := F_end.ext E26
  have F33 := F_after.ext E26
  have K34 : Keep h0 h26 [a0] := K0.ext E26
  have Z35 : n0 ≤ h26.size := Nat.le_trans Z0 E26.1
  have V26 : Arv Z h26 b26 k26 .byte (0 : Int32) [] (.int (0 : Int32)) := (Arv.new A26 (by decide)).pad (pad_rep [] (.int (0 : Int32)) 0)
  obtain ⟨T36, h36, X36, e36, W36, st36⟩ := putF X26 hx hZ hown (host := "") (Or.inl (hw _ (List.mem_of_getElem? (i := 10) rfl))) Via.refl e26 F28 E27 (Or.inl (hw _ (List.mem_of_getElem? (i := 11) rfl))) (hw _ (List.mem_of_getElem? (i := 2) rfl)) (ty := (.array .byte)) (by decide) rfl rfl (g := (mkF m 8 #[.val (.ref a0)] [(.ref b26), (.ref a0)])) rfl rfl (hb hby d1_8)
  have E37 := E27.wr W36
  have F38 : Fld Z h36 a0 "com/example/wee_find/weefind/MatchContext" "bytes" "[B" (.ref b26) := F28.same W36
  have F39 := F29.other W36 (Or.inr (slot_ne (Or.inl (hw _ (List.mem_of_getElem? (i := 18) rfl))) (Or.inl (hw _ (List.mem_of_getElem? (i := 11) rfl))) (by decide) (t := .long) (t' := (.array .byte)) (by decide) (by decide)))
  have F40 := F30.other W36 (Or.inr (slot_ne (Or.inl (hw _ (List.mem_of_getElem? (i := 20) rfl))) (Or.inl (hw _ (List.mem_of_getElem? (i := 11) rfl))) (by decide) (t := .int) (t' := (.array .byte)) (by decide) (by decide)))
  have F41 := F31.other W36 (Or.inr (slot_ne (Or.inl (hw _ (List.mem_of_getElem? (i := 22) rfl))) (Or.inl (hw _ (List.mem_of_getElem? (i := 11) rfl))) (by decide) (t := .int) (t' := (.array .byte)) (by decide) (by decide)))
  have F42 := F32.other W36 (Or.inr (slot_ne (Or.inl (hw _ (List.mem_of_getElem? (i := 24) rfl))) (Or.inl (hw _ (List.mem_of_getElem? (i := 11) rfl))) (by decide) (t := .int) (t' := (.array .byte)) (by decide) (by decide)))
  have F43 := F33.other W36 (Or.inr (slot_ne (Or.inl (hw _ (List.mem_of_getElem? (i := 26) rfl))) (Or.inl (hw _ (List.mem_of_getElem? (i := 11) rfl))) (by decide) (t := .int) (t' := (.array .byte)) (by decide) (by decide)))
  have E44 := EE26.wr W36
  have V45 := V26.other W36 (Ne.symm ne_a0_b26)
  have N46 := Fr.snoc X36 N0 g_a0
  have K47 : Keep h0 h36 [a0] := K34.wr W36 (Or.inl (List.mem_of_getElem? (i := 0) rfl))
  have Z48 : n0 ≤ h36.size := Nat.le_trans Z35 (Keep.of_wr W36).1
  have pre49 : ∀ t, Steps p.tables e below (T36.setTop (mkF m 11 #[.val (.ref a0)] [])) t → Steps p.tables e below (s₁.setTop (entryFrame m #[(.ref a0)] 1)) t := fun t kt => by
    refine pre0 _ ?_
    show Steps p.tables e below (s₁.setTop (mkF m 0 #[.val (.ref a0)] [])) _
    refine XS.aloadN X0.here hx rfl (hb hby d1_0) rfl rfl ?_
    show Steps p.tables e below (s₁.setTop (mkF m 1 #[.val (.ref a0)] [(.ref a0)])) _
    refine st25 _ ?_
    show Steps p.tables e below (T25.setTop (mkF m 4 #[.val (.ref a0)] [])) _
    refine XS.aloadN X25.here hx rfl (hb hby d1_4) rfl rfl ?_
    show Steps p.tables e below (T25.setTop (mkF m 5 #[.val (.ref a0)] [(.ref a0)])) _
    refine XS.iconst X25.here hx rfl (hb hby d1_5) ?_
    show Steps p.tables e below (T25.setTop (mkF m 6 #[.val (.ref a0)] [(.int (0 : Int32)), (.ref a0)])) _
    refine st26 _ ?_
    show Steps p.tables e below (T26.setTop (mkF m 8 #[.val (.ref a0)] [(.ref b26), (.ref a0)])) _
    refine st36 _ ?_
    show Steps p.tables e below (T36.setTop (mkF m 11 #[.val (.ref a0)] [])) _
    exact kt
  obtain ⟨fs, hr, hrun, hended, hW, hsame⟩ := X36.leave (v := none) (fun _ => rfl)
  refine ⟨_, _, pre49 _ ?_, hrun, hended, _, _, rfl, ?_, ⟨_, rfl⟩, hW, hsame.mono (by decide) (by decide)⟩
  · exact X36.returnOut hx Bd.returns (hb hby d1_11) hr
  · show Q1 Z a0 u_offset u_before u_start u_end u_after h0 n0 _ T36.heap _
    rw [e36]
    exact ⟨b26, rfl, N46, K47, E37, F38, F39, F40, F41, F42, F43⟩
theorem d3_0 : decode prog_28_method_2_code 0 = .ok (.aload_n 0, 1) := by decide +kernel
theorem d3_1 : decode prog_28_method_2_code 1 = .ok (.lload_n 1, 1) := by decide +kernel
theorem d3_2 : decode prog_28_method_2_code 2 = .ok (.putfield 13, 3) := by decide +kernel
theorem d3_5 : decode prog_28_method_2_code 5 = .ok (.aload_n 0, 1) := by decide +kernel
theorem d3_6 : decode prog_28_method_2_code 6 = .ok (.aload_n 3, 1) := by decide +kernel
theorem d3_7 : decode prog_28_method_2_code 7 = .ok (.putfield 7, 3) := by decide +kernel
theorem d3_10 : decode prog_28_method_2_code 10 = .ok (.aload_n 0, 1) := by decide +kernel
theorem d3_11 : decode prog_28_method_2_code 11 = .ok (.iload 4, 2) := by decide +kernel
theorem d3_13 : decode prog_28_method_2_code 13 = .ok (.putfield 17, 3) := by decide +kernel
theorem d3_16 : decode prog_28_method_2_code 16 = .ok (.aload_n 0, 1) := by decide +kernel
theorem d3_17 : decode prog_28_method_2_code 17 = .ok (.iload 5, 2) := by decide +kernel
theorem d3_19 : decode prog_28_method_2_code 19 = .ok (.putfield 21, 3) := by decide +kernel
theorem d3_22 : decode prog_28_method_2_code 22 = .ok (.aload_n 0, 1) := by decide +kernel
theorem d3_23 : decode prog_28_method_2_code 23 = .ok (.iload 6, 2) := by decide +kernel
theorem d3_25 : decode prog_28_method_2_code 25 = .ok (.putfield 24, 3) := by decide +kernel
theorem d3_28 : decode prog_28_method_2_code 28 = .ok (.aload_n 0, 1) := by decide +kernel
theorem d3_29 : decode prog_28_method_2_code 29 = .ok (.iload 7, 2) := by decide +kernel
theorem d3_31 : decode prog_28_method_2_code 31 = .ok (.putfield 27, 3) := by decide +kernel
theorem d3_34 : decode prog_28_method_2_code 34 = .ok (.return_, 1) := by decide +kernel
theorem ef_3 (m : MethodId) (a0 : Addr) (q1 : Int64) (a2 : Addr) (p3 : Int32) (p4 : Int32) (p5 : Int32) (p6 : Int32) : entryFrame m #[(.ref a0), (.long q1), (.ref a2), (.int p3), (.int p4), (.int p5), (.int p6)] 8 = mkF m 0 #[.val (.ref a0), .val (.long q1), .second, .val (.ref a2), .val (.int p3), .val (.int p4), .val (.int p5), .val (.int p6)] [] := by first | (simp [entryFrame, mkF, argsToLocals, Value.category]; done) | rfl
def Q3 (Z : State) (a0 : Addr) (q1 : Int64) (a2 : Addr) (p3 : Int32) (p4 : Int32) (p5 : Int32) (p6 : Int32) (r_b : Addr) (u_offset : Int64) (u_before : Int32) (u_start : Int32) (u_end : Int32) (u_after : Int32) (h0 : Heap) (n0 : Nat) (v : Option Value) (h : Heap) (L : List Loc) : Prop := v = none ∧ Fr n0 L ∧ Keep h0 h [a0] ∧ Exa Z h a0 "com/example/wee_find/weefind/MatchContext" ∧ Fld Z h a0 "com/example/wee_find/weefind/MatchContext" "bytes" "[B" (.ref a2) ∧ Fld Z h a0 "com/example/wee_find/weefind/MatchContext" "offset" "J" (.long q1) ∧ Fld Z h a0 "com/example/wee_find/weefind/MatchContext" "before" "I" (.int p3) ∧ Fld Z h a0 "com/example/wee_find/weefind/MatchContext" "start" "I" (.int p4) ∧ Fld Z h a0 "com/example/wee_find/weefind/MatchContext" "end" "I" (.int p5) ∧ Fld Z h a0 "com/example/wee_find/weefind/MatchContext" "after" "I" (.int p6)
set_option maxRecDepth 65536 in
set_option maxHeartbeats 40000000 in
theorem rm3 (l : Launch) (Z : State) (aq : Array Value) (hw : ∀ d ∈ tables_1, d.before aq Z = true) (ws : List Jvm.Cond) (a0 : Addr) (q1 : Int64) (a2 : Addr) (p3 : Int32) (p4 : Int32) (p5 : Int32) (p6 : Int32) (r_b : Addr) (u_offset : Int64) (u_before : Int32) (u_start : Int32) (u_end : Int32) (u_after : Int32) (h0 : Heap) (n0 : Nat) (Z0 : n0 ≤ h0.size) (E_a0 : Exa Z h0 a0 "com/example/wee_find/weefind/MatchContext") (F_bytes : Fld Z h0 a0 "com/example/wee_find/weefind/MatchContext" "bytes" "[B" (.ref r_b)) (F_offset : Fld Z h0 a0 "com/example/wee_find/weefind/MatchContext" "offset" "J" (.long u_offset)) (F_before : Fld Z h0 a0 "com/example/wee_find/weefind/MatchContext" "before" "I" (.int u_before)) (F_start : Fld Z h0 a0 "com/example/wee_find/weefind/MatchContext" "start" "I" (.int u_start)) (F_end : Fld Z h0 a0 "com/example/wee_find/weefind/MatchContext" "end" "I" (.int u_end)) (F_after : Fld Z h0 a0 "com/example/wee_find/weefind/MatchContext" "after" "I" (.int u_after)) (g_a0 : n0 ≤ a0) :
    MetFree l (⟨"com/example/wee_find/weefind/MatchContext", "set", "(J[BIIII)V"⟩ : MethodName) (head1 (Jvm.Cond.code (⟨"com/example/wee_find/weefind/MatchContext", "set", "(J[BIIII)V"⟩ : MethodName) prog_28_method_2_code 8 none :: ws) ({ frames := 0, cells := 0, slots := 0, locals := 0 } : Room)) (fun a U => a = #[(.ref a0), (.long q1), (.ref a2), (.int p3), (.int p4), (.int p5), (.int p6)] ∧ Z.Warmed39 U.vm ∧ U.heap = h0) (fun _ _ _ _ _ => True) (fun _ U o U' => ∃ v L, o = .returned v ∧ Q3 Z a0 q1 a2 p3 p4 p5 p6 r_b u_offset u_before u_start u_end u_after h0 n0 v U'.heap L ∧ FrameEnd U o U' L ({ frames := 0, cells := 0, slots := 0, locals := 0 } : Room).cells ({ frames := 0, cells := 0, slots := 0, locals := 0 } : Room).slots) := by
  refine MetFree.of_bodySF (plainFor_of_name pn57130369) hisR ?_
  intro p e s m args below meth c s₁ Bd hml0 hP hK
  obtain ⟨rfl, hZ, hh⟩ := hP
  have hx := Bd.exec
  have hby := Bd.bytes
  have hml : c.maxLocals = 8 := hml0
  have hown : s.vm.findClass "com/example/wee_find/weefind/MatchContext" = some m.cls := findClass_of_methodNamed Bd.named
  have hnm := (name_of_methodNamed Bd.named Bd.method).1
  have X0 : Stand p l e ({ frames := 0, cells := 0, slots := 0, locals := 0 } : Room) s m #[(.ref a0), (.long q1), (.ref a2), (.int p3), (.int p4), (.int p5), (.int p6)] below meth c s₁ [] 0 0 := Stand.of_body Bd
  have e0 : s₁.heap = h0 := by rw [← hh, Bd.state]; rfl
  have N0 := Fr.nil n0
  have K0 : Keep h0 h0 [a0] := Keep.refl _ _
  have pre0 : ∀ t, Steps p.tables e below (s₁.setTop (mkF m 0 #[.val (.ref a0), .val (.long q1), .second, .val (.ref a2), .val (.int p3), .val (.int p4), .val (.int p5), .val (.int p6)] [])) t → Steps p.tables e below (s₁.setTop (entryFrame m #[(.ref a0), (.long q1), (.ref a2), (.int p3), (.int p4), (.int p5), (.int p6)] 8)) t := fun t k => castTop (ef_3 m a0 q1 a2 p3 p4 p5 p6) k
  obtain ⟨T116, h116, X116, e116, W116, st116⟩ := putF X0 hx hZ hown (host := "") (Or.inl (hw _ (List.mem_of_getElem? (i := 17) rfl))) Via.refl e0 F_offset E_a0 (Or.inl (hw _ (List.mem_of_getElem? (i := 18) rfl))) (hw _ (List.mem_of_getElem? (i := 2) rfl)) (ty := .long) (by decide) rfl rfl (g := (mkF m 2 #[.val (.ref a0), .val (.long q1), .second, .val (.ref a2), .val (.int p3), .val (.int p4), .val (.int p5), .val (.int p6)] [(.long q1), (.ref a0)])) rfl rfl (hb hby d3_2)
  have E117 := E_a0.wr W116
  have F118 := F_bytes.other W116 (Or.inr (slot_ne (Or.inl (hw _ (List.mem_of_getElem? (i := 11) rfl))) (Or.inl (hw _ (List.mem_of_getElem? (i := 18) rfl))) (by decide) (t := (.array .byte)) (t' := .long) (by decide) (by decide)))
  have F119 : Fld Z h116 a0 "com/example/wee_find/weefind/MatchContext" "offset" "J" (.long q1) := F_offset.same W116
  have F120 := F_before.other W116 (Or.inr (slot_ne (Or.inl (hw _ (List.mem_of_getElem? (i := 20) rfl))) (Or.inl (hw _ (List.mem_of_getElem? (i := 18) rfl))) (by decide) (t := .int) (t' := .long) (by decide) (by decide)))
  have F121 := F_start.other W116 (Or.inr (slot_ne (Or.inl (hw _ (List.mem_of_getElem? (i := 22) rfl))) (Or.inl (hw _ (List.mem_of_getElem? (i := 18) rfl))) (by decide) (t := .int) (t' := .long) (by decide) (by decide)))
  have F122 := F_end.other W116 (Or.inr (slot_ne (Or.inl (hw _ (List.mem_of_getElem? (i := 24) rfl))) (Or.inl (hw _ (List.mem_of_getElem? (i := 18) rfl))) (by decide) (t := .int) (t' := .long) (by decide) (by decide)))
  have F123 := F_after.other W116 (Or.inr (slot_ne (Or.inl (hw _ (List.mem_of_getElem? (i := 26) rfl))) (Or.inl (hw _ (List.mem_of_getElem? (i := 18) rfl))) (by decide) (t := .int) (t' := .long) (by decide) (by decide)))
  have N124 := Fr.snoc X116 N0 g_a0
  have K125 : Keep h0 h116 [a0] := K0.wr W116 (Or.inl (List.mem_of_getElem? (i := 0) rfl))
  have Z126 : n0 ≤ h116.size := Nat.le_trans Z0 (Keep.of_wr W116).1
  obtain ⟨T127, h127, X127, e127, W127, st127⟩ := putF X116 hx hZ hown (host := "") (Or.inl (hw _ (List.mem_of_getElem? (i := 10) rfl))) Via.refl e116 F118 E117 (Or.inl (hw _ (List.mem_of_getElem? (i := 11) rfl))) (hw _ (List.mem_of_getElem? (i := 2) rfl)) (ty := (.array .byte)) (by decide) rfl rfl (g := (mkF m 7 #[.val (.ref a0), .val (.long q1), .second, .val (.ref a2), .val (.int p3), .val (.int p4), .val (.int p5), .val (.int p6)] [(.ref a2), (.ref a0)])) rfl rfl (hb hby d3_7)
  have E128 := E117.wr W127
  have F129 : Fld Z h127 a0 "com/example/wee_find/weefind/MatchContext" "bytes" "[B" (.ref a2) := F118.same W127
  have F130 := F119.other W127 (Or.inr (slot_ne (Or.inl (hw _ (List.mem_of_getElem? (i := 18) rfl))) (Or.inl (hw _ (List.mem_of_getElem? (i := 11) rfl))) (by decide) (t := .long) (t' := (.array .byte)) (by decide) (by decide)))
  have F131 := F120.other W127 (Or.inr (slot_ne (Or.inl (hw _ (List.mem_of_getElem? (i := 20) rfl))) (Or.inl (hw _ (List.mem_of_getElem? (i := 11) rfl))) (by decide) (t := .int) (t' := (.array .byte)) (by decide) (by decide)))
  have F132 := F121.other W127 (Or.inr (slot_ne (Or.inl (hw _ (List.mem_of_getElem? (i := 22) rfl))) (Or.inl (hw _ (List.mem_of_getElem? (i := 11) rfl))) (by decide) (t := .int) (t' := (.array .byte)) (by decide) (by decide)))
  have F133 := F122.other W127 (Or.inr (slot_ne (Or.inl (hw _ (List.mem_of_getElem? (i := 24) rfl))) (Or.inl (hw _ (List.mem_of_getElem? (i := 11) rfl))) (by decide) (t := .int) (t' := (.array .byte)) (by decide) (by decide)))
  have F134 := F123.other W127 (Or.inr (slot_ne (Or.inl (hw _ (List.mem_of_getElem? (i := 26) rfl))) (Or.inl (hw _ (List.mem_of_getElem? (i := 11) rfl))) (by decide) (t := .int) (t' := (.array .byte)) (by decide) (by decide)))
  have N135 := Fr.snoc X127 N124 g_a0
  have K136 : Keep h0 h127 [a0] := K125.wr W127 (Or.inl (List.mem_of_getElem? (i := 0) rfl))
  have Z137 : n0 ≤ h127.size := Nat.le_trans Z126 (Keep.of_wr W127).1
  obtain ⟨T138, h138, X138, e138, W138, st138⟩ := putF X127 hx hZ hown (host := "") (Or.inl (hw _ (List.mem_of_getElem? (i := 19) rfl))) Via.refl e127 F131 E128 (Or.inl (hw _ (List.mem_of_getElem? (i := 20) rfl))) (hw _ (List.mem_of_getElem? (i := 2) rfl)) (ty := .int) (by decide) rfl rfl (g := (mkF m 13 #[.val (.ref a0), .val (.long q1), .second, .val (.ref a2), .val (.int p3), .val (.int p4), .val (.int p5), .val (.int p6)] [(.int p3), (.ref a0)])) rfl rfl (hb hby d3_13)
  have E139 := E128.wr W138
  have F140 := F129.other W138 (Or.inr (slot_ne (Or.inl (hw _ (List.mem_of_getElem? (i := 11) rfl))) (Or.inl (hw _ (List.mem_of_getElem? (i := 20) rfl))) (by decide) (t := (.array .byte)) (t' := .int) (by decide) (by decide)))
  have F141 := F130.other W138 (Or.inr (slot_ne (Or.inl (hw _ (List.mem_of_getElem? (i := 18) rfl))) (Or.inl (hw _ (List.mem_of_getElem? (i := 20) rfl))) (by decide) (t := .long) (t' := .int) (by decide) (by decide)))
  have F142 : Fld Z h138 a0 "com/example/wee_find/weefind/MatchContext" "before" "I" (.int p3) := F131.same W138
  have F143 := F132.other W138 (Or.inr (slot_ne (Or.inl (hw _ (List.mem_of_getElem? (i := 22) rfl))) (Or.inl (hw _ (List.mem_of_getElem? (i := 20) rfl))) (by decide) (t := .int) (t' := .int) (by decide) (by decide)))
  have F144 := F133.other W138 (Or.inr (slot_ne (Or.inl (hw _ (List.mem_of_getElem? (i := 24) rfl))) (Or.inl (hw _ (List.mem_of_getElem? (i := 20) rfl))) (by decide) (t := .int) (t' := .int) (by decide) (by decide)))
  have F145 := F134.other W138 (Or.inr (slot_ne (Or.inl (hw _ (List.mem_of_getElem? (i := 26) rfl))) (Or.inl (hw _ (List.mem_of_getElem? (i := 20) rfl))) (by decide) (t := .int) (t' := .int) (by decide) (by decide)))
  have N146 := Fr.snoc X138 N135 g_a0
  have K147 : Keep h0 h138 [a0] := K136.wr W138 (Or.inl (List.mem_of_getElem? (i := 0) rfl))
  have Z148 : n0 ≤ h138.size := Nat.le_trans Z137 (Keep.of_wr W138).1
  obtain ⟨T149, h149, X149, e149, W149, st149⟩ := putF X138 hx hZ hown (host := "") (Or.inl (hw _ (List.mem_of_getElem? (i := 21) rfl))) Via.refl e138 F143 E139 (Or.inl (hw _ (List.mem_of_getElem? (i := 22) rfl))) (hw _ (List.mem_of_getElem? (i := 2) rfl)) (ty := .int) (by decide) rfl rfl (g := (mkF m 19 #[.val (.ref a0), .val (.long q1), .second, .val (.ref a2), .val (.int p3), .val (.int p4), .val (.int p5), .val (.int p6)] [(.int p4), (.ref a0)])) rfl rfl (hb hby d3_19)
  have E150 := E139.wr W149
  have F151 := F140.other W149 (Or.inr (slot_ne (Or.inl (hw _ (List.mem_of_getElem? (i := 11) rfl))) (Or.inl (hw _ (List.mem_of_getElem? (i := 22) rfl))) (by decide) (t := (.array .byte)) (t' := .int) (by decide) (by decide)))
  have F152 := F141.other W149 (Or.inr (slot_ne (Or.inl (hw _ (List.mem_of_getElem? (i := 18) rfl))) (Or.inl (hw _ (List.mem_of_getElem? (i := 22) rfl))) (by decide) (t := .long) (t' := .int) (by decide) (by decide)))
  have F153 := F142.other W149 (Or.inr (slot_ne (Or.inl (hw _ (List.mem_of_getElem? (i := 20) rfl))) (Or.inl (hw _ (List.mem_of_getElem? (i := 22) rfl))) (by decide) (t := .int) (t' := .int) (by decide) (by decide)))
  have F154 : Fld Z h149 a0 "com/example/wee_find/weefind/MatchContext" "start" "I" (.int p4) := F143.same W149
  have F155 := F144.other W149 (Or.inr (slot_ne (Or.inl (hw _ (List.mem_of_getElem? (i := 24) rfl))) (Or.inl (hw _ (List.mem_of_getElem? (i := 22) rfl))) (by decide) (t := .int) (t' := .int) (by decide) (by decide)))
  have F156 := F145.other W149 (Or.inr (slot_ne (Or.inl (hw _ (List.mem_of_getElem? (i := 26) rfl))) (Or.inl (hw _ (List.mem_of_getElem? (i := 22) rfl))) (by decide) (t := .int) (t' := .int) (by decide) (by decide)))
  have N157 := Fr.snoc X149 N146 g_a0
  have K158 : Keep h0 h149 [a0] := K147.wr W149 (Or.inl (List.mem_of_getElem? (i := 0) rfl))
  have Z159 : n0 ≤ h149.size := Nat.le_trans Z148 (Keep.of_wr W149).1
  obtain ⟨T160, h160, X160, e160, W160, st160⟩ := putF X149 hx hZ hown (host := "") (Or.inl (hw _ (List.mem_of_getElem? (i := 23) rfl))) Via.refl e149 F155 E150 (Or.inl (hw _ (List.mem_of_getElem? (i := 24) rfl))) (hw _ (List.mem_of_getElem? (i := 2) rfl)) (ty := .int) (by decide) rfl rfl (g := (mkF m 25 #[.val (.ref a0), .val (.long q1), .second, .val (.ref a2), .val (.int p3), .val (.int p4), .val (.int p5), .val (.int p6)] [(.int p5), (.ref a0)])) rfl rfl (hb hby d3_25)
  have E161 := E150.wr W160
  have F162 := F151.other W160 (Or.inr (slot_ne (Or.inl (hw _ (List.mem_of_getElem? (i := 11) rfl))) (Or.inl (hw _ (List.mem_of_getElem? (i := 24) rfl))) (by decide) (t := (.array .byte)) (t' := .int) (by decide) (by decide)))
  have F163 := F152.other W160 (Or.inr (slot_ne (Or.inl (hw _ (List.mem_of_getElem? (i := 18) rfl))) (Or.inl (hw _ (List.mem_of_getElem? (i := 24) rfl))) (by decide) (t := .long) (t' := .int) (by decide) (by decide)))
  have F164 := F153.other W160 (Or.inr (slot_ne (Or.inl (hw _ (List.mem_of_getElem? (i := 20) rfl))) (Or.inl (hw _ (List.mem_of_getElem? (i := 24) rfl))) (by decide) (t := .int) (t' := .int) (by decide) (by decide)))
  have F165 := F154.other W160 (Or.inr (slot_ne (Or.inl (hw _ (List.mem_of_getElem? (i := 22) rfl))) (Or.inl (hw _ (List.mem_of_getElem? (i := 24) rfl))) (by decide) (t := .int) (t' := .int) (by decide) (by decide)))
  have F166 : Fld Z h160 a0 "com/example/wee_find/weefind/MatchContext" "end" "I" (.int p5) := F155.same W160
  have F167 := F156.other W160 (Or.inr (slot_ne (Or.inl (hw _ (List.mem_of_getElem? (i := 26) rfl))) (Or.inl (hw _ (List.mem_of_getElem? (i := 24) rfl))) (by decide) (t := .int) (t' := .int) (by decide) (by decide)))
  have N168 := Fr.snoc X160 N157 g_a0
  have K169 : Keep h0 h160 [a0] := K158.wr W160 (Or.inl (List.mem_of_getElem? (i := 0) rfl))
  have Z170 : n0 ≤ h160.size := Nat.le_trans Z159 (Keep.of_wr W160).1
  obtain ⟨T171, h171, X171, e171, W171, st171⟩ := putF X160 hx hZ hown (host := "") (Or.inl (hw _ (List.mem_of_getElem? (i := 25) rfl))) Via.refl e160 F167 E161 (Or.inl (hw _ (List.mem_of_getElem? (i := 26) rfl))) (hw _ (List.mem_of_getElem? (i := 2) rfl)) (ty := .int) (by decide) rfl rfl (g := (mkF m 31 #[.val (.ref a0), .val (.long q1), .second, .val (.ref a2), .val (.int p3), .val (.int p4), .val (.int p5), .val (.int p6)] [(.int p6), (.ref a0)])) rfl rfl (hb hby d3_31)
  have E172 := E161.wr W171
  have F173 := F162.other W171 (Or.inr (slot_ne (Or.inl (hw _ (List.mem_of_getElem? (i := 11) rfl))) (Or.inl (hw _ (List.mem_of_getElem? (i := 26) rfl))) (by decide) (t := (.array .byte)) (t' := .int) (by decide) (by decide)))
  have F174 := F163.other W171 (Or.inr (slot_ne (Or.inl (hw _ (List.mem_of_getElem? (i := 18) rfl))) (Or.inl (hw _ (List.mem_of_getElem? (i := 26) rfl))) (by decide) (t := .long) (t' := .int) (by decide) (by decide)))
  have F175 := F164.other W171 (Or.inr (slot_ne (Or.inl (hw _ (List.mem_of_getElem? (i := 20) rfl))) (Or.inl (hw _ (List.mem_of_getElem? (i := 26) rfl))) (by decide) (t := .int) (t' := .int) (by decide) (by decide)))
  have F176 := F165.other W171 (Or.inr (slot_ne (Or.inl (hw _ (List.mem_of_getElem? (i := 22) rfl))) (Or.inl (hw _ (List.mem_of_getElem? (i := 26) rfl))) (by decide) (t := .int) (t' := .int) (by decide) (by decide)))
  have F177 := F166.other W171 (Or.inr (slot_ne (Or.inl (hw _ (List.mem_of_getElem? (i := 24) rfl))) (Or.inl (hw _ (List.mem_of_getElem? (i := 26) rfl))) (by decide) (t := .int) (t' := .int) (by decide) (by decide)))
  have F178 : Fld Z h171 a0 "com/example/wee_find/weefind/MatchContext" "after" "I" (.int p6) := F167.same W171
  have N179 := Fr.snoc X171 N168 g_a0
  have K180 : Keep h0 h171 [a0] := K169.wr W171 (Or.inl (List.mem_of_getElem? (i := 0) rfl))
  have Z181 : n0 ≤ h171.size := Nat.le_trans Z170 (Keep.of_wr W171).1
  have pre182 : ∀ t, Steps p.tables e below (T171.setTop (mkF m 34 #[.val (.ref a0), .val (.long q1), .second, .val (.ref a2), .val (.int p3), .val (.int p4), .val (.int p5), .val (.int p6)] [])) t → Steps p.tables e below (s₁.setTop (entryFrame m #[(.ref a0), (.long q1), (.ref a2), (.int p3), (.int p4), (.int p5), (.int p6)] 8)) t := fun t kt => by
    refine pre0 _ ?_
    show Steps p.tables e below (s₁.setTop (mkF m 0 #[.val (.ref a0), .val (.long q1), .second, .val (.ref a2), .val (.int p3), .val (.int p4), .val (.int p5), .val (.int p6)] [])) _
    refine XS.aloadN X0.here hx rfl (hb hby d3_0) rfl rfl ?_
    show Steps p.tables e below (s₁.setTop (mkF m 1 #[.val (.ref a0), .val (.long q1), .second, .val (.ref a2), .val (.int p3), .val (.int p4), .val (.int p5), .val (.int p6)] [(.ref a0)])) _
    refine XS.lloadN X0.here hx rfl (hb hby d3_1) rfl ?_
    show Steps p.tables e below (s₁.setTop (mkF m 2 #[.val (.ref a0), .val (.long q1), .second, .val (.ref a2), .val (.int p3), .val (.int p4), .val (.int p5), .val (.int p6)] [(.long q1), (.ref a0)])) _
    refine st116 _ ?_
    show Steps p.tables e below (T116.setTop (mkF m 5 #[.val (.ref a0), .val (.long q1), .second, .val (.ref a2), .val (.int p3), .val (.int p4), .val (.int p5), .val (.int p6)] [])) _
    refine XS.aloadN X116.here hx rfl (hb hby d3_5) rfl rfl ?_
    show Steps p.tables e below (T116.setTop (mkF m 6 #[.val (.ref a0), .val (.long q1), .second, .val (.ref a2), .val (.int p3), .val (.int p4), .val (.int p5), .val (.int p6)] [(.ref a0)])) _
    refine XS.aloadN X116.here hx rfl (hb hby d3_6) rfl rfl ?_
    show Steps p.tables e below (T116.setTop (mkF m 7 #[.val (.ref a0), .val (.long q1), .second, .val (.ref a2), .val (.int p3), .val (.int p4), .val (.int p5), .val (.int p6)] [(.ref a2), (.ref a0)])) _
    refine st127 _ ?_
    show Steps p.tables e below (T127.setTop (mkF m 10 #[.val (.ref a0), .val (.long q1), .second, .val (.ref a2), .val (.int p3), .val (.int p4), .val (.int p5), .val (.int p6)] [])) _
    refine XS.aloadN X127.here hx rfl (hb hby d3_10) rfl rfl ?_
    show Steps p.tables e below (T127.setTop (mkF m 11 #[.val (.ref a0), .val (.long q1), .second, .val (.ref a2), .val (.int p3), .val (.int p4), .val (.int p5), .val (.int p6)] [(.ref a0)])) _
    refine XS.iload X127.here hx rfl (hb hby d3_11) rfl ?_
    show Steps p.tables e below (T127.setTop (mkF m 13 #[.val (.ref a0), .val (.long q1), .second, .val (.ref a2), .val (.int p3), .val (.int p4), .val (.int p5), .val (.int p6)] [(.int p3), (.ref a0)])) _
    refine st138 _ ?_
    show Steps p.tables e below (T138.setTop (mkF m 16 #[.val (.ref a0), .val (.long q1), .second, .val (.ref a2), .val (.int p3), .val (.int p4), .val (.int p5), .val (.int p6)] [])) _
    refine XS.aloadN X138.here hx rfl (hb hby d3_16) rfl rfl ?_
    show Steps p.tables e below (T138.setTop (mkF m 17 #[.val (.ref a0), .val (.long q1), .second, .val (.ref a2), .val (.int p3), .val (.int p4), .val (.int p5), .val (.int p6)] [(.ref a0)])) _
    refine XS.iload X138.here hx rfl (hb hby d3_17) rfl ?_
    show Steps p.tables e below (T138.setTop (mkF m 19 #[.val (.ref a0), .val (.long q1), .second, .val (.ref a2), .val (.int p3), .val (.int p4), .val (.int p5), .val (.int p6)] [(.int p4), (.ref a0)])) _
    refine st149 _ ?_
    show Steps p.tables e below (T149.setTop (mkF m 22 #[.val (.ref a0), .val (.long q1), .second, .val (.ref a2), .val (.int p3), .val (.int p4), .val (.int p5), .val (.int p6)] [])) _
    refine XS.aloadN X149.here hx rfl (hb hby d3_22) rfl rfl ?_
    show Steps p.tables e below (T149.setTop (mkF m 23 #[.val (.ref a0), .val (.long q1), .second, .val (.ref a2), .val (.int p3), .val (.int p4), .val (.int p5), .val (.int p6)] [(.ref a0)])) _
    refine XS.iload X149.here hx rfl (hb hby d3_23) rfl ?_
    show Steps p.tables e below (T149.setTop (mkF m 25 #[.val (.ref a0), .val (.long q1), .second, .val (.ref a2), .val (.int p3), .val (.int p4), .val (.int p5), .val (.int p6)] [(.int p5), (.ref a0)])) _
    refine st160 _ ?_
    show Steps p.tables e below (T160.setTop (mkF m 28 #[.val (.ref a0), .val (.long q1), .second, .val (.ref a2), .val (.int p3), .val (.int p4), .val (.int p5), .val (.int p6)] [])) _
    refine XS.aloadN X160.here hx rfl (hb hby d3_28) rfl rfl ?_
    show Steps p.tables e below (T160.setTop (mkF m 29 #[.val (.ref a0), .val (.long q1), .second, .val (.ref a2), .val (.int p3), .val (.int p4), .val (.int p5), .val (.int p6)] [(.ref a0)])) _
    refine XS.iload X160.here hx rfl (hb hby d3_29) rfl ?_
    show Steps p.tables e below (T160.setTop (mkF m 31 #[.val (.ref a0), .val (.long q1), .second, .val (.ref a2), .val (.int p3), .val (.int p4), .val (.int p5), .val (.int p6)] [(.int p6), (.ref a0)])) _
    refine st171 _ ?_
    show Steps p.tables e below (T171.setTop (mkF m 34 #[.val (.ref a0), .val (.long q1), .second, .val (.ref a2), .val (.int p3), .val (.int p4), .val (.int p5), .val (.int p6)] [])) _
    exact kt
  obtain ⟨fs, hr, hrun, hended, hW, hsame⟩ := X171.leave (v := none) (fun _ => rfl)
  refine ⟨_, _, pre182 _ ?_, hrun, hended, _, _, rfl, ?_, ⟨_, rfl⟩, hW, hsame.mono (by decide) (by decide)⟩
  · exact X171.returnOut hx Bd.returns (hb hby d3_34) hr
  · show Q3 Z a0 q1 a2 p3 p4 p5 p6 r_b u_offset u_before u_start u_end u_after h0 n0 _ T171.heap _
    rw [e171]
    exact ⟨rfl, N179, K180, E172, F173, F174, F175, F176, F177, F178⟩
theorem d4_0 : decode prog_28_method_5_code 0 = .ok (.aload_n 0, 1) := by decide +kernel
theorem d4_1 : decode prog_28_method_5_code 1 = .ok (.getfield 13, 3) := by decide +kernel
theorem d4_4 : decode prog_28_method_5_code 4 = .ok (.lreturn, 1) := by decide +kernel
theorem ef_4 (m : MethodId) (a0 : Addr) : entryFrame m #[(.ref a0)] 1 = mkF m 0 #[.val (.ref a0)] [] := by first | (simp [entryFrame, mkF, argsToLocals, Value.category]; done) | rfl
def Q4 (Z : State) (a0 : Addr) (r_b : Addr) (u_offset : Int64) (u_before : Int32) (u_start : Int32) (u_end : Int32) (u_after : Int32) (h0 : Heap) (n0 : Nat) (v : Option Value) (h : Heap) (L : List Loc) : Prop := v = some (.long u_offset) ∧ Fr n0 L ∧ h = h0
set_option maxRecDepth 65536 in
set_option maxHeartbeats 40000000 in
theorem rm4 (l : Launch) (Z : State) (aq : Array Value) (hw : ∀ d ∈ tables_1, d.before aq Z = true) (ws : List Jvm.Cond) (a0 : Addr) (r_b : Addr) (u_offset : Int64) (u_before : Int32) (u_start : Int32) (u_end : Int32) (u_after : Int32) (h0 : Heap) (n0 : Nat) (Z0 : n0 ≤ h0.size) (E_a0 : Exa Z h0 a0 "com/example/wee_find/weefind/MatchContext") (F_bytes : Fld Z h0 a0 "com/example/wee_find/weefind/MatchContext" "bytes" "[B" (.ref r_b)) (F_offset : Fld Z h0 a0 "com/example/wee_find/weefind/MatchContext" "offset" "J" (.long u_offset)) (F_before : Fld Z h0 a0 "com/example/wee_find/weefind/MatchContext" "before" "I" (.int u_before)) (F_start : Fld Z h0 a0 "com/example/wee_find/weefind/MatchContext" "start" "I" (.int u_start)) (F_end : Fld Z h0 a0 "com/example/wee_find/weefind/MatchContext" "end" "I" (.int u_end)) (F_after : Fld Z h0 a0 "com/example/wee_find/weefind/MatchContext" "after" "I" (.int u_after)) :
    MetFree l (⟨"com/example/wee_find/weefind/MatchContext", "offset", "()J"⟩ : MethodName) (head1 (Jvm.Cond.code (⟨"com/example/wee_find/weefind/MatchContext", "offset", "()J"⟩ : MethodName) prog_28_method_5_code 1 (some .long) :: ws) ({ frames := 0, cells := 0, slots := 0, locals := 0 } : Room)) (fun a U => a = #[(.ref a0)] ∧ Z.Warmed39 U.vm ∧ U.heap = h0) (fun _ _ _ _ _ => True) (fun _ U o U' => ∃ v L, o = .returned v ∧ Q4 Z a0 r_b u_offset u_before u_start u_end u_after h0 n0 v U'.heap L ∧ FrameEnd U o U' L ({ frames := 0, cells := 0, slots := 0, locals := 0 } : Room).cells ({ frames := 0, cells := 0, slots := 0, locals := 0 } : Room).slots) := by
  refine MetFree.of_bodySF (plainFor_of_name pn57130369) hisR ?_
  intro p e s m args below meth c s₁ Bd hml0 hP hK
  obtain ⟨rfl, hZ, hh⟩ := hP
  have hx := Bd.exec
  have hby := Bd.bytes
  have hml : c.maxLocals = 1 := hml0
  have hown : s.vm.findClass "com/example/wee_find/weefind/MatchContext" = some m.cls := findClass_of_methodNamed Bd.named
  have hnm := (name_of_methodNamed Bd.named Bd.method).1
  have X0 : Stand p l e ({ frames := 0, cells := 0, slots := 0, locals := 0 } : Room) s m #[(.ref a0)] below meth c s₁ [] 0 0 := Stand.of_body Bd
  have e0 : s₁.heap = h0 := by rw [← hh, Bd.state]; rfl
  have N0 := Fr.nil n0
  have pre0 : ∀ t, Steps p.tables e below (s₁.setTop (mkF m 0 #[.val (.ref a0)] [])) t → Steps p.tables e below (s₁.setTop (entryFrame m #[(.ref a0)] 1)) t := fun t k => castTop (ef_4 m a0) k
  obtain ⟨T184, X184, e184, st184⟩ := getF X0 hx hZ hown (host := "") (Or.inl (hw _ (List.mem_of_getElem? (i := 17) rfl))) Via.refl e0 F_offset (g := (mkF m 1 #[.val (.ref a0)] [(.ref a0)])) rfl rfl (hb hby d4_1)
  have pre185 : ∀ t, Steps p.tables e below (T184.setTop (mkF m 4 #[.val (.ref a0)] [(.long u_offset)])) t → Steps p.tables e below (s₁.setTop (entryFrame m #[(.ref a0)] 1)) t := fun t kt => by
    refine pre0 _ ?_
    show Steps p.tables e below (s₁.setTop (mkF m 0 #[.val (.ref a0)] [])) _
    refine XS.aloadN X0.here hx rfl (hb hby d4_0) rfl rfl ?_
    show Steps p.tables e below (s₁.setTop (mkF m 1 #[.val (.ref a0)] [(.ref a0)])) _
    refine st184 _ ?_
    show Steps p.tables e below (T184.setTop (mkF m 4 #[.val (.ref a0)] [(.long u_offset)])) _
    exact kt
  obtain ⟨fs, hr, hrun, hended, hW, hsame⟩ := X184.leave (v := some (.long u_offset)) (fun h => by rw [Bd.returns] at h; cases h)
  refine ⟨_, _, pre185 _ ?_, hrun, hended, _, _, rfl, ?_, ⟨_, rfl⟩, hW, hsame.mono (by decide) (by decide)⟩
  · jvm_step X184.here [X184.here.top, hx, (hb hby d4_4), X184.method', Bd.returns, narrow]
    first | (intro acts; rw [hr _ acts rfl rfl rfl]) | rw [hr _ _ rfl rfl rfl]
    exact Steps.refl _
  · show Q4 Z a0 r_b u_offset u_before u_start u_end u_after h0 n0 _ T184.heap _
    rw [e184]
    exact ⟨rfl, N0, rfl⟩
theorem d5_0 : decode prog_28_method_6_code 0 = .ok (.aload_n 0, 1) := by decide +kernel
theorem d5_1 : decode prog_28_method_6_code 1 = .ok (.getfield 7, 3) := by decide +kernel
theorem d5_4 : decode prog_28_method_6_code 4 = .ok (.areturn, 1) := by decide +kernel
theorem ef_5 (m : MethodId) (a0 : Addr) : entryFrame m #[(.ref a0)] 1 = mkF m 0 #[.val (.ref a0)] [] := by first | (simp [entryFrame, mkF, argsToLocals, Value.category]; done) | rfl
def Q5 (Z : State) (a0 : Addr) (r_b : Addr) (u_offset : Int64) (u_before : Int32) (u_start : Int32) (u_end : Int32) (u_after : Int32) (h0 : Heap) (n0 : Nat) (v : Option Value) (h : Heap) (L : List Loc) : Prop := v = some (.ref r_b) ∧ Fr n0 L ∧ h = h0
set_option maxRecDepth 65536 in
set_option maxHeartbeats 40000000 in
theorem rm5 (l : Launch) (Z : State) (aq : Array Value) (hw : ∀ d ∈ tables_1, d.before aq Z = true) (ws : List Jvm.Cond) (a0 : Addr) (r_b : Addr) (u_offset : Int64) (u_before : Int32) (u_start : Int32) (u_end : Int32) (u_after : Int32) (h0 : Heap) (n0 : Nat) (Z0 : n0 ≤ h0.size) (E_a0 : Exa Z h0 a0 "com/example/wee_find/weefind/MatchContext") (F_bytes : Fld Z h0 a0 "com/example/wee_find/weefind/MatchContext" "bytes" "[B" (.ref r_b)) (F_offset : Fld Z h0 a0 "com/example/wee_find/weefind/MatchContext" "offset" "J" (.long u_offset)) (F_before : Fld Z h0 a0 "com/example/wee_find/weefind/MatchContext" "before" "I" (.int u_before)) (F_start : Fld Z h0 a0 "com/example/wee_find/weefind/MatchContext" "start" "I" (.int u_start)) (F_end : Fld Z h0 a0 "com/example/wee_find/weefind/MatchContext" "end" "I" (.int u_end)) (F_after : Fld Z h0 a0 "com/example/wee_find/weefind/MatchContext" "after" "I" (.int u_after)) :
    MetFree l (⟨"com/example/wee_find/weefind/MatchContext", "bytes", "()[B"⟩ : MethodName) (head1 (Jvm.Cond.code (⟨"com/example/wee_find/weefind/MatchContext", "bytes", "()[B"⟩ : MethodName) prog_28_method_6_code 1 (some (.array .byte)) :: ws) ({ frames := 0, cells := 0, slots := 0, locals := 0 } : Room)) (fun a U => a = #[(.ref a0)] ∧ Z.Warmed39 U.vm ∧ U.heap = h0) (fun _ _ _ _ _ => True) (fun _ U o U' => ∃ v L, o = .returned v ∧ Q5 Z a0 r_b u_offset u_before u_start u_end u_after h0 n0 v U'.heap L ∧ FrameEnd U o U' L ({ frames := 0, cells := 0, slots := 0, locals := 0 } : Room).cells ({ frames := 0, cells := 0, slots := 0, locals := 0 } : Room).slots) := by
  refine MetFree.of_bodySF (plainFor_of_name pn57130369) hisR ?_
  intro p e s m args below meth c s₁ Bd hml0 hP hK
  obtain ⟨rfl, hZ, hh⟩ := hP
  have hx := Bd.exec
  have hby := Bd.bytes
  have hml : c.maxLocals = 1 := hml0
  have hown : s.vm.findClass "com/example/wee_find/weefind/MatchContext" = some m.cls := findClass_of_methodNamed Bd.named
  have hnm := (name_of_methodNamed Bd.named Bd.method).1
  have X0 : Stand p l e ({ frames := 0, cells := 0, slots := 0, locals := 0 } : Room) s m #[(.ref a0)] below meth c s₁ [] 0 0 := Stand.of_body Bd
  have e0 : s₁.heap = h0 := by rw [← hh, Bd.state]; rfl
  have N0 := Fr.nil n0
  have pre0 : ∀ t, Steps p.tables e below (s₁.setTop (mkF m 0 #[.val (.ref a0)] [])) t → Steps p.tables e below (s₁.setTop (entryFrame m #[(.ref a0)] 1)) t := fun t k => castTop (ef_5 m a0) k
  obtain ⟨T187, X187, e187, st187⟩ := getF X0 hx hZ hown (host := "") (Or.inl (hw _ (List.mem_of_getElem? (i := 10) rfl))) Via.refl e0 F_bytes (g := (mkF m 1 #[.val (.ref a0)] [(.ref a0)])) rfl rfl (hb hby d5_1)
  have pre188 : ∀ t, Steps p.tables e below (T187.setTop (mkF m 4 #[.val (.ref a0)] [(.ref r_b)])) t → Steps p.tables e below (s₁.setTop (entryFrame m #[(.ref a0)] 1)) t := fun t kt => by
    refine pre0 _ ?_
    show Steps p.tables e below (s₁.setTop (mkF m 0 #[.val (.ref a0)] [])) _
    refine XS.aloadN X0.here hx rfl (hb hby d5_0) rfl rfl ?_
    show Steps p.tables e below (s₁.setTop (mkF m 1 #[.val (.ref a0)] [(.ref a0)])) _
    refine st187 _ ?_
    show Steps p.tables e below (T187.setTop (mkF m 4 #[.val (.ref a0)] [(.ref r_b)])) _
    exact kt
  obtain ⟨fs, hr, hrun, hended, hW, hsame⟩ := X187.leave (v := some (.ref r_b)) (fun h => by rw [Bd.returns] at h; cases h)
  refine ⟨_, _, pre188 _ ?_, hrun, hended, _, _, rfl, ?_, ⟨_, rfl⟩, hW, hsame.mono (by decide) (by decide)⟩
  · jvm_step X187.here [X187.here.top, hx, (hb hby d5_4), X187.method', Bd.returns, Value.isRef, FieldType.isReference]
    first | (intro acts; rw [hr _ acts rfl rfl rfl]) | rw [hr _ _ rfl rfl rfl]
    exact Steps.refl _
  · show Q5 Z a0 r_b u_offset u_before u_start u_end u_after h0 n0 _ T187.heap _
    rw [e187]
    exact ⟨rfl, N0, rfl⟩
theorem d6_0 : decode prog_28_method_7_code 0 = .ok (.aload_n 0, 1) := by decide +kernel
theorem d6_1 : decode prog_28_method_7_code 1 = .ok (.getfield 17, 3) := by decide +kernel
theorem d6_4 : decode prog_28_method_7_code 4 = .ok (.ireturn, 1) := by decide +kernel
theorem ef_6 (m : MethodId) (a0 : Addr) : entryFrame m #[(.ref a0)] 1 = mkF m 0 #[.val (.ref a0)] [] := by first | (simp [entryFrame, mkF, argsToLocals, Value.category]; done) | rfl
def Q6 (Z : State) (a0 : Addr) (r_b : Addr) (u_offset : Int64) (u_before : Int32) (u_start : Int32) (u_end : Int32) (u_after : Int32) (h0 : Heap) (n0 : Nat) (v : Option Value) (h : Heap) (L : List Loc) : Prop := v = some (.int u_before) ∧ Fr n0 L ∧ h = h0
set_option maxRecDepth 65536 in
set_option maxHeartbeats 40000000 in
theorem rm6 (l : Launch) (Z : State) (aq : Array Value) (hw : ∀ d ∈ tables_1, d.before aq Z = true) (ws : List Jvm.Cond) (a0 : Addr) (r_b : Addr) (u_offset : Int64) (u_before : Int32) (u_start : Int32) (u_end : Int32) (u_after : Int32) (h0 : Heap) (n0 : Nat) (Z0 : n0 ≤ h0.size) (E_a0 : Exa Z h0 a0 "com/example/wee_find/weefind/MatchContext") (F_bytes : Fld Z h0 a0 "com/example/wee_find/weefind/MatchContext" "bytes" "[B" (.ref r_b)) (F_offset : Fld Z h0 a0 "com/example/wee_find/weefind/MatchContext" "offset" "J" (.long u_offset)) (F_before : Fld Z h0 a0 "com/example/wee_find/weefind/MatchContext" "before" "I" (.int u_before)) (F_start : Fld Z h0 a0 "com/example/wee_find/weefind/MatchContext" "start" "I" (.int u_start)) (F_end : Fld Z h0 a0 "com/example/wee_find/weefind/MatchContext" "end" "I" (.int u_end)) (F_after : Fld Z h0 a0 "com/example/wee_find/weefind/MatchContext" "after" "I" (.int u_after)) :
    MetFree l (⟨"com/example/wee_find/weefind/MatchContext", "before", "()I"⟩ : MethodName) (head1 (Jvm.Cond.code (⟨"com/example/wee_find/weefind/MatchContext", "before", "()I"⟩ : MethodName) prog_28_method_7_code 1 (some .int) :: ws) ({ frames := 0, cells := 0, slots := 0, locals := 0 } : Room)) (fun a U => a = #[(.ref a0)] ∧ Z.Warmed39 U.vm ∧ U.heap = h0) (fun _ _ _ _ _ => True) (fun _ U o U' => ∃ v L, o = .returned v ∧ Q6 Z a0 r_b u_offset u_before u_start u_end u_after h0 n0 v U'.heap L ∧ FrameEnd U o U' L ({ frames := 0, cells := 0, slots := 0, locals := 0 } : Room).cells ({ frames := 0, cells := 0, slots := 0, locals := 0 } : Room).slots) := by
  refine MetFree.of_bodySF (plainFor_of_name pn57130369) hisR ?_
  intro p e s m args below meth c s₁ Bd hml0 hP hK
  obtain ⟨rfl, hZ, hh⟩ := hP
  have hx := Bd.exec
  have hby := Bd.bytes
  have hml : c.maxLocals = 1 := hml0
  have hown : s.vm.findClass "com/example/wee_find/weefind/MatchContext" = some m.cls := findClass_of_methodNamed Bd.named
  have hnm := (name_of_methodNamed Bd.named Bd.method).1
  have X0 : Stand p l e ({ frames := 0, cells := 0, slots := 0, locals := 0 } : Room) s m #[(.ref a0)] below meth c s₁ [] 0 0 := Stand.of_body Bd
  have e0 : s₁.heap = h0 := by rw [← hh, Bd.state]; rfl
  have N0 := Fr.nil n0
  have pre0 : ∀ t, Steps p.tables e below (s₁.setTop (mkF m 0 #[.val (.ref a0)] [])) t → Steps p.tables e below (s₁.setTop (entryFrame m #[(.ref a0)] 1)) t := fun t k => castTop (ef_6 m a0) k
  obtain ⟨T190, X190, e190, st190⟩ := getF X0 hx hZ hown (host := "") (Or.inl (hw _ (List.mem_of_getElem? (i := 19) rfl))) Via.refl e0 F_before (g := (mkF m 1 #[.val (.ref a0)] [(.ref a0)])) rfl rfl (hb hby d6_1)
  have pre191 : ∀ t, Steps p.tables e below (T190.setTop (mkF m 4 #[.val (.ref a0)] [(.int u_before)])) t → Steps p.tables e below (s₁.setTop (entryFrame m #[(.ref a0)] 1)) t := fun t kt => by
    refine pre0 _ ?_
    show Steps p.tables e below (s₁.setTop (mkF m 0 #[.val (.ref a0)] [])) _
    refine XS.aloadN X0.here hx rfl (hb hby d6_0) rfl rfl ?_
    show Steps p.tables e below (s₁.setTop (mkF m 1 #[.val (.ref a0)] [(.ref a0)])) _
    refine st190 _ ?_
    show Steps p.tables e below (T190.setTop (mkF m 4 #[.val (.ref a0)] [(.int u_before)])) _
    exact kt
  obtain ⟨fs, hr, hrun, hended, hW, hsame⟩ := X190.leave (v := some (.int u_before)) (fun h => by rw [Bd.returns] at h; cases h)
  refine ⟨_, _, pre191 _ ?_, hrun, hended, _, _, rfl, ?_, ⟨_, rfl⟩, hW, hsame.mono (by decide) (by decide)⟩
  · exact retI X190 hx Bd.returns (hb hby d6_4) hr
  · show Q6 Z a0 r_b u_offset u_before u_start u_end u_after h0 n0 _ T190.heap _
    rw [e190]
    exact ⟨rfl, N0, rfl⟩
theorem d7_0 : decode prog_28_method_8_code 0 = .ok (.aload_n 0, 1) := by decide +kernel
theorem d7_1 : decode prog_28_method_8_code 1 = .ok (.getfield 21, 3) := by decide +kernel
theorem d7_4 : decode prog_28_method_8_code 4 = .ok (.ireturn, 1) := by decide +kernel
theorem ef_7 (m : MethodId) (a0 : Addr) : entryFrame m #[(.ref a0)] 1 = mkF m 0 #[.val (.ref a0)] [] := by first | (simp [entryFrame, mkF, argsToLocals, Value.category]; done) | rfl
def Q7 (Z : State) (a0 : Addr) (r_b : Addr) (u_offset : Int64) (u_before : Int32) (u_start : Int32) (u_end : Int32) (u_after : Int32) (h0 : Heap) (n0 : Nat) (v : Option Value) (h : Heap) (L : List Loc) : Prop := v = some (.int u_start) ∧ Fr n0 L ∧ h = h0
set_option maxRecDepth 65536 in
set_option maxHeartbeats 40000000 in
theorem rm7 (l : Launch) (Z : State) (aq : Array Value) (hw : ∀ d ∈ tables_1, d.before aq Z = true) (ws : List Jvm.Cond) (a0 : Addr) (r_b : Addr) (u_offset : Int64) (u_before : Int32) (u_start : Int32) (u_end : Int32) (u_after : Int32) (h0 : Heap) (n0 : Nat) (Z0 : n0 ≤ h0.size) (E_a0 : Exa Z h0 a0 "com/example/wee_find/weefind/MatchContext") (F_bytes : Fld Z h0 a0 "com/example/wee_find/weefind/MatchContext" "bytes" "[B" (.ref r_b)) (F_offset : Fld Z h0 a0 "com/example/wee_find/weefind/MatchContext" "offset" "J" (.long u_offset)) (F_before : Fld Z h0 a0 "com/example/wee_find/weefind/MatchContext" "before" "I" (.int u_before)) (F_start : Fld Z h0 a0 "com/example/wee_find/weefind/MatchContext" "start" "I" (.int u_start)) (F_end : Fld Z h0 a0 "com/example/wee_find/weefind/MatchContext" "end" "I" (.int u_end)) (F_after : Fld Z h0 a0 "com/example/wee_find/weefind/MatchContext" "after" "I" (.int u_after)) :
    MetFree l (⟨"com/example/wee_find/weefind/MatchContext", "start", "()I"⟩ : MethodName) (head1 (Jvm.Cond.code (⟨"com/example/wee_find/weefind/MatchContext", "start", "()I"⟩ : MethodName) prog_28_method_8_code 1 (some .int) :: ws) ({ frames := 0, cells := 0, slots := 0, locals := 0 } : Room)) (fun a U => a = #[(.ref a0)] ∧ Z.Warmed39 U.vm ∧ U.heap = h0) (fun _ _ _ _ _ => True) (fun _ U o U' => ∃ v L, o = .returned v ∧ Q7 Z a0 r_b u_offset u_before u_start u_end u_after h0 n0 v U'.heap L ∧ FrameEnd U o U' L ({ frames := 0, cells := 0, slots := 0, locals := 0 } : Room).cells ({ frames := 0, cells := 0, slots := 0, locals := 0 } : Room).slots) := by
  refine MetFree.of_bodySF (plainFor_of_name pn57130369) hisR ?_
  intro p e s m args below meth c s₁ Bd hml0 hP hK
  obtain ⟨rfl, hZ, hh⟩ := hP
  have hx := Bd.exec
  have hby := Bd.bytes
  have hml : c.maxLocals = 1 := hml0
  have hown : s.vm.findClass "com/example/wee_find/weefind/MatchContext" = some m.cls := findClass_of_methodNamed Bd.named
  have hnm := (name_of_methodNamed Bd.named Bd.method).1
  have X0 : Stand p l e ({ frames := 0, cells := 0, slots := 0, locals := 0 } : Room) s m #[(.ref a0)] below meth c s₁ [] 0 0 := Stand.of_body Bd
  have e0 : s₁.heap = h0 := by rw [← hh, Bd.state]; rfl
  have N0 := Fr.nil n0
  have pre0 : ∀ t, Steps p.tables e below (s₁.setTop (mkF m 0 #[.val (.ref a0)] [])) t → Steps p.tables e below (s₁.setTop (entryFrame m #[(.ref a0)] 1)) t := fun t k => castTop (ef_7 m a0) k
  obtain ⟨T193, X193, e193, st193⟩ := getF X0 hx hZ hown (host := "") (Or.inl (hw _ (List.mem_of_getElem? (i := 21) rfl))) Via.refl e0 F_start (g := (mkF m 1 #[.val (.ref a0)] [(.ref a0)])) rfl rfl (hb hby d7_1)
  have pre194 : ∀ t, Steps p.tables e below (T193.setTop (mkF m 4 #[.val (.ref a0)] [(.int u_start)])) t → Steps p.tables e below (s₁.setTop (entryFrame m #[(.ref a0)] 1)) t := fun t kt => by
    refine pre0 _ ?_
    show Steps p.tables e below (s₁.setTop (mkF m 0 #[.val (.ref a0)] [])) _
    refine XS.aloadN X0.here hx rfl (hb hby d7_0) rfl rfl ?_
    show Steps p.tables e below (s₁.setTop (mkF m 1 #[.val (.ref a0)] [(.ref a0)])) _
    refine st193 _ ?_
    show Steps p.tables e below (T193.setTop (mkF m 4 #[.val (.ref a0)] [(.int u_start)])) _
    exact kt
  obtain ⟨fs, hr, hrun, hended, hW, hsame⟩ := X193.leave (v := some (.int u_start)) (fun h => by rw [Bd.returns] at h; cases h)
  refine ⟨_, _, pre194 _ ?_, hrun, hended, _, _, rfl, ?_, ⟨_, rfl⟩, hW, hsame.mono (by decide) (by decide)⟩
  · exact retI X193 hx Bd.returns (hb hby d7_4) hr
  · show Q7 Z a0 r_b u_offset u_before u_start u_end u_after h0 n0 _ T193.heap _
    rw [e193]
    exact ⟨rfl, N0, rfl⟩
theorem d8_0 : decode prog_28_method_9_code 0 = .ok (.aload_n 0, 1) := by decide +kernel
theorem d8_1 : decode prog_28_method_9_code 1 = .ok (.getfield 24, 3) := by decide +kernel
theorem d8_4 : decode prog_28_method_9_code 4 = .ok (.ireturn, 1) := by decide +kernel
theorem ef_8 (m : MethodId) (a0 : Addr) : entryFrame m #[(.ref a0)] 1 = mkF m 0 #[.val (.ref a0)] [] := by first | (simp [entryFrame, mkF, argsToLocals, Value.category]; done) | rfl
def Q8 (Z : State) (a0 : Addr) (r_b : Addr) (u_offset : Int64) (u_before : Int32) (u_start : Int32) (u_end : Int32) (u_after : Int32) (h0 : Heap) (n0 : Nat) (v : Option Value) (h : Heap) (L : List Loc) : Prop := v = some (.int u_end) ∧ Fr n0 L ∧ h = h0
set_option maxRecDepth 65536 in
set_option maxHeartbeats 40000000 in
theorem rm8 (l : Launch) (Z : State) (aq : Array Value) (hw : ∀ d ∈ tables_1, d.before aq Z = true) (ws : List Jvm.Cond) (a0 : Addr) (r_b : Addr) (u_offset : Int64) (u_before : Int32) (u_start : Int32) (u_end : Int32) (u_after : Int32) (h0 : Heap) (n0 : Nat) (Z0 : n0 ≤ h0.size) (E_a0 : Exa Z h0 a0 "com/example/wee_find/weefind/MatchContext") (F_bytes : Fld Z h0 a0 "com/example/wee_find/weefind/MatchContext" "bytes" "[B" (.ref r_b)) (F_offset : Fld Z h0 a0 "com/example/wee_find/weefind/MatchContext" "offset" "J" (.long u_offset)) (F_before : Fld Z h0 a0 "com/example/wee_find/weefind/MatchContext" "before" "I" (.int u_before)) (F_start : Fld Z h0 a0 "com/example/wee_find/weefind/MatchContext" "start" "I" (.int u_start)) (F_end : Fld Z h0 a0 "com/example/wee_find/weefind/MatchContext" "end" "I" (.int u_end)) (F_after : Fld Z h0 a0 "com/example/wee_find/weefind/MatchContext" "after" "I" (.int u_after)) :
    MetFree l (⟨"com/example/wee_find/weefind/MatchContext", "end", "()I"⟩ : MethodName) (head1 (Jvm.Cond.code (⟨"com/example/wee_find/weefind/MatchContext", "end", "()I"⟩ : MethodName) prog_28_method_9_code 1 (some .int) :: ws) ({ frames := 0, cells := 0, slots := 0, locals := 0 } : Room)) (fun a U => a = #[(.ref a0)] ∧ Z.Warmed39 U.vm ∧ U.heap = h0) (fun _ _ _ _ _ => True) (fun _ U o U' => ∃ v L, o = .returned v ∧ Q8 Z a0 r_b u_offset u_before u_start u_end u_after h0 n0 v U'.heap L ∧ FrameEnd U o U' L ({ frames := 0, cells := 0, slots := 0, locals := 0 } : Room).cells ({ frames := 0, cells := 0, slots := 0, locals := 0 } : Room).slots) := by
  refine MetFree.of_bodySF (plainFor_of_name pn57130369) hisR ?_
  intro p e s m args below meth c s₁ Bd hml0 hP hK
  obtain ⟨rfl, hZ, hh⟩ := hP
  have hx := Bd.exec
  have hby := Bd.bytes
  have hml : c.maxLocals = 1 := hml0
  have hown : s.vm.findClass "com/example/wee_find/weefind/MatchContext" = some m.cls := findClass_of_methodNamed Bd.named
  have hnm := (name_of_methodNamed Bd.named Bd.method).1
  have X0 : Stand p l e ({ frames := 0, cells := 0, slots := 0, locals := 0 } : Room) s m #[(.ref a0)] below meth c s₁ [] 0 0 := Stand.of_body Bd
  have e0 : s₁.heap = h0 := by rw [← hh, Bd.state]; rfl
  have N0 := Fr.nil n0
  have pre0 : ∀ t, Steps p.tables e below (s₁.setTop (mkF m 0 #[.val (.ref a0)] [])) t → Steps p.tables e below (s₁.setTop (entryFrame m #[(.ref a0)] 1)) t := fun t k => castTop (ef_8 m a0) k
  obtain ⟨T196, X196, e196, st196⟩ := getF X0 hx hZ hown (host := "") (Or.inl (hw _ (List.mem_of_getElem? (i := 23) rfl))) Via.refl e0 F_end (g := (mkF m 1 #[.val (.ref a0)] [(.ref a0)])) rfl rfl (hb hby d8_1)
  have pre197 : ∀ t, Steps p.tables e below (T196.setTop (mkF m 4 #[.val (.ref a0)] [(.int u_end)])) t → Steps p.tables e below (s₁.setTop (entryFrame m #[(.ref a0)] 1)) t := fun t kt => by
    refine pre0 _ ?_
    show Steps p.tables e below (s₁.setTop (mkF m 0 #[.val (.ref a0)] [])) _
    refine XS.aloadN X0.here hx rfl (hb hby d8_0) rfl rfl ?_
    show Steps p.tables e below (s₁.setTop (mkF m 1 #[.val (.ref a0)] [(.ref a0)])) _
    refine st196 _ ?_
    show Steps p.tables e below (T196.setTop (mkF m 4 #[.val (.ref a0)] [(.int u_end)])) _
    exact kt
  obtain ⟨fs, hr, hrun, hended, hW, hsame⟩ := X196.leave (v := some (.int u_end)) (fun h => by rw [Bd.returns] at h; cases h)
  refine ⟨_, _, pre197 _ ?_, hrun, hended, _, _, rfl, ?_, ⟨_, rfl⟩, hW, hsame.mono (by decide) (by decide)⟩
  · exact retI X196 hx Bd.returns (hb hby d8_4) hr
  · show Q8 Z a0 r_b u_offset u_before u_start u_end u_after h0 n0 _ T196.heap _
    rw [e196]
    exact ⟨rfl, N0, rfl⟩
theorem d9_0 : decode prog_28_method_10_code 0 = .ok (.aload_n 0, 1) := by decide +kernel
theorem d9_1 : decode prog_28_method_10_code 1 = .ok (.getfield 27, 3) := by decide +kernel
theorem d9_4 : decode prog_28_method_10_code 4 = .ok (.ireturn, 1) := by decide +kernel
theorem ef_9 (m : MethodId) (a0 : Addr) : entryFrame m #[(.ref a0)] 1 = mkF m 0 #[.val (.ref a0)] [] := by first | (simp [entryFrame, mkF, argsToLocals, Value.category]; done) | rfl
def Q9 (Z : State) (a0 : Addr) (r_b : Addr) (u_offset : Int64) (u_before : Int32) (u_start : Int32) (u_end : Int32) (u_after : Int32) (h0 : Heap) (n0 : Nat) (v : Option Value) (h : Heap) (L : List Loc) : Prop := v = some (.int u_after) ∧ Fr n0 L ∧ h = h0
set_option maxRecDepth 65536 in
set_option maxHeartbeats 40000000 in
theorem rm9 (l : Launch) (Z : State) (aq : Array Value) (hw : ∀ d ∈ tables_1, d.before aq Z = true) (ws : List Jvm.Cond) (a0 : Addr) (r_b : Addr) (u_offset : Int64) (u_before : Int32) (u_start : Int32) (u_end : Int32) (u_after : Int32) (h0 : Heap) (n0 : Nat) (Z0 : n0 ≤ h0.size) (E_a0 : Exa Z h0 a0 "com/example/wee_find/weefind/MatchContext") (F_bytes : Fld Z h0 a0 "com/example/wee_find/weefind/MatchContext" "bytes" "[B" (.ref r_b)) (F_offset : Fld Z h0 a0 "com/example/wee_find/weefind/MatchContext" "offset" "J" (.long u_offset)) (F_before : Fld Z h0 a0 "com/example/wee_find/weefind/MatchContext" "before" "I" (.int u_before)) (F_start : Fld Z h0 a0 "com/example/wee_find/weefind/MatchContext" "start" "I" (.int u_start)) (F_end : Fld Z h0 a0 "com/example/wee_find/weefind/MatchContext" "end" "I" (.int u_end)) (F_after : Fld Z h0 a0 "com/example/wee_find/weefind/MatchContext" "after" "I" (.int u_after)) :
    MetFree l (⟨"com/example/wee_find/weefind/MatchContext", "after", "()I"⟩ : MethodName) (head1 (Jvm.Cond.code (⟨"com/example/wee_find/weefind/MatchContext", "after", "()I"⟩ : MethodName) prog_28_method_10_code 1 (some .int) :: ws) ({ frames := 0, cells := 0, slots := 0, locals := 0 } : Room)) (fun a U => a = #[(.ref a0)] ∧ Z.Warmed39 U.vm ∧ U.heap = h0) (fun _ _ _ _ _ => True) (fun _ U o U' => ∃ v L, o = .returned v ∧ Q9 Z a0 r_b u_offset u_before u_start u_end u_after h0 n0 v U'.heap L ∧ FrameEnd U o U' L ({ frames := 0, cells := 0, slots := 0, locals := 0 } : Room).cells ({ frames := 0, cells := 0, slots := 0, locals := 0 } : Room).slots) := by
  refine MetFree.of_bodySF (plainFor_of_name pn57130369) hisR ?_
  intro p e s m args below meth c s₁ Bd hml0 hP hK
  obtain ⟨rfl, hZ, hh⟩ := hP
  have hx := Bd.exec
  have hby := Bd.bytes
  have hml : c.maxLocals = 1 := hml0
  have hown : s.vm.findClass "com/example/wee_find/weefind/MatchContext" = some m.cls := findClass_of_methodNamed Bd.named
  have hnm := (name_of_methodNamed Bd.named Bd.method).1
  have X0 : Stand p l e ({ frames := 0, cells := 0, slots := 0, locals := 0 } : Room) s m #[(.ref a0)] below meth c s₁ [] 0 0 := Stand.of_body Bd
  have e0 : s₁.heap = h0 := by rw [← hh, Bd.state]; rfl
  have N0 := Fr.nil n0
  have pre0 : ∀ t, Steps p.tables e below (s₁.setTop (mkF m 0 #[.val (.ref a0)] [])) t → Steps p.tables e below (s₁.setTop (entryFrame m #[(.ref a0)] 1)) t := fun t k => castTop (ef_9 m a0) k
  obtain ⟨T199, X199, e199, st199⟩ := getF X0 hx hZ hown (host := "") (Or.inl (hw _ (List.mem_of_getElem? (i := 25) rfl))) Via.refl e0 F_after (g := (mkF m 1 #[.val (.ref a0)] [(.ref a0)])) rfl rfl (hb hby d9_1)
  have pre200 : ∀ t, Steps p.tables e below (T199.setTop (mkF m 4 #[.val (.ref a0)] [(.int u_after)])) t → Steps p.tables e below (s₁.setTop (entryFrame m #[(.ref a0)] 1)) t := fun t kt => by
    refine pre0 _ ?_
    show Steps p.tables e below (s₁.setTop (mkF m 0 #[.val (.ref a0)] [])) _
    refine XS.aloadN X0.here hx rfl (hb hby d9_0) rfl rfl ?_
    show Steps p.tables e below (s₁.setTop (mkF m 1 #[.val (.ref a0)] [(.ref a0)])) _
    refine st199 _ ?_
    show Steps p.tables e below (T199.setTop (mkF m 4 #[.val (.ref a0)] [(.int u_after)])) _
    exact kt
  obtain ⟨fs, hr, hrun, hended, hW, hsame⟩ := X199.leave (v := some (.int u_after)) (fun h => by rw [Bd.returns] at h; cases h)
  refine ⟨_, _, pre200 _ ?_, hrun, hended, _, _, rfl, ?_, ⟨_, rfl⟩, hW, hsame.mono (by decide) (by decide)⟩
  · exact retI X199 hx Bd.returns (hb hby d9_4) hr
  · show Q9 Z a0 r_b u_offset u_before u_start u_end u_after h0 n0 _ T199.heap _
    rw [e199]
    exact ⟨rfl, N0, rfl⟩
theorem pd93421996 : parseMethodDescriptor "()V" = some ⟨[], none⟩ := by decide +kernel
theorem pd14451191 : parseMethodDescriptor "(J[BIIII)V" = some ⟨[.long, (.array .byte), .int, .int, .int, .int], none⟩ := by decide +kernel
theorem pd93421984 : parseMethodDescriptor "()J" = some ⟨[], some .long⟩ := by decide +kernel
theorem pd87958803 : parseMethodDescriptor "()[B" = some ⟨[], some (.array .byte)⟩ := by decide +kernel
theorem pd93421983 : parseMethodDescriptor "()I" = some ⟨[], some .int⟩ := by decide +kernel
theorem pn91554392 : plainName "com/example/wee_find/weefind/MatchContextSetPinLaw" = true := by first | (simp [plainName, overriddenIn]; done) | decide +kernel
theorem own_m7 (x : Int32) : ¬ (x &&& (7 : Int32)) < 0 ∧ (x &&& (7 : Int32)).toNatClampNeg ≤ 7 := by
  have h := Jvm.Kit.i32_mask x 7 (k := 3) (by decide) (by decide)
  refine ⟨?_, ?_⟩
  · rw [Int32.lt_iff_toInt_lt, h, Int32.toInt_zero]; omega
  · simp only [Int32.toNatClampNeg, h]; omega

theorem ef_0 (m : MethodId) (q0 : Int64) (p1 : Int32) (p2 : Int32) (p3 : Int32) (p4 : Int32) (p5 : Int32) : entryFrame m #[(.long q0), (.int p1), (.int p2), (.int p3), (.int p4), (.int p5)] maxLocals = mkF m 0 #[.val (.long q0), .second, .val (.int p1), .val (.int p2), .val (.int p3), .val (.int p4), .val (.int p5), .unset, .unset] [] := by first | (simp [entryFrame, mkF, argsToLocals, Value.category, maxLocals]; done) | rfl
def Q0 (n0 : Nat) (v : Option Value) (L : List Loc) : Prop := v = some (.int (1 : Int32)) ∧ Fr n0 L
set_option maxRecDepth 65536 in
set_option maxHeartbeats 40000000 in
theorem rm0 (l : Launch) (Z : State) (aq : Array Value) (hw : ∀ d ∈ tables_1, d.before aq Z = true) (ws : List Jvm.Cond) (q0 : Int64) (p1 : Int32) (p2 : Int32) (p3 : Int32) (p4 : Int32) (p5 : Int32) (h0 : Heap) (n0 : Nat) (Z0 : n0 ≤ h0.size) :
    MetFree l x (head1 (Jvm.Cond.code x code maxLocals ret :: ws) room_1) (fun a U => a = #[(.long q0), (.int p1), (.int p2), (.int p3), (.int p4), (.int p5)] ∧ Z.Warmed39 U.vm ∧ U.heap = h0) (fun _ _ _ _ _ => True) (fun _ U o U' => ∃ v L, o = .returned v ∧ Q0 n0 v L ∧ FrameEnd U o U' L room_1.cells room_1.slots) := by
  refine MetFree.of_bodySF (plainFor_of_name pn91554392) hisR ?_
  intro p e s m args below meth c s₁ Bd hml0 hP hK
  obtain ⟨rfl, hZ, hh⟩ := hP
  have hx := Bd.exec
  have hby := Bd.bytes
  have hml : c.maxLocals = 9 := hml0
  have hown : s.vm.findClass "com/example/wee_find/weefind/MatchContextSetPinLaw" = some m.cls := findClass_of_methodNamed Bd.named
  have X0 : Stand p l e room_1 s m #[(.long q0), (.int p1), (.int p2), (.int p3), (.int p4), (.int p5)] below meth c s₁ [] 0 0 := Stand.of_body Bd
  have e0 : s₁.heap = h0 := by rw [← hh, Bd.state]; rfl
  have N0 := Fr.nil n0
  have pre0 : ∀ t, Steps p.tables e below (s₁.setTop (mkF m 0 #[.val (.long q0), .second, .val (.int p1), .val (.int p2), .val (.int p3), .val (.int p4), .val (.int p5), .unset, .unset] [])) t → Steps p.tables e below (s₁.setTop (entryFrame m #[(.long q0), (.int p1), (.int p2), (.int p3), (.int p4), (.int p5)] maxLocals)) t := fun t k => castTop (ef_0 m q0 p1 p2 p3 p4 p5) k
  obtain ⟨T201, h201, k201, X201, e201, E201, A201, EE201, st201⟩ := newPE X0 hx hZ (hw _ (List.mem_of_getElem? (i := 0) rfl)) e0 (g := (mkF m 5 #[.val (.long q0), .second, .val (.int p1), .val (.int p2), .val (.int p3), .val (.int p4), .val (.int p5), .unset, .unset] [(.int (p5 &&& (7 : Int32)))])) rfl (hb hby at_5) rfl (own_m7 p5).1 (cap := 7) (own_m7 p5).2 (by decide) (by decide) (by decide) (ad := "[B") (by decide)
  obtain ⟨b201, g201⟩ : ∃ z, z = h0.size := ⟨_, rfl⟩
  rw [← g201] at A201 EE201 st201
  have g_b201 : n0 ≤ b201 := Nat.le_trans Z0 (Nat.le_of_eq g201.symm)
  have Z202 : n0 ≤ h201.size := Nat.le_trans Z0 E201.1
  have V201 : Arv Z h201 b201 k201 .byte (p5 &&& (7 : Int32)) [] (.int (0 : Int32)) := Arv.new A201 (own_m7 p5).1
  obtain ⟨T203, h203, X203, e203, E203, A203, D203, -, st203⟩ := newO X201 hx hZ hown (hw _ (List.mem_of_getElem? (i := 1) rfl)) (hw _ (List.mem_of_getElem? (i := 2) rfl)) (hw _ (List.mem_of_getElem? (i := 3) rfl)) e201 (g := (mkF m 9 #[.val (.long q0), .second, .val (.int p1), .val (.int p2), .val (.int p3), .val (.int p4), .val (.int p5), .val (.ref b201), .unset] [])) rfl (hb hby at_9) (by decide) (by decide)
  obtain ⟨b203, g203⟩ : ∃ z, z = h201.size := ⟨_, rfl⟩
  rw [← g203] at A203 D203 st203
  have ne_b201_b203 : b201 ≠ b203 := Nat.ne_of_lt (Nat.lt_of_lt_of_le EE201.lt (Nat.le_of_eq g203.symm))
  have g_b203 : n0 ≤ b203 := Nat.le_trans Z202 (Nat.le_of_eq g203.symm)
  have E204 := EE201.ext E203
  have V205 := V201.ext E203
  have Z206 : n0 ≤ h203.size := Nat.le_trans Z202 E203.1
  have F203_bytes : Fld Z h203 b203 "com/example/wee_find/weefind/MatchContext" "bytes" "[B" .null := D203 (Or.inl (hw _ (List.mem_of_getElem? (i := 11) rfl))) (ty := (.array .byte)) (by decide)
  have F203_offset : Fld Z h203 b203 "com/example/wee_find/weefind/MatchContext" "offset" "J" (.long (0 : Int64)) := D203 (Or.inl (hw _ (List.mem_of_getElem? (i := 18) rfl))) (ty := .long) (by decide)
  have F203_before : Fld Z h203 b203 "com/example/wee_find/weefind/MatchContext" "before" "I" (.int (0 : Int32)) := D203 (Or.inl (hw _ (List.mem_of_getElem? (i := 20) rfl))) (ty := .int) (by decide)
  have F203_start : Fld Z h203 b203 "com/example/wee_find/weefind/MatchContext" "start" "I" (.int (0 : Int32)) := D203 (Or.inl (hw _ (List.mem_of_getElem? (i := 22) rfl))) (ty := .int) (by decide)
  have F203_end : Fld Z h203 b203 "com/example/wee_find/weefind/MatchContext" "end" "I" (.int (0 : Int32)) := D203 (Or.inl (hw _ (List.mem_of_getElem? (i := 24) rfl))) (ty := .int) (by decide)
  have F203_after : Fld Z h203 b203 "com/example/wee_find/weefind/MatchContext" "after" "I" (.int (0 : Int32)) := D203 (Or.inl (hw _ (List.mem_of_getElem? (i := 26) rfl))) (ty := .int) (by decide)
  obtain ⟨_, _, ⟨T207, L207, k207, n207⟩, -, X207, ⟨Lc207, hQ207, l207, y207, z207⟩, st207⟩ := X203.specialBack hx (y := (⟨"com/example/wee_find/weefind/MatchContext", "<init>", "()V"⟩ : MethodName)) rfl hown (mvT hZ (hw _ (List.mem_of_getElem? (i := 4) rfl))) (mvT hZ (hw _ (List.mem_of_getElem? (i := 5) rfl))) (mvT hZ (hw _ (List.mem_of_getElem? (i := 6) rfl))) (by decide) (backOf (W := 1) (rm1 l Z aq hw [] b203 (0 : Int64) (0 : Int32) (0 : Int32) (0 : Int32) (0 : Int32) h203 n0 Z206 A203 F203_bytes F203_offset F203_before F203_start F203_end F203_after g_b203) hZ (hw _ (List.mem_of_getElem? (i := 6) rfl)) (hw _ (List.mem_of_getElem? (i := 3) rfl)) (by decide) (by decide)) (g := (mkF m 13 #[.val (.long q0), .second, .val (.int p1), .val (.int p2), .val (.int p3), .val (.int p4), .val (.int p5), .val (.ref b201), .unset] [(.ref b203), (.ref b203)])) rfl (by rw [hml]; rfl) (Steps.refl _) (a := b203) (argsL := []) (rest := [(.ref b203)]) (lenOf pd93421996 rfl) rfl (by show 2 * 0 + _ ≤ _; exact Nat.le_of_eq rfl) (hb hby at_13) (fun _ _ => ⟨rfl, e203, (by decide : 2 + 1 ≤ _), (by decide : 13 + 0 ≤ _)⟩)
  dsimp only [Pt.U, Pt.locs, Pt.cells, Pt.slots] at X207 l207 y207 z207 st207 hQ207
  subst l207 y207 z207
  obtain ⟨r207, rfl, N207q, K207, E207_0, F207_0, F207_1, F207_2, F207_3, F207_4, F207_5⟩ := hQ207
  have E208 := E204.keep K207
  have V209 := V205.keep K207 (ninS ne_b201_b203 nin0)
  have Z210 : n0 ≤ T207.heap.size := Nat.le_trans Z206 K207.1
  have N211 := Fr.app N0 N207q
  obtain ⟨cq212, kq212, q212a, q212b, q212c⟩ := isOf hZ rfl E207_0
  obtain ⟨_, _, ⟨T212, L212, k212, n212⟩, -, X212, ⟨Lc212, hQ212, l212, y212, z212⟩, st212⟩ := X207.virtualBack hx (y := (⟨"com/example/wee_find/weefind/MatchContext", "set", "(J[BIIII)V"⟩ : MethodName)) (z := (⟨"com/example/wee_find/weefind/MatchContext", "set", "(J[BIIII)V"⟩ : MethodName)) hown (mvT hZ (hw _ (List.mem_of_getElem? (i := 12) rfl))) (mvT hZ (hw _ (List.mem_of_getElem? (i := 13) rfl))) (notFace_of_selects (args := #[]) (mvT hZ (hw _ (List.mem_of_getElem? (i := 15) rfl)))) (mvT hZ (hw _ (List.mem_of_getElem? (i := 15) rfl))) (mvT hZ (hw _ (List.mem_of_getElem? (i := 14) rfl))) (by decide) (backOf (W := 0) (rm3 l Z aq hw [] b203 q0 b201 p1 p2 p3 p4 r207 (0 : Int64) (0 : Int32) (0 : Int32) (0 : Int32) (0 : Int32) T207.heap n0 Z210 E207_0 F207_0 F207_1 F207_2 F207_3 F207_4 F207_5 g_b203) hZ (hw _ (List.mem_of_getElem? (i := 16) rfl)) (hw _ (List.mem_of_getElem? (i := 3) rfl)) (by decide) (by decide)) q212a q212c (g := (mkF m 29 #[.val (.long q0), .second, .val (.int p1), .val (.int p2), .val (.int p3), .val (.int p4), .val (.int p5), .val (.ref b201), .val (.ref b203)] [(.int p4), (.int p3), (.int p2), (.int p1), (.ref b201), (.long q0), (.ref b203)])) rfl (by rw [hml]; rfl) (Steps.refl _) (argsL := [(.long q0), (.ref b201), (.int p1), (.int p2), (.int p3), (.int p4)]) (rest := []) (lenOf pd14451191 rfl) rfl (by show 2 * 0 + _ ≤ _; exact Nat.le_of_eq rfl) (hb hby at_29) (fun _ _ => ⟨rfl, rfl, (by decide : 3 + 0 ≤ _), (by decide : 13 + 0 ≤ _)⟩)
  dsimp only [Pt.U, Pt.locs, Pt.cells, Pt.slots] at X212 l212 y212 z212 st212 hQ212
  subst l212 y212 z212
  obtain ⟨rfl, N212q, K212, E212_0, F212_0, F212_1, F212_2, F212_3, F212_4, F212_5⟩ := hQ212
  have E213 := E208.keep K212
  have V214 := V209.keep K212 (ninS ne_b201_b203 nin0)
  have Z215 : n0 ≤ T212.heap.size := Nat.le_trans Z210 K212.1
  have N216 := Fr.app N211 N212q
  obtain ⟨cq217, kq217, q217a, q217b, q217c⟩ := isOf hZ rfl E212_0
  obtain ⟨_, _, ⟨T217, L217, k217, n217⟩, -, X217, ⟨Lc217, hQ217, l217, y217, z217⟩, st217⟩ := X212.virtualBack hx (y := (⟨"com/example/wee_find/weefind/MatchContext", "offset", "()J"⟩ : MethodName)) (z := (⟨"com/example/wee_find/weefind/MatchContext", "offset", "()J"⟩ : MethodName)) hown (mvT hZ (hw _ (List.mem_of_getElem? (i := 27) rfl))) (mvT hZ (hw _ (List.mem_of_getElem? (i := 28) rfl))) (notFace_of_selects (args := #[]) (mvT hZ (hw _ (List.mem_of_getElem? (i := 30) rfl)))) (mvT hZ (hw _ (List.mem_of_getElem? (i := 30) rfl))) (mvT hZ (hw _ (List.mem_of_getElem? (i := 29) rfl))) (by decide) (backOf (W := 0) (rm4 l Z aq hw [] b203 b201 q0 p1 p2 p3 p4 T212.heap n0 Z215 E212_0 F212_0 F212_1 F212_2 F212_3 F212_4 F212_5) hZ (hw _ (List.mem_of_getElem? (i := 31) rfl)) (hw _ (List.mem_of_getElem? (i := 3) rfl)) (by decide) (by decide)) q217a q217c (g := (mkF m 34 #[.val (.long q0), .second, .val (.int p1), .val (.int p2), .val (.int p3), .val (.int p4), .val (.int p5), .val (.ref b201), .val (.ref b203)] [(.ref b203)])) rfl (by rw [hml]; rfl) (Steps.refl _) (argsL := []) (rest := []) (lenOf pd93421984 rfl) rfl (by show 2 * 0 + _ ≤ _; exact Nat.le_of_eq rfl) (hb hby at_34) (fun _ _ => ⟨rfl, rfl, (by decide : 3 + 0 ≤ _), (by decide : 13 + 0 ≤ _)⟩)
  dsimp only [Pt.U, Pt.locs, Pt.cells, Pt.slots] at X217 l217 y217 z217 st217 hQ217
  subst l217 y217 z217
  obtain ⟨rfl, N217q, e217⟩ := hQ217
  have N218 := Fr.app N216 N217q
  obtain ⟨cq219, kq219, q219a, q219b, q219c⟩ := isOf hZ e217 E212_0
  obtain ⟨_, _, ⟨T219, L219, k219, n219⟩, -, X219, ⟨Lc219, hQ219, l219, y219, z219⟩, st219⟩ := X217.virtualBack hx (y := (⟨"com/example/wee_find/weefind/MatchContext", "bytes", "()[B"⟩ : MethodName)) (z := (⟨"com/example/wee_find/weefind/MatchContext", "bytes", "()[B"⟩ : MethodName)) hown (mvT hZ (hw _ (List.mem_of_getElem? (i := 32) rfl))) (mvT hZ (hw _ (List.mem_of_getElem? (i := 33) rfl))) (notFace_of_selects (args := #[]) (mvT hZ (hw _ (List.mem_of_getElem? (i := 35) rfl)))) (mvT hZ (hw _ (List.mem_of_getElem? (i := 35) rfl))) (mvT hZ (hw _ (List.mem_of_getElem? (i := 34) rfl))) (by decide) (backOf (W := 0) (rm5 l Z aq hw [] b203 b201 q0 p1 p2 p3 p4 T212.heap n0 Z215 E212_0 F212_0 F212_1 F212_2 F212_3 F212_4 F212_5) hZ (hw _ (List.mem_of_getElem? (i := 36) rfl)) (hw _ (List.mem_of_getElem? (i := 3) rfl)) (by decide) (by decide)) q219a q219c (g := (mkF m 44 #[.val (.long q0), .second, .val (.int p1), .val (.int p2), .val (.int p3), .val (.int p4), .val (.int p5), .val (.ref b201), .val (.ref b203)] [(.ref b203)])) rfl (by rw [hml]; rfl) (Steps.refl _) (argsL := []) (rest := []) (lenOf pd87958803 rfl) rfl (by show 2 * 0 + _ ≤ _; exact Nat.le_of_eq rfl) (hb hby at_44) (fun _ _ => ⟨rfl, e217, (by decide : 3 + 0 ≤ _), (by decide : 13 + 0 ≤ _)⟩)
  dsimp only [Pt.U, Pt.locs, Pt.cells, Pt.slots] at X219 l219 y219 z219 st219 hQ219
  subst l219 y219 z219
  obtain ⟨rfl, N219q, e219⟩ := hQ219
  have N220 := Fr.app N218 N219q
  obtain ⟨cq221, kq221, q221a, q221b, q221c⟩ := isOf hZ e219 E212_0
  obtain ⟨_, _, ⟨T221, L221, k221, n221⟩, -, X221, ⟨Lc221, hQ221, l221, y221, z221⟩, st221⟩ := X219.virtualBack hx (y := (⟨"com/example/wee_find/weefind/MatchContext", "before", "()I"⟩ : MethodName)) (z := (⟨"com/example/wee_find/weefind/MatchContext", "before", "()I"⟩ : MethodName)) hown (mvT hZ (hw _ (List.mem_of_getElem? (i := 37) rfl))) (mvT hZ (hw _ (List.mem_of_getElem? (i := 38) rfl))) (notFace_of_selects (args := #[]) (mvT hZ (hw _ (List.mem_of_getElem? (i := 40) rfl)))) (mvT hZ (hw _ (List.mem_of_getElem? (i := 40) rfl))) (mvT hZ (hw _ (List.mem_of_getElem? (i := 39) rfl))) (by decide) (backOf (W := 0) (rm6 l Z aq hw [] b203 b201 q0 p1 p2 p3 p4 T212.heap n0 Z215 E212_0 F212_0 F212_1 F212_2 F212_3 F212_4 F212_5) hZ (hw _ (List.mem_of_getElem? (i := 41) rfl)) (hw _ (List.mem_of_getElem? (i := 3) rfl)) (by decide) (by decide)) q221a q221c (g := (mkF m 54 #[.val (.long q0), .second, .val (.int p1), .val (.int p2), .val (.int p3), .val (.int p4), .val (.int p5), .val (.ref b201), .val (.ref b203)] [(.ref b203)])) rfl (by rw [hml]; rfl) (Steps.refl _) (argsL := []) (rest := []) (lenOf pd93421983 rfl) rfl (by show 2 * 0 + _ ≤ _; exact Nat.le_of_eq rfl) (hb hby at_54) (fun _ _ => ⟨rfl, e219, (by decide : 3 + 0 ≤ _), (by decide : 13 + 0 ≤ _)⟩)
  dsimp only [Pt.U, Pt.locs, Pt.cells, Pt.slots] at X221 l221 y221 z221 st221 hQ221
  subst l221 y221 z221
  obtain ⟨rfl, N221q, e221⟩ := hQ221
  have N222 := Fr.app N220 N221q
  obtain ⟨cq223, kq223, q223a, q223b, q223c⟩ := isOf hZ e221 E212_0
  obtain ⟨_, _, ⟨T223, L223, k223, n223⟩, -, X223, ⟨Lc223, hQ223, l223, y223, z223⟩, st223⟩ := X221.virtualBack hx (y := (⟨"com/example/wee_find/weefind/MatchContext", "start", "()I"⟩ : MethodName)) (z := (⟨"com/example/wee_find/weefind/MatchContext", "start", "()I"⟩ : MethodName)) hown (mvT hZ (hw _ (List.mem_of_getElem? (i := 42) rfl))) (mvT hZ (hw _ (List.mem_of_getElem? (i := 43) rfl))) (notFace_of_selects (args := #[]) (mvT hZ (hw _ (List.mem_of_getElem? (i := 45) rfl)))) (mvT hZ (hw _ (List.mem_of_getElem? (i := 45) rfl))) (mvT hZ (hw _ (List.mem_of_getElem? (i := 44) rfl))) (by decide) (backOf (W := 0) (rm7 l Z aq hw [] b203 b201 q0 p1 p2 p3 p4 T212.heap n0 Z215 E212_0 F212_0 F212_1 F212_2 F212_3 F212_4 F212_5) hZ (hw _ (List.mem_of_getElem? (i := 46) rfl)) (hw _ (List.mem_of_getElem? (i := 3) rfl)) (by decide) (by decide)) q223a q223c (g := (mkF m 63 #[.val (.long q0), .second, .val (.int p1), .val (.int p2), .val (.int p3), .val (.int p4), .val (.int p5), .val (.ref b201), .val (.ref b203)] [(.ref b203)])) rfl (by rw [hml]; rfl) (Steps.refl _) (argsL := []) (rest := []) (lenOf pd93421983 rfl) rfl (by show 2 * 0 + _ ≤ _; exact Nat.le_of_eq rfl) (hb hby at_63) (fun _ _ => ⟨rfl, e221, (by decide : 3 + 0 ≤ _), (by decide : 13 + 0 ≤ _)⟩)
  dsimp only [Pt.U, Pt.locs, Pt.cells, Pt.slots] at X223 l223 y223 z223 st223 hQ223
  subst l223 y223 z223
  obtain ⟨rfl, N223q, e223⟩ := hQ223
  have N224 := Fr.app N222 N223q
  obtain ⟨cq225, kq225, q225a, q225b, q225c⟩ := isOf hZ e223 E212_0
  obtain ⟨_, _, ⟨T225, L225, k225, n225⟩, -, X225, ⟨Lc225, hQ225, l225, y225, z225⟩, st225⟩ := X223.virtualBack hx (y := (⟨"com/example/wee_find/weefind/MatchContext", "end", "()I"⟩ : MethodName)) (z := (⟨"com/example/wee_find/weefind/MatchContext", "end", "()I"⟩ : MethodName)) hown (mvT hZ (hw _ (List.mem_of_getElem? (i := 47) rfl))) (mvT hZ (hw _ (List.mem_of_getElem? (i := 48) rfl))) (notFace_of_selects (args := #[]) (mvT hZ (hw _ (List.mem_of_getElem? (i := 50) rfl)))) (mvT hZ (hw _ (List.mem_of_getElem? (i := 50) rfl))) (mvT hZ (hw _ (List.mem_of_getElem? (i := 49) rfl))) (by decide) (backOf (W := 0) (rm8 l Z aq hw [] b203 b201 q0 p1 p2 p3 p4 T212.heap n0 Z215 E212_0 F212_0 F212_1 F212_2 F212_3 F212_4 F212_5) hZ (hw _ (List.mem_of_getElem? (i := 51) rfl)) (hw _ (List.mem_of_getElem? (i := 3) rfl)) (by decide) (by decide)) q225a q225c (g := (mkF m 72 #[.val (.long q0), .second, .val (.int p1), .val (.int p2), .val (.int p3), .val (.int p4), .val (.int p5), .val (.ref b201), .val (.ref b203)] [(.ref b203)])) rfl (by rw [hml]; rfl) (Steps.refl _) (argsL := []) (rest := []) (lenOf pd93421983 rfl) rfl (by show 2 * 0 + _ ≤ _; exact Nat.le_of_eq rfl) (hb hby at_72) (fun _ _ => ⟨rfl, e223, (by decide : 3 + 0 ≤ _), (by decide : 13 + 0 ≤ _)⟩)
  dsimp only [Pt.U, Pt.locs, Pt.cells, Pt.slots] at X225 l225 y225 z225 st225 hQ225
  subst l225 y225 z225
  obtain ⟨rfl, N225q, e225⟩ := hQ225
  have N226 := Fr.app N224 N225q
  obtain ⟨cq227, kq227, q227a, q227b, q227c⟩ := isOf hZ e225 E212_0
  obtain ⟨_, _, ⟨T227, L227, k227, n227⟩, -, X227, ⟨Lc227, hQ227, l227, y227, z227⟩, st227⟩ := X225.virtualBack hx (y := (⟨"com/example/wee_find/weefind/MatchContext", "after", "()I"⟩ : MethodName)) (z := (⟨"com/example/wee_find/weefind/MatchContext", "after", "()I"⟩ : MethodName)) hown (mvT hZ (hw _ (List.mem_of_getElem? (i := 52) rfl))) (mvT hZ (hw _ (List.mem_of_getElem? (i := 53) rfl))) (notFace_of_selects (args := #[]) (mvT hZ (hw _ (List.mem_of_getElem? (i := 55) rfl)))) (mvT hZ (hw _ (List.mem_of_getElem? (i := 55) rfl))) (mvT hZ (hw _ (List.mem_of_getElem? (i := 54) rfl))) (by decide) (backOf (W := 0) (rm9 l Z aq hw [] b203 b201 q0 p1 p2 p3 p4 T212.heap n0 Z215 E212_0 F212_0 F212_1 F212_2 F212_3 F212_4 F212_5) hZ (hw _ (List.mem_of_getElem? (i := 56) rfl)) (hw _ (List.mem_of_getElem? (i := 3) rfl)) (by decide) (by decide)) q227a q227c (g := (mkF m 82 #[.val (.long q0), .second, .val (.int p1), .val (.int p2), .val (.int p3), .val (.int p4), .val (.int p5), .val (.ref b201), .val (.ref b203)] [(.ref b203)])) rfl (by rw [hml]; rfl) (Steps.refl _) (argsL := []) (rest := []) (lenOf pd93421983 rfl) rfl (by show 2 * 0 + _ ≤ _; exact Nat.le_of_eq rfl) (hb hby at_82) (fun _ _ => ⟨rfl, e225, (by decide : 3 + 0 ≤ _), (by decide : 13 + 0 ≤ _)⟩)
  dsimp only [Pt.U, Pt.locs, Pt.cells, Pt.slots] at X227 l227 y227 z227 st227 hQ227
  subst l227 y227 z227
  obtain ⟨rfl, N227q, e227⟩ := hQ227
  have N228 := Fr.app N226 N227q
  have pre229 : ∀ t, Steps p.tables e below (T227.setTop (mkF m 95 #[.val (.long q0), .second, .val (.int p1), .val (.int p2), .val (.int p3), .val (.int p4), .val (.int p5), .val (.ref b201), .val (.ref b203)] [(.int (1 : Int32))])) t → Steps p.tables e below (s₁.setTop (entryFrame m #[(.long q0), (.int p1), (.int p2), (.int p3), (.int p4), (.int p5)] maxLocals)) t := fun t kt => by
    refine pre0 _ ?_
    show Steps p.tables e below (s₁.setTop (mkF m 0 #[.val (.long q0), .second, .val (.int p1), .val (.int p2), .val (.int p3), .val (.int p4), .val (.int p5), .unset, .unset] [])) _
    refine XS.iload X0.here hx rfl (hb hby at_0) rfl ?_
    show Steps p.tables e below (s₁.setTop (mkF m 2 #[.val (.long q0), .second, .val (.int p1), .val (.int p2), .val (.int p3), .val (.int p4), .val (.int p5), .unset, .unset] [(.int p5)])) _
    refine XS.bipush X0.here hx rfl (hb hby at_2) ?_
    show Steps p.tables e below (s₁.setTop (mkF m 4 #[.val (.long q0), .second, .val (.int p1), .val (.int p2), .val (.int p3), .val (.int p4), .val (.int p5), .unset, .unset] [(.int (7 : Int32)), (.int p5)])) _
    refine XS.iand X0.here hx rfl (hb hby at_4) rfl ?_
    show Steps p.tables e below (s₁.setTop (mkF m 5 #[.val (.long q0), .second, .val (.int p1), .val (.int p2), .val (.int p3), .val (.int p4), .val (.int p5), .unset, .unset] [(.int (p5 &&& (7 : Int32)))])) _
    refine st201 _ ?_
    show Steps p.tables e below (T201.setTop (mkF m 7 #[.val (.long q0), .second, .val (.int p1), .val (.int p2), .val (.int p3), .val (.int p4), .val (.int p5), .unset, .unset] [(.ref b201)])) _
    refine XS.astore X201.here hx rfl (hb hby at_7) rfl rfl (l' := #[.val (.long q0), .second, .val (.int p1), .val (.int p2), .val (.int p3), .val (.int p4), .val (.int p5), .val (.ref b201), .unset]) rfl ?_
    show Steps p.tables e below (T201.setTop (mkF m 9 #[.val (.long q0), .second, .val (.int p1), .val (.int p2), .val (.int p3), .val (.int p4), .val (.int p5), .val (.ref b201), .unset] [])) _
    refine st203 _ ?_
    show Steps p.tables e below (T203.setTop (mkF m 12 #[.val (.long q0), .second, .val (.int p1), .val (.int p2), .val (.int p3), .val (.int p4), .val (.int p5), .val (.ref b201), .unset] [(.ref b203)])) _
    refine XS.dup X203.here hx rfl (hb hby at_12) rfl rfl ?_
    show Steps p.tables e below (T203.setTop (mkF m 13 #[.val (.long q0), .second, .val (.int p1), .val (.int p2), .val (.int p3), .val (.int p4), .val (.int p5), .val (.ref b201), .unset] [(.ref b203), (.ref b203)])) _
    refine st207.trans ?_
    show Steps p.tables e below (T207.setTop (mkF m 16 #[.val (.long q0), .second, .val (.int p1), .val (.int p2), .val (.int p3), .val (.int p4), .val (.int p5), .val (.ref b201), .unset] [(.ref b203)])) _
    refine XS.astore X207.here hx rfl (hb hby at_16) rfl rfl (l' := #[.val (.long q0), .second, .val (.int p1), .val (.int p2), .val (.int p3), .val (.int p4), .val (.int p5), .val (.ref b201), .val (.ref b203)]) rfl ?_
    show Steps p.tables e below (T207.setTop (mkF m 18 #[.val (.long q0), .second, .val (.int p1), .val (.int p2), .val (.int p3), .val (.int p4), .val (.int p5), .val (.ref b201), .val (.ref b203)] [])) _
    refine XS.aload X207.here hx rfl (hb hby at_18) rfl rfl ?_
    show Steps p.tables e below (T207.setTop (mkF m 20 #[.val (.long q0), .second, .val (.int p1), .val (.int p2), .val (.int p3), .val (.int p4), .val (.int p5), .val (.ref b201), .val (.ref b203)] [(.ref b203)])) _
    refine XS.lloadN X207.here hx rfl (hb hby at_20) rfl ?_
    show Steps p.tables e below (T207.setTop (mkF m 21 #[.val (.long q0), .second, .val (.int p1), .val (.int p2), .val (.int p3), .val (.int p4), .val (.int p5), .val (.ref b201), .val (.ref b203)] [(.long q0), (.ref b203)])) _
    refine XS.aload X207.here hx rfl (hb hby at_21) rfl rfl ?_
    show Steps p.tables e below (T207.setTop (mkF m 23 #[.val (.long q0), .second, .val (.int p1), .val (.int p2), .val (.int p3), .val (.int p4), .val (.int p5), .val (.ref b201), .val (.ref b203)] [(.ref b201), (.long q0), (.ref b203)])) _
    refine XS.iloadN X207.here hx rfl (hb hby at_23) rfl ?_
    show Steps p.tables e below (T207.setTop (mkF m 24 #[.val (.long q0), .second, .val (.int p1), .val (.int p2), .val (.int p3), .val (.int p4), .val (.int p5), .val (.ref b201), .val (.ref b203)] [(.int p1), (.ref b201), (.long q0), (.ref b203)])) _
    refine XS.iloadN X207.here hx rfl (hb hby at_24) rfl ?_
    show Steps p.tables e below (T207.setTop (mkF m 25 #[.val (.long q0), .second, .val (.int p1), .val (.int p2), .val (.int p3), .val (.int p4), .val (.int p5), .val (.ref b201), .val (.ref b203)] [(.int p2), (.int p1), (.ref b201), (.long q0), (.ref b203)])) _
    refine XS.iload X207.here hx rfl (hb hby at_25) rfl ?_
    show Steps p.tables e below (T207.setTop (mkF m 27 #[.val (.long q0), .second, .val (.int p1), .val (.int p2), .val (.int p3), .val (.int p4), .val (.int p5), .val (.ref b201), .val (.ref b203)] [(.int p3), (.int p2), (.int p1), (.ref b201), (.long q0), (.ref b203)])) _
    refine XS.iload X207.here hx rfl (hb hby at_27) rfl ?_
    show Steps p.tables e below (T207.setTop (mkF m 29 #[.val (.long q0), .second, .val (.int p1), .val (.int p2), .val (.int p3), .val (.int p4), .val (.int p5), .val (.ref b201), .val (.ref b203)] [(.int p4), (.int p3), (.int p2), (.int p1), (.ref b201), (.long q0), (.ref b203)])) _
    refine st212.trans ?_
    show Steps p.tables e below (T212.setTop (mkF m 32 #[.val (.long q0), .second, .val (.int p1), .val (.int p2), .val (.int p3), .val (.int p4), .val (.int p5), .val (.ref b201), .val (.ref b203)] [])) _
    refine XS.aload X212.here hx rfl (hb hby at_32) rfl rfl ?_
    show Steps p.tables e below (T212.setTop (mkF m 34 #[.val (.long q0), .second, .val (.int p1), .val (.int p2), .val (.int p3), .val (.int p4), .val (.int p5), .val (.ref b201), .val (.ref b203)] [(.ref b203)])) _
    refine st217.trans ?_
    show Steps p.tables e below (T217.setTop (mkF m 37 #[.val (.long q0), .second, .val (.int p1), .val (.int p2), .val (.int p3), .val (.int p4), .val (.int p5), .val (.ref b201), .val (.ref b203)] [(.long q0)])) _
    refine XS.lloadN X217.here hx rfl (hb hby at_37) rfl ?_
    show Steps p.tables e below (T217.setTop (mkF m 38 #[.val (.long q0), .second, .val (.int p1), .val (.int p2), .val (.int p3), .val (.int p4), .val (.int p5), .val (.ref b201), .val (.ref b203)] [(.long q0), (.long q0)])) _
    refine XS.lcmp X217.here hx rfl (hb hby at_38) rfl ?_
    show Steps p.tables e below (T217.setTop (mkF m 39 #[.val (.long q0), .second, .val (.int p1), .val (.int p2), .val (.int p3), .val (.int p4), .val (.int p5), .val (.ref b201), .val (.ref b203)] [(.int (lcmpW q0 q0))])) _
    refine XS.ifNo X217.here hx rfl (hb hby at_39) rfl ((if0 _ _).trans (teq (own_lwE (rfl : q0 = q0))).2) ?_
    show Steps p.tables e below (T217.setTop (mkF m 42 #[.val (.long q0), .second, .val (.int p1), .val (.int p2), .val (.int p3), .val (.int p4), .val (.int p5), .val (.ref b201), .val (.ref b203)] [])) _
    refine XS.aload X217.here hx rfl (hb hby at_42) rfl rfl ?_
    show Steps p.tables e below (T217.setTop (mkF m 44 #[.val (.long q0), .second, .val (.int p1), .val (.int p2), .val (.int p3), .val (.int p4), .val (.int p5), .val (.ref b201), .val (.ref b203)] [(.ref b203)])) _
    refine st219.trans ?_
    show Steps p.tables e below (T219.setTop (mkF m 47 #[.val (.long q0), .second, .val (.int p1), .val (.int p2), .val (.int p3), .val (.int p4), .val (.int p5), .val (.ref b201), .val (.ref b203)] [(.ref b201)])) _
    refine XS.aload X219.here hx rfl (hb hby at_47) rfl rfl ?_
    show Steps p.tables e below (T219.setTop (mkF m 49 #[.val (.long q0), .second, .val (.int p1), .val (.int p2), .val (.int p3), .val (.int p4), .val (.int p5), .val (.ref b201), .val (.ref b203)] [(.ref b201), (.ref b201)])) _
    refine Jvm.RoadKit.acmp (g := (mkF m 49 #[.val (.long q0), .second, .val (.int p1), .val (.int p2), .val (.int p3), .val (.int p4), .val (.int p5), .val (.ref b201), .val (.ref b203)] [(.ref b201), (.ref b201)])) X219 hx rfl rfl rfl (pc0 := 49) (pc' := 52) (same := true) rfl (hb hby at_49) rfl (decide_eq_true rfl) (by decide) (by decide) ?_
    show Steps p.tables e below (T219.setTop (mkF m 52 #[.val (.long q0), .second, .val (.int p1), .val (.int p2), .val (.int p3), .val (.int p4), .val (.int p5), .val (.ref b201), .val (.ref b203)] [])) _
    refine XS.aload X219.here hx rfl (hb hby at_52) rfl rfl ?_
    show Steps p.tables e below (T219.setTop (mkF m 54 #[.val (.long q0), .second, .val (.int p1), .val (.int p2), .val (.int p3), .val (.int p4), .val (.int p5), .val (.ref b201), .val (.ref b203)] [(.ref b203)])) _
    refine st221.trans ?_
    show Steps p.tables e below (T221.setTop (mkF m 57 #[.val (.long q0), .second, .val (.int p1), .val (.int p2), .val (.int p3), .val (.int p4), .val (.int p5), .val (.ref b201), .val (.ref b203)] [(.int p1)])) _
    refine XS.iloadN X221.here hx rfl (hb hby at_57) rfl ?_
    show Steps p.tables e below (T221.setTop (mkF m 58 #[.val (.long q0), .second, .val (.int p1), .val (.int p2), .val (.int p3), .val (.int p4), .val (.int p5), .val (.ref b201), .val (.ref b203)] [(.int p1), (.int p1)])) _
    refine XS.icmpNo X221.here hx rfl (hb hby at_58) rfl (teq (rfl : p1 = p1)).2 ?_
    show Steps p.tables e below (T221.setTop (mkF m 61 #[.val (.long q0), .second, .val (.int p1), .val (.int p2), .val (.int p3), .val (.int p4), .val (.int p5), .val (.ref b201), .val (.ref b203)] [])) _
    refine XS.aload X221.here hx rfl (hb hby at_61) rfl rfl ?_
    show Steps p.tables e below (T221.setTop (mkF m 63 #[.val (.long q0), .second, .val (.int p1), .val (.int p2), .val (.int p3), .val (.int p4), .val (.int p5), .val (.ref b201), .val (.ref b203)] [(.ref b203)])) _
    refine st223.trans ?_
    show Steps p.tables e below (T223.setTop (mkF m 66 #[.val (.long q0), .second, .val (.int p1), .val (.int p2), .val (.int p3), .val (.int p4), .val (.int p5), .val (.ref b201), .val (.ref b203)] [(.int p2)])) _
    refine XS.iloadN X223.here hx rfl (hb hby at_66) rfl ?_
    show Steps p.tables e below (T223.setTop (mkF m 67 #[.val (.long q0), .second, .val (.int p1), .val (.int p2), .val (.int p3), .val (.int p4), .val (.int p5), .val (.ref b201), .val (.ref b203)] [(.int p2), (.int p2)])) _
    refine XS.icmpNo X223.here hx rfl (hb hby at_67) rfl (teq (rfl : p2 = p2)).2 ?_
    show Steps p.tables e below (T223.setTop (mkF m 70 #[.val (.long q0), .second, .val (.int p1), .val (.int p2), .val (.int p3), .val (.int p4), .val (.int p5), .val (.ref b201), .val (.ref b203)] [])) _
    refine XS.aload X223.here hx rfl (hb hby at_70) rfl rfl ?_
    show Steps p.tables e below (T223.setTop (mkF m 72 #[.val (.long q0), .second, .val (.int p1), .val (.int p2), .val (.int p3), .val (.int p4), .val (.int p5), .val (.ref b201), .val (.ref b203)] [(.ref b203)])) _
    refine st225.trans ?_
    show Steps p.tables e below (T225.setTop (mkF m 75 #[.val (.long q0), .second, .val (.int p1), .val (.int p2), .val (.int p3), .val (.int p4), .val (.int p5), .val (.ref b201), .val (.ref b203)] [(.int p3)])) _
    refine XS.iload X225.here hx rfl (hb hby at_75) rfl ?_
    show Steps p.tables e below (T225.setTop (mkF m 77 #[.val (.long q0), .second, .val (.int p1), .val (.int p2), .val (.int p3), .val (.int p4), .val (.int p5), .val (.ref b201), .val (.ref b203)] [(.int p3), (.int p3)])) _
    refine XS.icmpNo X225.here hx rfl (hb hby at_77) rfl (teq (rfl : p3 = p3)).2 ?_
    show Steps p.tables e below (T225.setTop (mkF m 80 #[.val (.long q0), .second, .val (.int p1), .val (.int p2), .val (.int p3), .val (.int p4), .val (.int p5), .val (.ref b201), .val (.ref b203)] [])) _
    refine XS.aload X225.here hx rfl (hb hby at_80) rfl rfl ?_
    show Steps p.tables e below (T225.setTop (mkF m 82 #[.val (.long q0), .second, .val (.int p1), .val (.int p2), .val (.int p3), .val (.int p4), .val (.int p5), .val (.ref b201), .val (.ref b203)] [(.ref b203)])) _
    refine st227.trans ?_
    show Steps p.tables e below (T227.setTop (mkF m 85 #[.val (.long q0), .second, .val (.int p1), .val (.int p2), .val (.int p3), .val (.int p4), .val (.int p5), .val (.ref b201), .val (.ref b203)] [(.int p4)])) _
    refine XS.iload X227.here hx rfl (hb hby at_85) rfl ?_
    show Steps p.tables e below (T227.setTop (mkF m 87 #[.val (.long q0), .second, .val (.int p1), .val (.int p2), .val (.int p3), .val (.int p4), .val (.int p5), .val (.ref b201), .val (.ref b203)] [(.int p4), (.int p4)])) _
    refine XS.icmpNo X227.here hx rfl (hb hby at_87) rfl (teq (rfl : p4 = p4)).2 ?_
    show Steps p.tables e below (T227.setTop (mkF m 90 #[.val (.long q0), .second, .val (.int p1), .val (.int p2), .val (.int p3), .val (.int p4), .val (.int p5), .val (.ref b201), .val (.ref b203)] [])) _
    refine XS.iconst X227.here hx rfl (hb hby at_90) ?_
    show Steps p.tables e below (T227.setTop (mkF m 91 #[.val (.long q0), .second, .val (.int p1), .val (.int p2), .val (.int p3), .val (.int p4), .val (.int p5), .val (.ref b201), .val (.ref b203)] [(.int (1 : Int32))])) _
    refine XS.goto X227.here hx rfl (pc0 := 91) (pc' := 95) rfl (hb hby at_91) (by decide) (by decide) ?_
    show Steps p.tables e below (T227.setTop (mkF m 95 #[.val (.long q0), .second, .val (.int p1), .val (.int p2), .val (.int p3), .val (.int p4), .val (.int p5), .val (.ref b201), .val (.ref b203)] [(.int (1 : Int32))])) _
    exact kt
  have hfin : (1 : Int32) = 1 := rfl
  obtain ⟨fs, hr, hrun, hended, hW, hsame⟩ := X227.leave (v := some (.int ((1 : Int32) &&& 1))) (fun h => by rw [Bd.returns] at h; cases h)
  refine ⟨_, _, pre229 _ ?_, hrun, hended, _, _, rfl, ?_, ⟨_, rfl⟩, hW, hsame.mono (by decide) (by decide)⟩
  · exact retN X227 hx (t := .boolean) Bd.returns (by simp) (hb hby at_95) hr
  · exact ⟨by rw [hfin]; rfl, N228⟩
set_option maxRecDepth 65536 in
set_option maxHeartbeats 40000000 in
theorem comes_1 {Post : Tables → Env → Array Value → State → Outcome → State → Prop} (hpost : ∀ tb e args s v u, (limb_1_1.after args s (.returned v) u = true ∧ limb_1_2.after args s (.returned v) u = true ∧ True) → FrameEnd s (.returned v) u (Jvm.fieldLocs frame_1_writes args s ++ Jvm.arrayLocs frame_1_arrays args s ++ Jvm.staticLocs frame_1_statics s) 16 128 → Post tb e args s (.returned v) u) :
    ArmFor flags0 classFile x code maxLocals ret World_1 tables_1 room_1 Calls_1 rest_1 Pre_1 Post := by
  intro l hfl _ _ p e ha hc hk s m args below hf hA hF happ hP
  obtain ⟨hcalls, hrest, hpre⟩ := hP
  obtain ⟨-, -, -, hnamed, -, -, -, hat⟩ := (Spec.applies_iff hf).mp happ
  obtain ⟨hg, hn⟩ := and_e (Cond.before_iff.mp (show (Jvm.Cond.and given_1 narrow_1).before args s = true from hpre))
  obtain ⟨hcount, hg0⟩ := and_e hg
  obtain ⟨ha0, hg1⟩ := and_e hg0
  obtain ⟨ha1, hg2⟩ := and_e hg1
  obtain ⟨ha2, hg3⟩ := and_e hg2
  obtain ⟨ha3, hg4⟩ := and_e hg3
  obtain ⟨ha4, hg5⟩ := and_e hg4
  have ha5 := hg5
  obtain ⟨w0, w1, w2, w3, w4, w5, rfl⟩ : ∃ w0 w1 w2 w3 w4 w5 : Value, args = #[w0, w1, w2, w3, w4, w5] := by
    have hs : args.size = 6 := by simpa [Cond.value, given_1] using hcount
    obtain ⟨L⟩ := args
    match L, hs with
    | [w0, w1, w2, w3, w4, w5], _ => exact ⟨w0, w1, w2, w3, w4, w5, rfl⟩
  have hw := fun d (hd : d ∈ tables_1) => atoms_spec (ws := Jvm.Cond.code x code maxLocals ret :: tables_1) hat d (List.mem_cons_of_mem _ hd)
  obtain ⟨i0, ei0⟩ := isL_v ha0
  obtain rfl : w0 = (.long i0) := Option.some.inj ei0
  obtain ⟨i1, ei1⟩ := is_v ha1
  obtain rfl : w1 = (.int i1) := Option.some.inj ei1
  obtain ⟨i2, ei2⟩ := is_v ha2
  obtain rfl : w2 = (.int i2) := Option.some.inj ei2
  obtain ⟨i3, ei3⟩ := is_v ha3
  obtain rfl : w3 = (.int i3) := Option.some.inj ei3
  obtain ⟨i4, ei4⟩ := is_v ha4
  obtain rfl : w4 = (.int i4) := Option.some.inj ei4
  obtain ⟨i5, ei5⟩ := is_v ha5
  obtain rfl : w5 = (.int i5) := Option.some.inj ei5
  obtain ⟨n, o, h1, h2, h3, _, L, rfl, ⟨rfl, N⟩, hq⟩ := rm0 l s _ hw tables_1 i0 i1 i2 i3 i4 i5 s.heap s.heap.size (Nat.le_refl _) p e ha hc hk s m _ below hf ((Spec.applies_iff_loose hf).mp happ).1 ⟨rfl, State.Warmed39.refl s, rfl⟩ trivial
  refine ⟨n, _, h1, h2, h3, hpost _ _ _ _ _ _ ⟨Cond.after_iff.mpr rfl, Cond.after_iff.mpr (eq_i res_at (Term.int_eval (1)) rfl), trivial⟩ ⟨hq.1, hq.2.1, (hq.2.2.sift fun y hy => Or.inr (N y hy)).mono (by decide) (by decide)⟩⟩
theorem main_1_1 : Claimed_1_1 := comes_1 fun _ _ _ _ _ _ h hF => ⟨h.1, hF⟩
theorem main_1_2 : Claimed_1_2 := comes_1 fun _ _ _ _ _ _ h hF => ⟨h.2.1, hF⟩
end Jvm.Pilot.@@N@@
namespace Jvm.Pilot.@@N@@
open Jvm Jvm.ClassFile Sem Op Lib Jvm.Free Jvm.Stand Jvm.Pilot.@@N@@.Jvm.D
/-! MADE BY PROGRAM (witnessworld.py) out of the Statement's table words and the real class files: 9 classes; the members and pool entries that the words name. The judged class is class 1, her method 1. -/
namespace start1
open Jvm.ClassFile
def u (s : String) : CpInfo := .utf8 (stringToUtf16 s)
/-- a pool by its gaps: so many unusable entries, then the entry; so many at the end -/
def gap : Nat → List CpInfo → List CpInfo
  | 0, r => r
  | n + 1, r => .unusable :: gap n r
def poolList (es : List (Nat × CpInfo)) (last : Nat) : List CpInfo := es.foldr (fun e r => gap e.1 (e.2 :: r)) (gap last [])
def pool (es : List (Nat × CpInfo)) (last : Nat) : Array CpInfo := ⟨poolList es last⟩
def fileOf (pool : Array CpInfo) (this : Nat) (attrs : Array Attribute := #[]) (ms : Array MethodInfo := #[]) (fl : Nat := 33) (sup : Nat := 0) (ifs : Array Nat := #[]) (fds : Array FieldInfo := #[]) : ClassFile where
  minorVersion := 0
  majorVersion := 65
  constantPool := pool
  accessFlags := fl
  thisClass := this
  superClass := sup
  interfaces := ifs
  fields := fds
  methods := ms
  attributes := attrs
def plain (name : String) (sup : Option ClassId) : Class where
  name := name
  kind := .ordinary
  loader := none
  accessFlags := 33
  super := sup
  interfaces := #[]
  cf := none
  fields := #[]
  methods := #[]
  instanceTypes := #[]
  staticTypes := #[]
  resolved := #[]
  callSites := []
  init := .initialized
  statics := none
  mirror := none

def pool0 : Array CpInfo := pool [(5, u "<init>"), (0, u "()V"), (1, .class_ 10), (1, u "java/lang/Object")] 113

def k0c0 : Code := { maxStack := 0, maxLocals := 1, code := object_method_1_code, exceptionTable := #[], attributes := #[] }
def k0m0 : Method := { name := "<init>", desc := "()V", sig := { parameters := [], returnType := none }, accessFlags := 1, code := some k0c0 }
/-- java/lang/Object -/
def k0 : Class := { plain "java/lang/Object" none with
  accessFlags := 33
  interfaces := #[]
  cf := some (fileOf pool0 8 #[] #[{ accessFlags := 1, nameIndex := 5, descriptorIndex := 6, attributes := #[] }] 33 0 #[] #[])
  fields := #[]
  methods := #[k0m0]
  instanceTypes := #[]
  staticTypes := #[]
  resolved := Array.replicate 124 none
  statics := none }

def pool1 : Array CpInfo := pool [(2, .class_ 4), (0, .nameAndType 5 6), (0, u "java/lang/Object"), (0, u "<init>"), (0, u "()V"), (0, .class_ 8), (0, u "com/example/wee_find/weefind/MatchContext"), (0, .methodref 7 3), (0, .methodref 7 11), (0, .nameAndType 12 13), (0, u "set"), (0, u "(J[BIIII)V"), (0, .methodref 7 15), (0, .nameAndType 16 17), (0, u "offset"), (0, u "()J"), (0, .methodref 7 19), (0, .nameAndType 20 21), (0, u "bytes"), (0, u "()[B"), (0, .methodref 7 23), (0, .nameAndType 24 25), (0, u "before"), (0, u "()I"), (0, .methodref 7 27), (0, .nameAndType 28 25), (0, u "start"), (0, .methodref 7 30), (0, .nameAndType 31 25), (0, u "end"), (0, .methodref 7 33), (0, .nameAndType 34 25), (0, u "after"), (0, .class_ 36), (0, u "com/example/wee_find/weefind/MatchContextSetPinLaw"), (2, u "law"), (0, u "(JIIIII)Z")] 5

def k1m0 : Method := { name := "<init>", desc := "()V", sig := { parameters := [], returnType := none }, accessFlags := 1, code := none }
def k1c1 : Code := { maxStack := 8, maxLocals := 9, code := code, exceptionTable := #[], attributes := #[] }
def k1m1 : Method := { name := "law", desc := "(JIIIII)Z", sig := { parameters := [.long, .int, .int, .int, .int, .int], returnType := some .boolean }, accessFlags := 9, code := some k1c1 }
/-- com/example/wee_find/weefind/MatchContextSetPinLaw -/
def k1 : Class := { plain "com/example/wee_find/weefind/MatchContextSetPinLaw" (some 0) with
  accessFlags := 49
  interfaces := #[]
  cf := some (fileOf pool1 35 #[] #[{ accessFlags := 1, nameIndex := 5, descriptorIndex := 6, attributes := #[] }, { accessFlags := 9, nameIndex := 39, descriptorIndex := 40, attributes := #[] }] 49 2 #[] #[])
  fields := #[]
  methods := #[k1m0, k1m1]
  instanceTypes := #[]
  staticTypes := #[]
  resolved := Array.replicate 46 none
  statics := none }

def pool2 : Array CpInfo := pool [(1, .methodref 2 3), (0, .class_ 4), (0, .nameAndType 5 6), (0, u "java/lang/Object"), (0, u "<init>"), (0, u "()V"), (0, .fieldref 8 9), (0, .class_ 10), (0, .nameAndType 11 12), (0, u "com/example/wee_find/weefind/MatchContext"), (0, u "bytes"), (0, u "[B"), (0, .fieldref 8 14), (0, .nameAndType 15 16), (0, u "offset"), (0, u "J"), (0, .fieldref 8 18), (0, .nameAndType 19 20), (0, u "before"), (0, u "I"), (0, .fieldref 8 22), (0, .nameAndType 23 20), (0, u "start"), (0, .fieldref 8 25), (0, .nameAndType 26 20), (0, u "end"), (0, .fieldref 8 28), (0, .nameAndType 29 20), (0, u "after"), (11, u "set"), (0, u "(J[BIIII)V"), (17, u "()J"), (0, u "()[B"), (0, u "()I")] 2

def k2c0 : Code := { maxStack := 2, maxLocals := 1, code := prog_28_method_1_code, exceptionTable := #[], attributes := #[] }
def k2m0 : Method := { name := "<init>", desc := "()V", sig := { parameters := [], returnType := none }, accessFlags := 0, code := some k2c0 }
def k2c1 : Code := { maxStack := 3, maxLocals := 8, code := prog_28_method_2_code, exceptionTable := #[], attributes := #[] }
def k2m1 : Method := { name := "set", desc := "(J[BIIII)V", sig := { parameters := [.long, (.array .byte), .int, .int, .int, .int], returnType := none }, accessFlags := 0, code := some k2c1 }
def k2c2 : Code := { maxStack := 2, maxLocals := 1, code := prog_28_method_5_code, exceptionTable := #[], attributes := #[] }
def k2m2 : Method := { name := "offset", desc := "()J", sig := { parameters := [], returnType := some .long }, accessFlags := 1, code := some k2c2 }
def k2c3 : Code := { maxStack := 1, maxLocals := 1, code := prog_28_method_6_code, exceptionTable := #[], attributes := #[] }
def k2m3 : Method := { name := "bytes", desc := "()[B", sig := { parameters := [], returnType := some (.array .byte) }, accessFlags := 1, code := some k2c3 }
def k2c4 : Code := { maxStack := 1, maxLocals := 1, code := prog_28_method_7_code, exceptionTable := #[], attributes := #[] }
def k2m4 : Method := { name := "before", desc := "()I", sig := { parameters := [], returnType := some .int }, accessFlags := 1, code := some k2c4 }
def k2c5 : Code := { maxStack := 1, maxLocals := 1, code := prog_28_method_8_code, exceptionTable := #[], attributes := #[] }
def k2m5 : Method := { name := "start", desc := "()I", sig := { parameters := [], returnType := some .int }, accessFlags := 1, code := some k2c5 }
def k2c6 : Code := { maxStack := 1, maxLocals := 1, code := prog_28_method_9_code, exceptionTable := #[], attributes := #[] }
def k2m6 : Method := { name := "end", desc := "()I", sig := { parameters := [], returnType := some .int }, accessFlags := 1, code := some k2c6 }
def k2c7 : Code := { maxStack := 1, maxLocals := 1, code := prog_28_method_10_code, exceptionTable := #[], attributes := #[] }
def k2m7 : Method := { name := "after", desc := "()I", sig := { parameters := [], returnType := some .int }, accessFlags := 1, code := some k2c7 }
/-- com/example/wee_find/weefind/MatchContext -/
def k2 : Class := { plain "com/example/wee_find/weefind/MatchContext" (some 0) with
  accessFlags := 49
  interfaces := #[]
  cf := some (fileOf pool2 8 #[] #[{ accessFlags := 0, nameIndex := 5, descriptorIndex := 6, attributes := #[] }, { accessFlags := 0, nameIndex := 41, descriptorIndex := 42, attributes := #[] }, { accessFlags := 1, nameIndex := 15, descriptorIndex := 60, attributes := #[] }, { accessFlags := 1, nameIndex := 11, descriptorIndex := 61, attributes := #[] }, { accessFlags := 1, nameIndex := 19, descriptorIndex := 62, attributes := #[] }, { accessFlags := 1, nameIndex := 23, descriptorIndex := 62, attributes := #[] }, { accessFlags := 1, nameIndex := 26, descriptorIndex := 62, attributes := #[] }, { accessFlags := 1, nameIndex := 29, descriptorIndex := 62, attributes := #[] }] 49 2 #[] #[{ accessFlags := 2, nameIndex := 15, descriptorIndex := 16, attributes := #[] }, { accessFlags := 2, nameIndex := 11, descriptorIndex := 12, attributes := #[] }, { accessFlags := 2, nameIndex := 19, descriptorIndex := 20, attributes := #[] }, { accessFlags := 2, nameIndex := 23, descriptorIndex := 20, attributes := #[] }, { accessFlags := 2, nameIndex := 26, descriptorIndex := 20, attributes := #[] }, { accessFlags := 2, nameIndex := 29, descriptorIndex := 20, attributes := #[] }])
  fields := #[{ name := "offset", type := .long, accessFlags := 2, slot := 0, constantValue := 0 }, { name := "bytes", type := (.array .byte), accessFlags := 2, slot := 1, constantValue := 0 }, { name := "before", type := .int, accessFlags := 2, slot := 2, constantValue := 0 }, { name := "start", type := .int, accessFlags := 2, slot := 3, constantValue := 0 }, { name := "end", type := .int, accessFlags := 2, slot := 4, constantValue := 0 }, { name := "after", type := .int, accessFlags := 2, slot := 5, constantValue := 0 }]
  methods := #[k2m0, k2m1, k2m2, k2m3, k2m4, k2m5, k2m6, k2m7]
  instanceTypes := #[.long, (.array .byte), .int, .int, .int, .int]
  staticTypes := #[]
  resolved := Array.replicate 65 none
  statics := none }

def pool3 : Array CpInfo := pool [(1, u "java/lang/Cloneable"), (0, .class_ 1), (0, u "java/lang/Object"), (0, .class_ 3)] 3

/-- java/lang/Cloneable -/
def k3 : Class := { plain "java/lang/Cloneable" (some 0) with
  accessFlags := 1537
  interfaces := #[]
  cf := some (fileOf pool3 2 #[] #[] 1537 4 #[] #[])
  fields := #[]
  methods := #[]
  instanceTypes := #[]
  staticTypes := #[]
  resolved := Array.replicate 8 none
  statics := none }

def pool4 : Array CpInfo := pool [(1, u "java/io/Serializable"), (0, .class_ 1), (0, u "java/lang/Object"), (0, .class_ 3)] 3

/-- java/io/Serializable -/
def k4 : Class := { plain "java/io/Serializable" (some 0) with
  accessFlags := 1537
  interfaces := #[]
  cf := some (fileOf pool4 2 #[] #[] 1537 4 #[] #[])
  fields := #[]
  methods := #[]
  instanceTypes := #[]
  staticTypes := #[]
  resolved := Array.replicate 8 none
  statics := none }

/-- the primitive byte -/
def k5 : Class := { plain "byte" none with kind := .primitive 'B', accessFlags := 0x411 }
/-- [B -/
def k6 : Class := { plain "[B" (some 0) with kind := .array 5 .byte, interfaces := #[3, 4], accessFlags := 1041 }

/-- the primitive int -/
def k7 : Class := { plain "int" none with kind := .primitive 'I', accessFlags := 0x411 }
/-- [I -/
def k8 : Class := { plain "[I" (some 0) with kind := .array 7 .int, interfaces := #[3, 4], accessFlags := 1041 }

def heap : Heap := #[]
def classes : Array Class := #[k0, k1, k2, k3, k4, k5, k6, k7, k8]
def interned : List (Array UInt16 × Addr) := []
def slotsUsed : Nat := 0
def theMethod : MethodId := ⟨1, 1⟩
def args0 : Array Value := #[.long 5, .int 5, .int 5, .int 5, .int 5, .int 5]
def aboutOver (below : List Frame) : State where
  vm := { classes := classes, interned := interned.toArray }
  heap := heap
  slotsUsed := slotsUsed
  threads := #[{ frames := .invoking theMethod args0 :: below }]
def below0 : List Frame := [.native { method := ⟨0, 0⟩, args := #[] }]
def about1 : State := aboutOver below0
def p0 : Program := .bare "" "" ""
def e0 : Env := launch0.env 0 0 0
theorem w_frames : about1.frames = Frame.invoking theMethod args0 :: below0 := rfl
set_option maxRecDepth 65536 in
theorem w_args : argsFit about1.vm theMethod args0 = true := by decide +kernel
set_option maxRecDepth 65536 in
theorem w_heap : heapFits about1 = true := by decide +kernel
set_option maxRecDepth 65536 in
theorem w_runnable : about1.curStatus? = some .runnable := by decide +kernel
set_option maxRecDepth 65536 in
theorem w_alone : about1.alone = true := by decide +kernel
set_option maxRecDepth 65536 in
theorem w_named : about1.methodNamed? x = some theMethod := by decide +kernel
set_option maxRecDepth 65536 in
theorem w_hears : about1.hears theMethod below0 = true := by decide +kernel
set_option maxRecDepth 65536 in
theorem w_ripe : about1.ripe theMethod args0 below0 = true := by decide +kernel
theorem w_running : about1.status = .running := rfl
set_option maxRecDepth 65536 in
theorem w_room : about1.hasRoom e0.platform room_1 = true :=
  launch0.hasRoom_least _ room_1 (by decide +kernel) (by decide +kernel) (by decide +kernel) (by decide +kernel) (by decide +kernel) (by decide +kernel)
theorem allAtoms_all (ts : List Jvm.Cond) (a : Array Jvm.Value) (st : Jvm.State) : (allAtoms ts).before a st = ts.all (fun c => c.before a st) := by
  induction ts with
  | nil => rfl
  | cons c t ih =>
    show (Jvm.Cond.and c (allAtoms t)).before a st = _
    rw [Jvm.Cond.before_and, ih, List.all_cons]
def words1 : List Jvm.Cond := Jvm.Cond.code x code maxLocals ret :: tables_1
/-- a 'code' word, met by the world's own term for the bytes: nothing is compared byte by byte -/
theorem code_word {y : MethodName} {bytes : ByteArray} {mx : Nat} {rt : Option FieldType} {a : Array Value} {s : State} {m : MethodId} {meth : Method} {c : Code} (h1 : s.methodNamed? y = some m) (h2 : s.vm.method? m = some meth) (h3 : meth.code = some c) (h4 : c.code = bytes)
    (h5 : (c.maxLocals == mx && c.exceptionTable.isEmpty && decide (c.maxStack ≤ mostOperands) && decide (meth.sig.returnType = rt) && !meth.locks && decide (parseMethodDescriptor y.desc = some meth.sig)) = true) : (Jvm.Cond.code y bytes mx rt).before a s = true := by
  simp only [Bool.and_eq_true, beq_iff_eq, Bool.not_eq_true', decide_eq_true_eq] at h5
  obtain ⟨⟨⟨⟨⟨g1, g2⟩, g3⟩, g4⟩, g5⟩, g6⟩ := h5
  simp [Cond.before, Cond.holds, Cond.value, h1, h2, h3, h4, g1, g2, g3, g4, g5, g6]
def isCode : Jvm.Cond → Bool
  | .code _ _ _ _ => true
  | _ => false
theorem all_split {L : List Jvm.Cond} {P : Jvm.Cond → Bool} (h1 : L.all (fun c => isCode c || P c) = true) (h2 : ∀ c ∈ L.filter isCode, P c = true) : L.all P = true := by
  refine List.all_eq_true.mpr fun c hc => ?_
  have h := List.all_eq_true.mp h1 c hc
  rcases Bool.eq_false_or_eq_true (isCode c) with hi | hi
  · exact h2 c (List.mem_filter.mpr ⟨hc, hi⟩)
  · simpa [hi] using h
set_option maxRecDepth 65536 in
theorem w_c0 : (Jvm.Cond.code x code maxLocals ret).before args0 about1 = true := code_word (m := ⟨1, 1⟩) (meth := k1m1) (c := k1c1) (by decide +kernel) rfl rfl rfl (by decide +kernel)
set_option maxRecDepth 65536 in
theorem w_c1 : (Jvm.Cond.code ({ cls := "com/example/wee_find/weefind/MatchContext", name := "<init>", desc := "()V" } : Jvm.MethodName) prog_28_method_1_code (1 : Nat) (Option.none : Option Jvm.ClassFile.FieldType)).before args0 about1 = true := code_word (m := ⟨2, 0⟩) (meth := k2m0) (c := k2c0) (by decide +kernel) rfl rfl rfl (by decide +kernel)
set_option maxRecDepth 65536 in
theorem w_c2 : (Jvm.Cond.code ({ cls := "java/lang/Object", name := "<init>", desc := "()V" } : Jvm.MethodName) object_method_1_code (1 : Nat) (Option.none : Option Jvm.ClassFile.FieldType)).before args0 about1 = true := code_word (m := ⟨0, 0⟩) (meth := k0m0) (c := k0c0) (by decide +kernel) rfl rfl rfl (by decide +kernel)
set_option maxRecDepth 65536 in
theorem w_c3 : (Jvm.Cond.code ({ cls := "com/example/wee_find/weefind/MatchContext", name := "set", desc := "(J[BIIII)V" } : Jvm.MethodName) prog_28_method_2_code (8 : Nat) (Option.none : Option Jvm.ClassFile.FieldType)).before args0 about1 = true := code_word (m := ⟨2, 1⟩) (meth := k2m1) (c := k2c1) (by decide +kernel) rfl rfl rfl (by decide +kernel)
set_option maxRecDepth 65536 in
theorem w_c4 : (Jvm.Cond.code ({ cls := "com/example/wee_find/weefind/MatchContext", name := "offset", desc := "()J" } : Jvm.MethodName) prog_28_method_5_code (1 : Nat) (Option.some Jvm.ClassFile.FieldType.long)).before args0 about1 = true := code_word (m := ⟨2, 2⟩) (meth := k2m2) (c := k2c2) (by decide +kernel) rfl rfl rfl (by decide +kernel)
set_option maxRecDepth 65536 in
theorem w_c5 : (Jvm.Cond.code ({ cls := "com/example/wee_find/weefind/MatchContext", name := "bytes", desc := "()[B" } : Jvm.MethodName) prog_28_method_6_code (1 : Nat) (Option.some (Jvm.ClassFile.FieldType.array Jvm.ClassFile.FieldType.byte))).before args0 about1 = true := code_word (m := ⟨2, 3⟩) (meth := k2m3) (c := k2c3) (by decide +kernel) rfl rfl rfl (by decide +kernel)
set_option maxRecDepth 65536 in
theorem w_c6 : (Jvm.Cond.code ({ cls := "com/example/wee_find/weefind/MatchContext", name := "before", desc := "()I" } : Jvm.MethodName) prog_28_method_7_code (1 : Nat) (Option.some Jvm.ClassFile.FieldType.int)).before args0 about1 = true := code_word (m := ⟨2, 4⟩) (meth := k2m4) (c := k2c4) (by decide +kernel) rfl rfl rfl (by decide +kernel)
set_option maxRecDepth 65536 in
theorem w_c7 : (Jvm.Cond.code ({ cls := "com/example/wee_find/weefind/MatchContext", name := "start", desc := "()I" } : Jvm.MethodName) prog_28_method_8_code (1 : Nat) (Option.some Jvm.ClassFile.FieldType.int)).before args0 about1 = true := code_word (m := ⟨2, 5⟩) (meth := k2m5) (c := k2c5) (by decide +kernel) rfl rfl rfl (by decide +kernel)
set_option maxRecDepth 65536 in
theorem w_c8 : (Jvm.Cond.code ({ cls := "com/example/wee_find/weefind/MatchContext", name := "end", desc := "()I" } : Jvm.MethodName) prog_28_method_9_code (1 : Nat) (Option.some Jvm.ClassFile.FieldType.int)).before args0 about1 = true := code_word (m := ⟨2, 6⟩) (meth := k2m6) (c := k2c6) (by decide +kernel) rfl rfl rfl (by decide +kernel)
set_option maxRecDepth 65536 in
theorem w_c9 : (Jvm.Cond.code ({ cls := "com/example/wee_find/weefind/MatchContext", name := "after", desc := "()I" } : Jvm.MethodName) prog_28_method_10_code (1 : Nat) (Option.some Jvm.ClassFile.FieldType.int)).before args0 about1 = true := code_word (m := ⟨2, 7⟩) (meth := k2m7) (c := k2c7) (by decide +kernel) rfl rfl rfl (by decide +kernel)
def codes1 : List Jvm.Cond := [Jvm.Cond.code x code maxLocals ret, Jvm.Cond.code ({ cls := "com/example/wee_find/weefind/MatchContext", name := "<init>", desc := "()V" } : Jvm.MethodName) prog_28_method_1_code (1 : Nat) (Option.none : Option Jvm.ClassFile.FieldType), Jvm.Cond.code ({ cls := "java/lang/Object", name := "<init>", desc := "()V" } : Jvm.MethodName) object_method_1_code (1 : Nat) (Option.none : Option Jvm.ClassFile.FieldType), Jvm.Cond.code ({ cls := "com/example/wee_find/weefind/MatchContext", name := "set", desc := "(J[BIIII)V" } : Jvm.MethodName) prog_28_method_2_code (8 : Nat) (Option.none : Option Jvm.ClassFile.FieldType), Jvm.Cond.code ({ cls := "com/example/wee_find/weefind/MatchContext", name := "offset", desc := "()J" } : Jvm.MethodName) prog_28_method_5_code (1 : Nat) (Option.some Jvm.ClassFile.FieldType.long), Jvm.Cond.code ({ cls := "com/example/wee_find/weefind/MatchContext", name := "bytes", desc := "()[B" } : Jvm.MethodName) prog_28_method_6_code (1 : Nat) (Option.some (Jvm.ClassFile.FieldType.array Jvm.ClassFile.FieldType.byte)), Jvm.Cond.code ({ cls := "com/example/wee_find/weefind/MatchContext", name := "before", desc := "()I" } : Jvm.MethodName) prog_28_method_7_code (1 : Nat) (Option.some Jvm.ClassFile.FieldType.int), Jvm.Cond.code ({ cls := "com/example/wee_find/weefind/MatchContext", name := "start", desc := "()I" } : Jvm.MethodName) prog_28_method_8_code (1 : Nat) (Option.some Jvm.ClassFile.FieldType.int), Jvm.Cond.code ({ cls := "com/example/wee_find/weefind/MatchContext", name := "end", desc := "()I" } : Jvm.MethodName) prog_28_method_9_code (1 : Nat) (Option.some Jvm.ClassFile.FieldType.int), Jvm.Cond.code ({ cls := "com/example/wee_find/weefind/MatchContext", name := "after", desc := "()I" } : Jvm.MethodName) prog_28_method_10_code (1 : Nat) (Option.some Jvm.ClassFile.FieldType.int)]
set_option maxRecDepth 65536 in
theorem codes_eq : words1.filter isCode = codes1 := rfl
theorem w_codes : ∀ c ∈ words1.filter isCode, c.before args0 about1 = true := by
  rw [codes_eq]
  intro c hc
  simp only [codes1, List.mem_cons, List.not_mem_nil, or_false] at hc
  rcases hc with rfl | rfl | rfl | rfl | rfl | rfl | rfl | rfl | rfl | rfl
  · exact w_c0
  · exact w_c1
  · exact w_c2
  · exact w_c3
  · exact w_c4
  · exact w_c5
  · exact w_c6
  · exact w_c7
  · exact w_c8
  · exact w_c9
set_option maxRecDepth 65536 in
theorem w_t1 : (words1.take 24).all (fun c => isCode c || c.before args0 about1) = true := by decide +kernel
set_option maxRecDepth 65536 in
theorem w_t2 : ((words1.drop 24).take 24).all (fun c => isCode c || c.before args0 about1) = true := by decide +kernel
set_option maxRecDepth 65536 in
theorem w_t3 : ((words1.drop 24).drop 24).all (fun c => isCode c || c.before args0 about1) = true := by decide +kernel
theorem w_tables : (allAtoms (Jvm.Cond.code x code maxLocals ret :: tables_1)).before args0 about1 = true := by
  rw [allAtoms_all]
  show words1.all (fun c => c.before args0 about1) = true
  refine all_split ?_ w_codes
  rw [← List.take_append_drop 24 words1, List.all_append, w_t1, ← List.take_append_drop 24 (words1.drop 24), List.all_append, w_t2, w_t3]
  rfl
set_option maxRecDepth 65536 in
theorem w_case : (Jvm.Cond.and given_1 narrow_1).before args0 about1 = true := by decide +kernel
theorem w_applies : (headSpec (Jvm.Cond.code x code maxLocals ret :: tables_1) room_1).applies x e0.platform about1 = true :=
  (Spec.applies_iff w_frames).mpr ⟨w_running, w_runnable, w_alone, w_named, w_hears, w_ripe, w_room, w_tables⟩
theorem atStart : AtStart classFile x code maxLocals ret World_1 tables_1 room_1 Calls_1 rest_1 Pre_1 launch0 p0 e0 about1 theMethod args0 below0 :=
  ⟨lists_1, trivial, launch0.admits_env _ _ _, launch0.least_env, fairChoices_fair.cas, fairChoices_fair.clock, w_frames, w_args, w_heap, w_applies, trivial, trivial, w_case⟩
end start1
theorem witness_1 : WitnessClaimed_1 := ⟨start1.p0, start1.e0, start1.about1, start1.theMethod, start1.args0, start1.below0, start1.atStart⟩
end Jvm.Pilot.@@N@@
