import JvmDerived
import JvmDerived.Pilot.@@N@@Statement
import JvmDerived.Pilot.@@N@@Code
set_option linter.unusedVariables false
set_option linter.unusedSimpArgs false
@@BLOCK:NumsL.lean.txt@@
namespace Jvm.RoadKit
open Sem ClassFile Op Lib Jvm.Stand Jvm.Free Jvm.LawKit
section New
variable {p : Program} {l : Launch} {e : Env} {R : Room} {s : State} {m : MethodId} {args : Array Value} {below : List Frame} {meth : Method} {c : Code} {T : State} {locs : List Loc} {cells slots : Nat}
theorem retI (X : Stand p l e R s m args below meth c T locs cells slots) (hx : p.tables.exec = Jvm.exec) {pc : Nat} {Ls : Array Slot} {z : Int32} {rest : List Value} (hret : meth.sig.returnType = some .int) (hd : decode c.code pc = .ok (.ireturn, 1)) {fs : List Frame}
    (hl : ∀ (f : JFrame) (acts : List Action), f.method = m → f.locked = none → f.entered = [] → (doReturn e (T.setTop f) acts (some (.int z))).1 = T.setFrames fs) : Steps p.tables e below (T.setTop (mkF m pc Ls (.int z :: rest))) (T.setFrames fs) := by
  have hm' : T.vm.method? m = some meth := X.method'
  have hn : narrow .int (.int z) = .int z := rfl
  show Steps p.tables e below (T.setTop { method := m, pc := pc, locals := Ls, stack := _ :: rest, locked := none }) _
  jvm_step X.here [X.here.top, hx, hd, hm', hret, hn]
  first | (intro acts; rw [hl _ acts rfl rfl rfl]) | rw [hl _ _ rfl rfl rfl]
  exact Steps.refl _
end New
end Jvm.RoadKit
namespace Jvm.Pilot.@@N@@
open Jvm Jvm.ClassFile Sem Op Lib Jvm.Free Jvm.Stand Jvm.LawKit Jvm.RoadKit Bundle Jvm.Pilot.@@N@@.Jvm.D
theorem own_lwN {x y : Int64} (h : ¬ x = y) : ¬ lcmpW x y = 0 := fun q => h ((lw_eq x y).mp q)
theorem own_lwE {x y : Int64} (h : x = y) : lcmpW x y = 0 := (lw_eq x y).mpr h
theorem own_lwL {x y : Int64} (h : x < y) : lcmpW x y < 0 := (lw_lt x y).mpr h
theorem own_lwM {x y : Int64} (h : ¬ x < y) : ¬ lcmpW x y < 0 := fun q => h ((lw_lt x y).mp q)
theorem own_lwG {x y : Int64} (h : y < x) : 0 < lcmpW x y := (lw_gt x y).mpr h
theorem own_lwH {x y : Int64} (h : ¬ y < x) : ¬ 0 < lcmpW x y := fun q => h ((lw_gt x y).mp q)
theorem own_F {Z : State} {h : Heap} {a : Addr} {C n d : String} {v w : Value} (q : v = w) (F : Fld Z h a C n d v) : Fld Z h a C n d w := q ▸ F
theorem own_rI {x y : Int32} (q : x = y) : (some (Value.int x)) = some (.int y) := by rw [q]
theorem own_rJ {x y : Int64} (q : x = y) : (some (Value.long x)) = some (.long y) := by rw [q]
theorem d2_0 : decode prog_2_method_2_code 0 = .ok (.aload_n 0, 1) := by decide +kernel
theorem d2_1 : decode prog_2_method_2_code 1 = .ok (.invokespecial 7, 3) := by decide +kernel
theorem d2_4 : decode prog_2_method_2_code 4 = .ok (.aload_n 0, 1) := by decide +kernel
theorem d2_5 : decode prog_2_method_2_code 5 = .ok (.iload_n 1, 1) := by decide +kernel
theorem d2_6 : decode prog_2_method_2_code 6 = .ok (.putfield 12, 3) := by decide +kernel
theorem d2_9 : decode prog_2_method_2_code 9 = .ok (.return_, 1) := by decide +kernel
theorem pn10005760 : plainName "tierlock/Epoch" = true := by first | (simp [plainName, overriddenIn]; done) | decide +kernel
theorem ef_2 (m : MethodId) (a0 : Addr) (p1 : Int32) : entryFrame m #[(.ref a0), (.int p1)] 2 = mkF m 0 #[.val (.ref a0), .val (.int p1)] [] := by first | (simp [entryFrame, mkF, argsToLocals, Value.category]; done) | rfl
def Q2 (Z : State) (a0 : Addr) (p1 : Int32) (u_number : Int32) (u_past : Int32) (h0 : Heap) (n0 : Nat) (v : Option Value) (h : Heap) (L : List Loc) : Prop := v = none ∧ Fr n0 L ∧ Keep h0 h [a0] ∧ Exa Z h a0 "tierlock/Epoch" ∧ Fld Z h a0 "tierlock/Epoch" "number" "I" (.int p1) ∧ Fld Z h a0 "tierlock/Epoch" "past" "Z" (.int u_past)
set_option maxRecDepth 65536 in
set_option maxHeartbeats 40000000 in
theorem rm2 (l : Launch) (Z : State) (aq : Array Value) (hw : ∀ d ∈ tables_1, d.before aq Z = true) (ws : List Jvm.Cond) (a0 : Addr) (p1 : Int32) (u_number : Int32) (u_past : Int32) (h0 : Heap) (n0 : Nat) (Z0 : n0 ≤ h0.size) (E_a0 : Exa Z h0 a0 "tierlock/Epoch") (F_number : Fld Z h0 a0 "tierlock/Epoch" "number" "I" (.int u_number)) (F_past : Fld Z h0 a0 "tierlock/Epoch" "past" "Z" (.int u_past)) (g_a0 : n0 ≤ a0) :
    MetFree l (⟨"tierlock/Epoch", "<init>", "(I)V"⟩ : MethodName) (head1 (Jvm.Cond.code (⟨"tierlock/Epoch", "<init>", "(I)V"⟩ : MethodName) prog_2_method_2_code 2 none :: ws) ({ frames := 1, cells := 0, slots := 0, locals := 12 } : Room)) (fun a U => a = #[(.ref a0), (.int p1)] ∧ Z.Warmed39 U.vm ∧ U.heap = h0) (fun _ _ _ _ _ => True) (fun _ U o U' => ∃ v L, o = .returned v ∧ Q2 Z a0 p1 u_number u_past h0 n0 v U'.heap L ∧ FrameEnd U o U' L ({ frames := 1, cells := 0, slots := 0, locals := 12 } : Room).cells ({ frames := 1, cells := 0, slots := 0, locals := 12 } : Room).slots) := by
  refine MetFree.of_bodySF (plainFor_of_name pn10005760) hisR ?_
  intro p e s m args below meth c s₁ Bd hml0 hP hK
  obtain ⟨rfl, hZ, hh⟩ := hP
  have hx := Bd.exec
  have hby := Bd.bytes
  have hml : c.maxLocals = 2 := hml0
  have hown : s.vm.findClass "tierlock/Epoch" = some m.cls := findClass_of_methodNamed Bd.named
  have hnm := (name_of_methodNamed Bd.named Bd.method).1
  have X0 : Stand p l e ({ frames := 1, cells := 0, slots := 0, locals := 12 } : Room) s m #[(.ref a0), (.int p1)] below meth c s₁ [] 0 0 := Stand.of_body Bd
  have e0 : s₁.heap = h0 := by rw [← hh, Bd.state]; rfl
  have N0 := Fr.nil n0
  have K0 : Keep h0 h0 [a0] := Keep.refl _ _
  have pre0 : ∀ t, Steps p.tables e below (s₁.setTop (mkF m 0 #[.val (.ref a0), .val (.int p1)] [])) t → Steps p.tables e below (s₁.setTop (entryFrame m #[(.ref a0), (.int p1)] 2)) t := fun t k => castTop (ef_2 m a0 p1) k
  obtain ⟨T9, X9, e9, st9⟩ := initO X0 hx hZ hown (hw _ (List.mem_of_getElem? (i := 9) rfl)) (hw _ (List.mem_of_getElem? (i := 10) rfl)) (hw _ (List.mem_of_getElem? (i := 11) rfl)) e0 (g := (mkF m 1 #[.val (.ref a0), .val (.int p1)] [(.ref a0)])) rfl (by rw [hml]; rfl) rfl (hb hby d2_1) (by decide) (W := 0) (by show 2 * 0 + _ ≤ _; exact Nat.le_of_eq rfl) (by decide)
  obtain ⟨T10, h10, X10, e10, W10, st10⟩ := putF X9 hx hZ hown (host := "") (Or.inl (hw _ (List.mem_of_getElem? (i := 12) rfl))) Via.refl e9 F_number E_a0 (Or.inr ⟨(hw _ (List.mem_of_getElem? (i := 13) rfl)), rfl, hnm⟩) (hw _ (List.mem_of_getElem? (i := 1) rfl)) (ty := .int) (by decide) rfl rfl (g := (mkF m 6 #[.val (.ref a0), .val (.int p1)] [(.int p1), (.ref a0)])) rfl rfl (hb hby d2_6)
  have E11 := E_a0.wr W10
  have F12 : Fld Z h10 a0 "tierlock/Epoch" "number" "I" (.int p1) := F_number.same W10
  have F13 := F_past.other W10 (Or.inr (slot_ne (Or.inl (hw _ (List.mem_of_getElem? (i := 20) rfl))) (Or.inr (hw _ (List.mem_of_getElem? (i := 13) rfl))) (by decide) (t := .boolean) (t' := .int) (by decide) (by decide)))
  have N14 := Fr.snoc X10 N0 g_a0
  have K15 : Keep h0 h10 [a0] := K0.wr W10 (Or.inl (List.mem_of_getElem? (i := 0) rfl))
  have Z16 : n0 ≤ h10.size := Nat.le_trans Z0 (Keep.of_wr W10).1
  have pre17 : ∀ t, Steps p.tables e below (T10.setTop (mkF m 9 #[.val (.ref a0), .val (.int p1)] [])) t → Steps p.tables e below (s₁.setTop (entryFrame m #[(.ref a0), (.int p1)] 2)) t := fun t kt => by
    refine pre0 _ ?_
    show Steps p.tables e below (s₁.setTop (mkF m 0 #[.val (.ref a0), .val (.int p1)] [])) _
    refine XS.aloadN X0.here hx rfl (hb hby d2_0) rfl rfl ?_
    show Steps p.tables e below (s₁.setTop (mkF m 1 #[.val (.ref a0), .val (.int p1)] [(.ref a0)])) _
    refine st9 _ ?_
    show Steps p.tables e below (T9.setTop (mkF m 4 #[.val (.ref a0), .val (.int p1)] [])) _
    refine XS.aloadN X9.here hx rfl (hb hby d2_4) rfl rfl ?_
    show Steps p.tables e below (T9.setTop (mkF m 5 #[.val (.ref a0), .val (.int p1)] [(.ref a0)])) _
    refine XS.iloadN X9.here hx rfl (hb hby d2_5) rfl ?_
    show Steps p.tables e below (T9.setTop (mkF m 6 #[.val (.ref a0), .val (.int p1)] [(.int p1), (.ref a0)])) _
    refine st10 _ ?_
    show Steps p.tables e below (T10.setTop (mkF m 9 #[.val (.ref a0), .val (.int p1)] [])) _
    exact kt
  obtain ⟨fs, hr, hrun, hended, hW, hsame⟩ := X10.leave (v := none) (fun _ => rfl)
  refine ⟨_, _, pre17 _ ?_, hrun, hended, _, _, rfl, ?_, ⟨_, rfl⟩, hW, hsame.mono (by decide) (by decide)⟩
  · exact X10.returnOut hx Bd.returns (hb hby d2_9) hr
  · show Q2 Z a0 p1 u_number u_past h0 n0 _ T10.heap _
    rw [e10]
    exact ⟨rfl, N14, K15, E11, F12, F13⟩
theorem d1_0 : decode prog_2_method_1_code 0 = .ok (.aload_n 0, 1) := by decide +kernel
theorem d1_1 : decode prog_2_method_1_code 1 = .ok (.iconst 0, 1) := by decide +kernel
theorem d1_2 : decode prog_2_method_1_code 2 = .ok (.invokespecial 1, 3) := by decide +kernel
theorem d1_5 : decode prog_2_method_1_code 5 = .ok (.return_, 1) := by decide +kernel
theorem pd87992021 : parseMethodDescriptor "(I)V" = some ⟨[.int], none⟩ := by decide +kernel
theorem ef_1 (m : MethodId) (a0 : Addr) : entryFrame m #[(.ref a0)] 1 = mkF m 0 #[.val (.ref a0)] [] := by first | (simp [entryFrame, mkF, argsToLocals, Value.category]; done) | rfl
def Q1 (Z : State) (a0 : Addr) (u_number : Int32) (u_past : Int32) (h0 : Heap) (n0 : Nat) (v : Option Value) (h : Heap) (L : List Loc) : Prop := v = none ∧ Fr n0 L ∧ Keep h0 h [a0] ∧ Exa Z h a0 "tierlock/Epoch" ∧ Fld Z h a0 "tierlock/Epoch" "number" "I" (.int (0 : Int32)) ∧ Fld Z h a0 "tierlock/Epoch" "past" "Z" (.int u_past)
set_option maxRecDepth 65536 in
set_option maxHeartbeats 40000000 in
theorem rm1 (l : Launch) (Z : State) (aq : Array Value) (hw : ∀ d ∈ tables_1, d.before aq Z = true) (ws : List Jvm.Cond) (a0 : Addr) (u_number : Int32) (u_past : Int32) (h0 : Heap) (n0 : Nat) (Z0 : n0 ≤ h0.size) (E_a0 : Exa Z h0 a0 "tierlock/Epoch") (F_number : Fld Z h0 a0 "tierlock/Epoch" "number" "I" (.int u_number)) (F_past : Fld Z h0 a0 "tierlock/Epoch" "past" "Z" (.int u_past)) (g_a0 : n0 ≤ a0) :
    MetFree l (⟨"tierlock/Epoch", "<init>", "()V"⟩ : MethodName) (head1 (Jvm.Cond.code (⟨"tierlock/Epoch", "<init>", "()V"⟩ : MethodName) prog_2_method_1_code 1 none :: ws) ({ frames := 2, cells := 0, slots := 0, locals := 25 } : Room)) (fun a U => a = #[(.ref a0)] ∧ Z.Warmed39 U.vm ∧ U.heap = h0) (fun _ _ _ _ _ => True) (fun _ U o U' => ∃ v L, o = .returned v ∧ Q1 Z a0 u_number u_past h0 n0 v U'.heap L ∧ FrameEnd U o U' L ({ frames := 2, cells := 0, slots := 0, locals := 25 } : Room).cells ({ frames := 2, cells := 0, slots := 0, locals := 25 } : Room).slots) := by
  refine MetFree.of_bodySF (plainFor_of_name pn10005760) hisR ?_
  intro p e s m args below meth c s₁ Bd hml0 hP hK
  obtain ⟨rfl, hZ, hh⟩ := hP
  have hx := Bd.exec
  have hby := Bd.bytes
  have hml : c.maxLocals = 1 := hml0
  have hown : s.vm.findClass "tierlock/Epoch" = some m.cls := findClass_of_methodNamed Bd.named
  have hnm := (name_of_methodNamed Bd.named Bd.method).1
  have X0 : Stand p l e ({ frames := 2, cells := 0, slots := 0, locals := 25 } : Room) s m #[(.ref a0)] below meth c s₁ [] 0 0 := Stand.of_body Bd
  have e0 : s₁.heap = h0 := by rw [← hh, Bd.state]; rfl
  have N0 := Fr.nil n0
  have K0 : Keep h0 h0 [a0] := Keep.refl _ _
  have pre0 : ∀ t, Steps p.tables e below (s₁.setTop (mkF m 0 #[.val (.ref a0)] [])) t → Steps p.tables e below (s₁.setTop (entryFrame m #[(.ref a0)] 1)) t := fun t k => castTop (ef_1 m a0) k
  obtain ⟨_, _, ⟨T22, L22, k22, n22⟩, -, X22, ⟨Lc22, hQ22, l22, y22, z22⟩, st22⟩ := X0.specialBack hx (y := (⟨"tierlock/Epoch", "<init>", "(I)V"⟩ : MethodName)) rfl hown (mvT hZ (hw _ (List.mem_of_getElem? (i := 6) rfl))) (mvT hZ (hw _ (List.mem_of_getElem? (i := 7) rfl))) (mvT hZ (hw _ (List.mem_of_getElem? (i := 8) rfl))) (by decide) (backOf (W := 0) (rm2 l Z aq hw [] a0 (0 : Int32) u_number u_past h0 n0 Z0 E_a0 F_number F_past g_a0) hZ (hw _ (List.mem_of_getElem? (i := 8) rfl)) (hw _ (List.mem_of_getElem? (i := 2) rfl)) (by decide) (by decide)) (g := (mkF m 2 #[.val (.ref a0)] [(.int (0 : Int32)), (.ref a0)])) rfl (by rw [hml]; rfl) (Steps.refl _) (a := a0) (argsL := [(.int (0 : Int32))]) (rest := []) (lenOf pd87992021 rfl) rfl (by show 2 * 0 + _ ≤ _; exact Nat.le_of_eq rfl) (hb hby d1_2) (fun _ _ => ⟨rfl, e0, (by decide : 0 + 0 ≤ _), (by decide : 0 + 0 ≤ _)⟩)
  dsimp only [Pt.U, Pt.locs, Pt.cells, Pt.slots] at X22 l22 y22 z22 st22 hQ22
  subst l22 y22 z22
  obtain ⟨rfl, N22q, K22, E22_0, F22_0, F22_1⟩ := hQ22
  have Z23 : n0 ≤ T22.heap.size := Nat.le_trans Z0 K22.1
  have K24 : Keep h0 T22.heap [a0] := K0.trans K22 (allS (Or.inl (List.mem_of_getElem? (i := 0) rfl)) all0)
  have N25 := Fr.app N0 N22q
  have pre26 : ∀ t, Steps p.tables e below (T22.setTop (mkF m 5 #[.val (.ref a0)] [])) t → Steps p.tables e below (s₁.setTop (entryFrame m #[(.ref a0)] 1)) t := fun t kt => by
    refine pre0 _ ?_
    show Steps p.tables e below (s₁.setTop (mkF m 0 #[.val (.ref a0)] [])) _
    refine XS.aloadN X0.here hx rfl (hb hby d1_0) rfl rfl ?_
    show Steps p.tables e below (s₁.setTop (mkF m 1 #[.val (.ref a0)] [(.ref a0)])) _
    refine XS.iconst X0.here hx rfl (hb hby d1_1) ?_
    show Steps p.tables e below (s₁.setTop (mkF m 2 #[.val (.ref a0)] [(.int (0 : Int32)), (.ref a0)])) _
    refine st22.trans ?_
    show Steps p.tables e below (T22.setTop (mkF m 5 #[.val (.ref a0)] [])) _
    exact kt
  obtain ⟨fs, hr, hrun, hended, hW, hsame⟩ := X22.leave (v := none) (fun _ => rfl)
  refine ⟨_, _, pre26 _ ?_, hrun, hended, _, _, rfl, ?_, ⟨_, rfl⟩, hW, hsame.mono (by decide) (by decide)⟩
  · exact X22.returnOut hx Bd.returns (hb hby d1_5) hr
  · show Q1 Z a0 u_number u_past h0 n0 _ T22.heap _
    exact ⟨rfl, N25, K24, E22_0, F22_0, F22_1⟩
theorem d4_0 : decode prog_2_method_5_code 0 = .ok (.aload_n 0, 1) := by decide +kernel
theorem d4_1 : decode prog_2_method_5_code 1 = .ok (.iconst 1, 1) := by decide +kernel
theorem d4_2 : decode prog_2_method_5_code 2 = .ok (.putfield 16, 3) := by decide +kernel
theorem d4_5 : decode prog_2_method_5_code 5 = .ok (.return_, 1) := by decide +kernel
theorem ef_4 (m : MethodId) (a0 : Addr) : entryFrame m #[(.ref a0)] 1 = mkF m 0 #[.val (.ref a0)] [] := by first | (simp [entryFrame, mkF, argsToLocals, Value.category]; done) | rfl
def Q4 (Z : State) (a0 : Addr) (u_number : Int32) (u_past : Int32) (h0 : Heap) (n0 : Nat) (v : Option Value) (h : Heap) (L : List Loc) : Prop := v = none ∧ Fr n0 L ∧ Keep h0 h [a0] ∧ Exa Z h a0 "tierlock/Epoch" ∧ Fld Z h a0 "tierlock/Epoch" "number" "I" (.int u_number) ∧ Fld Z h a0 "tierlock/Epoch" "past" "Z" (.int ((1 : Int32) &&& 1))
set_option maxRecDepth 65536 in
set_option maxHeartbeats 40000000 in
theorem rm4 (l : Launch) (Z : State) (aq : Array Value) (hw : ∀ d ∈ tables_1, d.before aq Z = true) (ws : List Jvm.Cond) (a0 : Addr) (u_number : Int32) (u_past : Int32) (h0 : Heap) (n0 : Nat) (Z0 : n0 ≤ h0.size) (E_a0 : Exa Z h0 a0 "tierlock/Epoch") (F_number : Fld Z h0 a0 "tierlock/Epoch" "number" "I" (.int u_number)) (F_past : Fld Z h0 a0 "tierlock/Epoch" "past" "Z" (.int u_past)) (g_a0 : n0 ≤ a0) :
    MetFree l (⟨"tierlock/Epoch", "pass", "()V"⟩ : MethodName) (head1 (Jvm.Cond.code (⟨"tierlock/Epoch", "pass", "()V"⟩ : MethodName) prog_2_method_5_code 1 none :: ws) ({ frames := 0, cells := 0, slots := 0, locals := 0 } : Room)) (fun a U => a = #[(.ref a0)] ∧ Z.Warmed39 U.vm ∧ U.heap = h0) (fun _ _ _ _ _ => True) (fun _ U o U' => ∃ v L, o = .returned v ∧ Q4 Z a0 u_number u_past h0 n0 v U'.heap L ∧ FrameEnd U o U' L ({ frames := 0, cells := 0, slots := 0, locals := 0 } : Room).cells ({ frames := 0, cells := 0, slots := 0, locals := 0 } : Room).slots) := by
  refine MetFree.of_bodySF (plainFor_of_name pn10005760) hisR ?_
  intro p e s m args below meth c s₁ Bd hml0 hP hK
  obtain ⟨rfl, hZ, hh⟩ := hP
  have hx := Bd.exec
  have hby := Bd.bytes
  have hml : c.maxLocals = 1 := hml0
  have hown : s.vm.findClass "tierlock/Epoch" = some m.cls := findClass_of_methodNamed Bd.named
  have hnm := (name_of_methodNamed Bd.named Bd.method).1
  have X0 : Stand p l e ({ frames := 0, cells := 0, slots := 0, locals := 0 } : Room) s m #[(.ref a0)] below meth c s₁ [] 0 0 := Stand.of_body Bd
  have e0 : s₁.heap = h0 := by rw [← hh, Bd.state]; rfl
  have N0 := Fr.nil n0
  have K0 : Keep h0 h0 [a0] := Keep.refl _ _
  have pre0 : ∀ t, Steps p.tables e below (s₁.setTop (mkF m 0 #[.val (.ref a0)] [])) t → Steps p.tables e below (s₁.setTop (entryFrame m #[(.ref a0)] 1)) t := fun t k => castTop (ef_4 m a0) k
  obtain ⟨T34, h34, X34, e34, W34, st34⟩ := putFN X0 hx hZ hown (hw _ (List.mem_of_getElem? (i := 19) rfl)) Via.refl e0 F_past E_a0 (Or.inl (hw _ (List.mem_of_getElem? (i := 20) rfl))) (hw _ (List.mem_of_getElem? (i := 1) rfl)) (ty := .boolean) (v' := (.int ((1 : Int32) &&& 1))) (by decide) rfl (fits_nar_bool _) (g := (mkF m 2 #[.val (.ref a0)] [(.int (1 : Int32)), (.ref a0)])) rfl rfl (hb hby d4_2)
  have E35 := E_a0.wr W34
  have F36 := F_number.other W34 (Or.inr (slot_ne (Or.inr (hw _ (List.mem_of_getElem? (i := 13) rfl))) (Or.inl (hw _ (List.mem_of_getElem? (i := 20) rfl))) (by decide) (t := .int) (t' := .boolean) (by decide) (by decide)))
  have F37 : Fld Z h34 a0 "tierlock/Epoch" "past" "Z" (.int ((1 : Int32) &&& 1)) := F_past.same W34
  have N38 := Fr.snoc X34 N0 g_a0
  have K39 : Keep h0 h34 [a0] := K0.wr W34 (Or.inl (List.mem_of_getElem? (i := 0) rfl))
  have Z40 : n0 ≤ h34.size := Nat.le_trans Z0 (Keep.of_wr W34).1
  have pre41 : ∀ t, Steps p.tables e below (T34.setTop (mkF m 5 #[.val (.ref a0)] [])) t → Steps p.tables e below (s₁.setTop (entryFrame m #[(.ref a0)] 1)) t := fun t kt => by
    refine pre0 _ ?_
    show Steps p.tables e below (s₁.setTop (mkF m 0 #[.val (.ref a0)] [])) _
    refine XS.aloadN X0.here hx rfl (hb hby d4_0) rfl rfl ?_
    show Steps p.tables e below (s₁.setTop (mkF m 1 #[.val (.ref a0)] [(.ref a0)])) _
    refine XS.iconst X0.here hx rfl (hb hby d4_1) ?_
    show Steps p.tables e below (s₁.setTop (mkF m 2 #[.val (.ref a0)] [(.int (1 : Int32)), (.ref a0)])) _
    refine st34 _ ?_
    show Steps p.tables e below (T34.setTop (mkF m 5 #[.val (.ref a0)] [])) _
    exact kt
  obtain ⟨fs, hr, hrun, hended, hW, hsame⟩ := X34.leave (v := none) (fun _ => rfl)
  refine ⟨_, _, pre41 _ ?_, hrun, hended, _, _, rfl, ?_, ⟨_, rfl⟩, hW, hsame.mono (by decide) (by decide)⟩
  · exact X34.returnOut hx Bd.returns (hb hby d4_5) hr
  · show Q4 Z a0 u_number u_past h0 n0 _ T34.heap _
    rw [e34]
    exact ⟨rfl, N38, K39, E35, F36, F37⟩
theorem d5_0 : decode prog_2_method_4_code 0 = .ok (.new 2, 3) := by decide +kernel
theorem d5_3 : decode prog_2_method_4_code 3 = .ok (.dup, 1) := by decide +kernel
theorem d5_4 : decode prog_2_method_4_code 4 = .ok (.aload_n 0, 1) := by decide +kernel
theorem d5_5 : decode prog_2_method_4_code 5 = .ok (.getfield 12, 3) := by decide +kernel
theorem d5_8 : decode prog_2_method_4_code 8 = .ok (.iconst 1, 1) := by decide +kernel
theorem d5_9 : decode prog_2_method_4_code 9 = .ok (.iadd, 1) := by decide +kernel
theorem d5_10 : decode prog_2_method_4_code 10 = .ok (.invokespecial 1, 3) := by decide +kernel
theorem d5_13 : decode prog_2_method_4_code 13 = .ok (.areturn, 1) := by decide +kernel
theorem ef_5 (m : MethodId) (a0 : Addr) : entryFrame m #[(.ref a0)] 1 = mkF m 0 #[.val (.ref a0)] [] := by first | (simp [entryFrame, mkF, argsToLocals, Value.category]; done) | rfl
def Q5 (Z : State) (a0 : Addr) (u_number : Int32) (u_past : Int32) (h0 : Heap) (n0 : Nat) (v : Option Value) (h : Heap) (L : List Loc) : Prop := ∃ r_ : Addr, v = some (.ref r_) ∧ Fr n0 L ∧ Keep h0 h [] ∧ h0.size ≤ r_ ∧ Exa Z h r_ "tierlock/Epoch" ∧ Fld Z h r_ "tierlock/Epoch" "number" "I" (.int (u_number + (1 : Int32))) ∧ Fld Z h r_ "tierlock/Epoch" "past" "Z" (.int (0 : Int32))
set_option maxRecDepth 65536 in
set_option maxHeartbeats 40000000 in
theorem rm5 (l : Launch) (Z : State) (aq : Array Value) (hw : ∀ d ∈ tables_1, d.before aq Z = true) (ws : List Jvm.Cond) (a0 : Addr) (u_number : Int32) (u_past : Int32) (h0 : Heap) (n0 : Nat) (Z0 : n0 ≤ h0.size) (E_a0 : Exa Z h0 a0 "tierlock/Epoch") (F_number : Fld Z h0 a0 "tierlock/Epoch" "number" "I" (.int u_number)) (F_past : Fld Z h0 a0 "tierlock/Epoch" "past" "Z" (.int u_past)) :
    MetFree l (⟨"tierlock/Epoch", "successor", "()Ltierlock/Epoch;"⟩ : MethodName) (head1 (Jvm.Cond.code (⟨"tierlock/Epoch", "successor", "()Ltierlock/Epoch;"⟩ : MethodName) prog_2_method_4_code 1 (some (.object "tierlock/Epoch")) :: ws) ({ frames := 2, cells := 1, slots := 2, locals := 26 } : Room)) (fun a U => a = #[(.ref a0)] ∧ Z.Warmed39 U.vm ∧ U.heap = h0) (fun _ _ _ _ _ => True) (fun _ U o U' => ∃ v L, o = .returned v ∧ Q5 Z a0 u_number u_past h0 n0 v U'.heap L ∧ FrameEnd U o U' L ({ frames := 2, cells := 1, slots := 2, locals := 26 } : Room).cells ({ frames := 2, cells := 1, slots := 2, locals := 26 } : Room).slots) := by
  refine MetFree.of_bodySF (plainFor_of_name pn10005760) hisR ?_
  intro p e s m args below meth c s₁ Bd hml0 hP hK
  obtain ⟨rfl, hZ, hh⟩ := hP
  have hx := Bd.exec
  have hby := Bd.bytes
  have hml : c.maxLocals = 1 := hml0
  have hown : s.vm.findClass "tierlock/Epoch" = some m.cls := findClass_of_methodNamed Bd.named
  have hnm := (name_of_methodNamed Bd.named Bd.method).1
  have X0 : Stand p l e ({ frames := 2, cells := 1, slots := 2, locals := 26 } : Room) s m #[(.ref a0)] below meth c s₁ [] 0 0 := Stand.of_body Bd
  have e0 : s₁.heap = h0 := by rw [← hh, Bd.state]; rfl
  have N0 := Fr.nil n0
  have K0 : Keep h0 h0 [] := Keep.refl _ _
  have pre0 : ∀ t, Steps p.tables e below (s₁.setTop (mkF m 0 #[.val (.ref a0)] [])) t → Steps p.tables e below (s₁.setTop (entryFrame m #[(.ref a0)] 1)) t := fun t k => castTop (ef_5 m a0) k
  obtain ⟨T56, h56, X56, e56, E56, A56, D56, -, st56⟩ := newO X0 hx hZ hown (hw _ (List.mem_of_getElem? (i := 26) rfl)) (hw _ (List.mem_of_getElem? (i := 1) rfl)) (hw _ (List.mem_of_getElem? (i := 2) rfl)) e0 (g := (mkF m 0 #[.val (.ref a0)] [])) rfl (hb hby d5_0) (by decide) (by decide)
  obtain ⟨b56, g56⟩ : ∃ z, z = h0.size := ⟨_, rfl⟩
  rw [← g56] at A56 D56 st56
  have ne_a0_b56 : a0 ≠ b56 := Nat.ne_of_lt (Nat.lt_of_lt_of_le E_a0.lt (Nat.le_of_eq g56.symm))
  have g_b56 : n0 ≤ b56 := Nat.le_trans Z0 (Nat.le_of_eq g56.symm)
  have sz_b56 : h0.size ≤ b56 := Nat.le_trans K0.1 (Nat.le_of_eq g56.symm)
  have E57 := E_a0.ext E56
  have F58 := F_number.ext E56
  have F59 := F_past.ext E56
  have K60 : Keep h0 h56 [] := K0.ext E56
  have Z61 : n0 ≤ h56.size := Nat.le_trans Z0 E56.1
  have F56_number : Fld Z h56 b56 "tierlock/Epoch" "number" "I" (.int (0 : Int32)) := D56 (Or.inr (hw _ (List.mem_of_getElem? (i := 13) rfl))) (ty := .int) (by decide)
  have F56_past : Fld Z h56 b56 "tierlock/Epoch" "past" "Z" (.int (0 : Int32)) := D56 (Or.inl (hw _ (List.mem_of_getElem? (i := 20) rfl))) (ty := .boolean) (by decide)
  obtain ⟨T62, X62, e62, st62⟩ := getF X56 hx hZ hown (host := "") (Or.inl (hw _ (List.mem_of_getElem? (i := 12) rfl))) Via.refl e56 F58 (g := (mkF m 5 #[.val (.ref a0)] [(.ref a0), (.ref b56), (.ref b56)])) rfl rfl (hb hby d5_5)
  obtain ⟨_, _, ⟨T63, L63, k63, n63⟩, -, X63, ⟨Lc63, hQ63, l63, y63, z63⟩, st63⟩ := X62.specialBack hx (y := (⟨"tierlock/Epoch", "<init>", "(I)V"⟩ : MethodName)) rfl hown (mvT hZ (hw _ (List.mem_of_getElem? (i := 6) rfl))) (mvT hZ (hw _ (List.mem_of_getElem? (i := 7) rfl))) (mvT hZ (hw _ (List.mem_of_getElem? (i := 8) rfl))) (by decide) (backOf (W := 1) (rm2 l Z aq hw [] b56 (u_number + (1 : Int32)) (0 : Int32) (0 : Int32) h56 n0 Z61 A56 F56_number F56_past g_b56) hZ (hw _ (List.mem_of_getElem? (i := 8) rfl)) (hw _ (List.mem_of_getElem? (i := 2) rfl)) (by decide) (by decide)) (g := (mkF m 10 #[.val (.ref a0)] [(.int (u_number + (1 : Int32))), (.ref b56), (.ref b56)])) rfl (by rw [hml]; rfl) (Steps.refl _) (a := b56) (argsL := [(.int (u_number + (1 : Int32)))]) (rest := [(.ref b56)]) (lenOf pd87992021 rfl) rfl (by show 2 * 0 + _ ≤ _; exact Nat.le_of_eq rfl) (hb hby d5_10) (fun _ _ => ⟨rfl, e62, (by decide : 1 + 0 ≤ _), (by decide : 2 + 0 ≤ _)⟩)
  dsimp only [Pt.U, Pt.locs, Pt.cells, Pt.slots] at X63 l63 y63 z63 st63 hQ63
  subst l63 y63 z63
  obtain ⟨rfl, N63q, K63, E63_0, F63_0, F63_1⟩ := hQ63
  have E64 := E57.keep K63
  have F65 := F58.keep K63 (ninS ne_a0_b56 nin0)
  have F66 := F59.keep K63 (ninS ne_a0_b56 nin0)
  have Z67 : n0 ≤ T63.heap.size := Nat.le_trans Z61 K63.1
  have K68 : Keep h0 T63.heap [] := K60.trans K63 (allS (Or.inr sz_b56) all0)
  have N69 := Fr.app N0 N63q
  have pre70 : ∀ t, Steps p.tables e below (T63.setTop (mkF m 13 #[.val (.ref a0)] [(.ref b56)])) t → Steps p.tables e below (s₁.setTop (entryFrame m #[(.ref a0)] 1)) t := fun t kt => by
    refine pre0 _ ?_
    show Steps p.tables e below (s₁.setTop (mkF m 0 #[.val (.ref a0)] [])) _
    refine st56 _ ?_
    show Steps p.tables e below (T56.setTop (mkF m 3 #[.val (.ref a0)] [(.ref b56)])) _
    refine XS.dup X56.here hx rfl (hb hby d5_3) rfl rfl ?_
    show Steps p.tables e below (T56.setTop (mkF m 4 #[.val (.ref a0)] [(.ref b56), (.ref b56)])) _
    refine XS.aloadN X56.here hx rfl (hb hby d5_4) rfl rfl ?_
    show Steps p.tables e below (T56.setTop (mkF m 5 #[.val (.ref a0)] [(.ref a0), (.ref b56), (.ref b56)])) _
    refine st62 _ ?_
    show Steps p.tables e below (T62.setTop (mkF m 8 #[.val (.ref a0)] [(.int u_number), (.ref b56), (.ref b56)])) _
    refine XS.iconst X62.here hx rfl (hb hby d5_8) ?_
    show Steps p.tables e below (T62.setTop (mkF m 9 #[.val (.ref a0)] [(.int (1 : Int32)), (.int u_number), (.ref b56), (.ref b56)])) _
    refine XS.iadd X62.here hx rfl (hb hby d5_9) rfl ?_
    show Steps p.tables e below (T62.setTop (mkF m 10 #[.val (.ref a0)] [(.int (u_number + (1 : Int32))), (.ref b56), (.ref b56)])) _
    refine st63.trans ?_
    show Steps p.tables e below (T63.setTop (mkF m 13 #[.val (.ref a0)] [(.ref b56)])) _
    exact kt
  obtain ⟨fs, hr, hrun, hended, hW, hsame⟩ := X63.leave (v := some (.ref b56)) (fun h => by rw [Bd.returns] at h; cases h)
  refine ⟨_, _, pre70 _ ?_, hrun, hended, _, _, rfl, ?_, ⟨_, rfl⟩, hW, hsame.mono (by decide) (by decide)⟩
  · jvm_step X63.here [X63.here.top, hx, (hb hby d5_13), X63.method', Bd.returns, Value.isRef, FieldType.isReference]
    first | (intro acts; rw [hr _ acts rfl rfl rfl]) | rw [hr _ _ rfl rfl rfl]
    exact Steps.refl _
  · show Q5 Z a0 u_number u_past h0 n0 _ T63.heap _
    exact ⟨b56, rfl, N69, K68, sz_b56, E63_0, F63_0, F63_1⟩
theorem d6_0 : decode prog_2_method_3_code 0 = .ok (.aload_n 0, 1) := by decide +kernel
theorem d6_1 : decode prog_2_method_3_code 1 = .ok (.getfield 12, 3) := by decide +kernel
theorem d6_4 : decode prog_2_method_3_code 4 = .ok (.ireturn, 1) := by decide +kernel
theorem ef_6 (m : MethodId) (a0 : Addr) : entryFrame m #[(.ref a0)] 1 = mkF m 0 #[.val (.ref a0)] [] := by first | (simp [entryFrame, mkF, argsToLocals, Value.category]; done) | rfl
def Q6 (Z : State) (a0 : Addr) (u_number : Int32) (u_past : Int32) (h0 : Heap) (n0 : Nat) (v : Option Value) (h : Heap) (L : List Loc) : Prop := v = some (.int u_number) ∧ Fr n0 L ∧ h = h0
set_option maxRecDepth 65536 in
set_option maxHeartbeats 40000000 in
theorem rm6 (l : Launch) (Z : State) (aq : Array Value) (hw : ∀ d ∈ tables_1, d.before aq Z = true) (ws : List Jvm.Cond) (a0 : Addr) (u_number : Int32) (u_past : Int32) (h0 : Heap) (n0 : Nat) (Z0 : n0 ≤ h0.size) (E_a0 : Exa Z h0 a0 "tierlock/Epoch") (F_number : Fld Z h0 a0 "tierlock/Epoch" "number" "I" (.int u_number)) (F_past : Fld Z h0 a0 "tierlock/Epoch" "past" "Z" (.int u_past)) :
    MetFree l (⟨"tierlock/Epoch", "number", "()I"⟩ : MethodName) (head1 (Jvm.Cond.code (⟨"tierlock/Epoch", "number", "()I"⟩ : MethodName) prog_2_method_3_code 1 (some .int) :: ws) ({ frames := 0, cells := 0, slots := 0, locals := 0 } : Room)) (fun a U => a = #[(.ref a0)] ∧ Z.Warmed39 U.vm ∧ U.heap = h0) (fun _ _ _ _ _ => True) (fun _ U o U' => ∃ v L, o = .returned v ∧ Q6 Z a0 u_number u_past h0 n0 v U'.heap L ∧ FrameEnd U o U' L ({ frames := 0, cells := 0, slots := 0, locals := 0 } : Room).cells ({ frames := 0, cells := 0, slots := 0, locals := 0 } : Room).slots) := by
  refine MetFree.of_bodySF (plainFor_of_name pn10005760) hisR ?_
  intro p e s m args below meth c s₁ Bd hml0 hP hK
  obtain ⟨rfl, hZ, hh⟩ := hP
  have hx := Bd.exec
  have hby := Bd.bytes
  have hml : c.maxLocals = 1 := hml0
  have hown : s.vm.findClass "tierlock/Epoch" = some m.cls := findClass_of_methodNamed Bd.named
  have hnm := (name_of_methodNamed Bd.named Bd.method).1
  have X0 : Stand p l e ({ frames := 0, cells := 0, slots := 0, locals := 0 } : Room) s m #[(.ref a0)] below meth c s₁ [] 0 0 := Stand.of_body Bd
  have e0 : s₁.heap = h0 := by rw [← hh, Bd.state]; rfl
  have N0 := Fr.nil n0
  have pre0 : ∀ t, Steps p.tables e below (s₁.setTop (mkF m 0 #[.val (.ref a0)] [])) t → Steps p.tables e below (s₁.setTop (entryFrame m #[(.ref a0)] 1)) t := fun t k => castTop (ef_6 m a0) k
  obtain ⟨T72, X72, e72, st72⟩ := getF X0 hx hZ hown (host := "") (Or.inl (hw _ (List.mem_of_getElem? (i := 12) rfl))) Via.refl e0 F_number (g := (mkF m 1 #[.val (.ref a0)] [(.ref a0)])) rfl rfl (hb hby d6_1)
  have pre73 : ∀ t, Steps p.tables e below (T72.setTop (mkF m 4 #[.val (.ref a0)] [(.int u_number)])) t → Steps p.tables e below (s₁.setTop (entryFrame m #[(.ref a0)] 1)) t := fun t kt => by
    refine pre0 _ ?_
    show Steps p.tables e below (s₁.setTop (mkF m 0 #[.val (.ref a0)] [])) _
    refine XS.aloadN X0.here hx rfl (hb hby d6_0) rfl rfl ?_
    show Steps p.tables e below (s₁.setTop (mkF m 1 #[.val (.ref a0)] [(.ref a0)])) _
    refine st72 _ ?_
    show Steps p.tables e below (T72.setTop (mkF m 4 #[.val (.ref a0)] [(.int u_number)])) _
    exact kt
  obtain ⟨fs, hr, hrun, hended, hW, hsame⟩ := X72.leave (v := some (.int u_number)) (fun h => by rw [Bd.returns] at h; cases h)
  refine ⟨_, _, pre73 _ ?_, hrun, hended, _, _, rfl, ?_, ⟨_, rfl⟩, hW, hsame.mono (by decide) (by decide)⟩
  · exact retI X72 hx Bd.returns (hb hby d6_4) hr
  · show Q6 Z a0 u_number u_past h0 n0 _ T72.heap _
    rw [e72]
    exact ⟨rfl, N0, rfl⟩
theorem d7_0 : decode prog_2_method_6_code 0 = .ok (.aload_n 0, 1) := by decide +kernel
theorem d7_1 : decode prog_2_method_6_code 1 = .ok (.getfield 16, 3) := by decide +kernel
theorem d7_4 : decode prog_2_method_6_code 4 = .ok (.ireturn, 1) := by decide +kernel
theorem ef_7 (m : MethodId) (a0 : Addr) : entryFrame m #[(.ref a0)] 1 = mkF m 0 #[.val (.ref a0)] [] := by first | (simp [entryFrame, mkF, argsToLocals, Value.category]; done) | rfl
def Q7 (Z : State) (a0 : Addr) (u_number : Int32) (u_past : Int32) (h0 : Heap) (n0 : Nat) (v : Option Value) (h : Heap) (L : List Loc) : Prop := v = some (.int (u_past &&& 1)) ∧ Fr n0 L ∧ h = h0
set_option maxRecDepth 65536 in
set_option maxHeartbeats 40000000 in
theorem rm7 (l : Launch) (Z : State) (aq : Array Value) (hw : ∀ d ∈ tables_1, d.before aq Z = true) (ws : List Jvm.Cond) (a0 : Addr) (u_number : Int32) (u_past : Int32) (h0 : Heap) (n0 : Nat) (Z0 : n0 ≤ h0.size) (E_a0 : Exa Z h0 a0 "tierlock/Epoch") (F_number : Fld Z h0 a0 "tierlock/Epoch" "number" "I" (.int u_number)) (F_past : Fld Z h0 a0 "tierlock/Epoch" "past" "Z" (.int u_past)) :
    MetFree l (⟨"tierlock/Epoch", "isPast", "()Z"⟩ : MethodName) (head1 (Jvm.Cond.code (⟨"tierlock/Epoch", "isPast", "()Z"⟩ : MethodName) prog_2_method_6_code 1 (some .boolean) :: ws) ({ frames := 0, cells := 0, slots := 0, locals := 0 } : Room)) (fun a U => a = #[(.ref a0)] ∧ Z.Warmed39 U.vm ∧ U.heap = h0) (fun _ _ _ _ _ => True) (fun _ U o U' => ∃ v L, o = .returned v ∧ Q7 Z a0 u_number u_past h0 n0 v U'.heap L ∧ FrameEnd U o U' L ({ frames := 0, cells := 0, slots := 0, locals := 0 } : Room).cells ({ frames := 0, cells := 0, slots := 0, locals := 0 } : Room).slots) := by
  refine MetFree.of_bodySF (plainFor_of_name pn10005760) hisR ?_
  intro p e s m args below meth c s₁ Bd hml0 hP hK
  obtain ⟨rfl, hZ, hh⟩ := hP
  have hx := Bd.exec
  have hby := Bd.bytes
  have hml : c.maxLocals = 1 := hml0
  have hown : s.vm.findClass "tierlock/Epoch" = some m.cls := findClass_of_methodNamed Bd.named
  have hnm := (name_of_methodNamed Bd.named Bd.method).1
  have X0 : Stand p l e ({ frames := 0, cells := 0, slots := 0, locals := 0 } : Room) s m #[(.ref a0)] below meth c s₁ [] 0 0 := Stand.of_body Bd
  have e0 : s₁.heap = h0 := by rw [← hh, Bd.state]; rfl
  have N0 := Fr.nil n0
  have pre0 : ∀ t, Steps p.tables e below (s₁.setTop (mkF m 0 #[.val (.ref a0)] [])) t → Steps p.tables e below (s₁.setTop (entryFrame m #[(.ref a0)] 1)) t := fun t k => castTop (ef_7 m a0) k
  obtain ⟨T75, X75, e75, st75⟩ := getF X0 hx hZ hown (host := "") (Or.inl (hw _ (List.mem_of_getElem? (i := 19) rfl))) Via.refl e0 F_past (g := (mkF m 1 #[.val (.ref a0)] [(.ref a0)])) rfl rfl (hb hby d7_1)
  have pre76 : ∀ t, Steps p.tables e below (T75.setTop (mkF m 4 #[.val (.ref a0)] [(.int u_past)])) t → Steps p.tables e below (s₁.setTop (entryFrame m #[(.ref a0)] 1)) t := fun t kt => by
    refine pre0 _ ?_
    show Steps p.tables e below (s₁.setTop (mkF m 0 #[.val (.ref a0)] [])) _
    refine XS.aloadN X0.here hx rfl (hb hby d7_0) rfl rfl ?_
    show Steps p.tables e below (s₁.setTop (mkF m 1 #[.val (.ref a0)] [(.ref a0)])) _
    refine st75 _ ?_
    show Steps p.tables e below (T75.setTop (mkF m 4 #[.val (.ref a0)] [(.int u_past)])) _
    exact kt
  obtain ⟨fs, hr, hrun, hended, hW, hsame⟩ := X75.leave (v := some (.int (u_past &&& 1))) (fun h => by rw [Bd.returns] at h; cases h)
  refine ⟨_, _, pre76 _ ?_, hrun, hended, _, _, rfl, ?_, ⟨_, rfl⟩, hW, hsame.mono (by decide) (by decide)⟩
  · exact retN X75 hx (t := .boolean) Bd.returns (by simp) (hb hby d7_4) hr
  · show Q7 Z a0 u_number u_past h0 n0 _ T75.heap _
    rw [e75]
    exact ⟨rfl, N0, rfl⟩
theorem pd93421996 : parseMethodDescriptor "()V" = some ⟨[], none⟩ := by decide +kernel
theorem pd35347256 : parseMethodDescriptor "()Ltierlock/Epoch;" = some ⟨[], some (.object "tierlock/Epoch")⟩ := by decide +kernel
theorem pd93421983 : parseMethodDescriptor "()I" = some ⟨[], some .int⟩ := by decide +kernel
theorem pd93422000 : parseMethodDescriptor "()Z" = some ⟨[], some .boolean⟩ := by decide +kernel
theorem pn61145125 : plainName "tierlock/EpochSuccessorPinLaw" = true := by first | (simp [plainName, overriddenIn]; done) | decide +kernel
theorem own_m3 (x : Int32) : x &&& (3 : Int32) = 0 ∨ x &&& (3 : Int32) = 1 ∨ x &&& (3 : Int32) = 2 ∨ x &&& (3 : Int32) = 3 := by
  have h := Jvm.Kit.i32_mask x 3 (k := 2) (by decide) (by decide)
  have h2 : x.toInt % 2 ^ 2 = 0 ∨ x.toInt % 2 ^ 2 = 1 ∨ x.toInt % 2 ^ 2 = 2 ∨ x.toInt % 2 ^ 2 = 3 := by omega
  rcases h2 with q | q | q | q <;> rw [q] at h
  · exact Or.inl (Int32.toInt_inj.mp h)
  · exact Or.inr (Or.inl (Int32.toInt_inj.mp h))
  · exact Or.inr (Or.inr (Or.inl (Int32.toInt_inj.mp h)))
  · exact Or.inr (Or.inr (Or.inr (Int32.toInt_inj.mp h)))
theorem own_plain0 (p0 : Int32) (p1 : Int32)
    (v1 : Int32) (hv1 : v1 = (if (p1 &&& (1 : Int32)) = (0 : Int32) then (0 : Int32) else (1 : Int32)))
    (v2 : Int32) (hv2 : v2 = (if v1 = (0 : Int32) then (0 : Int32) else ((1 : Int32) &&& 1)))
    (v3 : Int32) (hv3 : v3 = (if (v2 &&& 1) = v1 then (1 : Int32) else (0 : Int32))) : v3 = 1 := by
  have b1 : v1 = 0 ∨ v1 = 1 := by rw [hv1]; split <;> simp
  clear hv1
  rcases b1 with rfl | rfl <;> subst hv2 <;> subst hv3 <;> decide
theorem own_plain1 (p0 : Int32) (p1 : Int32)
    (v1 : Int32) (hv1 : v1 = (if (p1 &&& (1 : Int32)) = (0 : Int32) then (0 : Int32) else (1 : Int32)))
    (v2 : Int32) (hv2 : v2 = (if v1 = (0 : Int32) then (0 : Int32) else ((1 : Int32) &&& 1)))
    (v3 : Int32) (hv3 : v3 = (if (v2 &&& 1) = v1 then (1 : Int32) else (0 : Int32))) : v3 = 1 := by
  have b1 : v1 = 0 ∨ v1 = 1 := by rw [hv1]; split <;> simp
  clear hv1
  rcases b1 with rfl | rfl <;> subst hv2 <;> subst hv3 <;> decide
theorem own_plain2 (p0 : Int32) (p1 : Int32)
    (v1 : Int32) (hv1 : v1 = (if (p1 &&& (1 : Int32)) = (0 : Int32) then (0 : Int32) else (1 : Int32)))
    (v2 : Int32) (hv2 : v2 = (if v1 = (0 : Int32) then (0 : Int32) else ((1 : Int32) &&& 1)))
    (v3 : Int32) (hv3 : v3 = (if (v2 &&& 1) = v1 then (1 : Int32) else (0 : Int32))) : v3 = 1 := by
  have b1 : v1 = 0 ∨ v1 = 1 := by rw [hv1]; split <;> simp
  clear hv1
  rcases b1 with rfl | rfl <;> subst hv2 <;> subst hv3 <;> decide
theorem own_plain3 (p0 : Int32) (p1 : Int32)
    (v1 : Int32) (hv1 : v1 = (if (p1 &&& (1 : Int32)) = (0 : Int32) then (0 : Int32) else (1 : Int32)))
    (v2 : Int32) (hv2 : v2 = (if v1 = (0 : Int32) then (0 : Int32) else ((1 : Int32) &&& 1)))
    (v3 : Int32) (hv3 : v3 = (if (v2 &&& 1) = v1 then (1 : Int32) else (0 : Int32))) : v3 = 1 := by
  have b1 : v1 = 0 ∨ v1 = 1 := by rw [hv1]; split <;> simp
  clear hv1
  rcases b1 with rfl | rfl <;> subst hv2 <;> subst hv3 <;> decide
theorem ef_0 (m : MethodId) (p0 : Int32) (p1 : Int32) : entryFrame m #[(.int p0), (.int p1)] maxLocals = mkF m 0 #[.val (.int p0), .val (.int p1), .unset, .unset, .unset, .unset] [] := by first | (simp [entryFrame, mkF, argsToLocals, Value.category, maxLocals]; done) | rfl
def Q0 (n0 : Nat) (v : Option Value) (L : List Loc) : Prop := v = some (.int (1 : Int32)) ∧ Fr n0 L
set_option maxRecDepth 65536 in
set_option maxHeartbeats 40000000 in
theorem rm0 (l : Launch) (Z : State) (aq : Array Value) (hw : ∀ d ∈ tables_1, d.before aq Z = true) (ws : List Jvm.Cond) (p0 : Int32) (p1 : Int32) (h0 : Heap) (n0 : Nat) (Z0 : n0 ≤ h0.size) :
    MetFree l x (head1 (Jvm.Cond.code x code maxLocals ret :: ws) room_1) (fun a U => a = #[(.int p0), (.int p1)] ∧ Z.Warmed39 U.vm ∧ U.heap = h0) (fun _ _ _ _ _ => True) (fun _ U o U' => ∃ v L, o = .returned v ∧ Q0 n0 v L ∧ FrameEnd U o U' L room_1.cells room_1.slots) := by
  refine MetFree.of_bodySF (plainFor_of_name pn61145125) hisR ?_
  intro p e s m args below meth c s₁ Bd hml0 hP hK
  obtain ⟨rfl, hZ, hh⟩ := hP
  have hx := Bd.exec
  have hby := Bd.bytes
  have hml : c.maxLocals = 6 := hml0
  have hown : s.vm.findClass "tierlock/EpochSuccessorPinLaw" = some m.cls := findClass_of_methodNamed Bd.named
  have X0 : Stand p l e room_1 s m #[(.int p0), (.int p1)] below meth c s₁ [] 0 0 := Stand.of_body Bd
  have e0 : s₁.heap = h0 := by rw [← hh, Bd.state]; rfl
  have N0 := Fr.nil n0
  have pre0 : ∀ t, Steps p.tables e below (s₁.setTop (mkF m 0 #[.val (.int p0), .val (.int p1), .unset, .unset, .unset, .unset] [])) t → Steps p.tables e below (s₁.setTop (entryFrame m #[(.int p0), (.int p1)] maxLocals)) t := fun t k => castTop (ef_0 m p0 p1) k
  obtain ⟨T77, h77, X77, e77, E77, A77, D77, -, st77⟩ := newO X0 hx hZ hown (hw _ (List.mem_of_getElem? (i := 0) rfl)) (hw _ (List.mem_of_getElem? (i := 1) rfl)) (hw _ (List.mem_of_getElem? (i := 2) rfl)) e0 (g := (mkF m 0 #[.val (.int p0), .val (.int p1), .unset, .unset, .unset, .unset] [])) rfl (hb hby at_0) (by decide) (by decide)
  obtain ⟨b77, g77⟩ : ∃ z, z = h0.size := ⟨_, rfl⟩
  rw [← g77] at A77 D77 st77
  have g_b77 : n0 ≤ b77 := Nat.le_trans Z0 (Nat.le_of_eq g77.symm)
  have Z78 : n0 ≤ h77.size := Nat.le_trans Z0 E77.1
  have F77_number : Fld Z h77 b77 "tierlock/Epoch" "number" "I" (.int (0 : Int32)) := D77 (Or.inr (hw _ (List.mem_of_getElem? (i := 13) rfl))) (ty := .int) (by decide)
  have F77_past : Fld Z h77 b77 "tierlock/Epoch" "past" "Z" (.int (0 : Int32)) := D77 (Or.inl (hw _ (List.mem_of_getElem? (i := 20) rfl))) (ty := .boolean) (by decide)
  obtain ⟨_, _, ⟨T79, L79, k79, n79⟩, -, X79, ⟨Lc79, hQ79, l79, y79, z79⟩, st79⟩ := X77.specialBack hx (y := (⟨"tierlock/Epoch", "<init>", "()V"⟩ : MethodName)) rfl hown (mvT hZ (hw _ (List.mem_of_getElem? (i := 3) rfl))) (mvT hZ (hw _ (List.mem_of_getElem? (i := 4) rfl))) (mvT hZ (hw _ (List.mem_of_getElem? (i := 5) rfl))) (by decide) (backOf (W := 1) (rm1 l Z aq hw [] b77 (0 : Int32) (0 : Int32) h77 n0 Z78 A77 F77_number F77_past g_b77) hZ (hw _ (List.mem_of_getElem? (i := 5) rfl)) (hw _ (List.mem_of_getElem? (i := 2) rfl)) (by decide) (by decide)) (g := (mkF m 4 #[.val (.int p0), .val (.int p1), .unset, .unset, .unset, .unset] [(.ref b77), (.ref b77)])) rfl (by rw [hml]; rfl) (Steps.refl _) (a := b77) (argsL := []) (rest := [(.ref b77)]) (lenOf pd93421996 rfl) rfl (by show 2 * 0 + _ ≤ _; exact Nat.le_of_eq rfl) (hb hby at_4) (fun _ _ => ⟨rfl, e77, (by decide : 1 + 0 ≤ _), (by decide : 2 + 0 ≤ _)⟩)
  dsimp only [Pt.U, Pt.locs, Pt.cells, Pt.slots] at X79 l79 y79 z79 st79 hQ79
  subst l79 y79 z79
  obtain ⟨rfl, N79q, K79, E79_0, F79_0, F79_1⟩ := hQ79
  have Z80 : n0 ≤ T79.heap.size := Nat.le_trans Z78 K79.1
  have N81 := Fr.app N0 N79q
  have pre82 : ∀ t, Steps p.tables e below (T79.setTop (mkF m 12 #[.val (.int p0), .val (.int p1), .val (.ref b77), .val (.int (p0 &&& (3 : Int32))), .unset, .unset] [])) t → Steps p.tables e below (s₁.setTop (entryFrame m #[(.int p0), (.int p1)] maxLocals)) t := fun t kt => by
    refine pre0 _ ?_
    show Steps p.tables e below (s₁.setTop (mkF m 0 #[.val (.int p0), .val (.int p1), .unset, .unset, .unset, .unset] [])) _
    refine st77 _ ?_
    show Steps p.tables e below (T77.setTop (mkF m 3 #[.val (.int p0), .val (.int p1), .unset, .unset, .unset, .unset] [(.ref b77)])) _
    refine XS.dup X77.here hx rfl (hb hby at_3) rfl rfl ?_
    show Steps p.tables e below (T77.setTop (mkF m 4 #[.val (.int p0), .val (.int p1), .unset, .unset, .unset, .unset] [(.ref b77), (.ref b77)])) _
    refine st79.trans ?_
    show Steps p.tables e below (T79.setTop (mkF m 7 #[.val (.int p0), .val (.int p1), .unset, .unset, .unset, .unset] [(.ref b77)])) _
    refine XS.astoreN X79.here hx rfl (hb hby at_7) rfl rfl (l' := #[.val (.int p0), .val (.int p1), .val (.ref b77), .unset, .unset, .unset]) rfl ?_
    show Steps p.tables e below (T79.setTop (mkF m 8 #[.val (.int p0), .val (.int p1), .val (.ref b77), .unset, .unset, .unset] [])) _
    refine XS.iloadN X79.here hx rfl (hb hby at_8) rfl ?_
    show Steps p.tables e below (T79.setTop (mkF m 9 #[.val (.int p0), .val (.int p1), .val (.ref b77), .unset, .unset, .unset] [(.int p0)])) _
    refine XS.iconst X79.here hx rfl (hb hby at_9) ?_
    show Steps p.tables e below (T79.setTop (mkF m 10 #[.val (.int p0), .val (.int p1), .val (.ref b77), .unset, .unset, .unset] [(.int (3 : Int32)), (.int p0)])) _
    refine XS.iand X79.here hx rfl (hb hby at_10) rfl ?_
    show Steps p.tables e below (T79.setTop (mkF m 11 #[.val (.int p0), .val (.int p1), .val (.ref b77), .unset, .unset, .unset] [(.int (p0 &&& (3 : Int32)))])) _
    refine XS.istoreN X79.here hx rfl (hb hby at_11) rfl (l' := #[.val (.int p0), .val (.int p1), .val (.ref b77), .val (.int (p0 &&& (3 : Int32))), .unset, .unset]) rfl ?_
    show Steps p.tables e below (T79.setTop (mkF m 12 #[.val (.int p0), .val (.int p1), .val (.ref b77), .val (.int (p0 &&& (3 : Int32))), .unset, .unset] [])) _
    exact kt
  rcases own_m3 p0 with hk | hk | hk | hk
  · skip
    have pre83 : ∀ t, Steps p.tables e below (T79.setTop (mkF m 12 #[.val (.int p0), .val (.int p1), .val (.ref b77), .val (.int (0 : Int32)), .unset, .unset] [])) t → Steps p.tables e below (s₁.setTop (entryFrame m #[(.int p0), (.int p1)] maxLocals)) t := fun t kt => pre82 t (by rw [hk]; exact kt)
    have pre84 : ∀ t, Steps p.tables e below (T79.setTop (mkF m 45 #[.val (.int p0), .val (.int p1), .val (.ref b77), .val (.int (0 : Int32)), .unset, .unset] [(.int (p1 &&& (1 : Int32)))])) t → Steps p.tables e below (s₁.setTop (entryFrame m #[(.int p0), (.int p1)] maxLocals)) t := fun t kt => by
      refine pre83 _ ?_
      show Steps p.tables e below (T79.setTop (mkF m 12 #[.val (.int p0), .val (.int p1), .val (.ref b77), .val (.int (0 : Int32)), .unset, .unset] [])) _
      refine XS.iloadN X79.here hx rfl (hb hby at_12) rfl ?_
      show Steps p.tables e below (T79.setTop (mkF m 13 #[.val (.int p0), .val (.int p1), .val (.ref b77), .val (.int (0 : Int32)), .unset, .unset] [(.int (0 : Int32))])) _
      refine XS.iconst X79.here hx rfl (hb hby at_13) ?_
      show Steps p.tables e below (T79.setTop (mkF m 14 #[.val (.int p0), .val (.int p1), .val (.ref b77), .val (.int (0 : Int32)), .unset, .unset] [(.int (1 : Int32)), (.int (0 : Int32))])) _
      refine XS.icmpYes X79.here hx rfl (pc0 := 14) (pc' := 22) rfl (hb hby at_14) rfl (tlt (by decide : (0 : Int32) < (1 : Int32))).1 (by decide) (by decide) ?_
      show Steps p.tables e below (T79.setTop (mkF m 22 #[.val (.int p0), .val (.int p1), .val (.ref b77), .val (.int (0 : Int32)), .unset, .unset] [])) _
      refine XS.iloadN X79.here hx rfl (hb hby at_22) rfl ?_
      show Steps p.tables e below (T79.setTop (mkF m 23 #[.val (.int p0), .val (.int p1), .val (.ref b77), .val (.int (0 : Int32)), .unset, .unset] [(.int (0 : Int32))])) _
      refine XS.iconst X79.here hx rfl (hb hby at_23) ?_
      show Steps p.tables e below (T79.setTop (mkF m 24 #[.val (.int p0), .val (.int p1), .val (.ref b77), .val (.int (0 : Int32)), .unset, .unset] [(.int (2 : Int32)), (.int (0 : Int32))])) _
      refine XS.icmpYes X79.here hx rfl (pc0 := 24) (pc' := 32) rfl (hb hby at_24) rfl (tlt (by decide : (0 : Int32) < (2 : Int32))).1 (by decide) (by decide) ?_
      show Steps p.tables e below (T79.setTop (mkF m 32 #[.val (.int p0), .val (.int p1), .val (.ref b77), .val (.int (0 : Int32)), .unset, .unset] [])) _
      refine XS.iloadN X79.here hx rfl (hb hby at_32) rfl ?_
      show Steps p.tables e below (T79.setTop (mkF m 33 #[.val (.int p0), .val (.int p1), .val (.ref b77), .val (.int (0 : Int32)), .unset, .unset] [(.int (0 : Int32))])) _
      refine XS.iconst X79.here hx rfl (hb hby at_33) ?_
      show Steps p.tables e below (T79.setTop (mkF m 34 #[.val (.int p0), .val (.int p1), .val (.ref b77), .val (.int (0 : Int32)), .unset, .unset] [(.int (3 : Int32)), (.int (0 : Int32))])) _
      refine XS.icmpYes X79.here hx rfl (pc0 := 34) (pc' := 42) rfl (hb hby at_34) rfl (tlt (by decide : (0 : Int32) < (3 : Int32))).1 (by decide) (by decide) ?_
      show Steps p.tables e below (T79.setTop (mkF m 42 #[.val (.int p0), .val (.int p1), .val (.ref b77), .val (.int (0 : Int32)), .unset, .unset] [])) _
      refine XS.iloadN X79.here hx rfl (hb hby at_42) rfl ?_
      show Steps p.tables e below (T79.setTop (mkF m 43 #[.val (.int p0), .val (.int p1), .val (.ref b77), .val (.int (0 : Int32)), .unset, .unset] [(.int p1)])) _
      refine XS.iconst X79.here hx rfl (hb hby at_43) ?_
      show Steps p.tables e below (T79.setTop (mkF m 44 #[.val (.int p0), .val (.int p1), .val (.ref b77), .val (.int (0 : Int32)), .unset, .unset] [(.int (1 : Int32)), (.int p1)])) _
      refine XS.iand X79.here hx rfl (hb hby at_44) rfl ?_
      show Steps p.tables e below (T79.setTop (mkF m 45 #[.val (.int p0), .val (.int p1), .val (.ref b77), .val (.int (0 : Int32)), .unset, .unset] [(.int (p1 &&& (1 : Int32)))])) _
      exact kt
    obtain ⟨v1, hv1⟩ : ∃ z : Int32, z = (if (p1 &&& (1 : Int32)) = (0 : Int32) then (0 : Int32) else (1 : Int32)) := ⟨_, rfl⟩
    have pre86 : ∀ t, Steps p.tables e below (T79.setTop (mkF m 53 #[.val (.int p0), .val (.int p1), .val (.ref b77), .val (.int (0 : Int32)), .unset, .unset] [(.int v1)])) t → Steps p.tables e below (s₁.setTop (entryFrame m #[(.int p0), (.int p1)] maxLocals)) t := fun t kt => by
      refine pre84 _ ?_
      show Steps p.tables e below (T79.setTop (mkF m 45 #[.val (.int p0), .val (.int p1), .val (.ref b77), .val (.int (0 : Int32)), .unset, .unset] [(.int (p1 &&& (1 : Int32)))])) _
      by_cases hc85 : (p1 &&& (1 : Int32)) = (0 : Int32)
      · rw [if_pos hc85] at hv1
        refine XS.ifYes X79.here hx rfl (pc0 := 45) (pc' := 52) rfl (hb hby at_45) rfl ((if0 _ _).trans (teq hc85).1) (by decide) (by decide) ?_
        show Steps p.tables e below (T79.setTop (mkF m 52 #[.val (.int p0), .val (.int p1), .val (.ref b77), .val (.int (0 : Int32)), .unset, .unset] [])) _
        refine XS.iconst X79.here hx rfl (hb hby at_52) ?_
        subst hv1
        exact kt
      · rw [if_neg hc85] at hv1
        refine XS.ifNo X79.here hx rfl (hb hby at_45) rfl ((if0 _ _).trans (feq hc85).1) ?_
        show Steps p.tables e below (T79.setTop (mkF m 48 #[.val (.int p0), .val (.int p1), .val (.ref b77), .val (.int (0 : Int32)), .unset, .unset] [])) _
        refine XS.iconst X79.here hx rfl (hb hby at_48) ?_
        show Steps p.tables e below (T79.setTop (mkF m 49 #[.val (.int p0), .val (.int p1), .val (.ref b77), .val (.int (0 : Int32)), .unset, .unset] [(.int (1 : Int32))])) _
        refine XS.goto X79.here hx rfl (pc0 := 49) (pc' := 53) rfl (hb hby at_49) (by decide) (by decide) ?_
        subst hv1
        exact kt
    have pre87 : ∀ t, Steps p.tables e below (T79.setTop (mkF m 57 #[.val (.int p0), .val (.int p1), .val (.ref b77), .val (.int (0 : Int32)), .val (.int v1), .unset] [(.int v1)])) t → Steps p.tables e below (s₁.setTop (entryFrame m #[(.int p0), (.int p1)] maxLocals)) t := fun t kt => by
      refine pre86 _ ?_
      show Steps p.tables e below (T79.setTop (mkF m 53 #[.val (.int p0), .val (.int p1), .val (.ref b77), .val (.int (0 : Int32)), .unset, .unset] [(.int v1)])) _
      refine XS.istore X79.here hx rfl (hb hby at_53) rfl (l' := #[.val (.int p0), .val (.int p1), .val (.ref b77), .val (.int (0 : Int32)), .val (.int v1), .unset]) rfl ?_
      show Steps p.tables e below (T79.setTop (mkF m 55 #[.val (.int p0), .val (.int p1), .val (.ref b77), .val (.int (0 : Int32)), .val (.int v1), .unset] [])) _
      refine XS.iload X79.here hx rfl (hb hby at_55) rfl ?_
      show Steps p.tables e below (T79.setTop (mkF m 57 #[.val (.int p0), .val (.int p1), .val (.ref b77), .val (.int (0 : Int32)), .val (.int v1), .unset] [(.int v1)])) _
      exact kt
    obtain ⟨v2, hv2⟩ : ∃ z : Int32, z = (if v1 = (0 : Int32) then (0 : Int32) else ((1 : Int32) &&& 1)) := ⟨_, rfl⟩
    obtain ⟨T92, L92, X92, N92, Z92, E93, F94, F95, pre92⟩ : ∃ (T' : State) (L' : List Loc), Stand p l e room_1 s m #[(.int p0), (.int p1)] below meth c T' L' 1 2 ∧ Fr n0 L' ∧ n0 ≤ T'.heap.size ∧ Exa Z T'.heap b77 "tierlock/Epoch" ∧ Fld Z T'.heap b77 "tierlock/Epoch" "number" "I" (.int (0 : Int32)) ∧ Fld Z T'.heap b77 "tierlock/Epoch" "past" "Z" (.int v2) ∧ ∀ t, Steps p.tables e below (T'.setTop (mkF m 64 #[.val (.int p0), .val (.int p1), .val (.ref b77), .val (.int (0 : Int32)), .val (.int v1), .unset] [])) t → Steps p.tables e below (s₁.setTop (entryFrame m #[(.int p0), (.int p1)] maxLocals)) t := by
      by_cases hc96 : v1 = (0 : Int32)
      · skip
        have pre97 : ∀ t, Steps p.tables e below (T79.setTop (mkF m 64 #[.val (.int p0), .val (.int p1), .val (.ref b77), .val (.int (0 : Int32)), .val (.int v1), .unset] [])) t → Steps p.tables e below (s₁.setTop (entryFrame m #[(.int p0), (.int p1)] maxLocals)) t := fun t kt => by
          refine pre87 _ ?_
          show Steps p.tables e below (T79.setTop (mkF m 57 #[.val (.int p0), .val (.int p1), .val (.ref b77), .val (.int (0 : Int32)), .val (.int v1), .unset] [(.int v1)])) _
          refine XS.ifYes X79.here hx rfl (pc0 := 57) (pc' := 64) rfl (hb hby at_57) rfl ((if0 _ _).trans (teq hc96).1) (by decide) (by decide) ?_
          show Steps p.tables e below (T79.setTop (mkF m 64 #[.val (.int p0), .val (.int p1), .val (.ref b77), .val (.int (0 : Int32)), .val (.int v1), .unset] [])) _
          exact kt
        rw [if_pos hc96] at hv2
        subst hv2
        exact ⟨_, _, X79, N81, Z80, E79_0, F79_0, F79_1, pre97⟩
      · skip
        obtain ⟨cq98, kq98, q98a, q98b, q98c⟩ := isOf hZ rfl E79_0
        obtain ⟨_, _, ⟨T98, L98, k98, n98⟩, -, X98, ⟨Lc98, hQ98, l98, y98, z98⟩, st98⟩ := X79.virtualBack hx (y := (⟨"tierlock/Epoch", "pass", "()V"⟩ : MethodName)) (z := (⟨"tierlock/Epoch", "pass", "()V"⟩ : MethodName)) hown (mvT hZ (hw _ (List.mem_of_getElem? (i := 14) rfl))) (mvT hZ (hw _ (List.mem_of_getElem? (i := 15) rfl))) (notFace_of_selects (args := #[]) (mvT hZ (hw _ (List.mem_of_getElem? (i := 17) rfl)))) (mvT hZ (hw _ (List.mem_of_getElem? (i := 17) rfl))) (mvT hZ (hw _ (List.mem_of_getElem? (i := 16) rfl))) (by decide) (backOf (W := 0) (rm4 l Z aq hw [] b77 (0 : Int32) (0 : Int32) T79.heap n0 Z80 E79_0 F79_0 F79_1 g_b77) hZ (hw _ (List.mem_of_getElem? (i := 18) rfl)) (hw _ (List.mem_of_getElem? (i := 2) rfl)) (by decide) (by decide)) q98a q98c (g := (mkF m 61 #[.val (.int p0), .val (.int p1), .val (.ref b77), .val (.int (0 : Int32)), .val (.int v1), .unset] [(.ref b77)])) rfl (by rw [hml]; rfl) (Steps.refl _) (argsL := []) (rest := []) (lenOf pd93421996 rfl) rfl (by show 2 * 0 + _ ≤ _; exact Nat.le_of_eq rfl) (hb hby at_61) (fun _ _ => ⟨rfl, rfl, (by decide : 1 + 0 ≤ _), (by decide : 2 + 0 ≤ _)⟩)
        dsimp only [Pt.U, Pt.locs, Pt.cells, Pt.slots] at X98 l98 y98 z98 st98 hQ98
        subst l98 y98 z98
        obtain ⟨rfl, N98q, K98, E98_0, F98_0, F98_1⟩ := hQ98
        have Z99 : n0 ≤ T98.heap.size := Nat.le_trans Z80 K98.1
        have N100 := Fr.app N81 N98q
        have pre101 : ∀ t, Steps p.tables e below (T98.setTop (mkF m 64 #[.val (.int p0), .val (.int p1), .val (.ref b77), .val (.int (0 : Int32)), .val (.int v1), .unset] [])) t → Steps p.tables e below (s₁.setTop (entryFrame m #[(.int p0), (.int p1)] maxLocals)) t := fun t kt => by
          refine pre87 _ ?_
          show Steps p.tables e below (T79.setTop (mkF m 57 #[.val (.int p0), .val (.int p1), .val (.ref b77), .val (.int (0 : Int32)), .val (.int v1), .unset] [(.int v1)])) _
          refine XS.ifNo X79.here hx rfl (hb hby at_57) rfl ((if0 _ _).trans (feq hc96).1) ?_
          show Steps p.tables e below (T79.setTop (mkF m 60 #[.val (.int p0), .val (.int p1), .val (.ref b77), .val (.int (0 : Int32)), .val (.int v1), .unset] [])) _
          refine XS.aloadN X79.here hx rfl (hb hby at_60) rfl rfl ?_
          show Steps p.tables e below (T79.setTop (mkF m 61 #[.val (.int p0), .val (.int p1), .val (.ref b77), .val (.int (0 : Int32)), .val (.int v1), .unset] [(.ref b77)])) _
          refine st98.trans ?_
          show Steps p.tables e below (T98.setTop (mkF m 64 #[.val (.int p0), .val (.int p1), .val (.ref b77), .val (.int (0 : Int32)), .val (.int v1), .unset] [])) _
          exact kt
        rw [if_neg hc96] at hv2
        subst hv2
        exact ⟨_, _, X98, N100, Z99, E98_0, F98_0, F98_1, pre101⟩
    obtain ⟨cq102, kq102, q102a, q102b, q102c⟩ := isOf hZ rfl E93
    obtain ⟨_, _, ⟨T102, L102, k102, n102⟩, -, X102, ⟨Lc102, hQ102, l102, y102, z102⟩, st102⟩ := X92.virtualBack hx (y := (⟨"tierlock/Epoch", "successor", "()Ltierlock/Epoch;"⟩ : MethodName)) (z := (⟨"tierlock/Epoch", "successor", "()Ltierlock/Epoch;"⟩ : MethodName)) hown (mvT hZ (hw _ (List.mem_of_getElem? (i := 21) rfl))) (mvT hZ (hw _ (List.mem_of_getElem? (i := 22) rfl))) (notFace_of_selects (args := #[]) (mvT hZ (hw _ (List.mem_of_getElem? (i := 24) rfl)))) (mvT hZ (hw _ (List.mem_of_getElem? (i := 24) rfl))) (mvT hZ (hw _ (List.mem_of_getElem? (i := 23) rfl))) (by decide) (backOf (W := 0) (rm5 l Z aq hw [] b77 (0 : Int32) v2 T92.heap n0 Z92 E93 F94 F95) hZ (hw _ (List.mem_of_getElem? (i := 25) rfl)) (hw _ (List.mem_of_getElem? (i := 2) rfl)) (by decide) (by decide)) q102a q102c (g := (mkF m 65 #[.val (.int p0), .val (.int p1), .val (.ref b77), .val (.int (0 : Int32)), .val (.int v1), .unset] [(.ref b77)])) rfl (by rw [hml]; rfl) (Steps.refl _) (argsL := []) (rest := []) (lenOf pd35347256 rfl) rfl (by show 2 * 0 + _ ≤ _; exact Nat.le_of_eq rfl) (hb hby at_65) (fun _ _ => ⟨rfl, rfl, (by decide : 1 + 1 ≤ _), (by decide : 2 + 2 ≤ _)⟩)
    dsimp only [Pt.U, Pt.locs, Pt.cells, Pt.slots] at X102 l102 y102 z102 st102 hQ102
    subst l102 y102 z102
    obtain ⟨r102, rfl, N102q, K102, s102, E102_0, F102_0, F102_1⟩ := hQ102
    have g_r102 : n0 ≤ r102 := Nat.le_trans Z92 s102
    have ne_b77_r102 : b77 ≠ r102 := Nat.ne_of_lt (Nat.lt_of_lt_of_le E93.lt s102)
    have E103 := E93.keep K102
    have F104 := F94.keep K102 nin0
    have F105 := F95.keep K102 nin0
    have Z106 : n0 ≤ T102.heap.size := Nat.le_trans Z92 K102.1
    have N107 := Fr.app N92 N102q
    obtain ⟨cq108, kq108, q108a, q108b, q108c⟩ := isOf hZ rfl E102_0
    obtain ⟨_, _, ⟨T108, L108, k108, n108⟩, -, X108, ⟨Lc108, hQ108, l108, y108, z108⟩, st108⟩ := X102.virtualBack hx (y := (⟨"tierlock/Epoch", "number", "()I"⟩ : MethodName)) (z := (⟨"tierlock/Epoch", "number", "()I"⟩ : MethodName)) hown (mvT hZ (hw _ (List.mem_of_getElem? (i := 27) rfl))) (mvT hZ (hw _ (List.mem_of_getElem? (i := 28) rfl))) (notFace_of_selects (args := #[]) (mvT hZ (hw _ (List.mem_of_getElem? (i := 30) rfl)))) (mvT hZ (hw _ (List.mem_of_getElem? (i := 30) rfl))) (mvT hZ (hw _ (List.mem_of_getElem? (i := 29) rfl))) (by decide) (backOf (W := 0) (rm6 l Z aq hw [] r102 ((0 : Int32) + (1 : Int32)) (0 : Int32) T102.heap n0 Z106 E102_0 F102_0 F102_1) hZ (hw _ (List.mem_of_getElem? (i := 31) rfl)) (hw _ (List.mem_of_getElem? (i := 2) rfl)) (by decide) (by decide)) q108a q108c (g := (mkF m 85 #[.val (.int p0), .val (.int p1), .val (.ref b77), .val (.int (0 : Int32)), .val (.int v1), .val (.ref r102)] [(.ref r102)])) rfl (by rw [hml]; rfl) (Steps.refl _) (argsL := []) (rest := []) (lenOf pd93421983 rfl) rfl (by show 2 * 0 + _ ≤ _; exact Nat.le_of_eq rfl) (hb hby at_85) (fun _ _ => ⟨rfl, rfl, (by decide : 2 + 0 ≤ _), (by decide : 4 + 0 ≤ _)⟩)
    dsimp only [Pt.U, Pt.locs, Pt.cells, Pt.slots] at X108 l108 y108 z108 st108 hQ108
    subst l108 y108 z108
    obtain ⟨rfl, N108q, e108⟩ := hQ108
    have N109 := Fr.app N107 N108q
    obtain ⟨cq110, kq110, q110a, q110b, q110c⟩ := isOf hZ e108 E103
    obtain ⟨_, _, ⟨T110, L110, k110, n110⟩, -, X110, ⟨Lc110, hQ110, l110, y110, z110⟩, st110⟩ := X108.virtualBack hx (y := (⟨"tierlock/Epoch", "number", "()I"⟩ : MethodName)) (z := (⟨"tierlock/Epoch", "number", "()I"⟩ : MethodName)) hown (mvT hZ (hw _ (List.mem_of_getElem? (i := 27) rfl))) (mvT hZ (hw _ (List.mem_of_getElem? (i := 28) rfl))) (notFace_of_selects (args := #[]) (mvT hZ (hw _ (List.mem_of_getElem? (i := 30) rfl)))) (mvT hZ (hw _ (List.mem_of_getElem? (i := 30) rfl))) (mvT hZ (hw _ (List.mem_of_getElem? (i := 29) rfl))) (by decide) (backOf (W := 0) (rm6 l Z aq hw [] b77 (0 : Int32) v2 T102.heap n0 Z106 E103 F104 F105) hZ (hw _ (List.mem_of_getElem? (i := 31) rfl)) (hw _ (List.mem_of_getElem? (i := 2) rfl)) (by decide) (by decide)) q110a q110c (g := (mkF m 95 #[.val (.int p0), .val (.int p1), .val (.ref b77), .val (.int (0 : Int32)), .val (.int v1), .val (.ref r102)] [(.ref b77)])) rfl (by rw [hml]; rfl) (Steps.refl _) (argsL := []) (rest := []) (lenOf pd93421983 rfl) rfl (by show 2 * 0 + _ ≤ _; exact Nat.le_of_eq rfl) (hb hby at_95) (fun _ _ => ⟨rfl, e108, (by decide : 2 + 0 ≤ _), (by decide : 4 + 0 ≤ _)⟩)
    dsimp only [Pt.U, Pt.locs, Pt.cells, Pt.slots] at X110 l110 y110 z110 st110 hQ110
    subst l110 y110 z110
    obtain ⟨rfl, N110q, e110⟩ := hQ110
    have N111 := Fr.app N109 N110q
    obtain ⟨cq112, kq112, q112a, q112b, q112c⟩ := isOf hZ e110 E102_0
    obtain ⟨_, _, ⟨T112, L112, k112, n112⟩, -, X112, ⟨Lc112, hQ112, l112, y112, z112⟩, st112⟩ := X110.virtualBack hx (y := (⟨"tierlock/Epoch", "isPast", "()Z"⟩ : MethodName)) (z := (⟨"tierlock/Epoch", "isPast", "()Z"⟩ : MethodName)) hown (mvT hZ (hw _ (List.mem_of_getElem? (i := 32) rfl))) (mvT hZ (hw _ (List.mem_of_getElem? (i := 33) rfl))) (notFace_of_selects (args := #[]) (mvT hZ (hw _ (List.mem_of_getElem? (i := 35) rfl)))) (mvT hZ (hw _ (List.mem_of_getElem? (i := 35) rfl))) (mvT hZ (hw _ (List.mem_of_getElem? (i := 34) rfl))) (by decide) (backOf (W := 0) (rm7 l Z aq hw [] r102 ((0 : Int32) + (1 : Int32)) (0 : Int32) T102.heap n0 Z106 E102_0 F102_0 F102_1) hZ (hw _ (List.mem_of_getElem? (i := 36) rfl)) (hw _ (List.mem_of_getElem? (i := 2) rfl)) (by decide) (by decide)) q112a q112c (g := (mkF m 104 #[.val (.int p0), .val (.int p1), .val (.ref b77), .val (.int (0 : Int32)), .val (.int v1), .val (.ref r102)] [(.ref r102)])) rfl (by rw [hml]; rfl) (Steps.refl _) (argsL := []) (rest := []) (lenOf pd93422000 rfl) rfl (by show 2 * 0 + _ ≤ _; exact Nat.le_of_eq rfl) (hb hby at_104) (fun _ _ => ⟨rfl, e110, (by decide : 2 + 0 ≤ _), (by decide : 4 + 0 ≤ _)⟩)
    dsimp only [Pt.U, Pt.locs, Pt.cells, Pt.slots] at X112 l112 y112 z112 st112 hQ112
    subst l112 y112 z112
    obtain ⟨rfl, N112q, e112⟩ := hQ112
    have N113 := Fr.app N111 N112q
    obtain ⟨cq114, kq114, q114a, q114b, q114c⟩ := isOf hZ e112 E103
    obtain ⟨_, _, ⟨T114, L114, k114, n114⟩, -, X114, ⟨Lc114, hQ114, l114, y114, z114⟩, st114⟩ := X112.virtualBack hx (y := (⟨"tierlock/Epoch", "isPast", "()Z"⟩ : MethodName)) (z := (⟨"tierlock/Epoch", "isPast", "()Z"⟩ : MethodName)) hown (mvT hZ (hw _ (List.mem_of_getElem? (i := 32) rfl))) (mvT hZ (hw _ (List.mem_of_getElem? (i := 33) rfl))) (notFace_of_selects (args := #[]) (mvT hZ (hw _ (List.mem_of_getElem? (i := 35) rfl)))) (mvT hZ (hw _ (List.mem_of_getElem? (i := 35) rfl))) (mvT hZ (hw _ (List.mem_of_getElem? (i := 34) rfl))) (by decide) (backOf (W := 0) (rm7 l Z aq hw [] b77 (0 : Int32) v2 T102.heap n0 Z106 E103 F104 F105) hZ (hw _ (List.mem_of_getElem? (i := 36) rfl)) (hw _ (List.mem_of_getElem? (i := 2) rfl)) (by decide) (by decide)) q114a q114c (g := (mkF m 111 #[.val (.int p0), .val (.int p1), .val (.ref b77), .val (.int (0 : Int32)), .val (.int v1), .val (.ref r102)] [(.ref b77)])) rfl (by rw [hml]; rfl) (Steps.refl _) (argsL := []) (rest := []) (lenOf pd93422000 rfl) rfl (by show 2 * 0 + _ ≤ _; exact Nat.le_of_eq rfl) (hb hby at_111) (fun _ _ => ⟨rfl, e112, (by decide : 2 + 0 ≤ _), (by decide : 4 + 0 ≤ _)⟩)
    dsimp only [Pt.U, Pt.locs, Pt.cells, Pt.slots] at X114 l114 y114 z114 st114 hQ114
    subst l114 y114 z114
    obtain ⟨rfl, N114q, e114⟩ := hQ114
    have N115 := Fr.app N113 N114q
    have pre116 : ∀ t, Steps p.tables e below (T114.setTop (mkF m 116 #[.val (.int p0), .val (.int p1), .val (.ref b77), .val (.int (0 : Int32)), .val (.int v1), .val (.ref r102)] [(.int v1), (.int (v2 &&& 1))])) t → Steps p.tables e below (s₁.setTop (entryFrame m #[(.int p0), (.int p1)] maxLocals)) t := fun t kt => by
      refine pre92 _ ?_
      show Steps p.tables e below (T92.setTop (mkF m 64 #[.val (.int p0), .val (.int p1), .val (.ref b77), .val (.int (0 : Int32)), .val (.int v1), .unset] [])) _
      refine XS.aloadN X92.here hx rfl (hb hby at_64) rfl rfl ?_
      show Steps p.tables e below (T92.setTop (mkF m 65 #[.val (.int p0), .val (.int p1), .val (.ref b77), .val (.int (0 : Int32)), .val (.int v1), .unset] [(.ref b77)])) _
      refine st102.trans ?_
      show Steps p.tables e below (T102.setTop (mkF m 68 #[.val (.int p0), .val (.int p1), .val (.ref b77), .val (.int (0 : Int32)), .val (.int v1), .unset] [(.ref r102)])) _
      refine XS.astore X102.here hx rfl (hb hby at_68) rfl rfl (l' := #[.val (.int p0), .val (.int p1), .val (.ref b77), .val (.int (0 : Int32)), .val (.int v1), .val (.ref r102)]) rfl ?_
      show Steps p.tables e below (T102.setTop (mkF m 70 #[.val (.int p0), .val (.int p1), .val (.ref b77), .val (.int (0 : Int32)), .val (.int v1), .val (.ref r102)] [])) _
      refine XS.aload X102.here hx rfl (hb hby at_70) rfl rfl ?_
      show Steps p.tables e below (T102.setTop (mkF m 72 #[.val (.int p0), .val (.int p1), .val (.ref b77), .val (.int (0 : Int32)), .val (.int v1), .val (.ref r102)] [(.ref r102)])) _
      refine XS.ifnullNo X102.here hx rfl (hb hby at_72) rfl ?_
      show Steps p.tables e below (T102.setTop (mkF m 75 #[.val (.int p0), .val (.int p1), .val (.ref b77), .val (.int (0 : Int32)), .val (.int v1), .val (.ref r102)] [])) _
      refine XS.aload X102.here hx rfl (hb hby at_75) rfl rfl ?_
      show Steps p.tables e below (T102.setTop (mkF m 77 #[.val (.int p0), .val (.int p1), .val (.ref b77), .val (.int (0 : Int32)), .val (.int v1), .val (.ref r102)] [(.ref r102)])) _
      refine XS.aloadN X102.here hx rfl (hb hby at_77) rfl rfl ?_
      show Steps p.tables e below (T102.setTop (mkF m 78 #[.val (.int p0), .val (.int p1), .val (.ref b77), .val (.int (0 : Int32)), .val (.int v1), .val (.ref r102)] [(.ref b77), (.ref r102)])) _
      refine Jvm.RoadKit.acmp (g := (mkF m 78 #[.val (.int p0), .val (.int p1), .val (.ref b77), .val (.int (0 : Int32)), .val (.int v1), .val (.ref r102)] [(.ref b77), (.ref r102)])) X102 hx rfl rfl rfl (pc0 := 78) (pc' := 83) (same := false) rfl (hb hby at_78) rfl (decide_eq_false fun q => (Ne.symm ne_b77_r102) (Value.ref.inj q)) (by decide) (by decide) ?_
      show Steps p.tables e below (T102.setTop (mkF m 83 #[.val (.int p0), .val (.int p1), .val (.ref b77), .val (.int (0 : Int32)), .val (.int v1), .val (.ref r102)] [])) _
      refine XS.aload X102.here hx rfl (hb hby at_83) rfl rfl ?_
      show Steps p.tables e below (T102.setTop (mkF m 85 #[.val (.int p0), .val (.int p1), .val (.ref b77), .val (.int (0 : Int32)), .val (.int v1), .val (.ref r102)] [(.ref r102)])) _
      refine st108.trans ?_
      show Steps p.tables e below (T108.setTop (mkF m 88 #[.val (.int p0), .val (.int p1), .val (.ref b77), .val (.int (0 : Int32)), .val (.int v1), .val (.ref r102)] [(.int ((0 : Int32) + (1 : Int32)))])) _
      refine XS.iloadN X108.here hx rfl (hb hby at_88) rfl ?_
      show Steps p.tables e below (T108.setTop (mkF m 89 #[.val (.int p0), .val (.int p1), .val (.ref b77), .val (.int (0 : Int32)), .val (.int v1), .val (.ref r102)] [(.int (0 : Int32)), (.int ((0 : Int32) + (1 : Int32)))])) _
      refine XS.iconst X108.here hx rfl (hb hby at_89) ?_
      show Steps p.tables e below (T108.setTop (mkF m 90 #[.val (.int p0), .val (.int p1), .val (.ref b77), .val (.int (0 : Int32)), .val (.int v1), .val (.ref r102)] [(.int (1 : Int32)), (.int (0 : Int32)), (.int ((0 : Int32) + (1 : Int32)))])) _
      refine XS.iadd X108.here hx rfl (hb hby at_90) rfl ?_
      show Steps p.tables e below (T108.setTop (mkF m 91 #[.val (.int p0), .val (.int p1), .val (.ref b77), .val (.int (0 : Int32)), .val (.int v1), .val (.ref r102)] [(.int ((0 : Int32) + (1 : Int32))), (.int ((0 : Int32) + (1 : Int32)))])) _
      refine XS.icmpNo X108.here hx rfl (hb hby at_91) rfl (teq (by decide : ((0 : Int32) + (1 : Int32)) = ((0 : Int32) + (1 : Int32)))).2 ?_
      show Steps p.tables e below (T108.setTop (mkF m 94 #[.val (.int p0), .val (.int p1), .val (.ref b77), .val (.int (0 : Int32)), .val (.int v1), .val (.ref r102)] [])) _
      refine XS.aloadN X108.here hx rfl (hb hby at_94) rfl rfl ?_
      show Steps p.tables e below (T108.setTop (mkF m 95 #[.val (.int p0), .val (.int p1), .val (.ref b77), .val (.int (0 : Int32)), .val (.int v1), .val (.ref r102)] [(.ref b77)])) _
      refine st110.trans ?_
      show Steps p.tables e below (T110.setTop (mkF m 98 #[.val (.int p0), .val (.int p1), .val (.ref b77), .val (.int (0 : Int32)), .val (.int v1), .val (.ref r102)] [(.int (0 : Int32))])) _
      refine XS.iloadN X110.here hx rfl (hb hby at_98) rfl ?_
      show Steps p.tables e below (T110.setTop (mkF m 99 #[.val (.int p0), .val (.int p1), .val (.ref b77), .val (.int (0 : Int32)), .val (.int v1), .val (.ref r102)] [(.int (0 : Int32)), (.int (0 : Int32))])) _
      refine XS.icmpNo X110.here hx rfl (hb hby at_99) rfl (teq (by decide : (0 : Int32) = (0 : Int32))).2 ?_
      show Steps p.tables e below (T110.setTop (mkF m 102 #[.val (.int p0), .val (.int p1), .val (.ref b77), .val (.int (0 : Int32)), .val (.int v1), .val (.ref r102)] [])) _
      refine XS.aload X110.here hx rfl (hb hby at_102) rfl rfl ?_
      show Steps p.tables e below (T110.setTop (mkF m 104 #[.val (.int p0), .val (.int p1), .val (.ref b77), .val (.int (0 : Int32)), .val (.int v1), .val (.ref r102)] [(.ref r102)])) _
      refine st112.trans ?_
      show Steps p.tables e below (T112.setTop (mkF m 107 #[.val (.int p0), .val (.int p1), .val (.ref b77), .val (.int (0 : Int32)), .val (.int v1), .val (.ref r102)] [(.int ((0 : Int32) &&& 1))])) _
      refine XS.ifNo X112.here hx rfl (hb hby at_107) rfl ((if0 _ _).trans (teq (by decide : ((0 : Int32) &&& 1) = (0 : Int32))).2) ?_
      show Steps p.tables e below (T112.setTop (mkF m 110 #[.val (.int p0), .val (.int p1), .val (.ref b77), .val (.int (0 : Int32)), .val (.int v1), .val (.ref r102)] [])) _
      refine XS.aloadN X112.here hx rfl (hb hby at_110) rfl rfl ?_
      show Steps p.tables e below (T112.setTop (mkF m 111 #[.val (.int p0), .val (.int p1), .val (.ref b77), .val (.int (0 : Int32)), .val (.int v1), .val (.ref r102)] [(.ref b77)])) _
      refine st114.trans ?_
      show Steps p.tables e below (T114.setTop (mkF m 114 #[.val (.int p0), .val (.int p1), .val (.ref b77), .val (.int (0 : Int32)), .val (.int v1), .val (.ref r102)] [(.int (v2 &&& 1))])) _
      refine XS.iload X114.here hx rfl (hb hby at_114) rfl ?_
      show Steps p.tables e below (T114.setTop (mkF m 116 #[.val (.int p0), .val (.int p1), .val (.ref b77), .val (.int (0 : Int32)), .val (.int v1), .val (.ref r102)] [(.int v1), (.int (v2 &&& 1))])) _
      exact kt
    obtain ⟨v3, hv3⟩ : ∃ z : Int32, z = (if (v2 &&& 1) = v1 then (1 : Int32) else (0 : Int32)) := ⟨_, rfl⟩
    have pre118 : ∀ t, Steps p.tables e below (T114.setTop (mkF m 124 #[.val (.int p0), .val (.int p1), .val (.ref b77), .val (.int (0 : Int32)), .val (.int v1), .val (.ref r102)] [(.int v3)])) t → Steps p.tables e below (s₁.setTop (entryFrame m #[(.int p0), (.int p1)] maxLocals)) t := fun t kt => by
      refine pre116 _ ?_
      show Steps p.tables e below (T114.setTop (mkF m 116 #[.val (.int p0), .val (.int p1), .val (.ref b77), .val (.int (0 : Int32)), .val (.int v1), .val (.ref r102)] [(.int v1), (.int (v2 &&& 1))])) _
      by_cases hc117 : (v2 &&& 1) = v1
      · rw [if_pos hc117] at hv3
        refine XS.icmpNo X114.here hx rfl (hb hby at_116) rfl (teq hc117).2 ?_
        show Steps p.tables e below (T114.setTop (mkF m 119 #[.val (.int p0), .val (.int p1), .val (.ref b77), .val (.int (0 : Int32)), .val (.int v1), .val (.ref r102)] [])) _
        refine XS.iconst X114.here hx rfl (hb hby at_119) ?_
        show Steps p.tables e below (T114.setTop (mkF m 120 #[.val (.int p0), .val (.int p1), .val (.ref b77), .val (.int (0 : Int32)), .val (.int v1), .val (.ref r102)] [(.int (1 : Int32))])) _
        refine XS.goto X114.here hx rfl (pc0 := 120) (pc' := 124) rfl (hb hby at_120) (by decide) (by decide) ?_
        subst hv3
        exact kt
      · rw [if_neg hc117] at hv3
        refine XS.icmpYes X114.here hx rfl (pc0 := 116) (pc' := 123) rfl (hb hby at_116) rfl (feq hc117).2 (by decide) (by decide) ?_
        show Steps p.tables e below (T114.setTop (mkF m 123 #[.val (.int p0), .val (.int p1), .val (.ref b77), .val (.int (0 : Int32)), .val (.int v1), .val (.ref r102)] [])) _
        refine XS.iconst X114.here hx rfl (hb hby at_123) ?_
        subst hv3
        exact kt
    have hfin : v3 = 1 := (own_plain0 p0 p1 v1 hv1 v2 hv2 v3 hv3)
    obtain ⟨fs, hr, hrun, hended, hW, hsame⟩ := X114.leave (v := some (.int (v3 &&& 1))) (fun h => by rw [Bd.returns] at h; cases h)
    refine ⟨_, _, pre118 _ ?_, hrun, hended, _, _, rfl, ?_, ⟨_, rfl⟩, hW, hsame.mono (by decide) (by decide)⟩
    · exact retN X114 hx (t := .boolean) Bd.returns (by simp) (hb hby at_124) hr
    · exact ⟨by rw [hfin]; rfl, N115⟩
  · skip
    have pre119 : ∀ t, Steps p.tables e below (T79.setTop (mkF m 12 #[.val (.int p0), .val (.int p1), .val (.ref b77), .val (.int (1 : Int32)), .unset, .unset] [])) t → Steps p.tables e below (s₁.setTop (entryFrame m #[(.int p0), (.int p1)] maxLocals)) t := fun t kt => pre82 t (by rw [hk]; exact kt)
    obtain ⟨cq120, kq120, q120a, q120b, q120c⟩ := isOf hZ rfl E79_0
    obtain ⟨_, _, ⟨T120, L120, k120, n120⟩, -, X120, ⟨Lc120, hQ120, l120, y120, z120⟩, st120⟩ := X79.virtualBack hx (y := (⟨"tierlock/Epoch", "successor", "()Ltierlock/Epoch;"⟩ : MethodName)) (z := (⟨"tierlock/Epoch", "successor", "()Ltierlock/Epoch;"⟩ : MethodName)) hown (mvT hZ (hw _ (List.mem_of_getElem? (i := 21) rfl))) (mvT hZ (hw _ (List.mem_of_getElem? (i := 22) rfl))) (notFace_of_selects (args := #[]) (mvT hZ (hw _ (List.mem_of_getElem? (i := 24) rfl)))) (mvT hZ (hw _ (List.mem_of_getElem? (i := 24) rfl))) (mvT hZ (hw _ (List.mem_of_getElem? (i := 23) rfl))) (by decide) (backOf (W := 0) (rm5 l Z aq hw [] b77 (0 : Int32) (0 : Int32) T79.heap n0 Z80 E79_0 F79_0 F79_1) hZ (hw _ (List.mem_of_getElem? (i := 25) rfl)) (hw _ (List.mem_of_getElem? (i := 2) rfl)) (by decide) (by decide)) q120a q120c (g := (mkF m 18 #[.val (.int p0), .val (.int p1), .val (.ref b77), .val (.int (1 : Int32)), .unset, .unset] [(.ref b77)])) rfl (by rw [hml]; rfl) (Steps.refl _) (argsL := []) (rest := []) (lenOf pd35347256 rfl) rfl (by show 2 * 0 + _ ≤ _; exact Nat.le_of_eq rfl) (hb hby at_18) (fun _ _ => ⟨rfl, rfl, (by decide : 1 + 1 ≤ _), (by decide : 2 + 2 ≤ _)⟩)
    dsimp only [Pt.U, Pt.locs, Pt.cells, Pt.slots] at X120 l120 y120 z120 st120 hQ120
    subst l120 y120 z120
    obtain ⟨r120, rfl, N120q, K120, s120, E120_0, F120_0, F120_1⟩ := hQ120
    have g_r120 : n0 ≤ r120 := Nat.le_trans Z80 s120
    have ne_b77_r120 : b77 ≠ r120 := Nat.ne_of_lt (Nat.lt_of_lt_of_le E79_0.lt s120)
    have E121 := E79_0.keep K120
    have F122 := F79_0.keep K120 nin0
    have F123 := F79_1.keep K120 nin0
    have Z124 : n0 ≤ T120.heap.size := Nat.le_trans Z80 K120.1
    have N125 := Fr.app N81 N120q
    have pre126 : ∀ t, Steps p.tables e below (T120.setTop (mkF m 45 #[.val (.int p0), .val (.int p1), .val (.ref r120), .val (.int (1 : Int32)), .unset, .unset] [(.int (p1 &&& (1 : Int32)))])) t → Steps p.tables e below (s₁.setTop (entryFrame m #[(.int p0), (.int p1)] maxLocals)) t := fun t kt => by
      refine pre119 _ ?_
      show Steps p.tables e below (T79.setTop (mkF m 12 #[.val (.int p0), .val (.int p1), .val (.ref b77), .val (.int (1 : Int32)), .unset, .unset] [])) _
      refine XS.iloadN X79.here hx rfl (hb hby at_12) rfl ?_
      show Steps p.tables e below (T79.setTop (mkF m 13 #[.val (.int p0), .val (.int p1), .val (.ref b77), .val (.int (1 : Int32)), .unset, .unset] [(.int (1 : Int32))])) _
      refine XS.iconst X79.here hx rfl (hb hby at_13) ?_
      show Steps p.tables e below (T79.setTop (mkF m 14 #[.val (.int p0), .val (.int p1), .val (.ref b77), .val (.int (1 : Int32)), .unset, .unset] [(.int (1 : Int32)), (.int (1 : Int32))])) _
      refine XS.icmpNo X79.here hx rfl (hb hby at_14) rfl (flt (by decide : ¬ ((1 : Int32) < (1 : Int32)))).1 ?_
      show Steps p.tables e below (T79.setTop (mkF m 17 #[.val (.int p0), .val (.int p1), .val (.ref b77), .val (.int (1 : Int32)), .unset, .unset] [])) _
      refine XS.aloadN X79.here hx rfl (hb hby at_17) rfl rfl ?_
      show Steps p.tables e below (T79.setTop (mkF m 18 #[.val (.int p0), .val (.int p1), .val (.ref b77), .val (.int (1 : Int32)), .unset, .unset] [(.ref b77)])) _
      refine st120.trans ?_
      show Steps p.tables e below (T120.setTop (mkF m 21 #[.val (.int p0), .val (.int p1), .val (.ref b77), .val (.int (1 : Int32)), .unset, .unset] [(.ref r120)])) _
      refine XS.astoreN X120.here hx rfl (hb hby at_21) rfl rfl (l' := #[.val (.int p0), .val (.int p1), .val (.ref r120), .val (.int (1 : Int32)), .unset, .unset]) rfl ?_
      show Steps p.tables e below (T120.setTop (mkF m 22 #[.val (.int p0), .val (.int p1), .val (.ref r120), .val (.int (1 : Int32)), .unset, .unset] [])) _
      refine XS.iloadN X120.here hx rfl (hb hby at_22) rfl ?_
      show Steps p.tables e below (T120.setTop (mkF m 23 #[.val (.int p0), .val (.int p1), .val (.ref r120), .val (.int (1 : Int32)), .unset, .unset] [(.int (1 : Int32))])) _
      refine XS.iconst X120.here hx rfl (hb hby at_23) ?_
      show Steps p.tables e below (T120.setTop (mkF m 24 #[.val (.int p0), .val (.int p1), .val (.ref r120), .val (.int (1 : Int32)), .unset, .unset] [(.int (2 : Int32)), (.int (1 : Int32))])) _
      refine XS.icmpYes X120.here hx rfl (pc0 := 24) (pc' := 32) rfl (hb hby at_24) rfl (tlt (by decide : (1 : Int32) < (2 : Int32))).1 (by decide) (by decide) ?_
      show Steps p.tables e below (T120.setTop (mkF m 32 #[.val (.int p0), .val (.int p1), .val (.ref r120), .val (.int (1 : Int32)), .unset, .unset] [])) _
      refine XS.iloadN X120.here hx rfl (hb hby at_32) rfl ?_
      show Steps p.tables e below (T120.setTop (mkF m 33 #[.val (.int p0), .val (.int p1), .val (.ref r120), .val (.int (1 : Int32)), .unset, .unset] [(.int (1 : Int32))])) _
      refine XS.iconst X120.here hx rfl (hb hby at_33) ?_
      show Steps p.tables e below (T120.setTop (mkF m 34 #[.val (.int p0), .val (.int p1), .val (.ref r120), .val (.int (1 : Int32)), .unset, .unset] [(.int (3 : Int32)), (.int (1 : Int32))])) _
      refine XS.icmpYes X120.here hx rfl (pc0 := 34) (pc' := 42) rfl (hb hby at_34) rfl (tlt (by decide : (1 : Int32) < (3 : Int32))).1 (by decide) (by decide) ?_
      show Steps p.tables e below (T120.setTop (mkF m 42 #[.val (.int p0), .val (.int p1), .val (.ref r120), .val (.int (1 : Int32)), .unset, .unset] [])) _
      refine XS.iloadN X120.here hx rfl (hb hby at_42) rfl ?_
      show Steps p.tables e below (T120.setTop (mkF m 43 #[.val (.int p0), .val (.int p1), .val (.ref r120), .val (.int (1 : Int32)), .unset, .unset] [(.int p1)])) _
      refine XS.iconst X120.here hx rfl (hb hby at_43) ?_
      show Steps p.tables e below (T120.setTop (mkF m 44 #[.val (.int p0), .val (.int p1), .val (.ref r120), .val (.int (1 : Int32)), .unset, .unset] [(.int (1 : Int32)), (.int p1)])) _
      refine XS.iand X120.here hx rfl (hb hby at_44) rfl ?_
      show Steps p.tables e below (T120.setTop (mkF m 45 #[.val (.int p0), .val (.int p1), .val (.ref r120), .val (.int (1 : Int32)), .unset, .unset] [(.int (p1 &&& (1 : Int32)))])) _
      exact kt
    obtain ⟨v1, hv1⟩ : ∃ z : Int32, z = (if (p1 &&& (1 : Int32)) = (0 : Int32) then (0 : Int32) else (1 : Int32)) := ⟨_, rfl⟩
    have pre128 : ∀ t, Steps p.tables e below (T120.setTop (mkF m 53 #[.val (.int p0), .val (.int p1), .val (.ref r120), .val (.int (1 : Int32)), .unset, .unset] [(.int v1)])) t → Steps p.tables e below (s₁.setTop (entryFrame m #[(.int p0), (.int p1)] maxLocals)) t := fun t kt => by
      refine pre126 _ ?_
      show Steps p.tables e below (T120.setTop (mkF m 45 #[.val (.int p0), .val (.int p1), .val (.ref r120), .val (.int (1 : Int32)), .unset, .unset] [(.int (p1 &&& (1 : Int32)))])) _
      by_cases hc127 : (p1 &&& (1 : Int32)) = (0 : Int32)
      · rw [if_pos hc127] at hv1
        refine XS.ifYes X120.here hx rfl (pc0 := 45) (pc' := 52) rfl (hb hby at_45) rfl ((if0 _ _).trans (teq hc127).1) (by decide) (by decide) ?_
        show Steps p.tables e below (T120.setTop (mkF m 52 #[.val (.int p0), .val (.int p1), .val (.ref r120), .val (.int (1 : Int32)), .unset, .unset] [])) _
        refine XS.iconst X120.here hx rfl (hb hby at_52) ?_
        subst hv1
        exact kt
      · rw [if_neg hc127] at hv1
        refine XS.ifNo X120.here hx rfl (hb hby at_45) rfl ((if0 _ _).trans (feq hc127).1) ?_
        show Steps p.tables e below (T120.setTop (mkF m 48 #[.val (.int p0), .val (.int p1), .val (.ref r120), .val (.int (1 : Int32)), .unset, .unset] [])) _
        refine XS.iconst X120.here hx rfl (hb hby at_48) ?_
        show Steps p.tables e below (T120.setTop (mkF m 49 #[.val (.int p0), .val (.int p1), .val (.ref r120), .val (.int (1 : Int32)), .unset, .unset] [(.int (1 : Int32))])) _
        refine XS.goto X120.here hx rfl (pc0 := 49) (pc' := 53) rfl (hb hby at_49) (by decide) (by decide) ?_
        subst hv1
        exact kt
    have pre129 : ∀ t, Steps p.tables e below (T120.setTop (mkF m 57 #[.val (.int p0), .val (.int p1), .val (.ref r120), .val (.int (1 : Int32)), .val (.int v1), .unset] [(.int v1)])) t → Steps p.tables e below (s₁.setTop (entryFrame m #[(.int p0), (.int p1)] maxLocals)) t := fun t kt => by
      refine pre128 _ ?_
      show Steps p.tables e below (T120.setTop (mkF m 53 #[.val (.int p0), .val (.int p1), .val (.ref r120), .val (.int (1 : Int32)), .unset, .unset] [(.int v1)])) _
      refine XS.istore X120.here hx rfl (hb hby at_53) rfl (l' := #[.val (.int p0), .val (.int p1), .val (.ref r120), .val (.int (1 : Int32)), .val (.int v1), .unset]) rfl ?_
      show Steps p.tables e below (T120.setTop (mkF m 55 #[.val (.int p0), .val (.int p1), .val (.ref r120), .val (.int (1 : Int32)), .val (.int v1), .unset] [])) _
      refine XS.iload X120.here hx rfl (hb hby at_55) rfl ?_
      show Steps p.tables e below (T120.setTop (mkF m 57 #[.val (.int p0), .val (.int p1), .val (.ref r120), .val (.int (1 : Int32)), .val (.int v1), .unset] [(.int v1)])) _
      exact kt
    obtain ⟨v2, hv2⟩ : ∃ z : Int32, z = (if v1 = (0 : Int32) then (0 : Int32) else ((1 : Int32) &&& 1)) := ⟨_, rfl⟩
    obtain ⟨T137, L137, X137, N137, Z137, E138, F139, F140, E141, F142, F143, pre137⟩ : ∃ (T' : State) (L' : List Loc), Stand p l e room_1 s m #[(.int p0), (.int p1)] below meth c T' L' 2 4 ∧ Fr n0 L' ∧ n0 ≤ T'.heap.size ∧ Exa Z T'.heap b77 "tierlock/Epoch" ∧ Fld Z T'.heap b77 "tierlock/Epoch" "number" "I" (.int (0 : Int32)) ∧ Fld Z T'.heap b77 "tierlock/Epoch" "past" "Z" (.int (0 : Int32)) ∧ Exa Z T'.heap r120 "tierlock/Epoch" ∧ Fld Z T'.heap r120 "tierlock/Epoch" "number" "I" (.int ((0 : Int32) + (1 : Int32))) ∧ Fld Z T'.heap r120 "tierlock/Epoch" "past" "Z" (.int v2) ∧ ∀ t, Steps p.tables e below (T'.setTop (mkF m 64 #[.val (.int p0), .val (.int p1), .val (.ref r120), .val (.int (1 : Int32)), .val (.int v1), .unset] [])) t → Steps p.tables e below (s₁.setTop (entryFrame m #[(.int p0), (.int p1)] maxLocals)) t := by
      by_cases hc144 : v1 = (0 : Int32)
      · skip
        have pre145 : ∀ t, Steps p.tables e below (T120.setTop (mkF m 64 #[.val (.int p0), .val (.int p1), .val (.ref r120), .val (.int (1 : Int32)), .val (.int v1), .unset] [])) t → Steps p.tables e below (s₁.setTop (entryFrame m #[(.int p0), (.int p1)] maxLocals)) t := fun t kt => by
          refine pre129 _ ?_
          show Steps p.tables e below (T120.setTop (mkF m 57 #[.val (.int p0), .val (.int p1), .val (.ref r120), .val (.int (1 : Int32)), .val (.int v1), .unset] [(.int v1)])) _
          refine XS.ifYes X120.here hx rfl (pc0 := 57) (pc' := 64) rfl (hb hby at_57) rfl ((if0 _ _).trans (teq hc144).1) (by decide) (by decide) ?_
          show Steps p.tables e below (T120.setTop (mkF m 64 #[.val (.int p0), .val (.int p1), .val (.ref r120), .val (.int (1 : Int32)), .val (.int v1), .unset] [])) _
          exact kt
        rw [if_pos hc144] at hv2
        subst hv2
        exact ⟨_, _, X120, N125, Z124, E121, F122, F123, E120_0, F120_0, F120_1, pre145⟩
      · skip
        obtain ⟨cq146, kq146, q146a, q146b, q146c⟩ := isOf hZ rfl E120_0
        obtain ⟨_, _, ⟨T146, L146, k146, n146⟩, -, X146, ⟨Lc146, hQ146, l146, y146, z146⟩, st146⟩ := X120.virtualBack hx (y := (⟨"tierlock/Epoch", "pass", "()V"⟩ : MethodName)) (z := (⟨"tierlock/Epoch", "pass", "()V"⟩ : MethodName)) hown (mvT hZ (hw _ (List.mem_of_getElem? (i := 14) rfl))) (mvT hZ (hw _ (List.mem_of_getElem? (i := 15) rfl))) (notFace_of_selects (args := #[]) (mvT hZ (hw _ (List.mem_of_getElem? (i := 17) rfl)))) (mvT hZ (hw _ (List.mem_of_getElem? (i := 17) rfl))) (mvT hZ (hw _ (List.mem_of_getElem? (i := 16) rfl))) (by decide) (backOf (W := 0) (rm4 l Z aq hw [] r120 ((0 : Int32) + (1 : Int32)) (0 : Int32) T120.heap n0 Z124 E120_0 F120_0 F120_1 g_r120) hZ (hw _ (List.mem_of_getElem? (i := 18) rfl)) (hw _ (List.mem_of_getElem? (i := 2) rfl)) (by decide) (by decide)) q146a q146c (g := (mkF m 61 #[.val (.int p0), .val (.int p1), .val (.ref r120), .val (.int (1 : Int32)), .val (.int v1), .unset] [(.ref r120)])) rfl (by rw [hml]; rfl) (Steps.refl _) (argsL := []) (rest := []) (lenOf pd93421996 rfl) rfl (by show 2 * 0 + _ ≤ _; exact Nat.le_of_eq rfl) (hb hby at_61) (fun _ _ => ⟨rfl, rfl, (by decide : 2 + 0 ≤ _), (by decide : 4 + 0 ≤ _)⟩)
        dsimp only [Pt.U, Pt.locs, Pt.cells, Pt.slots] at X146 l146 y146 z146 st146 hQ146
        subst l146 y146 z146
        obtain ⟨rfl, N146q, K146, E146_0, F146_0, F146_1⟩ := hQ146
        have E147 := E121.keep K146
        have F148 := F122.keep K146 (ninS ne_b77_r120 nin0)
        have F149 := F123.keep K146 (ninS ne_b77_r120 nin0)
        have Z150 : n0 ≤ T146.heap.size := Nat.le_trans Z124 K146.1
        have N151 := Fr.app N125 N146q
        have pre152 : ∀ t, Steps p.tables e below (T146.setTop (mkF m 64 #[.val (.int p0), .val (.int p1), .val (.ref r120), .val (.int (1 : Int32)), .val (.int v1), .unset] [])) t → Steps p.tables e below (s₁.setTop (entryFrame m #[(.int p0), (.int p1)] maxLocals)) t := fun t kt => by
          refine pre129 _ ?_
          show Steps p.tables e below (T120.setTop (mkF m 57 #[.val (.int p0), .val (.int p1), .val (.ref r120), .val (.int (1 : Int32)), .val (.int v1), .unset] [(.int v1)])) _
          refine XS.ifNo X120.here hx rfl (hb hby at_57) rfl ((if0 _ _).trans (feq hc144).1) ?_
          show Steps p.tables e below (T120.setTop (mkF m 60 #[.val (.int p0), .val (.int p1), .val (.ref r120), .val (.int (1 : Int32)), .val (.int v1), .unset] [])) _
          refine XS.aloadN X120.here hx rfl (hb hby at_60) rfl rfl ?_
          show Steps p.tables e below (T120.setTop (mkF m 61 #[.val (.int p0), .val (.int p1), .val (.ref r120), .val (.int (1 : Int32)), .val (.int v1), .unset] [(.ref r120)])) _
          refine st146.trans ?_
          show Steps p.tables e below (T146.setTop (mkF m 64 #[.val (.int p0), .val (.int p1), .val (.ref r120), .val (.int (1 : Int32)), .val (.int v1), .unset] [])) _
          exact kt
        rw [if_neg hc144] at hv2
        subst hv2
        exact ⟨_, _, X146, N151, Z150, E147, F148, F149, E146_0, F146_0, F146_1, pre152⟩
    obtain ⟨cq153, kq153, q153a, q153b, q153c⟩ := isOf hZ rfl E141
    obtain ⟨_, _, ⟨T153, L153, k153, n153⟩, -, X153, ⟨Lc153, hQ153, l153, y153, z153⟩, st153⟩ := X137.virtualBack hx (y := (⟨"tierlock/Epoch", "successor", "()Ltierlock/Epoch;"⟩ : MethodName)) (z := (⟨"tierlock/Epoch", "successor", "()Ltierlock/Epoch;"⟩ : MethodName)) hown (mvT hZ (hw _ (List.mem_of_getElem? (i := 21) rfl))) (mvT hZ (hw _ (List.mem_of_getElem? (i := 22) rfl))) (notFace_of_selects (args := #[]) (mvT hZ (hw _ (List.mem_of_getElem? (i := 24) rfl)))) (mvT hZ (hw _ (List.mem_of_getElem? (i := 24) rfl))) (mvT hZ (hw _ (List.mem_of_getElem? (i := 23) rfl))) (by decide) (backOf (W := 0) (rm5 l Z aq hw [] r120 ((0 : Int32) + (1 : Int32)) v2 T137.heap n0 Z137 E141 F142 F143) hZ (hw _ (List.mem_of_getElem? (i := 25) rfl)) (hw _ (List.mem_of_getElem? (i := 2) rfl)) (by decide) (by decide)) q153a q153c (g := (mkF m 65 #[.val (.int p0), .val (.int p1), .val (.ref r120), .val (.int (1 : Int32)), .val (.int v1), .unset] [(.ref r120)])) rfl (by rw [hml]; rfl) (Steps.refl _) (argsL := []) (rest := []) (lenOf pd35347256 rfl) rfl (by show 2 * 0 + _ ≤ _; exact Nat.le_of_eq rfl) (hb hby at_65) (fun _ _ => ⟨rfl, rfl, (by decide : 2 + 1 ≤ _), (by decide : 4 + 2 ≤ _)⟩)
    dsimp only [Pt.U, Pt.locs, Pt.cells, Pt.slots] at X153 l153 y153 z153 st153 hQ153
    subst l153 y153 z153
    obtain ⟨r153, rfl, N153q, K153, s153, E153_0, F153_0, F153_1⟩ := hQ153
    have g_r153 : n0 ≤ r153 := Nat.le_trans Z137 s153
    have ne_b77_r153 : b77 ≠ r153 := Nat.ne_of_lt (Nat.lt_of_lt_of_le E138.lt s153)
    have E154 := E138.keep K153
    have F155 := F139.keep K153 nin0
    have F156 := F140.keep K153 nin0
    have ne_r120_r153 : r120 ≠ r153 := Nat.ne_of_lt (Nat.lt_of_lt_of_le E141.lt s153)
    have E157 := E141.keep K153
    have F158 := F142.keep K153 nin0
    have F159 := F143.keep K153 nin0
    have Z160 : n0 ≤ T153.heap.size := Nat.le_trans Z137 K153.1
    have N161 := Fr.app N137 N153q
    obtain ⟨cq162, kq162, q162a, q162b, q162c⟩ := isOf hZ rfl E153_0
    obtain ⟨_, _, ⟨T162, L162, k162, n162⟩, -, X162, ⟨Lc162, hQ162, l162, y162, z162⟩, st162⟩ := X153.virtualBack hx (y := (⟨"tierlock/Epoch", "number", "()I"⟩ : MethodName)) (z := (⟨"tierlock/Epoch", "number", "()I"⟩ : MethodName)) hown (mvT hZ (hw _ (List.mem_of_getElem? (i := 27) rfl))) (mvT hZ (hw _ (List.mem_of_getElem? (i := 28) rfl))) (notFace_of_selects (args := #[]) (mvT hZ (hw _ (List.mem_of_getElem? (i := 30) rfl)))) (mvT hZ (hw _ (List.mem_of_getElem? (i := 30) rfl))) (mvT hZ (hw _ (List.mem_of_getElem? (i := 29) rfl))) (by decide) (backOf (W := 0) (rm6 l Z aq hw [] r153 (((0 : Int32) + (1 : Int32)) + (1 : Int32)) (0 : Int32) T153.heap n0 Z160 E153_0 F153_0 F153_1) hZ (hw _ (List.mem_of_getElem? (i := 31) rfl)) (hw _ (List.mem_of_getElem? (i := 2) rfl)) (by decide) (by decide)) q162a q162c (g := (mkF m 85 #[.val (.int p0), .val (.int p1), .val (.ref r120), .val (.int (1 : Int32)), .val (.int v1), .val (.ref r153)] [(.ref r153)])) rfl (by rw [hml]; rfl) (Steps.refl _) (argsL := []) (rest := []) (lenOf pd93421983 rfl) rfl (by show 2 * 0 + _ ≤ _; exact Nat.le_of_eq rfl) (hb hby at_85) (fun _ _ => ⟨rfl, rfl, (by decide : 3 + 0 ≤ _), (by decide : 6 + 0 ≤ _)⟩)
    dsimp only [Pt.U, Pt.locs, Pt.cells, Pt.slots] at X162 l162 y162 z162 st162 hQ162
    subst l162 y162 z162
    obtain ⟨rfl, N162q, e162⟩ := hQ162
    have N163 := Fr.app N161 N162q
    obtain ⟨cq164, kq164, q164a, q164b, q164c⟩ := isOf hZ e162 E157
    obtain ⟨_, _, ⟨T164, L164, k164, n164⟩, -, X164, ⟨Lc164, hQ164, l164, y164, z164⟩, st164⟩ := X162.virtualBack hx (y := (⟨"tierlock/Epoch", "number", "()I"⟩ : MethodName)) (z := (⟨"tierlock/Epoch", "number", "()I"⟩ : MethodName)) hown (mvT hZ (hw _ (List.mem_of_getElem? (i := 27) rfl))) (mvT hZ (hw _ (List.mem_of_getElem? (i := 28) rfl))) (notFace_of_selects (args := #[]) (mvT hZ (hw _ (List.mem_of_getElem? (i := 30) rfl)))) (mvT hZ (hw _ (List.mem_of_getElem? (i := 30) rfl))) (mvT hZ (hw _ (List.mem_of_getElem? (i := 29) rfl))) (by decide) (backOf (W := 0) (rm6 l Z aq hw [] r120 ((0 : Int32) + (1 : Int32)) v2 T153.heap n0 Z160 E157 F158 F159) hZ (hw _ (List.mem_of_getElem? (i := 31) rfl)) (hw _ (List.mem_of_getElem? (i := 2) rfl)) (by decide) (by decide)) q164a q164c (g := (mkF m 95 #[.val (.int p0), .val (.int p1), .val (.ref r120), .val (.int (1 : Int32)), .val (.int v1), .val (.ref r153)] [(.ref r120)])) rfl (by rw [hml]; rfl) (Steps.refl _) (argsL := []) (rest := []) (lenOf pd93421983 rfl) rfl (by show 2 * 0 + _ ≤ _; exact Nat.le_of_eq rfl) (hb hby at_95) (fun _ _ => ⟨rfl, e162, (by decide : 3 + 0 ≤ _), (by decide : 6 + 0 ≤ _)⟩)
    dsimp only [Pt.U, Pt.locs, Pt.cells, Pt.slots] at X164 l164 y164 z164 st164 hQ164
    subst l164 y164 z164
    obtain ⟨rfl, N164q, e164⟩ := hQ164
    have N165 := Fr.app N163 N164q
    obtain ⟨cq166, kq166, q166a, q166b, q166c⟩ := isOf hZ e164 E153_0
    obtain ⟨_, _, ⟨T166, L166, k166, n166⟩, -, X166, ⟨Lc166, hQ166, l166, y166, z166⟩, st166⟩ := X164.virtualBack hx (y := (⟨"tierlock/Epoch", "isPast", "()Z"⟩ : MethodName)) (z := (⟨"tierlock/Epoch", "isPast", "()Z"⟩ : MethodName)) hown (mvT hZ (hw _ (List.mem_of_getElem? (i := 32) rfl))) (mvT hZ (hw _ (List.mem_of_getElem? (i := 33) rfl))) (notFace_of_selects (args := #[]) (mvT hZ (hw _ (List.mem_of_getElem? (i := 35) rfl)))) (mvT hZ (hw _ (List.mem_of_getElem? (i := 35) rfl))) (mvT hZ (hw _ (List.mem_of_getElem? (i := 34) rfl))) (by decide) (backOf (W := 0) (rm7 l Z aq hw [] r153 (((0 : Int32) + (1 : Int32)) + (1 : Int32)) (0 : Int32) T153.heap n0 Z160 E153_0 F153_0 F153_1) hZ (hw _ (List.mem_of_getElem? (i := 36) rfl)) (hw _ (List.mem_of_getElem? (i := 2) rfl)) (by decide) (by decide)) q166a q166c (g := (mkF m 104 #[.val (.int p0), .val (.int p1), .val (.ref r120), .val (.int (1 : Int32)), .val (.int v1), .val (.ref r153)] [(.ref r153)])) rfl (by rw [hml]; rfl) (Steps.refl _) (argsL := []) (rest := []) (lenOf pd93422000 rfl) rfl (by show 2 * 0 + _ ≤ _; exact Nat.le_of_eq rfl) (hb hby at_104) (fun _ _ => ⟨rfl, e164, (by decide : 3 + 0 ≤ _), (by decide : 6 + 0 ≤ _)⟩)
    dsimp only [Pt.U, Pt.locs, Pt.cells, Pt.slots] at X166 l166 y166 z166 st166 hQ166
    subst l166 y166 z166
    obtain ⟨rfl, N166q, e166⟩ := hQ166
    have N167 := Fr.app N165 N166q
    obtain ⟨cq168, kq168, q168a, q168b, q168c⟩ := isOf hZ e166 E157
    obtain ⟨_, _, ⟨T168, L168, k168, n168⟩, -, X168, ⟨Lc168, hQ168, l168, y168, z168⟩, st168⟩ := X166.virtualBack hx (y := (⟨"tierlock/Epoch", "isPast", "()Z"⟩ : MethodName)) (z := (⟨"tierlock/Epoch", "isPast", "()Z"⟩ : MethodName)) hown (mvT hZ (hw _ (List.mem_of_getElem? (i := 32) rfl))) (mvT hZ (hw _ (List.mem_of_getElem? (i := 33) rfl))) (notFace_of_selects (args := #[]) (mvT hZ (hw _ (List.mem_of_getElem? (i := 35) rfl)))) (mvT hZ (hw _ (List.mem_of_getElem? (i := 35) rfl))) (mvT hZ (hw _ (List.mem_of_getElem? (i := 34) rfl))) (by decide) (backOf (W := 0) (rm7 l Z aq hw [] r120 ((0 : Int32) + (1 : Int32)) v2 T153.heap n0 Z160 E157 F158 F159) hZ (hw _ (List.mem_of_getElem? (i := 36) rfl)) (hw _ (List.mem_of_getElem? (i := 2) rfl)) (by decide) (by decide)) q168a q168c (g := (mkF m 111 #[.val (.int p0), .val (.int p1), .val (.ref r120), .val (.int (1 : Int32)), .val (.int v1), .val (.ref r153)] [(.ref r120)])) rfl (by rw [hml]; rfl) (Steps.refl _) (argsL := []) (rest := []) (lenOf pd93422000 rfl) rfl (by show 2 * 0 + _ ≤ _; exact Nat.le_of_eq rfl) (hb hby at_111) (fun _ _ => ⟨rfl, e166, (by decide : 3 + 0 ≤ _), (by decide : 6 + 0 ≤ _)⟩)
    dsimp only [Pt.U, Pt.locs, Pt.cells, Pt.slots] at X168 l168 y168 z168 st168 hQ168
    subst l168 y168 z168
    obtain ⟨rfl, N168q, e168⟩ := hQ168
    have N169 := Fr.app N167 N168q
    have pre170 : ∀ t, Steps p.tables e below (T168.setTop (mkF m 116 #[.val (.int p0), .val (.int p1), .val (.ref r120), .val (.int (1 : Int32)), .val (.int v1), .val (.ref r153)] [(.int v1), (.int (v2 &&& 1))])) t → Steps p.tables e below (s₁.setTop (entryFrame m #[(.int p0), (.int p1)] maxLocals)) t := fun t kt => by
      refine pre137 _ ?_
      show Steps p.tables e below (T137.setTop (mkF m 64 #[.val (.int p0), .val (.int p1), .val (.ref r120), .val (.int (1 : Int32)), .val (.int v1), .unset] [])) _
      refine XS.aloadN X137.here hx rfl (hb hby at_64) rfl rfl ?_
      show Steps p.tables e below (T137.setTop (mkF m 65 #[.val (.int p0), .val (.int p1), .val (.ref r120), .val (.int (1 : Int32)), .val (.int v1), .unset] [(.ref r120)])) _
      refine st153.trans ?_
      show Steps p.tables e below (T153.setTop (mkF m 68 #[.val (.int p0), .val (.int p1), .val (.ref r120), .val (.int (1 : Int32)), .val (.int v1), .unset] [(.ref r153)])) _
      refine XS.astore X153.here hx rfl (hb hby at_68) rfl rfl (l' := #[.val (.int p0), .val (.int p1), .val (.ref r120), .val (.int (1 : Int32)), .val (.int v1), .val (.ref r153)]) rfl ?_
      show Steps p.tables e below (T153.setTop (mkF m 70 #[.val (.int p0), .val (.int p1), .val (.ref r120), .val (.int (1 : Int32)), .val (.int v1), .val (.ref r153)] [])) _
      refine XS.aload X153.here hx rfl (hb hby at_70) rfl rfl ?_
      show Steps p.tables e below (T153.setTop (mkF m 72 #[.val (.int p0), .val (.int p1), .val (.ref r120), .val (.int (1 : Int32)), .val (.int v1), .val (.ref r153)] [(.ref r153)])) _
      refine XS.ifnullNo X153.here hx rfl (hb hby at_72) rfl ?_
      show Steps p.tables e below (T153.setTop (mkF m 75 #[.val (.int p0), .val (.int p1), .val (.ref r120), .val (.int (1 : Int32)), .val (.int v1), .val (.ref r153)] [])) _
      refine XS.aload X153.here hx rfl (hb hby at_75) rfl rfl ?_
      show Steps p.tables e below (T153.setTop (mkF m 77 #[.val (.int p0), .val (.int p1), .val (.ref r120), .val (.int (1 : Int32)), .val (.int v1), .val (.ref r153)] [(.ref r153)])) _
      refine XS.aloadN X153.here hx rfl (hb hby at_77) rfl rfl ?_
      show Steps p.tables e below (T153.setTop (mkF m 78 #[.val (.int p0), .val (.int p1), .val (.ref r120), .val (.int (1 : Int32)), .val (.int v1), .val (.ref r153)] [(.ref r120), (.ref r153)])) _
      refine Jvm.RoadKit.acmp (g := (mkF m 78 #[.val (.int p0), .val (.int p1), .val (.ref r120), .val (.int (1 : Int32)), .val (.int v1), .val (.ref r153)] [(.ref r120), (.ref r153)])) X153 hx rfl rfl rfl (pc0 := 78) (pc' := 83) (same := false) rfl (hb hby at_78) rfl (decide_eq_false fun q => (Ne.symm ne_r120_r153) (Value.ref.inj q)) (by decide) (by decide) ?_
      show Steps p.tables e below (T153.setTop (mkF m 83 #[.val (.int p0), .val (.int p1), .val (.ref r120), .val (.int (1 : Int32)), .val (.int v1), .val (.ref r153)] [])) _
      refine XS.aload X153.here hx rfl (hb hby at_83) rfl rfl ?_
      show Steps p.tables e below (T153.setTop (mkF m 85 #[.val (.int p0), .val (.int p1), .val (.ref r120), .val (.int (1 : Int32)), .val (.int v1), .val (.ref r153)] [(.ref r153)])) _
      refine st162.trans ?_
      show Steps p.tables e below (T162.setTop (mkF m 88 #[.val (.int p0), .val (.int p1), .val (.ref r120), .val (.int (1 : Int32)), .val (.int v1), .val (.ref r153)] [(.int (((0 : Int32) + (1 : Int32)) + (1 : Int32)))])) _
      refine XS.iloadN X162.here hx rfl (hb hby at_88) rfl ?_
      show Steps p.tables e below (T162.setTop (mkF m 89 #[.val (.int p0), .val (.int p1), .val (.ref r120), .val (.int (1 : Int32)), .val (.int v1), .val (.ref r153)] [(.int (1 : Int32)), (.int (((0 : Int32) + (1 : Int32)) + (1 : Int32)))])) _
      refine XS.iconst X162.here hx rfl (hb hby at_89) ?_
      show Steps p.tables e below (T162.setTop (mkF m 90 #[.val (.int p0), .val (.int p1), .val (.ref r120), .val (.int (1 : Int32)), .val (.int v1), .val (.ref r153)] [(.int (1 : Int32)), (.int (1 : Int32)), (.int (((0 : Int32) + (1 : Int32)) + (1 : Int32)))])) _
      refine XS.iadd X162.here hx rfl (hb hby at_90) rfl ?_
      show Steps p.tables e below (T162.setTop (mkF m 91 #[.val (.int p0), .val (.int p1), .val (.ref r120), .val (.int (1 : Int32)), .val (.int v1), .val (.ref r153)] [(.int ((1 : Int32) + (1 : Int32))), (.int (((0 : Int32) + (1 : Int32)) + (1 : Int32)))])) _
      refine XS.icmpNo X162.here hx rfl (hb hby at_91) rfl (teq (by decide : (((0 : Int32) + (1 : Int32)) + (1 : Int32)) = ((1 : Int32) + (1 : Int32)))).2 ?_
      show Steps p.tables e below (T162.setTop (mkF m 94 #[.val (.int p0), .val (.int p1), .val (.ref r120), .val (.int (1 : Int32)), .val (.int v1), .val (.ref r153)] [])) _
      refine XS.aloadN X162.here hx rfl (hb hby at_94) rfl rfl ?_
      show Steps p.tables e below (T162.setTop (mkF m 95 #[.val (.int p0), .val (.int p1), .val (.ref r120), .val (.int (1 : Int32)), .val (.int v1), .val (.ref r153)] [(.ref r120)])) _
      refine st164.trans ?_
      show Steps p.tables e below (T164.setTop (mkF m 98 #[.val (.int p0), .val (.int p1), .val (.ref r120), .val (.int (1 : Int32)), .val (.int v1), .val (.ref r153)] [(.int ((0 : Int32) + (1 : Int32)))])) _
      refine XS.iloadN X164.here hx rfl (hb hby at_98) rfl ?_
      show Steps p.tables e below (T164.setTop (mkF m 99 #[.val (.int p0), .val (.int p1), .val (.ref r120), .val (.int (1 : Int32)), .val (.int v1), .val (.ref r153)] [(.int (1 : Int32)), (.int ((0 : Int32) + (1 : Int32)))])) _
      refine XS.icmpNo X164.here hx rfl (hb hby at_99) rfl (teq (by decide : ((0 : Int32) + (1 : Int32)) = (1 : Int32))).2 ?_
      show Steps p.tables e below (T164.setTop (mkF m 102 #[.val (.int p0), .val (.int p1), .val (.ref r120), .val (.int (1 : Int32)), .val (.int v1), .val (.ref r153)] [])) _
      refine XS.aload X164.here hx rfl (hb hby at_102) rfl rfl ?_
      show Steps p.tables e below (T164.setTop (mkF m 104 #[.val (.int p0), .val (.int p1), .val (.ref r120), .val (.int (1 : Int32)), .val (.int v1), .val (.ref r153)] [(.ref r153)])) _
      refine st166.trans ?_
      show Steps p.tables e below (T166.setTop (mkF m 107 #[.val (.int p0), .val (.int p1), .val (.ref r120), .val (.int (1 : Int32)), .val (.int v1), .val (.ref r153)] [(.int ((0 : Int32) &&& 1))])) _
      refine XS.ifNo X166.here hx rfl (hb hby at_107) rfl ((if0 _ _).trans (teq (by decide : ((0 : Int32) &&& 1) = (0 : Int32))).2) ?_
      show Steps p.tables e below (T166.setTop (mkF m 110 #[.val (.int p0), .val (.int p1), .val (.ref r120), .val (.int (1 : Int32)), .val (.int v1), .val (.ref r153)] [])) _
      refine XS.aloadN X166.here hx rfl (hb hby at_110) rfl rfl ?_
      show Steps p.tables e below (T166.setTop (mkF m 111 #[.val (.int p0), .val (.int p1), .val (.ref r120), .val (.int (1 : Int32)), .val (.int v1), .val (.ref r153)] [(.ref r120)])) _
      refine st168.trans ?_
      show Steps p.tables e below (T168.setTop (mkF m 114 #[.val (.int p0), .val (.int p1), .val (.ref r120), .val (.int (1 : Int32)), .val (.int v1), .val (.ref r153)] [(.int (v2 &&& 1))])) _
      refine XS.iload X168.here hx rfl (hb hby at_114) rfl ?_
      show Steps p.tables e below (T168.setTop (mkF m 116 #[.val (.int p0), .val (.int p1), .val (.ref r120), .val (.int (1 : Int32)), .val (.int v1), .val (.ref r153)] [(.int v1), (.int (v2 &&& 1))])) _
      exact kt
    obtain ⟨v3, hv3⟩ : ∃ z : Int32, z = (if (v2 &&& 1) = v1 then (1 : Int32) else (0 : Int32)) := ⟨_, rfl⟩
    have pre172 : ∀ t, Steps p.tables e below (T168.setTop (mkF m 124 #[.val (.int p0), .val (.int p1), .val (.ref r120), .val (.int (1 : Int32)), .val (.int v1), .val (.ref r153)] [(.int v3)])) t → Steps p.tables e below (s₁.setTop (entryFrame m #[(.int p0), (.int p1)] maxLocals)) t := fun t kt => by
      refine pre170 _ ?_
      show Steps p.tables e below (T168.setTop (mkF m 116 #[.val (.int p0), .val (.int p1), .val (.ref r120), .val (.int (1 : Int32)), .val (.int v1), .val (.ref r153)] [(.int v1), (.int (v2 &&& 1))])) _
      by_cases hc171 : (v2 &&& 1) = v1
      · rw [if_pos hc171] at hv3
        refine XS.icmpNo X168.here hx rfl (hb hby at_116) rfl (teq hc171).2 ?_
        show Steps p.tables e below (T168.setTop (mkF m 119 #[.val (.int p0), .val (.int p1), .val (.ref r120), .val (.int (1 : Int32)), .val (.int v1), .val (.ref r153)] [])) _
        refine XS.iconst X168.here hx rfl (hb hby at_119) ?_
        show Steps p.tables e below (T168.setTop (mkF m 120 #[.val (.int p0), .val (.int p1), .val (.ref r120), .val (.int (1 : Int32)), .val (.int v1), .val (.ref r153)] [(.int (1 : Int32))])) _
        refine XS.goto X168.here hx rfl (pc0 := 120) (pc' := 124) rfl (hb hby at_120) (by decide) (by decide) ?_
        subst hv3
        exact kt
      · rw [if_neg hc171] at hv3
        refine XS.icmpYes X168.here hx rfl (pc0 := 116) (pc' := 123) rfl (hb hby at_116) rfl (feq hc171).2 (by decide) (by decide) ?_
        show Steps p.tables e below (T168.setTop (mkF m 123 #[.val (.int p0), .val (.int p1), .val (.ref r120), .val (.int (1 : Int32)), .val (.int v1), .val (.ref r153)] [])) _
        refine XS.iconst X168.here hx rfl (hb hby at_123) ?_
        subst hv3
        exact kt
    have hfin : v3 = 1 := (own_plain1 p0 p1 v1 hv1 v2 hv2 v3 hv3)
    obtain ⟨fs, hr, hrun, hended, hW, hsame⟩ := X168.leave (v := some (.int (v3 &&& 1))) (fun h => by rw [Bd.returns] at h; cases h)
    refine ⟨_, _, pre172 _ ?_, hrun, hended, _, _, rfl, ?_, ⟨_, rfl⟩, hW, hsame.mono (by decide) (by decide)⟩
    · exact retN X168 hx (t := .boolean) Bd.returns (by simp) (hb hby at_124) hr
    · exact ⟨by rw [hfin]; rfl, N169⟩
  · skip
    have pre173 : ∀ t, Steps p.tables e below (T79.setTop (mkF m 12 #[.val (.int p0), .val (.int p1), .val (.ref b77), .val (.int (2 : Int32)), .unset, .unset] [])) t → Steps p.tables e below (s₁.setTop (entryFrame m #[(.int p0), (.int p1)] maxLocals)) t := fun t kt => pre82 t (by rw [hk]; exact kt)
    obtain ⟨cq174, kq174, q174a, q174b, q174c⟩ := isOf hZ rfl E79_0
    obtain ⟨_, _, ⟨T174, L174, k174, n174⟩, -, X174, ⟨Lc174, hQ174, l174, y174, z174⟩, st174⟩ := X79.virtualBack hx (y := (⟨"tierlock/Epoch", "successor", "()Ltierlock/Epoch;"⟩ : MethodName)) (z := (⟨"tierlock/Epoch", "successor", "()Ltierlock/Epoch;"⟩ : MethodName)) hown (mvT hZ (hw _ (List.mem_of_getElem? (i := 21) rfl))) (mvT hZ (hw _ (List.mem_of_getElem? (i := 22) rfl))) (notFace_of_selects (args := #[]) (mvT hZ (hw _ (List.mem_of_getElem? (i := 24) rfl)))) (mvT hZ (hw _ (List.mem_of_getElem? (i := 24) rfl))) (mvT hZ (hw _ (List.mem_of_getElem? (i := 23) rfl))) (by decide) (backOf (W := 0) (rm5 l Z aq hw [] b77 (0 : Int32) (0 : Int32) T79.heap n0 Z80 E79_0 F79_0 F79_1) hZ (hw _ (List.mem_of_getElem? (i := 25) rfl)) (hw _ (List.mem_of_getElem? (i := 2) rfl)) (by decide) (by decide)) q174a q174c (g := (mkF m 18 #[.val (.int p0), .val (.int p1), .val (.ref b77), .val (.int (2 : Int32)), .unset, .unset] [(.ref b77)])) rfl (by rw [hml]; rfl) (Steps.refl _) (argsL := []) (rest := []) (lenOf pd35347256 rfl) rfl (by show 2 * 0 + _ ≤ _; exact Nat.le_of_eq rfl) (hb hby at_18) (fun _ _ => ⟨rfl, rfl, (by decide : 1 + 1 ≤ _), (by decide : 2 + 2 ≤ _)⟩)
    dsimp only [Pt.U, Pt.locs, Pt.cells, Pt.slots] at X174 l174 y174 z174 st174 hQ174
    subst l174 y174 z174
    obtain ⟨r174, rfl, N174q, K174, s174, E174_0, F174_0, F174_1⟩ := hQ174
    have g_r174 : n0 ≤ r174 := Nat.le_trans Z80 s174
    have ne_b77_r174 : b77 ≠ r174 := Nat.ne_of_lt (Nat.lt_of_lt_of_le E79_0.lt s174)
    have E175 := E79_0.keep K174
    have F176 := F79_0.keep K174 nin0
    have F177 := F79_1.keep K174 nin0
    have Z178 : n0 ≤ T174.heap.size := Nat.le_trans Z80 K174.1
    have N179 := Fr.app N81 N174q
    obtain ⟨cq180, kq180, q180a, q180b, q180c⟩ := isOf hZ rfl E174_0
    obtain ⟨_, _, ⟨T180, L180, k180, n180⟩, -, X180, ⟨Lc180, hQ180, l180, y180, z180⟩, st180⟩ := X174.virtualBack hx (y := (⟨"tierlock/Epoch", "successor", "()Ltierlock/Epoch;"⟩ : MethodName)) (z := (⟨"tierlock/Epoch", "successor", "()Ltierlock/Epoch;"⟩ : MethodName)) hown (mvT hZ (hw _ (List.mem_of_getElem? (i := 21) rfl))) (mvT hZ (hw _ (List.mem_of_getElem? (i := 22) rfl))) (notFace_of_selects (args := #[]) (mvT hZ (hw _ (List.mem_of_getElem? (i := 24) rfl)))) (mvT hZ (hw _ (List.mem_of_getElem? (i := 24) rfl))) (mvT hZ (hw _ (List.mem_of_getElem? (i := 23) rfl))) (by decide) (backOf (W := 0) (rm5 l Z aq hw [] r174 ((0 : Int32) + (1 : Int32)) (0 : Int32) T174.heap n0 Z178 E174_0 F174_0 F174_1) hZ (hw _ (List.mem_of_getElem? (i := 25) rfl)) (hw _ (List.mem_of_getElem? (i := 2) rfl)) (by decide) (by decide)) q180a q180c (g := (mkF m 28 #[.val (.int p0), .val (.int p1), .val (.ref r174), .val (.int (2 : Int32)), .unset, .unset] [(.ref r174)])) rfl (by rw [hml]; rfl) (Steps.refl _) (argsL := []) (rest := []) (lenOf pd35347256 rfl) rfl (by show 2 * 0 + _ ≤ _; exact Nat.le_of_eq rfl) (hb hby at_28) (fun _ _ => ⟨rfl, rfl, (by decide : 2 + 1 ≤ _), (by decide : 4 + 2 ≤ _)⟩)
    dsimp only [Pt.U, Pt.locs, Pt.cells, Pt.slots] at X180 l180 y180 z180 st180 hQ180
    subst l180 y180 z180
    obtain ⟨r180, rfl, N180q, K180, s180, E180_0, F180_0, F180_1⟩ := hQ180
    have g_r180 : n0 ≤ r180 := Nat.le_trans Z178 s180
    have ne_b77_r180 : b77 ≠ r180 := Nat.ne_of_lt (Nat.lt_of_lt_of_le E175.lt s180)
    have E181 := E175.keep K180
    have F182 := F176.keep K180 nin0
    have F183 := F177.keep K180 nin0
    have ne_r174_r180 : r174 ≠ r180 := Nat.ne_of_lt (Nat.lt_of_lt_of_le E174_0.lt s180)
    have E184 := E174_0.keep K180
    have F185 := F174_0.keep K180 nin0
    have F186 := F174_1.keep K180 nin0
    have Z187 : n0 ≤ T180.heap.size := Nat.le_trans Z178 K180.1
    have N188 := Fr.app N179 N180q
    have pre189 : ∀ t, Steps p.tables e below (T180.setTop (mkF m 45 #[.val (.int p0), .val (.int p1), .val (.ref r180), .val (.int (2 : Int32)), .unset, .unset] [(.int (p1 &&& (1 : Int32)))])) t → Steps p.tables e below (s₁.setTop (entryFrame m #[(.int p0), (.int p1)] maxLocals)) t := fun t kt => by
      refine pre173 _ ?_
      show Steps p.tables e below (T79.setTop (mkF m 12 #[.val (.int p0), .val (.int p1), .val (.ref b77), .val (.int (2 : Int32)), .unset, .unset] [])) _
      refine XS.iloadN X79.here hx rfl (hb hby at_12) rfl ?_
      show Steps p.tables e below (T79.setTop (mkF m 13 #[.val (.int p0), .val (.int p1), .val (.ref b77), .val (.int (2 : Int32)), .unset, .unset] [(.int (2 : Int32))])) _
      refine XS.iconst X79.here hx rfl (hb hby at_13) ?_
      show Steps p.tables e below (T79.setTop (mkF m 14 #[.val (.int p0), .val (.int p1), .val (.ref b77), .val (.int (2 : Int32)), .unset, .unset] [(.int (1 : Int32)), (.int (2 : Int32))])) _
      refine XS.icmpNo X79.here hx rfl (hb hby at_14) rfl (flt (by decide : ¬ ((2 : Int32) < (1 : Int32)))).1 ?_
      show Steps p.tables e below (T79.setTop (mkF m 17 #[.val (.int p0), .val (.int p1), .val (.ref b77), .val (.int (2 : Int32)), .unset, .unset] [])) _
      refine XS.aloadN X79.here hx rfl (hb hby at_17) rfl rfl ?_
      show Steps p.tables e below (T79.setTop (mkF m 18 #[.val (.int p0), .val (.int p1), .val (.ref b77), .val (.int (2 : Int32)), .unset, .unset] [(.ref b77)])) _
      refine st174.trans ?_
      show Steps p.tables e below (T174.setTop (mkF m 21 #[.val (.int p0), .val (.int p1), .val (.ref b77), .val (.int (2 : Int32)), .unset, .unset] [(.ref r174)])) _
      refine XS.astoreN X174.here hx rfl (hb hby at_21) rfl rfl (l' := #[.val (.int p0), .val (.int p1), .val (.ref r174), .val (.int (2 : Int32)), .unset, .unset]) rfl ?_
      show Steps p.tables e below (T174.setTop (mkF m 22 #[.val (.int p0), .val (.int p1), .val (.ref r174), .val (.int (2 : Int32)), .unset, .unset] [])) _
      refine XS.iloadN X174.here hx rfl (hb hby at_22) rfl ?_
      show Steps p.tables e below (T174.setTop (mkF m 23 #[.val (.int p0), .val (.int p1), .val (.ref r174), .val (.int (2 : Int32)), .unset, .unset] [(.int (2 : Int32))])) _
      refine XS.iconst X174.here hx rfl (hb hby at_23) ?_
      show Steps p.tables e below (T174.setTop (mkF m 24 #[.val (.int p0), .val (.int p1), .val (.ref r174), .val (.int (2 : Int32)), .unset, .unset] [(.int (2 : Int32)), (.int (2 : Int32))])) _
      refine XS.icmpNo X174.here hx rfl (hb hby at_24) rfl (flt (by decide : ¬ ((2 : Int32) < (2 : Int32)))).1 ?_
      show Steps p.tables e below (T174.setTop (mkF m 27 #[.val (.int p0), .val (.int p1), .val (.ref r174), .val (.int (2 : Int32)), .unset, .unset] [])) _
      refine XS.aloadN X174.here hx rfl (hb hby at_27) rfl rfl ?_
      show Steps p.tables e below (T174.setTop (mkF m 28 #[.val (.int p0), .val (.int p1), .val (.ref r174), .val (.int (2 : Int32)), .unset, .unset] [(.ref r174)])) _
      refine st180.trans ?_
      show Steps p.tables e below (T180.setTop (mkF m 31 #[.val (.int p0), .val (.int p1), .val (.ref r174), .val (.int (2 : Int32)), .unset, .unset] [(.ref r180)])) _
      refine XS.astoreN X180.here hx rfl (hb hby at_31) rfl rfl (l' := #[.val (.int p0), .val (.int p1), .val (.ref r180), .val (.int (2 : Int32)), .unset, .unset]) rfl ?_
      show Steps p.tables e below (T180.setTop (mkF m 32 #[.val (.int p0), .val (.int p1), .val (.ref r180), .val (.int (2 : Int32)), .unset, .unset] [])) _
      refine XS.iloadN X180.here hx rfl (hb hby at_32) rfl ?_
      show Steps p.tables e below (T180.setTop (mkF m 33 #[.val (.int p0), .val (.int p1), .val (.ref r180), .val (.int (2 : Int32)), .unset, .unset] [(.int (2 : Int32))])) _
      refine XS.iconst X180.here hx rfl (hb hby at_33) ?_
      show Steps p.tables e below (T180.setTop (mkF m 34 #[.val (.int p0), .val (.int p1), .val (.ref r180), .val (.int (2 : Int32)), .unset, .unset] [(.int (3 : Int32)), (.int (2 : Int32))])) _
      refine XS.icmpYes X180.here hx rfl (pc0 := 34) (pc' := 42) rfl (hb hby at_34) rfl (tlt (by decide : (2 : Int32) < (3 : Int32))).1 (by decide) (by decide) ?_
      show Steps p.tables e below (T180.setTop (mkF m 42 #[.val (.int p0), .val (.int p1), .val (.ref r180), .val (.int (2 : Int32)), .unset, .unset] [])) _
      refine XS.iloadN X180.here hx rfl (hb hby at_42) rfl ?_
      show Steps p.tables e below (T180.setTop (mkF m 43 #[.val (.int p0), .val (.int p1), .val (.ref r180), .val (.int (2 : Int32)), .unset, .unset] [(.int p1)])) _
      refine XS.iconst X180.here hx rfl (hb hby at_43) ?_
      show Steps p.tables e below (T180.setTop (mkF m 44 #[.val (.int p0), .val (.int p1), .val (.ref r180), .val (.int (2 : Int32)), .unset, .unset] [(.int (1 : Int32)), (.int p1)])) _
      refine XS.iand X180.here hx rfl (hb hby at_44) rfl ?_
      show Steps p.tables e below (T180.setTop (mkF m 45 #[.val (.int p0), .val (.int p1), .val (.ref r180), .val (.int (2 : Int32)), .unset, .unset] [(.int (p1 &&& (1 : Int32)))])) _
      exact kt
    obtain ⟨v1, hv1⟩ : ∃ z : Int32, z = (if (p1 &&& (1 : Int32)) = (0 : Int32) then (0 : Int32) else (1 : Int32)) := ⟨_, rfl⟩
    have pre191 : ∀ t, Steps p.tables e below (T180.setTop (mkF m 53 #[.val (.int p0), .val (.int p1), .val (.ref r180), .val (.int (2 : Int32)), .unset, .unset] [(.int v1)])) t → Steps p.tables e below (s₁.setTop (entryFrame m #[(.int p0), (.int p1)] maxLocals)) t := fun t kt => by
      refine pre189 _ ?_
      show Steps p.tables e below (T180.setTop (mkF m 45 #[.val (.int p0), .val (.int p1), .val (.ref r180), .val (.int (2 : Int32)), .unset, .unset] [(.int (p1 &&& (1 : Int32)))])) _
      by_cases hc190 : (p1 &&& (1 : Int32)) = (0 : Int32)
      · rw [if_pos hc190] at hv1
        refine XS.ifYes X180.here hx rfl (pc0 := 45) (pc' := 52) rfl (hb hby at_45) rfl ((if0 _ _).trans (teq hc190).1) (by decide) (by decide) ?_
        show Steps p.tables e below (T180.setTop (mkF m 52 #[.val (.int p0), .val (.int p1), .val (.ref r180), .val (.int (2 : Int32)), .unset, .unset] [])) _
        refine XS.iconst X180.here hx rfl (hb hby at_52) ?_
        subst hv1
        exact kt
      · rw [if_neg hc190] at hv1
        refine XS.ifNo X180.here hx rfl (hb hby at_45) rfl ((if0 _ _).trans (feq hc190).1) ?_
        show Steps p.tables e below (T180.setTop (mkF m 48 #[.val (.int p0), .val (.int p1), .val (.ref r180), .val (.int (2 : Int32)), .unset, .unset] [])) _
        refine XS.iconst X180.here hx rfl (hb hby at_48) ?_
        show Steps p.tables e below (T180.setTop (mkF m 49 #[.val (.int p0), .val (.int p1), .val (.ref r180), .val (.int (2 : Int32)), .unset, .unset] [(.int (1 : Int32))])) _
        refine XS.goto X180.here hx rfl (pc0 := 49) (pc' := 53) rfl (hb hby at_49) (by decide) (by decide) ?_
        subst hv1
        exact kt
    have pre192 : ∀ t, Steps p.tables e below (T180.setTop (mkF m 57 #[.val (.int p0), .val (.int p1), .val (.ref r180), .val (.int (2 : Int32)), .val (.int v1), .unset] [(.int v1)])) t → Steps p.tables e below (s₁.setTop (entryFrame m #[(.int p0), (.int p1)] maxLocals)) t := fun t kt => by
      refine pre191 _ ?_
      show Steps p.tables e below (T180.setTop (mkF m 53 #[.val (.int p0), .val (.int p1), .val (.ref r180), .val (.int (2 : Int32)), .unset, .unset] [(.int v1)])) _
      refine XS.istore X180.here hx rfl (hb hby at_53) rfl (l' := #[.val (.int p0), .val (.int p1), .val (.ref r180), .val (.int (2 : Int32)), .val (.int v1), .unset]) rfl ?_
      show Steps p.tables e below (T180.setTop (mkF m 55 #[.val (.int p0), .val (.int p1), .val (.ref r180), .val (.int (2 : Int32)), .val (.int v1), .unset] [])) _
      refine XS.iload X180.here hx rfl (hb hby at_55) rfl ?_
      show Steps p.tables e below (T180.setTop (mkF m 57 #[.val (.int p0), .val (.int p1), .val (.ref r180), .val (.int (2 : Int32)), .val (.int v1), .unset] [(.int v1)])) _
      exact kt
    obtain ⟨v2, hv2⟩ : ∃ z : Int32, z = (if v1 = (0 : Int32) then (0 : Int32) else ((1 : Int32) &&& 1)) := ⟨_, rfl⟩
    obtain ⟨T203, L203, X203, N203, Z203, E204, F205, F206, E207, F208, F209, E210, F211, F212, pre203⟩ : ∃ (T' : State) (L' : List Loc), Stand p l e room_1 s m #[(.int p0), (.int p1)] below meth c T' L' 3 6 ∧ Fr n0 L' ∧ n0 ≤ T'.heap.size ∧ Exa Z T'.heap b77 "tierlock/Epoch" ∧ Fld Z T'.heap b77 "tierlock/Epoch" "number" "I" (.int (0 : Int32)) ∧ Fld Z T'.heap b77 "tierlock/Epoch" "past" "Z" (.int (0 : Int32)) ∧ Exa Z T'.heap r174 "tierlock/Epoch" ∧ Fld Z T'.heap r174 "tierlock/Epoch" "number" "I" (.int ((0 : Int32) + (1 : Int32))) ∧ Fld Z T'.heap r174 "tierlock/Epoch" "past" "Z" (.int (0 : Int32)) ∧ Exa Z T'.heap r180 "tierlock/Epoch" ∧ Fld Z T'.heap r180 "tierlock/Epoch" "number" "I" (.int (((0 : Int32) + (1 : Int32)) + (1 : Int32))) ∧ Fld Z T'.heap r180 "tierlock/Epoch" "past" "Z" (.int v2) ∧ ∀ t, Steps p.tables e below (T'.setTop (mkF m 64 #[.val (.int p0), .val (.int p1), .val (.ref r180), .val (.int (2 : Int32)), .val (.int v1), .unset] [])) t → Steps p.tables e below (s₁.setTop (entryFrame m #[(.int p0), (.int p1)] maxLocals)) t := by
      by_cases hc213 : v1 = (0 : Int32)
      · skip
        have pre214 : ∀ t, Steps p.tables e below (T180.setTop (mkF m 64 #[.val (.int p0), .val (.int p1), .val (.ref r180), .val (.int (2 : Int32)), .val (.int v1), .unset] [])) t → Steps p.tables e below (s₁.setTop (entryFrame m #[(.int p0), (.int p1)] maxLocals)) t := fun t kt => by
          refine pre192 _ ?_
          show Steps p.tables e below (T180.setTop (mkF m 57 #[.val (.int p0), .val (.int p1), .val (.ref r180), .val (.int (2 : Int32)), .val (.int v1), .unset] [(.int v1)])) _
          refine XS.ifYes X180.here hx rfl (pc0 := 57) (pc' := 64) rfl (hb hby at_57) rfl ((if0 _ _).trans (teq hc213).1) (by decide) (by decide) ?_
          show Steps p.tables e below (T180.setTop (mkF m 64 #[.val (.int p0), .val (.int p1), .val (.ref r180), .val (.int (2 : Int32)), .val (.int v1), .unset] [])) _
          exact kt
        rw [if_pos hc213] at hv2
        subst hv2
        exact ⟨_, _, X180, N188, Z187, E181, F182, F183, E184, F185, F186, E180_0, F180_0, F180_1, pre214⟩
      · skip
        obtain ⟨cq215, kq215, q215a, q215b, q215c⟩ := isOf hZ rfl E180_0
        obtain ⟨_, _, ⟨T215, L215, k215, n215⟩, -, X215, ⟨Lc215, hQ215, l215, y215, z215⟩, st215⟩ := X180.virtualBack hx (y := (⟨"tierlock/Epoch", "pass", "()V"⟩ : MethodName)) (z := (⟨"tierlock/Epoch", "pass", "()V"⟩ : MethodName)) hown (mvT hZ (hw _ (List.mem_of_getElem? (i := 14) rfl))) (mvT hZ (hw _ (List.mem_of_getElem? (i := 15) rfl))) (notFace_of_selects (args := #[]) (mvT hZ (hw _ (List.mem_of_getElem? (i := 17) rfl)))) (mvT hZ (hw _ (List.mem_of_getElem? (i := 17) rfl))) (mvT hZ (hw _ (List.mem_of_getElem? (i := 16) rfl))) (by decide) (backOf (W := 0) (rm4 l Z aq hw [] r180 (((0 : Int32) + (1 : Int32)) + (1 : Int32)) (0 : Int32) T180.heap n0 Z187 E180_0 F180_0 F180_1 g_r180) hZ (hw _ (List.mem_of_getElem? (i := 18) rfl)) (hw _ (List.mem_of_getElem? (i := 2) rfl)) (by decide) (by decide)) q215a q215c (g := (mkF m 61 #[.val (.int p0), .val (.int p1), .val (.ref r180), .val (.int (2 : Int32)), .val (.int v1), .unset] [(.ref r180)])) rfl (by rw [hml]; rfl) (Steps.refl _) (argsL := []) (rest := []) (lenOf pd93421996 rfl) rfl (by show 2 * 0 + _ ≤ _; exact Nat.le_of_eq rfl) (hb hby at_61) (fun _ _ => ⟨rfl, rfl, (by decide : 3 + 0 ≤ _), (by decide : 6 + 0 ≤ _)⟩)
        dsimp only [Pt.U, Pt.locs, Pt.cells, Pt.slots] at X215 l215 y215 z215 st215 hQ215
        subst l215 y215 z215
        obtain ⟨rfl, N215q, K215, E215_0, F215_0, F215_1⟩ := hQ215
        have E216 := E181.keep K215
        have F217 := F182.keep K215 (ninS ne_b77_r180 nin0)
        have F218 := F183.keep K215 (ninS ne_b77_r180 nin0)
        have E219 := E184.keep K215
        have F220 := F185.keep K215 (ninS ne_r174_r180 nin0)
        have F221 := F186.keep K215 (ninS ne_r174_r180 nin0)
        have Z222 : n0 ≤ T215.heap.size := Nat.le_trans Z187 K215.1
        have N223 := Fr.app N188 N215q
        have pre224 : ∀ t, Steps p.tables e below (T215.setTop (mkF m 64 #[.val (.int p0), .val (.int p1), .val (.ref r180), .val (.int (2 : Int32)), .val (.int v1), .unset] [])) t → Steps p.tables e below (s₁.setTop (entryFrame m #[(.int p0), (.int p1)] maxLocals)) t := fun t kt => by
          refine pre192 _ ?_
          show Steps p.tables e below (T180.setTop (mkF m 57 #[.val (.int p0), .val (.int p1), .val (.ref r180), .val (.int (2 : Int32)), .val (.int v1), .unset] [(.int v1)])) _
          refine XS.ifNo X180.here hx rfl (hb hby at_57) rfl ((if0 _ _).trans (feq hc213).1) ?_
          show Steps p.tables e below (T180.setTop (mkF m 60 #[.val (.int p0), .val (.int p1), .val (.ref r180), .val (.int (2 : Int32)), .val (.int v1), .unset] [])) _
          refine XS.aloadN X180.here hx rfl (hb hby at_60) rfl rfl ?_
          show Steps p.tables e below (T180.setTop (mkF m 61 #[.val (.int p0), .val (.int p1), .val (.ref r180), .val (.int (2 : Int32)), .val (.int v1), .unset] [(.ref r180)])) _
          refine st215.trans ?_
          show Steps p.tables e below (T215.setTop (mkF m 64 #[.val (.int p0), .val (.int p1), .val (.ref r180), .val (.int (2 : Int32)), .val (.int v1), .unset] [])) _
          exact kt
        rw [if_neg hc213] at hv2
        subst hv2
        exact ⟨_, _, X215, N223, Z222, E216, F217, F218, E219, F220, F221, E215_0, F215_0, F215_1, pre224⟩
    obtain ⟨cq225, kq225, q225a, q225b, q225c⟩ := isOf hZ rfl E210
    obtain ⟨_, _, ⟨T225, L225, k225, n225⟩, -, X225, ⟨Lc225, hQ225, l225, y225, z225⟩, st225⟩ := X203.virtualBack hx (y := (⟨"tierlock/Epoch", "successor", "()Ltierlock/Epoch;"⟩ : MethodName)) (z := (⟨"tierlock/Epoch", "successor", "()Ltierlock/Epoch;"⟩ : MethodName)) hown (mvT hZ (hw _ (List.mem_of_getElem? (i := 21) rfl))) (mvT hZ (hw _ (List.mem_of_getElem? (i := 22) rfl))) (notFace_of_selects (args := #[]) (mvT hZ (hw _ (List.mem_of_getElem? (i := 24) rfl)))) (mvT hZ (hw _ (List.mem_of_getElem? (i := 24) rfl))) (mvT hZ (hw _ (List.mem_of_getElem? (i := 23) rfl))) (by decide) (backOf (W := 0) (rm5 l Z aq hw [] r180 (((0 : Int32) + (1 : Int32)) + (1 : Int32)) v2 T203.heap n0 Z203 E210 F211 F212) hZ (hw _ (List.mem_of_getElem? (i := 25) rfl)) (hw _ (List.mem_of_getElem? (i := 2) rfl)) (by decide) (by decide)) q225a q225c (g := (mkF m 65 #[.val (.int p0), .val (.int p1), .val (.ref r180), .val (.int (2 : Int32)), .val (.int v1), .unset] [(.ref r180)])) rfl (by rw [hml]; rfl) (Steps.refl _) (argsL := []) (rest := []) (lenOf pd35347256 rfl) rfl (by show 2 * 0 + _ ≤ _; exact Nat.le_of_eq rfl) (hb hby at_65) (fun _ _ => ⟨rfl, rfl, (by decide : 3 + 1 ≤ _), (by decide : 6 + 2 ≤ _)⟩)
    dsimp only [Pt.U, Pt.locs, Pt.cells, Pt.slots] at X225 l225 y225 z225 st225 hQ225
    subst l225 y225 z225
    obtain ⟨r225, rfl, N225q, K225, s225, E225_0, F225_0, F225_1⟩ := hQ225
    have g_r225 : n0 ≤ r225 := Nat.le_trans Z203 s225
    have ne_b77_r225 : b77 ≠ r225 := Nat.ne_of_lt (Nat.lt_of_lt_of_le E204.lt s225)
    have E226 := E204.keep K225
    have F227 := F205.keep K225 nin0
    have F228 := F206.keep K225 nin0
    have ne_r174_r225 : r174 ≠ r225 := Nat.ne_of_lt (Nat.lt_of_lt_of_le E207.lt s225)
    have E229 := E207.keep K225
    have F230 := F208.keep K225 nin0
    have F231 := F209.keep K225 nin0
    have ne_r180_r225 : r180 ≠ r225 := Nat.ne_of_lt (Nat.lt_of_lt_of_le E210.lt s225)
    have E232 := E210.keep K225
    have F233 := F211.keep K225 nin0
    have F234 := F212.keep K225 nin0
    have Z235 : n0 ≤ T225.heap.size := Nat.le_trans Z203 K225.1
    have N236 := Fr.app N203 N225q
    obtain ⟨cq237, kq237, q237a, q237b, q237c⟩ := isOf hZ rfl E225_0
    obtain ⟨_, _, ⟨T237, L237, k237, n237⟩, -, X237, ⟨Lc237, hQ237, l237, y237, z237⟩, st237⟩ := X225.virtualBack hx (y := (⟨"tierlock/Epoch", "number", "()I"⟩ : MethodName)) (z := (⟨"tierlock/Epoch", "number", "()I"⟩ : MethodName)) hown (mvT hZ (hw _ (List.mem_of_getElem? (i := 27) rfl))) (mvT hZ (hw _ (List.mem_of_getElem? (i := 28) rfl))) (notFace_of_selects (args := #[]) (mvT hZ (hw _ (List.mem_of_getElem? (i := 30) rfl)))) (mvT hZ (hw _ (List.mem_of_getElem? (i := 30) rfl))) (mvT hZ (hw _ (List.mem_of_getElem? (i := 29) rfl))) (by decide) (backOf (W := 0) (rm6 l Z aq hw [] r225 ((((0 : Int32) + (1 : Int32)) + (1 : Int32)) + (1 : Int32)) (0 : Int32) T225.heap n0 Z235 E225_0 F225_0 F225_1) hZ (hw _ (List.mem_of_getElem? (i := 31) rfl)) (hw _ (List.mem_of_getElem? (i := 2) rfl)) (by decide) (by decide)) q237a q237c (g := (mkF m 85 #[.val (.int p0), .val (.int p1), .val (.ref r180), .val (.int (2 : Int32)), .val (.int v1), .val (.ref r225)] [(.ref r225)])) rfl (by rw [hml]; rfl) (Steps.refl _) (argsL := []) (rest := []) (lenOf pd93421983 rfl) rfl (by show 2 * 0 + _ ≤ _; exact Nat.le_of_eq rfl) (hb hby at_85) (fun _ _ => ⟨rfl, rfl, (by decide : 4 + 0 ≤ _), (by decide : 8 + 0 ≤ _)⟩)
    dsimp only [Pt.U, Pt.locs, Pt.cells, Pt.slots] at X237 l237 y237 z237 st237 hQ237
    subst l237 y237 z237
    obtain ⟨rfl, N237q, e237⟩ := hQ237
    have N238 := Fr.app N236 N237q
    obtain ⟨cq239, kq239, q239a, q239b, q239c⟩ := isOf hZ e237 E232
    obtain ⟨_, _, ⟨T239, L239, k239, n239⟩, -, X239, ⟨Lc239, hQ239, l239, y239, z239⟩, st239⟩ := X237.virtualBack hx (y := (⟨"tierlock/Epoch", "number", "()I"⟩ : MethodName)) (z := (⟨"tierlock/Epoch", "number", "()I"⟩ : MethodName)) hown (mvT hZ (hw _ (List.mem_of_getElem? (i := 27) rfl))) (mvT hZ (hw _ (List.mem_of_getElem? (i := 28) rfl))) (notFace_of_selects (args := #[]) (mvT hZ (hw _ (List.mem_of_getElem? (i := 30) rfl)))) (mvT hZ (hw _ (List.mem_of_getElem? (i := 30) rfl))) (mvT hZ (hw _ (List.mem_of_getElem? (i := 29) rfl))) (by decide) (backOf (W := 0) (rm6 l Z aq hw [] r180 (((0 : Int32) + (1 : Int32)) + (1 : Int32)) v2 T225.heap n0 Z235 E232 F233 F234) hZ (hw _ (List.mem_of_getElem? (i := 31) rfl)) (hw _ (List.mem_of_getElem? (i := 2) rfl)) (by decide) (by decide)) q239a q239c (g := (mkF m 95 #[.val (.int p0), .val (.int p1), .val (.ref r180), .val (.int (2 : Int32)), .val (.int v1), .val (.ref r225)] [(.ref r180)])) rfl (by rw [hml]; rfl) (Steps.refl _) (argsL := []) (rest := []) (lenOf pd93421983 rfl) rfl (by show 2 * 0 + _ ≤ _; exact Nat.le_of_eq rfl) (hb hby at_95) (fun _ _ => ⟨rfl, e237, (by decide : 4 + 0 ≤ _), (by decide : 8 + 0 ≤ _)⟩)
    dsimp only [Pt.U, Pt.locs, Pt.cells, Pt.slots] at X239 l239 y239 z239 st239 hQ239
    subst l239 y239 z239
    obtain ⟨rfl, N239q, e239⟩ := hQ239
    have N240 := Fr.app N238 N239q
    obtain ⟨cq241, kq241, q241a, q241b, q241c⟩ := isOf hZ e239 E225_0
    obtain ⟨_, _, ⟨T241, L241, k241, n241⟩, -, X241, ⟨Lc241, hQ241, l241, y241, z241⟩, st241⟩ := X239.virtualBack hx (y := (⟨"tierlock/Epoch", "isPast", "()Z"⟩ : MethodName)) (z := (⟨"tierlock/Epoch", "isPast", "()Z"⟩ : MethodName)) hown (mvT hZ (hw _ (List.mem_of_getElem? (i := 32) rfl))) (mvT hZ (hw _ (List.mem_of_getElem? (i := 33) rfl))) (notFace_of_selects (args := #[]) (mvT hZ (hw _ (List.mem_of_getElem? (i := 35) rfl)))) (mvT hZ (hw _ (List.mem_of_getElem? (i := 35) rfl))) (mvT hZ (hw _ (List.mem_of_getElem? (i := 34) rfl))) (by decide) (backOf (W := 0) (rm7 l Z aq hw [] r225 ((((0 : Int32) + (1 : Int32)) + (1 : Int32)) + (1 : Int32)) (0 : Int32) T225.heap n0 Z235 E225_0 F225_0 F225_1) hZ (hw _ (List.mem_of_getElem? (i := 36) rfl)) (hw _ (List.mem_of_getElem? (i := 2) rfl)) (by decide) (by decide)) q241a q241c (g := (mkF m 104 #[.val (.int p0), .val (.int p1), .val (.ref r180), .val (.int (2 : Int32)), .val (.int v1), .val (.ref r225)] [(.ref r225)])) rfl (by rw [hml]; rfl) (Steps.refl _) (argsL := []) (rest := []) (lenOf pd93422000 rfl) rfl (by show 2 * 0 + _ ≤ _; exact Nat.le_of_eq rfl) (hb hby at_104) (fun _ _ => ⟨rfl, e239, (by decide : 4 + 0 ≤ _), (by decide : 8 + 0 ≤ _)⟩)
    dsimp only [Pt.U, Pt.locs, Pt.cells, Pt.slots] at X241 l241 y241 z241 st241 hQ241
    subst l241 y241 z241
    obtain ⟨rfl, N241q, e241⟩ := hQ241
    have N242 := Fr.app N240 N241q
    obtain ⟨cq243, kq243, q243a, q243b, q243c⟩ := isOf hZ e241 E232
    obtain ⟨_, _, ⟨T243, L243, k243, n243⟩, -, X243, ⟨Lc243, hQ243, l243, y243, z243⟩, st243⟩ := X241.virtualBack hx (y := (⟨"tierlock/Epoch", "isPast", "()Z"⟩ : MethodName)) (z := (⟨"tierlock/Epoch", "isPast", "()Z"⟩ : MethodName)) hown (mvT hZ (hw _ (List.mem_of_getElem? (i := 32) rfl))) (mvT hZ (hw _ (List.mem_of_getElem? (i := 33) rfl))) (notFace_of_selects (args := #[]) (mvT hZ (hw _ (List.mem_of_getElem? (i := 35) rfl)))) (mvT hZ (hw _ (List.mem_of_getElem? (i := 35) rfl))) (mvT hZ (hw _ (List.mem_of_getElem? (i := 34) rfl))) (by decide) (backOf (W := 0) (rm7 l Z aq hw [] r180 (((0 : Int32) + (1 : Int32)) + (1 : Int32)) v2 T225.heap n0 Z235 E232 F233 F234) hZ (hw _ (List.mem_of_getElem? (i := 36) rfl)) (hw _ (List.mem_of_getElem? (i := 2) rfl)) (by decide) (by decide)) q243a q243c (g := (mkF m 111 #[.val (.int p0), .val (.int p1), .val (.ref r180), .val (.int (2 : Int32)), .val (.int v1), .val (.ref r225)] [(.ref r180)])) rfl (by rw [hml]; rfl) (Steps.refl _) (argsL := []) (rest := []) (lenOf pd93422000 rfl) rfl (by show 2 * 0 + _ ≤ _; exact Nat.le_of_eq rfl) (hb hby at_111) (fun _ _ => ⟨rfl, e241, (by decide : 4 + 0 ≤ _), (by decide : 8 + 0 ≤ _)⟩)
    dsimp only [Pt.U, Pt.locs, Pt.cells, Pt.slots] at X243 l243 y243 z243 st243 hQ243
    subst l243 y243 z243
    obtain ⟨rfl, N243q, e243⟩ := hQ243
    have N244 := Fr.app N242 N243q
    have pre245 : ∀ t, Steps p.tables e below (T243.setTop (mkF m 116 #[.val (.int p0), .val (.int p1), .val (.ref r180), .val (.int (2 : Int32)), .val (.int v1), .val (.ref r225)] [(.int v1), (.int (v2 &&& 1))])) t → Steps p.tables e below (s₁.setTop (entryFrame m #[(.int p0), (.int p1)] maxLocals)) t := fun t kt => by
      refine pre203 _ ?_
      show Steps p.tables e below (T203.setTop (mkF m 64 #[.val (.int p0), .val (.int p1), .val (.ref r180), .val (.int (2 : Int32)), .val (.int v1), .unset] [])) _
      refine XS.aloadN X203.here hx rfl (hb hby at_64) rfl rfl ?_
      show Steps p.tables e below (T203.setTop (mkF m 65 #[.val (.int p0), .val (.int p1), .val (.ref r180), .val (.int (2 : Int32)), .val (.int v1), .unset] [(.ref r180)])) _
      refine st225.trans ?_
      show Steps p.tables e below (T225.setTop (mkF m 68 #[.val (.int p0), .val (.int p1), .val (.ref r180), .val (.int (2 : Int32)), .val (.int v1), .unset] [(.ref r225)])) _
      refine XS.astore X225.here hx rfl (hb hby at_68) rfl rfl (l' := #[.val (.int p0), .val (.int p1), .val (.ref r180), .val (.int (2 : Int32)), .val (.int v1), .val (.ref r225)]) rfl ?_
      show Steps p.tables e below (T225.setTop (mkF m 70 #[.val (.int p0), .val (.int p1), .val (.ref r180), .val (.int (2 : Int32)), .val (.int v1), .val (.ref r225)] [])) _
      refine XS.aload X225.here hx rfl (hb hby at_70) rfl rfl ?_
      show Steps p.tables e below (T225.setTop (mkF m 72 #[.val (.int p0), .val (.int p1), .val (.ref r180), .val (.int (2 : Int32)), .val (.int v1), .val (.ref r225)] [(.ref r225)])) _
      refine XS.ifnullNo X225.here hx rfl (hb hby at_72) rfl ?_
      show Steps p.tables e below (T225.setTop (mkF m 75 #[.val (.int p0), .val (.int p1), .val (.ref r180), .val (.int (2 : Int32)), .val (.int v1), .val (.ref r225)] [])) _
      refine XS.aload X225.here hx rfl (hb hby at_75) rfl rfl ?_
      show Steps p.tables e below (T225.setTop (mkF m 77 #[.val (.int p0), .val (.int p1), .val (.ref r180), .val (.int (2 : Int32)), .val (.int v1), .val (.ref r225)] [(.ref r225)])) _
      refine XS.aloadN X225.here hx rfl (hb hby at_77) rfl rfl ?_
      show Steps p.tables e below (T225.setTop (mkF m 78 #[.val (.int p0), .val (.int p1), .val (.ref r180), .val (.int (2 : Int32)), .val (.int v1), .val (.ref r225)] [(.ref r180), (.ref r225)])) _
      refine Jvm.RoadKit.acmp (g := (mkF m 78 #[.val (.int p0), .val (.int p1), .val (.ref r180), .val (.int (2 : Int32)), .val (.int v1), .val (.ref r225)] [(.ref r180), (.ref r225)])) X225 hx rfl rfl rfl (pc0 := 78) (pc' := 83) (same := false) rfl (hb hby at_78) rfl (decide_eq_false fun q => (Ne.symm ne_r180_r225) (Value.ref.inj q)) (by decide) (by decide) ?_
      show Steps p.tables e below (T225.setTop (mkF m 83 #[.val (.int p0), .val (.int p1), .val (.ref r180), .val (.int (2 : Int32)), .val (.int v1), .val (.ref r225)] [])) _
      refine XS.aload X225.here hx rfl (hb hby at_83) rfl rfl ?_
      show Steps p.tables e below (T225.setTop (mkF m 85 #[.val (.int p0), .val (.int p1), .val (.ref r180), .val (.int (2 : Int32)), .val (.int v1), .val (.ref r225)] [(.ref r225)])) _
      refine st237.trans ?_
      show Steps p.tables e below (T237.setTop (mkF m 88 #[.val (.int p0), .val (.int p1), .val (.ref r180), .val (.int (2 : Int32)), .val (.int v1), .val (.ref r225)] [(.int ((((0 : Int32) + (1 : Int32)) + (1 : Int32)) + (1 : Int32)))])) _
      refine XS.iloadN X237.here hx rfl (hb hby at_88) rfl ?_
      show Steps p.tables e below (T237.setTop (mkF m 89 #[.val (.int p0), .val (.int p1), .val (.ref r180), .val (.int (2 : Int32)), .val (.int v1), .val (.ref r225)] [(.int (2 : Int32)), (.int ((((0 : Int32) + (1 : Int32)) + (1 : Int32)) + (1 : Int32)))])) _
      refine XS.iconst X237.here hx rfl (hb hby at_89) ?_
      show Steps p.tables e below (T237.setTop (mkF m 90 #[.val (.int p0), .val (.int p1), .val (.ref r180), .val (.int (2 : Int32)), .val (.int v1), .val (.ref r225)] [(.int (1 : Int32)), (.int (2 : Int32)), (.int ((((0 : Int32) + (1 : Int32)) + (1 : Int32)) + (1 : Int32)))])) _
      refine XS.iadd X237.here hx rfl (hb hby at_90) rfl ?_
      show Steps p.tables e below (T237.setTop (mkF m 91 #[.val (.int p0), .val (.int p1), .val (.ref r180), .val (.int (2 : Int32)), .val (.int v1), .val (.ref r225)] [(.int ((2 : Int32) + (1 : Int32))), (.int ((((0 : Int32) + (1 : Int32)) + (1 : Int32)) + (1 : Int32)))])) _
      refine XS.icmpNo X237.here hx rfl (hb hby at_91) rfl (teq (by decide : ((((0 : Int32) + (1 : Int32)) + (1 : Int32)) + (1 : Int32)) = ((2 : Int32) + (1 : Int32)))).2 ?_
      show Steps p.tables e below (T237.setTop (mkF m 94 #[.val (.int p0), .val (.int p1), .val (.ref r180), .val (.int (2 : Int32)), .val (.int v1), .val (.ref r225)] [])) _
      refine XS.aloadN X237.here hx rfl (hb hby at_94) rfl rfl ?_
      show Steps p.tables e below (T237.setTop (mkF m 95 #[.val (.int p0), .val (.int p1), .val (.ref r180), .val (.int (2 : Int32)), .val (.int v1), .val (.ref r225)] [(.ref r180)])) _
      refine st239.trans ?_
      show Steps p.tables e below (T239.setTop (mkF m 98 #[.val (.int p0), .val (.int p1), .val (.ref r180), .val (.int (2 : Int32)), .val (.int v1), .val (.ref r225)] [(.int (((0 : Int32) + (1 : Int32)) + (1 : Int32)))])) _
      refine XS.iloadN X239.here hx rfl (hb hby at_98) rfl ?_
      show Steps p.tables e below (T239.setTop (mkF m 99 #[.val (.int p0), .val (.int p1), .val (.ref r180), .val (.int (2 : Int32)), .val (.int v1), .val (.ref r225)] [(.int (2 : Int32)), (.int (((0 : Int32) + (1 : Int32)) + (1 : Int32)))])) _
      refine XS.icmpNo X239.here hx rfl (hb hby at_99) rfl (teq (by decide : (((0 : Int32) + (1 : Int32)) + (1 : Int32)) = (2 : Int32))).2 ?_
      show Steps p.tables e below (T239.setTop (mkF m 102 #[.val (.int p0), .val (.int p1), .val (.ref r180), .val (.int (2 : Int32)), .val (.int v1), .val (.ref r225)] [])) _
      refine XS.aload X239.here hx rfl (hb hby at_102) rfl rfl ?_
      show Steps p.tables e below (T239.setTop (mkF m 104 #[.val (.int p0), .val (.int p1), .val (.ref r180), .val (.int (2 : Int32)), .val (.int v1), .val (.ref r225)] [(.ref r225)])) _
      refine st241.trans ?_
      show Steps p.tables e below (T241.setTop (mkF m 107 #[.val (.int p0), .val (.int p1), .val (.ref r180), .val (.int (2 : Int32)), .val (.int v1), .val (.ref r225)] [(.int ((0 : Int32) &&& 1))])) _
      refine XS.ifNo X241.here hx rfl (hb hby at_107) rfl ((if0 _ _).trans (teq (by decide : ((0 : Int32) &&& 1) = (0 : Int32))).2) ?_
      show Steps p.tables e below (T241.setTop (mkF m 110 #[.val (.int p0), .val (.int p1), .val (.ref r180), .val (.int (2 : Int32)), .val (.int v1), .val (.ref r225)] [])) _
      refine XS.aloadN X241.here hx rfl (hb hby at_110) rfl rfl ?_
      show Steps p.tables e below (T241.setTop (mkF m 111 #[.val (.int p0), .val (.int p1), .val (.ref r180), .val (.int (2 : Int32)), .val (.int v1), .val (.ref r225)] [(.ref r180)])) _
      refine st243.trans ?_
      show Steps p.tables e below (T243.setTop (mkF m 114 #[.val (.int p0), .val (.int p1), .val (.ref r180), .val (.int (2 : Int32)), .val (.int v1), .val (.ref r225)] [(.int (v2 &&& 1))])) _
      refine XS.iload X243.here hx rfl (hb hby at_114) rfl ?_
      show Steps p.tables e below (T243.setTop (mkF m 116 #[.val (.int p0), .val (.int p1), .val (.ref r180), .val (.int (2 : Int32)), .val (.int v1), .val (.ref r225)] [(.int v1), (.int (v2 &&& 1))])) _
      exact kt
    obtain ⟨v3, hv3⟩ : ∃ z : Int32, z = (if (v2 &&& 1) = v1 then (1 : Int32) else (0 : Int32)) := ⟨_, rfl⟩
    have pre247 : ∀ t, Steps p.tables e below (T243.setTop (mkF m 124 #[.val (.int p0), .val (.int p1), .val (.ref r180), .val (.int (2 : Int32)), .val (.int v1), .val (.ref r225)] [(.int v3)])) t → Steps p.tables e below (s₁.setTop (entryFrame m #[(.int p0), (.int p1)] maxLocals)) t := fun t kt => by
      refine pre245 _ ?_
      show Steps p.tables e below (T243.setTop (mkF m 116 #[.val (.int p0), .val (.int p1), .val (.ref r180), .val (.int (2 : Int32)), .val (.int v1), .val (.ref r225)] [(.int v1), (.int (v2 &&& 1))])) _
      by_cases hc246 : (v2 &&& 1) = v1
      · rw [if_pos hc246] at hv3
        refine XS.icmpNo X243.here hx rfl (hb hby at_116) rfl (teq hc246).2 ?_
        show Steps p.tables e below (T243.setTop (mkF m 119 #[.val (.int p0), .val (.int p1), .val (.ref r180), .val (.int (2 : Int32)), .val (.int v1), .val (.ref r225)] [])) _
        refine XS.iconst X243.here hx rfl (hb hby at_119) ?_
        show Steps p.tables e below (T243.setTop (mkF m 120 #[.val (.int p0), .val (.int p1), .val (.ref r180), .val (.int (2 : Int32)), .val (.int v1), .val (.ref r225)] [(.int (1 : Int32))])) _
        refine XS.goto X243.here hx rfl (pc0 := 120) (pc' := 124) rfl (hb hby at_120) (by decide) (by decide) ?_
        subst hv3
        exact kt
      · rw [if_neg hc246] at hv3
        refine XS.icmpYes X243.here hx rfl (pc0 := 116) (pc' := 123) rfl (hb hby at_116) rfl (feq hc246).2 (by decide) (by decide) ?_
        show Steps p.tables e below (T243.setTop (mkF m 123 #[.val (.int p0), .val (.int p1), .val (.ref r180), .val (.int (2 : Int32)), .val (.int v1), .val (.ref r225)] [])) _
        refine XS.iconst X243.here hx rfl (hb hby at_123) ?_
        subst hv3
        exact kt
    have hfin : v3 = 1 := (own_plain2 p0 p1 v1 hv1 v2 hv2 v3 hv3)
    obtain ⟨fs, hr, hrun, hended, hW, hsame⟩ := X243.leave (v := some (.int (v3 &&& 1))) (fun h => by rw [Bd.returns] at h; cases h)
    refine ⟨_, _, pre247 _ ?_, hrun, hended, _, _, rfl, ?_, ⟨_, rfl⟩, hW, hsame.mono (by decide) (by decide)⟩
    · exact retN X243 hx (t := .boolean) Bd.returns (by simp) (hb hby at_124) hr
    · exact ⟨by rw [hfin]; rfl, N244⟩
  · skip
    have pre248 : ∀ t, Steps p.tables e below (T79.setTop (mkF m 12 #[.val (.int p0), .val (.int p1), .val (.ref b77), .val (.int (3 : Int32)), .unset, .unset] [])) t → Steps p.tables e below (s₁.setTop (entryFrame m #[(.int p0), (.int p1)] maxLocals)) t := fun t kt => pre82 t (by rw [hk]; exact kt)
    obtain ⟨cq249, kq249, q249a, q249b, q249c⟩ := isOf hZ rfl E79_0
    obtain ⟨_, _, ⟨T249, L249, k249, n249⟩, -, X249, ⟨Lc249, hQ249, l249, y249, z249⟩, st249⟩ := X79.virtualBack hx (y := (⟨"tierlock/Epoch", "successor", "()Ltierlock/Epoch;"⟩ : MethodName)) (z := (⟨"tierlock/Epoch", "successor", "()Ltierlock/Epoch;"⟩ : MethodName)) hown (mvT hZ (hw _ (List.mem_of_getElem? (i := 21) rfl))) (mvT hZ (hw _ (List.mem_of_getElem? (i := 22) rfl))) (notFace_of_selects (args := #[]) (mvT hZ (hw _ (List.mem_of_getElem? (i := 24) rfl)))) (mvT hZ (hw _ (List.mem_of_getElem? (i := 24) rfl))) (mvT hZ (hw _ (List.mem_of_getElem? (i := 23) rfl))) (by decide) (backOf (W := 0) (rm5 l Z aq hw [] b77 (0 : Int32) (0 : Int32) T79.heap n0 Z80 E79_0 F79_0 F79_1) hZ (hw _ (List.mem_of_getElem? (i := 25) rfl)) (hw _ (List.mem_of_getElem? (i := 2) rfl)) (by decide) (by decide)) q249a q249c (g := (mkF m 18 #[.val (.int p0), .val (.int p1), .val (.ref b77), .val (.int (3 : Int32)), .unset, .unset] [(.ref b77)])) rfl (by rw [hml]; rfl) (Steps.refl _) (argsL := []) (rest := []) (lenOf pd35347256 rfl) rfl (by show 2 * 0 + _ ≤ _; exact Nat.le_of_eq rfl) (hb hby at_18) (fun _ _ => ⟨rfl, rfl, (by decide : 1 + 1 ≤ _), (by decide : 2 + 2 ≤ _)⟩)
    dsimp only [Pt.U, Pt.locs, Pt.cells, Pt.slots] at X249 l249 y249 z249 st249 hQ249
    subst l249 y249 z249
    obtain ⟨r249, rfl, N249q, K249, s249, E249_0, F249_0, F249_1⟩ := hQ249
    have g_r249 : n0 ≤ r249 := Nat.le_trans Z80 s249
    have ne_b77_r249 : b77 ≠ r249 := Nat.ne_of_lt (Nat.lt_of_lt_of_le E79_0.lt s249)
    have E250 := E79_0.keep K249
    have F251 := F79_0.keep K249 nin0
    have F252 := F79_1.keep K249 nin0
    have Z253 : n0 ≤ T249.heap.size := Nat.le_trans Z80 K249.1
    have N254 := Fr.app N81 N249q
    obtain ⟨cq255, kq255, q255a, q255b, q255c⟩ := isOf hZ rfl E249_0
    obtain ⟨_, _, ⟨T255, L255, k255, n255⟩, -, X255, ⟨Lc255, hQ255, l255, y255, z255⟩, st255⟩ := X249.virtualBack hx (y := (⟨"tierlock/Epoch", "successor", "()Ltierlock/Epoch;"⟩ : MethodName)) (z := (⟨"tierlock/Epoch", "successor", "()Ltierlock/Epoch;"⟩ : MethodName)) hown (mvT hZ (hw _ (List.mem_of_getElem? (i := 21) rfl))) (mvT hZ (hw _ (List.mem_of_getElem? (i := 22) rfl))) (notFace_of_selects (args := #[]) (mvT hZ (hw _ (List.mem_of_getElem? (i := 24) rfl)))) (mvT hZ (hw _ (List.mem_of_getElem? (i := 24) rfl))) (mvT hZ (hw _ (List.mem_of_getElem? (i := 23) rfl))) (by decide) (backOf (W := 0) (rm5 l Z aq hw [] r249 ((0 : Int32) + (1 : Int32)) (0 : Int32) T249.heap n0 Z253 E249_0 F249_0 F249_1) hZ (hw _ (List.mem_of_getElem? (i := 25) rfl)) (hw _ (List.mem_of_getElem? (i := 2) rfl)) (by decide) (by decide)) q255a q255c (g := (mkF m 28 #[.val (.int p0), .val (.int p1), .val (.ref r249), .val (.int (3 : Int32)), .unset, .unset] [(.ref r249)])) rfl (by rw [hml]; rfl) (Steps.refl _) (argsL := []) (rest := []) (lenOf pd35347256 rfl) rfl (by show 2 * 0 + _ ≤ _; exact Nat.le_of_eq rfl) (hb hby at_28) (fun _ _ => ⟨rfl, rfl, (by decide : 2 + 1 ≤ _), (by decide : 4 + 2 ≤ _)⟩)
    dsimp only [Pt.U, Pt.locs, Pt.cells, Pt.slots] at X255 l255 y255 z255 st255 hQ255
    subst l255 y255 z255
    obtain ⟨r255, rfl, N255q, K255, s255, E255_0, F255_0, F255_1⟩ := hQ255
    have g_r255 : n0 ≤ r255 := Nat.le_trans Z253 s255
    have ne_b77_r255 : b77 ≠ r255 := Nat.ne_of_lt (Nat.lt_of_lt_of_le E250.lt s255)
    have E256 := E250.keep K255
    have F257 := F251.keep K255 nin0
    have F258 := F252.keep K255 nin0
    have ne_r249_r255 : r249 ≠ r255 := Nat.ne_of_lt (Nat.lt_of_lt_of_le E249_0.lt s255)
    have E259 := E249_0.keep K255
    have F260 := F249_0.keep K255 nin0
    have F261 := F249_1.keep K255 nin0
    have Z262 : n0 ≤ T255.heap.size := Nat.le_trans Z253 K255.1
    have N263 := Fr.app N254 N255q
    obtain ⟨cq264, kq264, q264a, q264b, q264c⟩ := isOf hZ rfl E255_0
    obtain ⟨_, _, ⟨T264, L264, k264, n264⟩, -, X264, ⟨Lc264, hQ264, l264, y264, z264⟩, st264⟩ := X255.virtualBack hx (y := (⟨"tierlock/Epoch", "successor", "()Ltierlock/Epoch;"⟩ : MethodName)) (z := (⟨"tierlock/Epoch", "successor", "()Ltierlock/Epoch;"⟩ : MethodName)) hown (mvT hZ (hw _ (List.mem_of_getElem? (i := 21) rfl))) (mvT hZ (hw _ (List.mem_of_getElem? (i := 22) rfl))) (notFace_of_selects (args := #[]) (mvT hZ (hw _ (List.mem_of_getElem? (i := 24) rfl)))) (mvT hZ (hw _ (List.mem_of_getElem? (i := 24) rfl))) (mvT hZ (hw _ (List.mem_of_getElem? (i := 23) rfl))) (by decide) (backOf (W := 0) (rm5 l Z aq hw [] r255 (((0 : Int32) + (1 : Int32)) + (1 : Int32)) (0 : Int32) T255.heap n0 Z262 E255_0 F255_0 F255_1) hZ (hw _ (List.mem_of_getElem? (i := 25) rfl)) (hw _ (List.mem_of_getElem? (i := 2) rfl)) (by decide) (by decide)) q264a q264c (g := (mkF m 38 #[.val (.int p0), .val (.int p1), .val (.ref r255), .val (.int (3 : Int32)), .unset, .unset] [(.ref r255)])) rfl (by rw [hml]; rfl) (Steps.refl _) (argsL := []) (rest := []) (lenOf pd35347256 rfl) rfl (by show 2 * 0 + _ ≤ _; exact Nat.le_of_eq rfl) (hb hby at_38) (fun _ _ => ⟨rfl, rfl, (by decide : 3 + 1 ≤ _), (by decide : 6 + 2 ≤ _)⟩)
    dsimp only [Pt.U, Pt.locs, Pt.cells, Pt.slots] at X264 l264 y264 z264 st264 hQ264
    subst l264 y264 z264
    obtain ⟨r264, rfl, N264q, K264, s264, E264_0, F264_0, F264_1⟩ := hQ264
    have g_r264 : n0 ≤ r264 := Nat.le_trans Z262 s264
    have ne_b77_r264 : b77 ≠ r264 := Nat.ne_of_lt (Nat.lt_of_lt_of_le E256.lt s264)
    have E265 := E256.keep K264
    have F266 := F257.keep K264 nin0
    have F267 := F258.keep K264 nin0
    have ne_r249_r264 : r249 ≠ r264 := Nat.ne_of_lt (Nat.lt_of_lt_of_le E259.lt s264)
    have E268 := E259.keep K264
    have F269 := F260.keep K264 nin0
    have F270 := F261.keep K264 nin0
    have ne_r255_r264 : r255 ≠ r264 := Nat.ne_of_lt (Nat.lt_of_lt_of_le E255_0.lt s264)
    have E271 := E255_0.keep K264
    have F272 := F255_0.keep K264 nin0
    have F273 := F255_1.keep K264 nin0
    have Z274 : n0 ≤ T264.heap.size := Nat.le_trans Z262 K264.1
    have N275 := Fr.app N263 N264q
    have pre276 : ∀ t, Steps p.tables e below (T264.setTop (mkF m 45 #[.val (.int p0), .val (.int p1), .val (.ref r264), .val (.int (3 : Int32)), .unset, .unset] [(.int (p1 &&& (1 : Int32)))])) t → Steps p.tables e below (s₁.setTop (entryFrame m #[(.int p0), (.int p1)] maxLocals)) t := fun t kt => by
      refine pre248 _ ?_
      show Steps p.tables e below (T79.setTop (mkF m 12 #[.val (.int p0), .val (.int p1), .val (.ref b77), .val (.int (3 : Int32)), .unset, .unset] [])) _
      refine XS.iloadN X79.here hx rfl (hb hby at_12) rfl ?_
      show Steps p.tables e below (T79.setTop (mkF m 13 #[.val (.int p0), .val (.int p1), .val (.ref b77), .val (.int (3 : Int32)), .unset, .unset] [(.int (3 : Int32))])) _
      refine XS.iconst X79.here hx rfl (hb hby at_13) ?_
      show Steps p.tables e below (T79.setTop (mkF m 14 #[.val (.int p0), .val (.int p1), .val (.ref b77), .val (.int (3 : Int32)), .unset, .unset] [(.int (1 : Int32)), (.int (3 : Int32))])) _
      refine XS.icmpNo X79.here hx rfl (hb hby at_14) rfl (flt (by decide : ¬ ((3 : Int32) < (1 : Int32)))).1 ?_
      show Steps p.tables e below (T79.setTop (mkF m 17 #[.val (.int p0), .val (.int p1), .val (.ref b77), .val (.int (3 : Int32)), .unset, .unset] [])) _
      refine XS.aloadN X79.here hx rfl (hb hby at_17) rfl rfl ?_
      show Steps p.tables e below (T79.setTop (mkF m 18 #[.val (.int p0), .val (.int p1), .val (.ref b77), .val (.int (3 : Int32)), .unset, .unset] [(.ref b77)])) _
      refine st249.trans ?_
      show Steps p.tables e below (T249.setTop (mkF m 21 #[.val (.int p0), .val (.int p1), .val (.ref b77), .val (.int (3 : Int32)), .unset, .unset] [(.ref r249)])) _
      refine XS.astoreN X249.here hx rfl (hb hby at_21) rfl rfl (l' := #[.val (.int p0), .val (.int p1), .val (.ref r249), .val (.int (3 : Int32)), .unset, .unset]) rfl ?_
      show Steps p.tables e below (T249.setTop (mkF m 22 #[.val (.int p0), .val (.int p1), .val (.ref r249), .val (.int (3 : Int32)), .unset, .unset] [])) _
      refine XS.iloadN X249.here hx rfl (hb hby at_22) rfl ?_
      show Steps p.tables e below (T249.setTop (mkF m 23 #[.val (.int p0), .val (.int p1), .val (.ref r249), .val (.int (3 : Int32)), .unset, .unset] [(.int (3 : Int32))])) _
      refine XS.iconst X249.here hx rfl (hb hby at_23) ?_
      show Steps p.tables e below (T249.setTop (mkF m 24 #[.val (.int p0), .val (.int p1), .val (.ref r249), .val (.int (3 : Int32)), .unset, .unset] [(.int (2 : Int32)), (.int (3 : Int32))])) _
      refine XS.icmpNo X249.here hx rfl (hb hby at_24) rfl (flt (by decide : ¬ ((3 : Int32) < (2 : Int32)))).1 ?_
      show Steps p.tables e below (T249.setTop (mkF m 27 #[.val (.int p0), .val (.int p1), .val (.ref r249), .val (.int (3 : Int32)), .unset, .unset] [])) _
      refine XS.aloadN X249.here hx rfl (hb hby at_27) rfl rfl ?_
      show Steps p.tables e below (T249.setTop (mkF m 28 #[.val (.int p0), .val (.int p1), .val (.ref r249), .val (.int (3 : Int32)), .unset, .unset] [(.ref r249)])) _
      refine st255.trans ?_
      show Steps p.tables e below (T255.setTop (mkF m 31 #[.val (.int p0), .val (.int p1), .val (.ref r249), .val (.int (3 : Int32)), .unset, .unset] [(.ref r255)])) _
      refine XS.astoreN X255.here hx rfl (hb hby at_31) rfl rfl (l' := #[.val (.int p0), .val (.int p1), .val (.ref r255), .val (.int (3 : Int32)), .unset, .unset]) rfl ?_
      show Steps p.tables e below (T255.setTop (mkF m 32 #[.val (.int p0), .val (.int p1), .val (.ref r255), .val (.int (3 : Int32)), .unset, .unset] [])) _
      refine XS.iloadN X255.here hx rfl (hb hby at_32) rfl ?_
      show Steps p.tables e below (T255.setTop (mkF m 33 #[.val (.int p0), .val (.int p1), .val (.ref r255), .val (.int (3 : Int32)), .unset, .unset] [(.int (3 : Int32))])) _
      refine XS.iconst X255.here hx rfl (hb hby at_33) ?_
      show Steps p.tables e below (T255.setTop (mkF m 34 #[.val (.int p0), .val (.int p1), .val (.ref r255), .val (.int (3 : Int32)), .unset, .unset] [(.int (3 : Int32)), (.int (3 : Int32))])) _
      refine XS.icmpNo X255.here hx rfl (hb hby at_34) rfl (flt (by decide : ¬ ((3 : Int32) < (3 : Int32)))).1 ?_
      show Steps p.tables e below (T255.setTop (mkF m 37 #[.val (.int p0), .val (.int p1), .val (.ref r255), .val (.int (3 : Int32)), .unset, .unset] [])) _
      refine XS.aloadN X255.here hx rfl (hb hby at_37) rfl rfl ?_
      show Steps p.tables e below (T255.setTop (mkF m 38 #[.val (.int p0), .val (.int p1), .val (.ref r255), .val (.int (3 : Int32)), .unset, .unset] [(.ref r255)])) _
      refine st264.trans ?_
      show Steps p.tables e below (T264.setTop (mkF m 41 #[.val (.int p0), .val (.int p1), .val (.ref r255), .val (.int (3 : Int32)), .unset, .unset] [(.ref r264)])) _
      refine XS.astoreN X264.here hx rfl (hb hby at_41) rfl rfl (l' := #[.val (.int p0), .val (.int p1), .val (.ref r264), .val (.int (3 : Int32)), .unset, .unset]) rfl ?_
      show Steps p.tables e below (T264.setTop (mkF m 42 #[.val (.int p0), .val (.int p1), .val (.ref r264), .val (.int (3 : Int32)), .unset, .unset] [])) _
      refine XS.iloadN X264.here hx rfl (hb hby at_42) rfl ?_
      show Steps p.tables e below (T264.setTop (mkF m 43 #[.val (.int p0), .val (.int p1), .val (.ref r264), .val (.int (3 : Int32)), .unset, .unset] [(.int p1)])) _
      refine XS.iconst X264.here hx rfl (hb hby at_43) ?_
      show Steps p.tables e below (T264.setTop (mkF m 44 #[.val (.int p0), .val (.int p1), .val (.ref r264), .val (.int (3 : Int32)), .unset, .unset] [(.int (1 : Int32)), (.int p1)])) _
      refine XS.iand X264.here hx rfl (hb hby at_44) rfl ?_
      show Steps p.tables e below (T264.setTop (mkF m 45 #[.val (.int p0), .val (.int p1), .val (.ref r264), .val (.int (3 : Int32)), .unset, .unset] [(.int (p1 &&& (1 : Int32)))])) _
      exact kt
    obtain ⟨v1, hv1⟩ : ∃ z : Int32, z = (if (p1 &&& (1 : Int32)) = (0 : Int32) then (0 : Int32) else (1 : Int32)) := ⟨_, rfl⟩
    have pre278 : ∀ t, Steps p.tables e below (T264.setTop (mkF m 53 #[.val (.int p0), .val (.int p1), .val (.ref r264), .val (.int (3 : Int32)), .unset, .unset] [(.int v1)])) t → Steps p.tables e below (s₁.setTop (entryFrame m #[(.int p0), (.int p1)] maxLocals)) t := fun t kt => by
      refine pre276 _ ?_
      show Steps p.tables e below (T264.setTop (mkF m 45 #[.val (.int p0), .val (.int p1), .val (.ref r264), .val (.int (3 : Int32)), .unset, .unset] [(.int (p1 &&& (1 : Int32)))])) _
      by_cases hc277 : (p1 &&& (1 : Int32)) = (0 : Int32)
      · rw [if_pos hc277] at hv1
        refine XS.ifYes X264.here hx rfl (pc0 := 45) (pc' := 52) rfl (hb hby at_45) rfl ((if0 _ _).trans (teq hc277).1) (by decide) (by decide) ?_
        show Steps p.tables e below (T264.setTop (mkF m 52 #[.val (.int p0), .val (.int p1), .val (.ref r264), .val (.int (3 : Int32)), .unset, .unset] [])) _
        refine XS.iconst X264.here hx rfl (hb hby at_52) ?_
        subst hv1
        exact kt
      · rw [if_neg hc277] at hv1
        refine XS.ifNo X264.here hx rfl (hb hby at_45) rfl ((if0 _ _).trans (feq hc277).1) ?_
        show Steps p.tables e below (T264.setTop (mkF m 48 #[.val (.int p0), .val (.int p1), .val (.ref r264), .val (.int (3 : Int32)), .unset, .unset] [])) _
        refine XS.iconst X264.here hx rfl (hb hby at_48) ?_
        show Steps p.tables e below (T264.setTop (mkF m 49 #[.val (.int p0), .val (.int p1), .val (.ref r264), .val (.int (3 : Int32)), .unset, .unset] [(.int (1 : Int32))])) _
        refine XS.goto X264.here hx rfl (pc0 := 49) (pc' := 53) rfl (hb hby at_49) (by decide) (by decide) ?_
        subst hv1
        exact kt
    have pre279 : ∀ t, Steps p.tables e below (T264.setTop (mkF m 57 #[.val (.int p0), .val (.int p1), .val (.ref r264), .val (.int (3 : Int32)), .val (.int v1), .unset] [(.int v1)])) t → Steps p.tables e below (s₁.setTop (entryFrame m #[(.int p0), (.int p1)] maxLocals)) t := fun t kt => by
      refine pre278 _ ?_
      show Steps p.tables e below (T264.setTop (mkF m 53 #[.val (.int p0), .val (.int p1), .val (.ref r264), .val (.int (3 : Int32)), .unset, .unset] [(.int v1)])) _
      refine XS.istore X264.here hx rfl (hb hby at_53) rfl (l' := #[.val (.int p0), .val (.int p1), .val (.ref r264), .val (.int (3 : Int32)), .val (.int v1), .unset]) rfl ?_
      show Steps p.tables e below (T264.setTop (mkF m 55 #[.val (.int p0), .val (.int p1), .val (.ref r264), .val (.int (3 : Int32)), .val (.int v1), .unset] [])) _
      refine XS.iload X264.here hx rfl (hb hby at_55) rfl ?_
      show Steps p.tables e below (T264.setTop (mkF m 57 #[.val (.int p0), .val (.int p1), .val (.ref r264), .val (.int (3 : Int32)), .val (.int v1), .unset] [(.int v1)])) _
      exact kt
    obtain ⟨v2, hv2⟩ : ∃ z : Int32, z = (if v1 = (0 : Int32) then (0 : Int32) else ((1 : Int32) &&& 1)) := ⟨_, rfl⟩
    obtain ⟨T293, L293, X293, N293, Z293, E294, F295, F296, E297, F298, F299, E300, F301, F302, E303, F304, F305, pre293⟩ : ∃ (T' : State) (L' : List Loc), Stand p l e room_1 s m #[(.int p0), (.int p1)] below meth c T' L' 4 8 ∧ Fr n0 L' ∧ n0 ≤ T'.heap.size ∧ Exa Z T'.heap b77 "tierlock/Epoch" ∧ Fld Z T'.heap b77 "tierlock/Epoch" "number" "I" (.int (0 : Int32)) ∧ Fld Z T'.heap b77 "tierlock/Epoch" "past" "Z" (.int (0 : Int32)) ∧ Exa Z T'.heap r249 "tierlock/Epoch" ∧ Fld Z T'.heap r249 "tierlock/Epoch" "number" "I" (.int ((0 : Int32) + (1 : Int32))) ∧ Fld Z T'.heap r249 "tierlock/Epoch" "past" "Z" (.int (0 : Int32)) ∧ Exa Z T'.heap r255 "tierlock/Epoch" ∧ Fld Z T'.heap r255 "tierlock/Epoch" "number" "I" (.int (((0 : Int32) + (1 : Int32)) + (1 : Int32))) ∧ Fld Z T'.heap r255 "tierlock/Epoch" "past" "Z" (.int (0 : Int32)) ∧ Exa Z T'.heap r264 "tierlock/Epoch" ∧ Fld Z T'.heap r264 "tierlock/Epoch" "number" "I" (.int ((((0 : Int32) + (1 : Int32)) + (1 : Int32)) + (1 : Int32))) ∧ Fld Z T'.heap r264 "tierlock/Epoch" "past" "Z" (.int v2) ∧ ∀ t, Steps p.tables e below (T'.setTop (mkF m 64 #[.val (.int p0), .val (.int p1), .val (.ref r264), .val (.int (3 : Int32)), .val (.int v1), .unset] [])) t → Steps p.tables e below (s₁.setTop (entryFrame m #[(.int p0), (.int p1)] maxLocals)) t := by
      by_cases hc306 : v1 = (0 : Int32)
      · skip
        have pre307 : ∀ t, Steps p.tables e below (T264.setTop (mkF m 64 #[.val (.int p0), .val (.int p1), .val (.ref r264), .val (.int (3 : Int32)), .val (.int v1), .unset] [])) t → Steps p.tables e below (s₁.setTop (entryFrame m #[(.int p0), (.int p1)] maxLocals)) t := fun t kt => by
          refine pre279 _ ?_
          show Steps p.tables e below (T264.setTop (mkF m 57 #[.val (.int p0), .val (.int p1), .val (.ref r264), .val (.int (3 : Int32)), .val (.int v1), .unset] [(.int v1)])) _
          refine XS.ifYes X264.here hx rfl (pc0 := 57) (pc' := 64) rfl (hb hby at_57) rfl ((if0 _ _).trans (teq hc306).1) (by decide) (by decide) ?_
          show Steps p.tables e below (T264.setTop (mkF m 64 #[.val (.int p0), .val (.int p1), .val (.ref r264), .val (.int (3 : Int32)), .val (.int v1), .unset] [])) _
          exact kt
        rw [if_pos hc306] at hv2
        subst hv2
        exact ⟨_, _, X264, N275, Z274, E265, F266, F267, E268, F269, F270, E271, F272, F273, E264_0, F264_0, F264_1, pre307⟩
      · skip
        obtain ⟨cq308, kq308, q308a, q308b, q308c⟩ := isOf hZ rfl E264_0
        obtain ⟨_, _, ⟨T308, L308, k308, n308⟩, -, X308, ⟨Lc308, hQ308, l308, y308, z308⟩, st308⟩ := X264.virtualBack hx (y := (⟨"tierlock/Epoch", "pass", "()V"⟩ : MethodName)) (z := (⟨"tierlock/Epoch", "pass", "()V"⟩ : MethodName)) hown (mvT hZ (hw _ (List.mem_of_getElem? (i := 14) rfl))) (mvT hZ (hw _ (List.mem_of_getElem? (i := 15) rfl))) (notFace_of_selects (args := #[]) (mvT hZ (hw _ (List.mem_of_getElem? (i := 17) rfl)))) (mvT hZ (hw _ (List.mem_of_getElem? (i := 17) rfl))) (mvT hZ (hw _ (List.mem_of_getElem? (i := 16) rfl))) (by decide) (backOf (W := 0) (rm4 l Z aq hw [] r264 ((((0 : Int32) + (1 : Int32)) + (1 : Int32)) + (1 : Int32)) (0 : Int32) T264.heap n0 Z274 E264_0 F264_0 F264_1 g_r264) hZ (hw _ (List.mem_of_getElem? (i := 18) rfl)) (hw _ (List.mem_of_getElem? (i := 2) rfl)) (by decide) (by decide)) q308a q308c (g := (mkF m 61 #[.val (.int p0), .val (.int p1), .val (.ref r264), .val (.int (3 : Int32)), .val (.int v1), .unset] [(.ref r264)])) rfl (by rw [hml]; rfl) (Steps.refl _) (argsL := []) (rest := []) (lenOf pd93421996 rfl) rfl (by show 2 * 0 + _ ≤ _; exact Nat.le_of_eq rfl) (hb hby at_61) (fun _ _ => ⟨rfl, rfl, (by decide : 4 + 0 ≤ _), (by decide : 8 + 0 ≤ _)⟩)
        dsimp only [Pt.U, Pt.locs, Pt.cells, Pt.slots] at X308 l308 y308 z308 st308 hQ308
        subst l308 y308 z308
        obtain ⟨rfl, N308q, K308, E308_0, F308_0, F308_1⟩ := hQ308
        have E309 := E265.keep K308
        have F310 := F266.keep K308 (ninS ne_b77_r264 nin0)
        have F311 := F267.keep K308 (ninS ne_b77_r264 nin0)
        have E312 := E268.keep K308
        have F313 := F269.keep K308 (ninS ne_r249_r264 nin0)
        have F314 := F270.keep K308 (ninS ne_r249_r264 nin0)
        have E315 := E271.keep K308
        have F316 := F272.keep K308 (ninS ne_r255_r264 nin0)
        have F317 := F273.keep K308 (ninS ne_r255_r264 nin0)
        have Z318 : n0 ≤ T308.heap.size := Nat.le_trans Z274 K308.1
        have N319 := Fr.app N275 N308q
        have pre320 : ∀ t, Steps p.tables e below (T308.setTop (mkF m 64 #[.val (.int p0), .val (.int p1), .val (.ref r264), .val (.int (3 : Int32)), .val (.int v1), .unset] [])) t → Steps p.tables e below (s₁.setTop (entryFrame m #[(.int p0), (.int p1)] maxLocals)) t := fun t kt => by
          refine pre279 _ ?_
          show Steps p.tables e below (T264.setTop (mkF m 57 #[.val (.int p0), .val (.int p1), .val (.ref r264), .val (.int (3 : Int32)), .val (.int v1), .unset] [(.int v1)])) _
          refine XS.ifNo X264.here hx rfl (hb hby at_57) rfl ((if0 _ _).trans (feq hc306).1) ?_
          show Steps p.tables e below (T264.setTop (mkF m 60 #[.val (.int p0), .val (.int p1), .val (.ref r264), .val (.int (3 : Int32)), .val (.int v1), .unset] [])) _
          refine XS.aloadN X264.here hx rfl (hb hby at_60) rfl rfl ?_
          show Steps p.tables e below (T264.setTop (mkF m 61 #[.val (.int p0), .val (.int p1), .val (.ref r264), .val (.int (3 : Int32)), .val (.int v1), .unset] [(.ref r264)])) _
          refine st308.trans ?_
          show Steps p.tables e below (T308.setTop (mkF m 64 #[.val (.int p0), .val (.int p1), .val (.ref r264), .val (.int (3 : Int32)), .val (.int v1), .unset] [])) _
          exact kt
        rw [if_neg hc306] at hv2
        subst hv2
        exact ⟨_, _, X308, N319, Z318, E309, F310, F311, E312, F313, F314, E315, F316, F317, E308_0, F308_0, F308_1, pre320⟩
    obtain ⟨cq321, kq321, q321a, q321b, q321c⟩ := isOf hZ rfl E303
    obtain ⟨_, _, ⟨T321, L321, k321, n321⟩, -, X321, ⟨Lc321, hQ321, l321, y321, z321⟩, st321⟩ := X293.virtualBack hx (y := (⟨"tierlock/Epoch", "successor", "()Ltierlock/Epoch;"⟩ : MethodName)) (z := (⟨"tierlock/Epoch", "successor", "()Ltierlock/Epoch;"⟩ : MethodName)) hown (mvT hZ (hw _ (List.mem_of_getElem? (i := 21) rfl))) (mvT hZ (hw _ (List.mem_of_getElem? (i := 22) rfl))) (notFace_of_selects (args := #[]) (mvT hZ (hw _ (List.mem_of_getElem? (i := 24) rfl)))) (mvT hZ (hw _ (List.mem_of_getElem? (i := 24) rfl))) (mvT hZ (hw _ (List.mem_of_getElem? (i := 23) rfl))) (by decide) (backOf (W := 0) (rm5 l Z aq hw [] r264 ((((0 : Int32) + (1 : Int32)) + (1 : Int32)) + (1 : Int32)) v2 T293.heap n0 Z293 E303 F304 F305) hZ (hw _ (List.mem_of_getElem? (i := 25) rfl)) (hw _ (List.mem_of_getElem? (i := 2) rfl)) (by decide) (by decide)) q321a q321c (g := (mkF m 65 #[.val (.int p0), .val (.int p1), .val (.ref r264), .val (.int (3 : Int32)), .val (.int v1), .unset] [(.ref r264)])) rfl (by rw [hml]; rfl) (Steps.refl _) (argsL := []) (rest := []) (lenOf pd35347256 rfl) rfl (by show 2 * 0 + _ ≤ _; exact Nat.le_of_eq rfl) (hb hby at_65) (fun _ _ => ⟨rfl, rfl, (by decide : 4 + 1 ≤ _), (by decide : 8 + 2 ≤ _)⟩)
    dsimp only [Pt.U, Pt.locs, Pt.cells, Pt.slots] at X321 l321 y321 z321 st321 hQ321
    subst l321 y321 z321
    obtain ⟨r321, rfl, N321q, K321, s321, E321_0, F321_0, F321_1⟩ := hQ321
    have g_r321 : n0 ≤ r321 := Nat.le_trans Z293 s321
    have ne_b77_r321 : b77 ≠ r321 := Nat.ne_of_lt (Nat.lt_of_lt_of_le E294.lt s321)
    have E322 := E294.keep K321
    have F323 := F295.keep K321 nin0
    have F324 := F296.keep K321 nin0
    have ne_r249_r321 : r249 ≠ r321 := Nat.ne_of_lt (Nat.lt_of_lt_of_le E297.lt s321)
    have E325 := E297.keep K321
    have F326 := F298.keep K321 nin0
    have F327 := F299.keep K321 nin0
    have ne_r255_r321 : r255 ≠ r321 := Nat.ne_of_lt (Nat.lt_of_lt_of_le E300.lt s321)
    have E328 := E300.keep K321
    have F329 := F301.keep K321 nin0
    have F330 := F302.keep K321 nin0
    have ne_r264_r321 : r264 ≠ r321 := Nat.ne_of_lt (Nat.lt_of_lt_of_le E303.lt s321)
    have E331 := E303.keep K321
    have F332 := F304.keep K321 nin0
    have F333 := F305.keep K321 nin0
    have Z334 : n0 ≤ T321.heap.size := Nat.le_trans Z293 K321.1
    have N335 := Fr.app N293 N321q
    obtain ⟨cq336, kq336, q336a, q336b, q336c⟩ := isOf hZ rfl E321_0
    obtain ⟨_, _, ⟨T336, L336, k336, n336⟩, -, X336, ⟨Lc336, hQ336, l336, y336, z336⟩, st336⟩ := X321.virtualBack hx (y := (⟨"tierlock/Epoch", "number", "()I"⟩ : MethodName)) (z := (⟨"tierlock/Epoch", "number", "()I"⟩ : MethodName)) hown (mvT hZ (hw _ (List.mem_of_getElem? (i := 27) rfl))) (mvT hZ (hw _ (List.mem_of_getElem? (i := 28) rfl))) (notFace_of_selects (args := #[]) (mvT hZ (hw _ (List.mem_of_getElem? (i := 30) rfl)))) (mvT hZ (hw _ (List.mem_of_getElem? (i := 30) rfl))) (mvT hZ (hw _ (List.mem_of_getElem? (i := 29) rfl))) (by decide) (backOf (W := 0) (rm6 l Z aq hw [] r321 (((((0 : Int32) + (1 : Int32)) + (1 : Int32)) + (1 : Int32)) + (1 : Int32)) (0 : Int32) T321.heap n0 Z334 E321_0 F321_0 F321_1) hZ (hw _ (List.mem_of_getElem? (i := 31) rfl)) (hw _ (List.mem_of_getElem? (i := 2) rfl)) (by decide) (by decide)) q336a q336c (g := (mkF m 85 #[.val (.int p0), .val (.int p1), .val (.ref r264), .val (.int (3 : Int32)), .val (.int v1), .val (.ref r321)] [(.ref r321)])) rfl (by rw [hml]; rfl) (Steps.refl _) (argsL := []) (rest := []) (lenOf pd93421983 rfl) rfl (by show 2 * 0 + _ ≤ _; exact Nat.le_of_eq rfl) (hb hby at_85) (fun _ _ => ⟨rfl, rfl, (by decide : 5 + 0 ≤ _), (by decide : 10 + 0 ≤ _)⟩)
    dsimp only [Pt.U, Pt.locs, Pt.cells, Pt.slots] at X336 l336 y336 z336 st336 hQ336
    subst l336 y336 z336
    obtain ⟨rfl, N336q, e336⟩ := hQ336
    have N337 := Fr.app N335 N336q
    obtain ⟨cq338, kq338, q338a, q338b, q338c⟩ := isOf hZ e336 E331
    obtain ⟨_, _, ⟨T338, L338, k338, n338⟩, -, X338, ⟨Lc338, hQ338, l338, y338, z338⟩, st338⟩ := X336.virtualBack hx (y := (⟨"tierlock/Epoch", "number", "()I"⟩ : MethodName)) (z := (⟨"tierlock/Epoch", "number", "()I"⟩ : MethodName)) hown (mvT hZ (hw _ (List.mem_of_getElem? (i := 27) rfl))) (mvT hZ (hw _ (List.mem_of_getElem? (i := 28) rfl))) (notFace_of_selects (args := #[]) (mvT hZ (hw _ (List.mem_of_getElem? (i := 30) rfl)))) (mvT hZ (hw _ (List.mem_of_getElem? (i := 30) rfl))) (mvT hZ (hw _ (List.mem_of_getElem? (i := 29) rfl))) (by decide) (backOf (W := 0) (rm6 l Z aq hw [] r264 ((((0 : Int32) + (1 : Int32)) + (1 : Int32)) + (1 : Int32)) v2 T321.heap n0 Z334 E331 F332 F333) hZ (hw _ (List.mem_of_getElem? (i := 31) rfl)) (hw _ (List.mem_of_getElem? (i := 2) rfl)) (by decide) (by decide)) q338a q338c (g := (mkF m 95 #[.val (.int p0), .val (.int p1), .val (.ref r264), .val (.int (3 : Int32)), .val (.int v1), .val (.ref r321)] [(.ref r264)])) rfl (by rw [hml]; rfl) (Steps.refl _) (argsL := []) (rest := []) (lenOf pd93421983 rfl) rfl (by show 2 * 0 + _ ≤ _; exact Nat.le_of_eq rfl) (hb hby at_95) (fun _ _ => ⟨rfl, e336, (by decide : 5 + 0 ≤ _), (by decide : 10 + 0 ≤ _)⟩)
    dsimp only [Pt.U, Pt.locs, Pt.cells, Pt.slots] at X338 l338 y338 z338 st338 hQ338
    subst l338 y338 z338
    obtain ⟨rfl, N338q, e338⟩ := hQ338
    have N339 := Fr.app N337 N338q
    obtain ⟨cq340, kq340, q340a, q340b, q340c⟩ := isOf hZ e338 E321_0
    obtain ⟨_, _, ⟨T340, L340, k340, n340⟩, -, X340, ⟨Lc340, hQ340, l340, y340, z340⟩, st340⟩ := X338.virtualBack hx (y := (⟨"tierlock/Epoch", "isPast", "()Z"⟩ : MethodName)) (z := (⟨"tierlock/Epoch", "isPast", "()Z"⟩ : MethodName)) hown (mvT hZ (hw _ (List.mem_of_getElem? (i := 32) rfl))) (mvT hZ (hw _ (List.mem_of_getElem? (i := 33) rfl))) (notFace_of_selects (args := #[]) (mvT hZ (hw _ (List.mem_of_getElem? (i := 35) rfl)))) (mvT hZ (hw _ (List.mem_of_getElem? (i := 35) rfl))) (mvT hZ (hw _ (List.mem_of_getElem? (i := 34) rfl))) (by decide) (backOf (W := 0) (rm7 l Z aq hw [] r321 (((((0 : Int32) + (1 : Int32)) + (1 : Int32)) + (1 : Int32)) + (1 : Int32)) (0 : Int32) T321.heap n0 Z334 E321_0 F321_0 F321_1) hZ (hw _ (List.mem_of_getElem? (i := 36) rfl)) (hw _ (List.mem_of_getElem? (i := 2) rfl)) (by decide) (by decide)) q340a q340c (g := (mkF m 104 #[.val (.int p0), .val (.int p1), .val (.ref r264), .val (.int (3 : Int32)), .val (.int v1), .val (.ref r321)] [(.ref r321)])) rfl (by rw [hml]; rfl) (Steps.refl _) (argsL := []) (rest := []) (lenOf pd93422000 rfl) rfl (by show 2 * 0 + _ ≤ _; exact Nat.le_of_eq rfl) (hb hby at_104) (fun _ _ => ⟨rfl, e338, (by decide : 5 + 0 ≤ _), (by decide : 10 + 0 ≤ _)⟩)
    dsimp only [Pt.U, Pt.locs, Pt.cells, Pt.slots] at X340 l340 y340 z340 st340 hQ340
    subst l340 y340 z340
    obtain ⟨rfl, N340q, e340⟩ := hQ340
    have N341 := Fr.app N339 N340q
    obtain ⟨cq342, kq342, q342a, q342b, q342c⟩ := isOf hZ e340 E331
    obtain ⟨_, _, ⟨T342, L342, k342, n342⟩, -, X342, ⟨Lc342, hQ342, l342, y342, z342⟩, st342⟩ := X340.virtualBack hx (y := (⟨"tierlock/Epoch", "isPast", "()Z"⟩ : MethodName)) (z := (⟨"tierlock/Epoch", "isPast", "()Z"⟩ : MethodName)) hown (mvT hZ (hw _ (List.mem_of_getElem? (i := 32) rfl))) (mvT hZ (hw _ (List.mem_of_getElem? (i := 33) rfl))) (notFace_of_selects (args := #[]) (mvT hZ (hw _ (List.mem_of_getElem? (i := 35) rfl)))) (mvT hZ (hw _ (List.mem_of_getElem? (i := 35) rfl))) (mvT hZ (hw _ (List.mem_of_getElem? (i := 34) rfl))) (by decide) (backOf (W := 0) (rm7 l Z aq hw [] r264 ((((0 : Int32) + (1 : Int32)) + (1 : Int32)) + (1 : Int32)) v2 T321.heap n0 Z334 E331 F332 F333) hZ (hw _ (List.mem_of_getElem? (i := 36) rfl)) (hw _ (List.mem_of_getElem? (i := 2) rfl)) (by decide) (by decide)) q342a q342c (g := (mkF m 111 #[.val (.int p0), .val (.int p1), .val (.ref r264), .val (.int (3 : Int32)), .val (.int v1), .val (.ref r321)] [(.ref r264)])) rfl (by rw [hml]; rfl) (Steps.refl _) (argsL := []) (rest := []) (lenOf pd93422000 rfl) rfl (by show 2 * 0 + _ ≤ _; exact Nat.le_of_eq rfl) (hb hby at_111) (fun _ _ => ⟨rfl, e340, (by decide : 5 + 0 ≤ _), (by decide : 10 + 0 ≤ _)⟩)
    dsimp only [Pt.U, Pt.locs, Pt.cells, Pt.slots] at X342 l342 y342 z342 st342 hQ342
    subst l342 y342 z342
    obtain ⟨rfl, N342q, e342⟩ := hQ342
    have N343 := Fr.app N341 N342q
    have pre344 : ∀ t, Steps p.tables e below (T342.setTop (mkF m 116 #[.val (.int p0), .val (.int p1), .val (.ref r264), .val (.int (3 : Int32)), .val (.int v1), .val (.ref r321)] [(.int v1), (.int (v2 &&& 1))])) t → Steps p.tables e below (s₁.setTop (entryFrame m #[(.int p0), (.int p1)] maxLocals)) t := fun t kt => by
      refine pre293 _ ?_
      show Steps p.tables e below (T293.setTop (mkF m 64 #[.val (.int p0), .val (.int p1), .val (.ref r264), .val (.int (3 : Int32)), .val (.int v1), .unset] [])) _
      refine XS.aloadN X293.here hx rfl (hb hby at_64) rfl rfl ?_
      show Steps p.tables e below (T293.setTop (mkF m 65 #[.val (.int p0), .val (.int p1), .val (.ref r264), .val (.int (3 : Int32)), .val (.int v1), .unset] [(.ref r264)])) _
      refine st321.trans ?_
      show Steps p.tables e below (T321.setTop (mkF m 68 #[.val (.int p0), .val (.int p1), .val (.ref r264), .val (.int (3 : Int32)), .val (.int v1), .unset] [(.ref r321)])) _
      refine XS.astore X321.here hx rfl (hb hby at_68) rfl rfl (l' := #[.val (.int p0), .val (.int p1), .val (.ref r264), .val (.int (3 : Int32)), .val (.int v1), .val (.ref r321)]) rfl ?_
      show Steps p.tables e below (T321.setTop (mkF m 70 #[.val (.int p0), .val (.int p1), .val (.ref r264), .val (.int (3 : Int32)), .val (.int v1), .val (.ref r321)] [])) _
      refine XS.aload X321.here hx rfl (hb hby at_70) rfl rfl ?_
      show Steps p.tables e below (T321.setTop (mkF m 72 #[.val (.int p0), .val (.int p1), .val (.ref r264), .val (.int (3 : Int32)), .val (.int v1), .val (.ref r321)] [(.ref r321)])) _
      refine XS.ifnullNo X321.here hx rfl (hb hby at_72) rfl ?_
      show Steps p.tables e below (T321.setTop (mkF m 75 #[.val (.int p0), .val (.int p1), .val (.ref r264), .val (.int (3 : Int32)), .val (.int v1), .val (.ref r321)] [])) _
      refine XS.aload X321.here hx rfl (hb hby at_75) rfl rfl ?_
      show Steps p.tables e below (T321.setTop (mkF m 77 #[.val (.int p0), .val (.int p1), .val (.ref r264), .val (.int (3 : Int32)), .val (.int v1), .val (.ref r321)] [(.ref r321)])) _
      refine XS.aloadN X321.here hx rfl (hb hby at_77) rfl rfl ?_
      show Steps p.tables e below (T321.setTop (mkF m 78 #[.val (.int p0), .val (.int p1), .val (.ref r264), .val (.int (3 : Int32)), .val (.int v1), .val (.ref r321)] [(.ref r264), (.ref r321)])) _
      refine Jvm.RoadKit.acmp (g := (mkF m 78 #[.val (.int p0), .val (.int p1), .val (.ref r264), .val (.int (3 : Int32)), .val (.int v1), .val (.ref r321)] [(.ref r264), (.ref r321)])) X321 hx rfl rfl rfl (pc0 := 78) (pc' := 83) (same := false) rfl (hb hby at_78) rfl (decide_eq_false fun q => (Ne.symm ne_r264_r321) (Value.ref.inj q)) (by decide) (by decide) ?_
      show Steps p.tables e below (T321.setTop (mkF m 83 #[.val (.int p0), .val (.int p1), .val (.ref r264), .val (.int (3 : Int32)), .val (.int v1), .val (.ref r321)] [])) _
      refine XS.aload X321.here hx rfl (hb hby at_83) rfl rfl ?_
      show Steps p.tables e below (T321.setTop (mkF m 85 #[.val (.int p0), .val (.int p1), .val (.ref r264), .val (.int (3 : Int32)), .val (.int v1), .val (.ref r321)] [(.ref r321)])) _
      refine st336.trans ?_
      show Steps p.tables e below (T336.setTop (mkF m 88 #[.val (.int p0), .val (.int p1), .val (.ref r264), .val (.int (3 : Int32)), .val (.int v1), .val (.ref r321)] [(.int (((((0 : Int32) + (1 : Int32)) + (1 : Int32)) + (1 : Int32)) + (1 : Int32)))])) _
      refine XS.iloadN X336.here hx rfl (hb hby at_88) rfl ?_
      show Steps p.tables e below (T336.setTop (mkF m 89 #[.val (.int p0), .val (.int p1), .val (.ref r264), .val (.int (3 : Int32)), .val (.int v1), .val (.ref r321)] [(.int (3 : Int32)), (.int (((((0 : Int32) + (1 : Int32)) + (1 : Int32)) + (1 : Int32)) + (1 : Int32)))])) _
      refine XS.iconst X336.here hx rfl (hb hby at_89) ?_
      show Steps p.tables e below (T336.setTop (mkF m 90 #[.val (.int p0), .val (.int p1), .val (.ref r264), .val (.int (3 : Int32)), .val (.int v1), .val (.ref r321)] [(.int (1 : Int32)), (.int (3 : Int32)), (.int (((((0 : Int32) + (1 : Int32)) + (1 : Int32)) + (1 : Int32)) + (1 : Int32)))])) _
      refine XS.iadd X336.here hx rfl (hb hby at_90) rfl ?_
      show Steps p.tables e below (T336.setTop (mkF m 91 #[.val (.int p0), .val (.int p1), .val (.ref r264), .val (.int (3 : Int32)), .val (.int v1), .val (.ref r321)] [(.int ((3 : Int32) + (1 : Int32))), (.int (((((0 : Int32) + (1 : Int32)) + (1 : Int32)) + (1 : Int32)) + (1 : Int32)))])) _
      refine XS.icmpNo X336.here hx rfl (hb hby at_91) rfl (teq (by decide : (((((0 : Int32) + (1 : Int32)) + (1 : Int32)) + (1 : Int32)) + (1 : Int32)) = ((3 : Int32) + (1 : Int32)))).2 ?_
      show Steps p.tables e below (T336.setTop (mkF m 94 #[.val (.int p0), .val (.int p1), .val (.ref r264), .val (.int (3 : Int32)), .val (.int v1), .val (.ref r321)] [])) _
      refine XS.aloadN X336.here hx rfl (hb hby at_94) rfl rfl ?_
      show Steps p.tables e below (T336.setTop (mkF m 95 #[.val (.int p0), .val (.int p1), .val (.ref r264), .val (.int (3 : Int32)), .val (.int v1), .val (.ref r321)] [(.ref r264)])) _
      refine st338.trans ?_
      show Steps p.tables e below (T338.setTop (mkF m 98 #[.val (.int p0), .val (.int p1), .val (.ref r264), .val (.int (3 : Int32)), .val (.int v1), .val (.ref r321)] [(.int ((((0 : Int32) + (1 : Int32)) + (1 : Int32)) + (1 : Int32)))])) _
      refine XS.iloadN X338.here hx rfl (hb hby at_98) rfl ?_
      show Steps p.tables e below (T338.setTop (mkF m 99 #[.val (.int p0), .val (.int p1), .val (.ref r264), .val (.int (3 : Int32)), .val (.int v1), .val (.ref r321)] [(.int (3 : Int32)), (.int ((((0 : Int32) + (1 : Int32)) + (1 : Int32)) + (1 : Int32)))])) _
      refine XS.icmpNo X338.here hx rfl (hb hby at_99) rfl (teq (by decide : ((((0 : Int32) + (1 : Int32)) + (1 : Int32)) + (1 : Int32)) = (3 : Int32))).2 ?_
      show Steps p.tables e below (T338.setTop (mkF m 102 #[.val (.int p0), .val (.int p1), .val (.ref r264), .val (.int (3 : Int32)), .val (.int v1), .val (.ref r321)] [])) _
      refine XS.aload X338.here hx rfl (hb hby at_102) rfl rfl ?_
      show Steps p.tables e below (T338.setTop (mkF m 104 #[.val (.int p0), .val (.int p1), .val (.ref r264), .val (.int (3 : Int32)), .val (.int v1), .val (.ref r321)] [(.ref r321)])) _
      refine st340.trans ?_
      show Steps p.tables e below (T340.setTop (mkF m 107 #[.val (.int p0), .val (.int p1), .val (.ref r264), .val (.int (3 : Int32)), .val (.int v1), .val (.ref r321)] [(.int ((0 : Int32) &&& 1))])) _
      refine XS.ifNo X340.here hx rfl (hb hby at_107) rfl ((if0 _ _).trans (teq (by decide : ((0 : Int32) &&& 1) = (0 : Int32))).2) ?_
      show Steps p.tables e below (T340.setTop (mkF m 110 #[.val (.int p0), .val (.int p1), .val (.ref r264), .val (.int (3 : Int32)), .val (.int v1), .val (.ref r321)] [])) _
      refine XS.aloadN X340.here hx rfl (hb hby at_110) rfl rfl ?_
      show Steps p.tables e below (T340.setTop (mkF m 111 #[.val (.int p0), .val (.int p1), .val (.ref r264), .val (.int (3 : Int32)), .val (.int v1), .val (.ref r321)] [(.ref r264)])) _
      refine st342.trans ?_
      show Steps p.tables e below (T342.setTop (mkF m 114 #[.val (.int p0), .val (.int p1), .val (.ref r264), .val (.int (3 : Int32)), .val (.int v1), .val (.ref r321)] [(.int (v2 &&& 1))])) _
      refine XS.iload X342.here hx rfl (hb hby at_114) rfl ?_
      show Steps p.tables e below (T342.setTop (mkF m 116 #[.val (.int p0), .val (.int p1), .val (.ref r264), .val (.int (3 : Int32)), .val (.int v1), .val (.ref r321)] [(.int v1), (.int (v2 &&& 1))])) _
      exact kt
    obtain ⟨v3, hv3⟩ : ∃ z : Int32, z = (if (v2 &&& 1) = v1 then (1 : Int32) else (0 : Int32)) := ⟨_, rfl⟩
    have pre346 : ∀ t, Steps p.tables e below (T342.setTop (mkF m 124 #[.val (.int p0), .val (.int p1), .val (.ref r264), .val (.int (3 : Int32)), .val (.int v1), .val (.ref r321)] [(.int v3)])) t → Steps p.tables e below (s₁.setTop (entryFrame m #[(.int p0), (.int p1)] maxLocals)) t := fun t kt => by
      refine pre344 _ ?_
      show Steps p.tables e below (T342.setTop (mkF m 116 #[.val (.int p0), .val (.int p1), .val (.ref r264), .val (.int (3 : Int32)), .val (.int v1), .val (.ref r321)] [(.int v1), (.int (v2 &&& 1))])) _
      by_cases hc345 : (v2 &&& 1) = v1
      · rw [if_pos hc345] at hv3
        refine XS.icmpNo X342.here hx rfl (hb hby at_116) rfl (teq hc345).2 ?_
        show Steps p.tables e below (T342.setTop (mkF m 119 #[.val (.int p0), .val (.int p1), .val (.ref r264), .val (.int (3 : Int32)), .val (.int v1), .val (.ref r321)] [])) _
        refine XS.iconst X342.here hx rfl (hb hby at_119) ?_
        show Steps p.tables e below (T342.setTop (mkF m 120 #[.val (.int p0), .val (.int p1), .val (.ref r264), .val (.int (3 : Int32)), .val (.int v1), .val (.ref r321)] [(.int (1 : Int32))])) _
        refine XS.goto X342.here hx rfl (pc0 := 120) (pc' := 124) rfl (hb hby at_120) (by decide) (by decide) ?_
        subst hv3
        exact kt
      · rw [if_neg hc345] at hv3
        refine XS.icmpYes X342.here hx rfl (pc0 := 116) (pc' := 123) rfl (hb hby at_116) rfl (feq hc345).2 (by decide) (by decide) ?_
        show Steps p.tables e below (T342.setTop (mkF m 123 #[.val (.int p0), .val (.int p1), .val (.ref r264), .val (.int (3 : Int32)), .val (.int v1), .val (.ref r321)] [])) _
        refine XS.iconst X342.here hx rfl (hb hby at_123) ?_
        subst hv3
        exact kt
    have hfin : v3 = 1 := (own_plain3 p0 p1 v1 hv1 v2 hv2 v3 hv3)
    obtain ⟨fs, hr, hrun, hended, hW, hsame⟩ := X342.leave (v := some (.int (v3 &&& 1))) (fun h => by rw [Bd.returns] at h; cases h)
    refine ⟨_, _, pre346 _ ?_, hrun, hended, _, _, rfl, ?_, ⟨_, rfl⟩, hW, hsame.mono (by decide) (by decide)⟩
    · exact retN X342 hx (t := .boolean) Bd.returns (by simp) (hb hby at_124) hr
    · exact ⟨by rw [hfin]; rfl, N343⟩
set_option maxRecDepth 65536 in
set_option maxHeartbeats 40000000 in
theorem comes_1 {Post : Tables → Env → Array Value → State → Outcome → State → Prop} (hpost : ∀ tb e args s v u, (limb_1_1.after args s (.returned v) u = true ∧ limb_1_2.after args s (.returned v) u = true ∧ True) → FrameEnd s (.returned v) u (Jvm.fieldLocs frame_1_writes args s ++ Jvm.arrayLocs frame_1_arrays args s ++ Jvm.staticLocs frame_1_statics s) 24 128 → Post tb e args s (.returned v) u) :
    ArmFor flags0 classFile x code maxLocals ret World_1 tables_1 room_1 Calls_1 rest_1 Pre_1 Post := by
  intro l hfl _ _ p e ha hc hk s m args below hf hA hF happ hP
  obtain ⟨hcalls, hrest, hpre⟩ := hP
  obtain ⟨-, -, -, hnamed, -, -, -, hat⟩ := (Spec.applies_iff hf).mp happ
  obtain ⟨hg, hn⟩ := and_e (Cond.before_iff.mp (show (Jvm.Cond.and given_1 narrow_1).before args s = true from hpre))
  obtain ⟨hcount, hg0⟩ := and_e hg
  obtain ⟨ha0, hg1⟩ := and_e hg0
  have ha1 := hg1
  obtain ⟨w0, w1, rfl⟩ : ∃ w0 w1 : Value, args = #[w0, w1] := by
    have hs : args.size = 2 := by simpa [Cond.value, given_1] using hcount
    obtain ⟨L⟩ := args
    match L, hs with
    | [w0, w1], _ => exact ⟨w0, w1, rfl⟩
  have hw := fun d (hd : d ∈ tables_1) => atoms_spec (ws := Jvm.Cond.code x code maxLocals ret :: tables_1) hat d (List.mem_cons_of_mem _ hd)
  obtain ⟨i0, ei0⟩ := is_v ha0
  obtain rfl : w0 = (.int i0) := Option.some.inj ei0
  obtain ⟨i1, ei1⟩ := is_v ha1
  obtain rfl : w1 = (.int i1) := Option.some.inj ei1
  obtain ⟨n, o, h1, h2, h3, _, L, rfl, ⟨rfl, N⟩, hq⟩ := rm0 l s _ hw tables_1 i0 i1 s.heap s.heap.size (Nat.le_refl _) p e ha hc hk s m _ below hf ((Spec.applies_iff_loose hf).mp happ).1 ⟨rfl, State.Warmed39.refl s, rfl⟩ trivial
  refine ⟨n, _, h1, h2, h3, hpost _ _ _ _ _ _ ⟨Cond.after_iff.mpr rfl, Cond.after_iff.mpr (eq_i res_at (Term.int_eval (1)) rfl), trivial⟩ ⟨hq.1, hq.2.1, (hq.2.2.sift fun y hy => Or.inr (N y hy)).mono (by decide) (by decide)⟩⟩
theorem main_1_1 : Claimed_1_1 := comes_1 fun _ _ _ _ _ _ h hF => ⟨h.1, hF⟩
theorem main_1_2 : Claimed_1_2 := comes_1 fun _ _ _ _ _ _ h hF => ⟨h.2.1, hF⟩
end Jvm.Pilot.@@N@@
namespace Jvm.Pilot.@@N@@
open Jvm Jvm.ClassFile Sem Op Lib Jvm.Free Jvm.Stand Jvm.Pilot.@@N@@.Jvm.D
/-! MADE BY PROGRAM (witnessworld.py) out of the Statement's table words and the real class files: 9 classes; the members and pool entries that the words name. The judged class is class 1, her method 1. -/
namespace start1
open Jvm.ClassFile
def u (s : String) : CpInfo := .utf8 (stringToUtf16 s)
/-- a pool by its gaps: so many unusable entries, then the entry; so many at the end -/
def gap : Nat → List CpInfo → List CpInfo
  | 0, r => r
  | n + 1, r => .unusable :: gap n r
def poolList (es : List (Nat × CpInfo)) (last : Nat) : List CpInfo := es.foldr (fun e r => gap e.1 (e.2 :: r)) (gap last [])
def pool (es : List (Nat × CpInfo)) (last : Nat) : Array CpInfo := ⟨poolList es last⟩
def fileOf (pool : Array CpInfo) (this : Nat) (attrs : Array Attribute := #[]) (ms : Array MethodInfo := #[]) (fl : Nat := 33) (sup : Nat := 0) (ifs : Array Nat := #[]) (fds : Array FieldInfo := #[]) : ClassFile where
  minorVersion := 0
  majorVersion := 65
  constantPool := pool
  accessFlags := fl
  thisClass := this
  superClass := sup
  interfaces := ifs
  fields := fds
  methods := ms
  attributes := attrs
def plain (name : String) (sup : Option ClassId) : Class where
  name := name
  kind := .ordinary
  loader := none
  accessFlags := 33
  super := sup
  interfaces := #[]
  cf := none
  fields := #[]
  methods := #[]
  instanceTypes := #[]
  staticTypes := #[]
  resolved := #[]
  callSites := []
  init := .initialized
  statics := none
  mirror := none

def pool0 : Array CpInfo := pool [(5, u "<init>"), (0, u "()V"), (1, .class_ 10), (1, u "java/lang/Object")] 113

def k0c0 : Code := { maxStack := 0, maxLocals := 1, code := object_method_1_code, exceptionTable := #[], attributes := #[] }
def k0m0 : Method := { name := "<init>", desc := "()V", sig := { parameters := [], returnType := none }, accessFlags := 1, code := some k0c0 }
/-- java/lang/Object -/
def k0 : Class := { plain "java/lang/Object" none with
  accessFlags := 33
  interfaces := #[]
  cf := some (fileOf pool0 8 #[] #[{ accessFlags := 1, nameIndex := 5, descriptorIndex := 6, attributes := #[] }] 33 0 #[] #[])
  fields := #[]
  methods := #[k0m0]
  instanceTypes := #[]
  staticTypes := #[]
  resolved := Array.replicate 124 none
  statics := none }

def pool1 : Array CpInfo := pool [(2, .class_ 4), (0, .nameAndType 5 6), (0, u "java/lang/Object"), (0, u "<init>"), (0, u "()V"), (0, .class_ 8), (0, u "tierlock/Epoch"), (0, .methodref 7 3), (0, .methodref 7 11), (0, .nameAndType 12 13), (0, u "successor"), (0, u "()Ltierlock/Epoch;"), (0, .methodref 7 15), (0, .nameAndType 16 6), (0, u "pass"), (0, .methodref 7 18), (0, .nameAndType 19 20), (0, u "number"), (0, u "()I"), (0, .methodref 7 22), (0, .nameAndType 23 24), (0, u "isPast"), (0, u "()Z"), (0, .class_ 26), (0, u "tierlock/EpochSuccessorPinLaw"), (2, u "law"), (0, u "(II)Z")] 3

def k1m0 : Method := { name := "<init>", desc := "()V", sig := { parameters := [], returnType := none }, accessFlags := 1, code := none }
def k1c1 : Code := { maxStack := 3, maxLocals := 6, code := code, exceptionTable := #[], attributes := #[] }
def k1m1 : Method := { name := "law", desc := "(II)Z", sig := { parameters := [.int, .int], returnType := some .boolean }, accessFlags := 9, code := some k1c1 }
/-- tierlock/EpochSuccessorPinLaw -/
def k1 : Class := { plain "tierlock/EpochSuccessorPinLaw" (some 0) with
  accessFlags := 49
  interfaces := #[]
  cf := some (fileOf pool1 25 #[] #[{ accessFlags := 1, nameIndex := 5, descriptorIndex := 6, attributes := #[] }, { accessFlags := 9, nameIndex := 29, descriptorIndex := 30, attributes := #[] }] 49 2 #[] #[])
  fields := #[]
  methods := #[k1m0, k1m1]
  instanceTypes := #[]
  staticTypes := #[]
  resolved := Array.replicate 34 none
  statics := none }

def pool2 : Array CpInfo := pool [(1, .methodref 2 3), (0, .class_ 4), (0, .nameAndType 5 6), (0, u "tierlock/Epoch"), (0, u "<init>"), (0, u "(I)V"), (0, .methodref 8 9), (0, .class_ 10), (0, .nameAndType 5 11), (0, u "java/lang/Object"), (0, u "()V"), (0, .fieldref 2 13), (0, .nameAndType 14 15), (0, u "number"), (0, u "I"), (0, .fieldref 2 17), (0, .nameAndType 18 19), (0, u "past"), (0, u "Z"), (2, u "()I"), (0, u "successor"), (0, u "()Ltierlock/Epoch;"), (0, u "pass"), (0, u "isPast"), (0, u "()Z")] 2

def k2c0 : Code := { maxStack := 2, maxLocals := 1, code := prog_2_method_1_code, exceptionTable := #[], attributes := #[] }
def k2m0 : Method := { name := "<init>", desc := "()V", sig := { parameters := [], returnType := none }, accessFlags := 0, code := some k2c0 }
def k2c1 : Code := { maxStack := 2, maxLocals := 2, code := prog_2_method_2_code, exceptionTable := #[], attributes := #[] }
def k2m1 : Method := { name := "<init>", desc := "(I)V", sig := { parameters := [.int], returnType := none }, accessFlags := 2, code := some k2c1 }
def k2c2 : Code := { maxStack := 1, maxLocals := 1, code := prog_2_method_3_code, exceptionTable := #[], attributes := #[] }
def k2m2 : Method := { name := "number", desc := "()I", sig := { parameters := [], returnType := some .int }, accessFlags := 0, code := some k2c2 }
def k2c3 : Code := { maxStack := 4, maxLocals := 1, code := prog_2_method_4_code, exceptionTable := #[], attributes := #[] }
def k2m3 : Method := { name := "successor", desc := "()Ltierlock/Epoch;", sig := { parameters := [], returnType := some (.object "tierlock/Epoch") }, accessFlags := 0, code := some k2c3 }
def k2c4 : Code := { maxStack := 2, maxLocals := 1, code := prog_2_method_5_code, exceptionTable := #[], attributes := #[] }
def k2m4 : Method := { name := "pass", desc := "()V", sig := { parameters := [], returnType := none }, accessFlags := 0, code := some k2c4 }
def k2c5 : Code := { maxStack := 1, maxLocals := 1, code := prog_2_method_6_code, exceptionTable := #[], attributes := #[] }
def k2m5 : Method := { name := "isPast", desc := "()Z", sig := { parameters := [], returnType := some .boolean }, accessFlags := 0, code := some k2c5 }
/-- tierlock/Epoch -/
def k2 : Class := { plain "tierlock/Epoch" (some 0) with
  accessFlags := 48
  interfaces := #[]
  cf := some (fileOf pool2 2 #[] #[{ accessFlags := 0, nameIndex := 5, descriptorIndex := 11, attributes := #[] }, { accessFlags := 2, nameIndex := 5, descriptorIndex := 6, attributes := #[] }, { accessFlags := 0, nameIndex := 14, descriptorIndex := 22, attributes := #[] }, { accessFlags := 0, nameIndex := 23, descriptorIndex := 24, attributes := #[] }, { accessFlags := 0, nameIndex := 25, descriptorIndex := 11, attributes := #[] }, { accessFlags := 0, nameIndex := 26, descriptorIndex := 27, attributes := #[] }] 48 8 #[] #[{ accessFlags := 18, nameIndex := 14, descriptorIndex := 15, attributes := #[] }, { accessFlags := 66, nameIndex := 18, descriptorIndex := 19, attributes := #[] }])
  fields := #[{ name := "number", type := .int, accessFlags := 18, slot := 0, constantValue := 0 }, { name := "past", type := .boolean, accessFlags := 66, slot := 1, constantValue := 0 }]
  methods := #[k2m0, k2m1, k2m2, k2m3, k2m4, k2m5]
  instanceTypes := #[.int, .boolean]
  staticTypes := #[]
  resolved := Array.replicate 30 none
  statics := none }

def pool3 : Array CpInfo := pool [(1, u "java/lang/Cloneable"), (0, .class_ 1), (0, u "java/lang/Object"), (0, .class_ 3)] 3

/-- java/lang/Cloneable -/
def k3 : Class := { plain "java/lang/Cloneable" (some 0) with
  accessFlags := 1537
  interfaces := #[]
  cf := some (fileOf pool3 2 #[] #[] 1537 4 #[] #[])
  fields := #[]
  methods := #[]
  instanceTypes := #[]
  staticTypes := #[]
  resolved := Array.replicate 8 none
  statics := none }

def pool4 : Array CpInfo := pool [(1, u "java/io/Serializable"), (0, .class_ 1), (0, u "java/lang/Object"), (0, .class_ 3)] 3

/-- java/io/Serializable -/
def k4 : Class := { plain "java/io/Serializable" (some 0) with
  accessFlags := 1537
  interfaces := #[]
  cf := some (fileOf pool4 2 #[] #[] 1537 4 #[] #[])
  fields := #[]
  methods := #[]
  instanceTypes := #[]
  staticTypes := #[]
  resolved := Array.replicate 8 none
  statics := none }

/-- the primitive byte -/
def k5 : Class := { plain "byte" none with kind := .primitive 'B', accessFlags := 0x411 }
/-- [B -/
def k6 : Class := { plain "[B" (some 0) with kind := .array 5 .byte, interfaces := #[3, 4], accessFlags := 1041 }

/-- the primitive int -/
def k7 : Class := { plain "int" none with kind := .primitive 'I', accessFlags := 0x411 }
/-- [I -/
def k8 : Class := { plain "[I" (some 0) with kind := .array 7 .int, interfaces := #[3, 4], accessFlags := 1041 }

def heap : Heap := #[]
def classes : Array Class := #[k0, k1, k2, k3, k4, k5, k6, k7, k8]
def interned : List (Array UInt16 × Addr) := []
def slotsUsed : Nat := 0
def theMethod : MethodId := ⟨1, 1⟩
def args0 : Array Value := #[.int 5, .int 5]
def aboutOver (below : List Frame) : State where
  vm := { classes := classes, interned := interned.toArray }
  heap := heap
  slotsUsed := slotsUsed
  threads := #[{ frames := .invoking theMethod args0 :: below }]
def below0 : List Frame := [.native { method := ⟨0, 0⟩, args := #[] }]
def about1 : State := aboutOver below0
def p0 : Program := .bare "" "" ""
def e0 : Env := launch0.env 0 0 0
theorem w_frames : about1.frames = Frame.invoking theMethod args0 :: below0 := rfl
set_option maxRecDepth 65536 in
theorem w_args : argsFit about1.vm theMethod args0 = true := by decide +kernel
set_option maxRecDepth 65536 in
theorem w_heap : heapFits about1 = true := by decide +kernel
set_option maxRecDepth 65536 in
theorem w_runnable : about1.curStatus? = some .runnable := by decide +kernel
set_option maxRecDepth 65536 in
theorem w_alone : about1.alone = true := by decide +kernel
set_option maxRecDepth 65536 in
theorem w_named : about1.methodNamed? x = some theMethod := by decide +kernel
set_option maxRecDepth 65536 in
theorem w_hears : about1.hears theMethod below0 = true := by decide +kernel
set_option maxRecDepth 65536 in
theorem w_ripe : about1.ripe theMethod args0 below0 = true := by decide +kernel
theorem w_running : about1.status = .running := rfl
set_option maxRecDepth 65536 in
theorem w_room : about1.hasRoom e0.platform room_1 = true :=
  launch0.hasRoom_least _ room_1 (by decide +kernel) (by decide +kernel) (by decide +kernel) (by decide +kernel) (by decide +kernel) (by decide +kernel)
theorem allAtoms_all (ts : List Jvm.Cond) (a : Array Jvm.Value) (st : Jvm.State) : (allAtoms ts).before a st = ts.all (fun c => c.before a st) := by
  induction ts with
  | nil => rfl
  | cons c t ih =>
    show (Jvm.Cond.and c (allAtoms t)).before a st = _
    rw [Jvm.Cond.before_and, ih, List.all_cons]
def words1 : List Jvm.Cond := Jvm.Cond.code x code maxLocals ret :: tables_1
/-- a 'code' word, met by the world's own term for the bytes: nothing is compared byte by byte -/
theorem code_word {y : MethodName} {bytes : ByteArray} {mx : Nat} {rt : Option FieldType} {a : Array Value} {s : State} {m : MethodId} {meth : Method} {c : Code} (h1 : s.methodNamed? y = some m) (h2 : s.vm.method? m = some meth) (h3 : meth.code = some c) (h4 : c.code = bytes)
    (h5 : (c.maxLocals == mx && c.exceptionTable.isEmpty && decide (c.maxStack ≤ mostOperands) && decide (meth.sig.returnType = rt) && !meth.locks && decide (parseMethodDescriptor y.desc = some meth.sig)) = true) : (Jvm.Cond.code y bytes mx rt).before a s = true := by
  simp only [Bool.and_eq_true, beq_iff_eq, Bool.not_eq_true', decide_eq_true_eq] at h5
  obtain ⟨⟨⟨⟨⟨g1, g2⟩, g3⟩, g4⟩, g5⟩, g6⟩ := h5
  simp [Cond.before, Cond.holds, Cond.value, h1, h2, h3, h4, g1, g2, g3, g4, g5, g6]
def isCode : Jvm.Cond → Bool
  | .code _ _ _ _ => true
  | _ => false
theorem all_split {L : List Jvm.Cond} {P : Jvm.Cond → Bool} (h1 : L.all (fun c => isCode c || P c) = true) (h2 : ∀ c ∈ L.filter isCode, P c = true) : L.all P = true := by
  refine List.all_eq_true.mpr fun c hc => ?_
  have h := List.all_eq_true.mp h1 c hc
  rcases Bool.eq_false_or_eq_true (isCode c) with hi | hi
  · exact h2 c (List.mem_filter.mpr ⟨hc, hi⟩)
  · simpa [hi] using h
set_option maxRecDepth 65536 in
theorem w_c0 : (Jvm.Cond.code x code maxLocals ret).before args0 about1 = true := code_word (m := ⟨1, 1⟩) (meth := k1m1) (c := k1c1) (by decide +kernel) rfl rfl rfl (by decide +kernel)
set_option maxRecDepth 65536 in
theorem w_c1 : (Jvm.Cond.code ({ cls := "tierlock/Epoch", name := "<init>", desc := "()V" } : Jvm.MethodName) prog_2_method_1_code (1 : Nat) (Option.none : Option Jvm.ClassFile.FieldType)).before args0 about1 = true := code_word (m := ⟨2, 0⟩) (meth := k2m0) (c := k2c0) (by decide +kernel) rfl rfl rfl (by decide +kernel)
set_option maxRecDepth 65536 in
theorem w_c2 : (Jvm.Cond.code ({ cls := "tierlock/Epoch", name := "<init>", desc := "(I)V" } : Jvm.MethodName) prog_2_method_2_code (2 : Nat) (Option.none : Option Jvm.ClassFile.FieldType)).before args0 about1 = true := code_word (m := ⟨2, 1⟩) (meth := k2m1) (c := k2c1) (by decide +kernel) rfl rfl rfl (by decide +kernel)
set_option maxRecDepth 65536 in
theorem w_c3 : (Jvm.Cond.code ({ cls := "java/lang/Object", name := "<init>", desc := "()V" } : Jvm.MethodName) object_method_1_code (1 : Nat) (Option.none : Option Jvm.ClassFile.FieldType)).before args0 about1 = true := code_word (m := ⟨0, 0⟩) (meth := k0m0) (c := k0c0) (by decide +kernel) rfl rfl rfl (by decide +kernel)
set_option maxRecDepth 65536 in
theorem w_c4 : (Jvm.Cond.code ({ cls := "tierlock/Epoch", name := "pass", desc := "()V" } : Jvm.MethodName) prog_2_method_5_code (1 : Nat) (Option.none : Option Jvm.ClassFile.FieldType)).before args0 about1 = true := code_word (m := ⟨2, 4⟩) (meth := k2m4) (c := k2c4) (by decide +kernel) rfl rfl rfl (by decide +kernel)
set_option maxRecDepth 65536 in
theorem w_c5 : (Jvm.Cond.code ({ cls := "tierlock/Epoch", name := "successor", desc := "()Ltierlock/Epoch;" } : Jvm.MethodName) prog_2_method_4_code (1 : Nat) (Option.some (Jvm.ClassFile.FieldType.object "tierlock/Epoch"))).before args0 about1 = true := code_word (m := ⟨2, 3⟩) (meth := k2m3) (c := k2c3) (by decide +kernel) rfl rfl rfl (by decide +kernel)
set_option maxRecDepth 65536 in
theorem w_c6 : (Jvm.Cond.code ({ cls := "tierlock/Epoch", name := "number", desc := "()I" } : Jvm.MethodName) prog_2_method_3_code (1 : Nat) (Option.some Jvm.ClassFile.FieldType.int)).before args0 about1 = true := code_word (m := ⟨2, 2⟩) (meth := k2m2) (c := k2c2) (by decide +kernel) rfl rfl rfl (by decide +kernel)
set_option maxRecDepth 65536 in
theorem w_c7 : (Jvm.Cond.code ({ cls := "tierlock/Epoch", name := "isPast", desc := "()Z" } : Jvm.MethodName) prog_2_method_6_code (1 : Nat) (Option.some Jvm.ClassFile.FieldType.boolean)).before args0 about1 = true := code_word (m := ⟨2, 5⟩) (meth := k2m5) (c := k2c5) (by decide +kernel) rfl rfl rfl (by decide +kernel)
def codes1 : List Jvm.Cond := [Jvm.Cond.code x code maxLocals ret, Jvm.Cond.code ({ cls := "tierlock/Epoch", name := "<init>", desc := "()V" } : Jvm.MethodName) prog_2_method_1_code (1 : Nat) (Option.none : Option Jvm.ClassFile.FieldType), Jvm.Cond.code ({ cls := "tierlock/Epoch", name := "<init>", desc := "(I)V" } : Jvm.MethodName) prog_2_method_2_code (2 : Nat) (Option.none : Option Jvm.ClassFile.FieldType), Jvm.Cond.code ({ cls := "java/lang/Object", name := "<init>", desc := "()V" } : Jvm.MethodName) object_method_1_code (1 : Nat) (Option.none : Option Jvm.ClassFile.FieldType), Jvm.Cond.code ({ cls := "tierlock/Epoch", name := "pass", desc := "()V" } : Jvm.MethodName) prog_2_method_5_code (1 : Nat) (Option.none : Option Jvm.ClassFile.FieldType), Jvm.Cond.code ({ cls := "tierlock/Epoch", name := "successor", desc := "()Ltierlock/Epoch;" } : Jvm.MethodName) prog_2_method_4_code (1 : Nat) (Option.some (Jvm.ClassFile.FieldType.object "tierlock/Epoch")), Jvm.Cond.code ({ cls := "tierlock/Epoch", name := "number", desc := "()I" } : Jvm.MethodName) prog_2_method_3_code (1 : Nat) (Option.some Jvm.ClassFile.FieldType.int), Jvm.Cond.code ({ cls := "tierlock/Epoch", name := "isPast", desc := "()Z" } : Jvm.MethodName) prog_2_method_6_code (1 : Nat) (Option.some Jvm.ClassFile.FieldType.boolean)]
set_option maxRecDepth 65536 in
theorem codes_eq : words1.filter isCode = codes1 := rfl
theorem w_codes : ∀ c ∈ words1.filter isCode, c.before args0 about1 = true := by
  rw [codes_eq]
  intro c hc
  simp only [codes1, List.mem_cons, List.not_mem_nil, or_false] at hc
  rcases hc with rfl | rfl | rfl | rfl | rfl | rfl | rfl | rfl
  · exact w_c0
  · exact w_c1
  · exact w_c2
  · exact w_c3
  · exact w_c4
  · exact w_c5
  · exact w_c6
  · exact w_c7
set_option maxRecDepth 65536 in
theorem w_t1 : (words1.take 24).all (fun c => isCode c || c.before args0 about1) = true := by decide +kernel
set_option maxRecDepth 65536 in
theorem w_t2 : (words1.drop 24).all (fun c => isCode c || c.before args0 about1) = true := by decide +kernel
theorem w_tables : (allAtoms (Jvm.Cond.code x code maxLocals ret :: tables_1)).before args0 about1 = true := by
  rw [allAtoms_all]
  show words1.all (fun c => c.before args0 about1) = true
  refine all_split ?_ w_codes
  rw [← List.take_append_drop 24 words1, List.all_append, w_t1, w_t2]
  rfl
set_option maxRecDepth 65536 in
theorem w_case : (Jvm.Cond.and given_1 narrow_1).before args0 about1 = true := by decide +kernel
theorem w_applies : (headSpec (Jvm.Cond.code x code maxLocals ret :: tables_1) room_1).applies x e0.platform about1 = true :=
  (Spec.applies_iff w_frames).mpr ⟨w_running, w_runnable, w_alone, w_named, w_hears, w_ripe, w_room, w_tables⟩
theorem atStart : AtStart classFile x code maxLocals ret World_1 tables_1 room_1 Calls_1 rest_1 Pre_1 launch0 p0 e0 about1 theMethod args0 below0 :=
  ⟨lists_1, trivial, launch0.admits_env _ _ _, launch0.least_env, fairChoices_fair.cas, fairChoices_fair.clock, w_frames, w_args, w_heap, w_applies, trivial, trivial, w_case⟩
end start1
theorem witness_1 : WitnessClaimed_1 := ⟨start1.p0, start1.e0, start1.about1, start1.theMethod, start1.args0, start1.below0, start1.atStart⟩
end Jvm.Pilot.@@N@@
