import JvmDerived
import JvmDerived.Pilot.@@N@@Statement
import JvmDerived.Pilot.@@N@@Code
set_option linter.unusedVariables false
set_option linter.unusedSimpArgs false
@@BLOCK:NumsL.lean.txt@@
namespace Jvm.RoadKit
open Sem ClassFile Op Lib Jvm.Stand Jvm.Free Jvm.LawKit
section New
variable {p : Program} {l : Launch} {e : Env} {R : Room} {s : State} {m : MethodId} {args : Array Value} {below : List Frame} {meth : Method} {c : Code} {T : State} {locs : List Loc} {cells slots : Nat}
theorem retI (X : Stand p l e R s m args below meth c T locs cells slots) (hx : p.tables.exec = Jvm.exec) {pc : Nat} {Ls : Array Slot} {z : Int32} {rest : List Value} (hret : meth.sig.returnType = some .int) (hd : decode c.code pc = .ok (.ireturn, 1)) {fs : List Frame}
    (hl : ∀ (f : JFrame) (acts : List Action), f.method = m → f.locked = none → f.entered = [] → (doReturn e (T.setTop f) acts (some (.int z))).1 = T.setFrames fs) : Steps p.tables e below (T.setTop (mkF m pc Ls (.int z :: rest))) (T.setFrames fs) := by
  have hm' : T.vm.method? m = some meth := X.method'
  have hn : narrow .int (.int z) = .int z := rfl
  show Steps p.tables e below (T.setTop { method := m, pc := pc, locals := Ls, stack := _ :: rest, locked := none }) _
  jvm_step X.here [X.here.top, hx, hd, hm', hret, hn]
  first | (intro acts; rw [hl _ acts rfl rfl rfl]) | rw [hl _ _ rfl rfl rfl]
  exact Steps.refl _
end New
end Jvm.RoadKit
namespace Jvm.Pilot.@@N@@
open Jvm Jvm.ClassFile Sem Op Lib Jvm.Free Jvm.Stand Jvm.LawKit Jvm.RoadKit Bundle Jvm.Pilot.@@N@@.Jvm.D
theorem own_lwN {x y : Int64} (h : ¬ x = y) : ¬ lcmpW x y = 0 := fun q => h ((lw_eq x y).mp q)
theorem own_lwE {x y : Int64} (h : x = y) : lcmpW x y = 0 := (lw_eq x y).mpr h
theorem own_lwL {x y : Int64} (h : x < y) : lcmpW x y < 0 := (lw_lt x y).mpr h
theorem own_lwM {x y : Int64} (h : ¬ x < y) : ¬ lcmpW x y < 0 := fun q => h ((lw_lt x y).mp q)
theorem own_lwG {x y : Int64} (h : y < x) : 0 < lcmpW x y := (lw_gt x y).mpr h
theorem own_lwH {x y : Int64} (h : ¬ y < x) : ¬ 0 < lcmpW x y := fun q => h ((lw_gt x y).mp q)
theorem own_F {Z : State} {h : Heap} {a : Addr} {C n d : String} {v w : Value} (q : v = w) (F : Fld Z h a C n d v) : Fld Z h a C n d w := q ▸ F
theorem own_rI {x y : Int32} (q : x = y) : (some (Value.int x)) = some (.int y) := by rw [q]
theorem own_rJ {x y : Int64} (q : x = y) : (some (Value.long x)) = some (.long y) := by rw [q]
theorem d2_0 : decode jdk_30_method_1_code 0 = .ok (.aload_n 0, 1) := by decide +kernel
theorem d2_1 : decode jdk_30_method_1_code 1 = .ok (.invokespecial 1, 3) := by decide +kernel
theorem d2_4 : decode jdk_30_method_1_code 4 = .ok (.return_, 1) := by decide +kernel
theorem pn90011078 : plainName "java/lang/Record" = true := by first | (simp [plainName, overriddenIn]; done) | decide +kernel
theorem ef_2 (m : MethodId) (a0 : Addr) : entryFrame m #[(.ref a0)] 1 = mkF m 0 #[.val (.ref a0)] [] := by first | (simp [entryFrame, mkF, argsToLocals, Value.category]; done) | rfl
def Q2 (Z : State) (a0 : Addr) (h0 : Heap) (n0 : Nat) (v : Option Value) (h : Heap) (L : List Loc) : Prop := v = none ∧ Fr n0 L ∧ h = h0
set_option maxRecDepth 65536 in
set_option maxHeartbeats 40000000 in
theorem rm2 (l : Launch) (Z : State) (aq : Array Value) (hw : ∀ d ∈ tables_1, d.before aq Z = true) (ws : List Jvm.Cond) (a0 : Addr) (h0 : Heap) (n0 : Nat) (Z0 : n0 ≤ h0.size) :
    MetFree l (⟨"java/lang/Record", "<init>", "()V"⟩ : MethodName) (head1 (Jvm.Cond.code (⟨"java/lang/Record", "<init>", "()V"⟩ : MethodName) jdk_30_method_1_code 1 none :: ws) ({ frames := 1, cells := 0, slots := 0, locals := 12 } : Room)) (fun a U => a = #[(.ref a0)] ∧ Z.Warmed39 U.vm ∧ U.heap = h0) (fun _ _ _ _ _ => True) (fun _ U o U' => ∃ v L, o = .returned v ∧ Q2 Z a0 h0 n0 v U'.heap L ∧ FrameEnd U o U' L ({ frames := 1, cells := 0, slots := 0, locals := 12 } : Room).cells ({ frames := 1, cells := 0, slots := 0, locals := 12 } : Room).slots) := by
  refine MetFree.of_bodySF (plainFor_of_name pn90011078) hisR ?_
  intro p e s m args below meth c s₁ Bd hml0 hP hK
  obtain ⟨rfl, hZ, hh⟩ := hP
  have hx := Bd.exec
  have hby := Bd.bytes
  have hml : c.maxLocals = 1 := hml0
  have hown : s.vm.findClass "java/lang/Record" = some m.cls := findClass_of_methodNamed Bd.named
  have hnm := (name_of_methodNamed Bd.named Bd.method).1
  have X0 : Stand p l e ({ frames := 1, cells := 0, slots := 0, locals := 12 } : Room) s m #[(.ref a0)] below meth c s₁ [] 0 0 := Stand.of_body Bd
  have e0 : s₁.heap = h0 := by rw [← hh, Bd.state]; rfl
  have N0 := Fr.nil n0
  have pre0 : ∀ t, Steps p.tables e below (s₁.setTop (mkF m 0 #[.val (.ref a0)] [])) t → Steps p.tables e below (s₁.setTop (entryFrame m #[(.ref a0)] 1)) t := fun t k => castTop (ef_2 m a0) k
  obtain ⟨T2, X2, e2, st2⟩ := initO X0 hx hZ hown (hw _ (List.mem_of_getElem? (i := 11) rfl)) (hw _ (List.mem_of_getElem? (i := 12) rfl)) (hw _ (List.mem_of_getElem? (i := 13) rfl)) e0 (g := (mkF m 1 #[.val (.ref a0)] [(.ref a0)])) rfl (by rw [hml]; rfl) rfl (hb hby d2_1) (by decide) (W := 0) (by show 2 * 0 + _ ≤ _; exact Nat.le_of_eq rfl) (by decide)
  have pre3 : ∀ t, Steps p.tables e below (T2.setTop (mkF m 4 #[.val (.ref a0)] [])) t → Steps p.tables e below (s₁.setTop (entryFrame m #[(.ref a0)] 1)) t := fun t kt => by
    refine pre0 _ ?_
    show Steps p.tables e below (s₁.setTop (mkF m 0 #[.val (.ref a0)] [])) _
    refine XS.aloadN X0.here hx rfl (hb hby d2_0) rfl rfl ?_
    show Steps p.tables e below (s₁.setTop (mkF m 1 #[.val (.ref a0)] [(.ref a0)])) _
    refine st2 _ ?_
    show Steps p.tables e below (T2.setTop (mkF m 4 #[.val (.ref a0)] [])) _
    exact kt
  obtain ⟨fs, hr, hrun, hended, hW, hsame⟩ := X2.leave (v := none) (fun _ => rfl)
  refine ⟨_, _, pre3 _ ?_, hrun, hended, _, _, rfl, ?_, ⟨_, rfl⟩, hW, hsame.mono (by decide) (by decide)⟩
  · exact X2.returnOut hx Bd.returns (hb hby d2_4) hr
  · show Q2 Z a0 h0 n0 _ T2.heap _
    rw [e2]
    exact ⟨rfl, N0, rfl⟩
theorem d1_0 : decode prog_21_method_1_code 0 = .ok (.aload_n 0, 1) := by decide +kernel
theorem d1_1 : decode prog_21_method_1_code 1 = .ok (.invokespecial 1, 3) := by decide +kernel
theorem d1_4 : decode prog_21_method_1_code 4 = .ok (.aload_n 0, 1) := by decide +kernel
theorem d1_5 : decode prog_21_method_1_code 5 = .ok (.iload_n 1, 1) := by decide +kernel
theorem d1_6 : decode prog_21_method_1_code 6 = .ok (.putfield 7, 3) := by decide +kernel
theorem d1_9 : decode prog_21_method_1_code 9 = .ok (.aload_n 0, 1) := by decide +kernel
theorem d1_10 : decode prog_21_method_1_code 10 = .ok (.iload_n 2, 1) := by decide +kernel
theorem d1_11 : decode prog_21_method_1_code 11 = .ok (.putfield 13, 3) := by decide +kernel
theorem d1_14 : decode prog_21_method_1_code 14 = .ok (.aload_n 0, 1) := by decide +kernel
theorem d1_15 : decode prog_21_method_1_code 15 = .ok (.lload_n 3, 1) := by decide +kernel
theorem d1_16 : decode prog_21_method_1_code 16 = .ok (.putfield 16, 3) := by decide +kernel
theorem d1_19 : decode prog_21_method_1_code 19 = .ok (.return_, 1) := by decide +kernel
theorem pn57441766 : plainName "tierlock/Wait" = true := by first | (simp [plainName, overriddenIn]; done) | decide +kernel
theorem pd93421996 : parseMethodDescriptor "()V" = some ⟨[], none⟩ := by decide +kernel
theorem ef_1 (m : MethodId) (a0 : Addr) (p1 : Int32) (p2 : Int32) (q3 : Int64) : entryFrame m #[(.ref a0), (.int p1), (.int p2), (.long q3)] 5 = mkF m 0 #[.val (.ref a0), .val (.int p1), .val (.int p2), .val (.long q3), .second] [] := by first | (simp [entryFrame, mkF, argsToLocals, Value.category]; done) | rfl
def Q1 (Z : State) (a0 : Addr) (p1 : Int32) (p2 : Int32) (q3 : Int64) (u_interruptible : Int32) (u_timed : Int32) (u_deadline : Int64) (h0 : Heap) (n0 : Nat) (v : Option Value) (h : Heap) (L : List Loc) : Prop := v = none ∧ Fr n0 L ∧ Keep h0 h [a0] ∧ Exa Z h a0 "tierlock/Wait" ∧ Fld Z h a0 "tierlock/Wait" "interruptible" "Z" (.int (p1 &&& 1)) ∧ Fld Z h a0 "tierlock/Wait" "timed" "Z" (.int (p2 &&& 1)) ∧ Fld Z h a0 "tierlock/Wait" "deadline" "J" (.long q3)
set_option maxRecDepth 65536 in
set_option maxHeartbeats 40000000 in
theorem rm1 (l : Launch) (Z : State) (aq : Array Value) (hw : ∀ d ∈ tables_1, d.before aq Z = true) (ws : List Jvm.Cond) (a0 : Addr) (p1 : Int32) (p2 : Int32) (q3 : Int64) (u_interruptible : Int32) (u_timed : Int32) (u_deadline : Int64) (h0 : Heap) (n0 : Nat) (Z0 : n0 ≤ h0.size) (E_a0 : Exa Z h0 a0 "tierlock/Wait") (F_interruptible : Fld Z h0 a0 "tierlock/Wait" "interruptible" "Z" (.int u_interruptible)) (F_timed : Fld Z h0 a0 "tierlock/Wait" "timed" "Z" (.int u_timed)) (F_deadline : Fld Z h0 a0 "tierlock/Wait" "deadline" "J" (.long u_deadline)) (g_a0 : n0 ≤ a0) :
    MetFree l (⟨"tierlock/Wait", "<init>", "(ZZJ)V"⟩ : MethodName) (head1 (Jvm.Cond.code (⟨"tierlock/Wait", "<init>", "(ZZJ)V"⟩ : MethodName) prog_21_method_1_code 5 none :: ws) ({ frames := 2, cells := 0, slots := 0, locals := 24 } : Room)) (fun a U => a = #[(.ref a0), (.int p1), (.int p2), (.long q3)] ∧ Z.Warmed39 U.vm ∧ U.heap = h0) (fun _ _ _ _ _ => True) (fun _ U o U' => ∃ v L, o = .returned v ∧ Q1 Z a0 p1 p2 q3 u_interruptible u_timed u_deadline h0 n0 v U'.heap L ∧ FrameEnd U o U' L ({ frames := 2, cells := 0, slots := 0, locals := 24 } : Room).cells ({ frames := 2, cells := 0, slots := 0, locals := 24 } : Room).slots) := by
  refine MetFree.of_bodySF (plainFor_of_name pn57441766) hisR ?_
  intro p e s m args below meth c s₁ Bd hml0 hP hK
  obtain ⟨rfl, hZ, hh⟩ := hP
  have hx := Bd.exec
  have hby := Bd.bytes
  have hml : c.maxLocals = 5 := hml0
  have hown : s.vm.findClass "tierlock/Wait" = some m.cls := findClass_of_methodNamed Bd.named
  have hnm := (name_of_methodNamed Bd.named Bd.method).1
  have X0 : Stand p l e ({ frames := 2, cells := 0, slots := 0, locals := 24 } : Room) s m #[(.ref a0), (.int p1), (.int p2), (.long q3)] below meth c s₁ [] 0 0 := Stand.of_body Bd
  have e0 : s₁.heap = h0 := by rw [← hh, Bd.state]; rfl
  have N0 := Fr.nil n0
  have K0 : Keep h0 h0 [a0] := Keep.refl _ _
  have pre0 : ∀ t, Steps p.tables e below (s₁.setTop (mkF m 0 #[.val (.ref a0), .val (.int p1), .val (.int p2), .val (.long q3), .second] [])) t → Steps p.tables e below (s₁.setTop (entryFrame m #[(.ref a0), (.int p1), (.int p2), (.long q3)] 5)) t := fun t k => castTop (ef_1 m a0 p1 p2 q3) k
  obtain ⟨_, _, ⟨T30, L30, k30, n30⟩, -, X30, ⟨Lc30, hQ30, l30, y30, z30⟩, st30⟩ := X0.specialBack hx (y := (⟨"java/lang/Record", "<init>", "()V"⟩ : MethodName)) rfl hown (mvT hZ (hw _ (List.mem_of_getElem? (i := 6) rfl))) (mvT hZ (hw _ (List.mem_of_getElem? (i := 7) rfl))) (mvT hZ (hw _ (List.mem_of_getElem? (i := 10) rfl))) (by decide) (backOf (W := 0) (rm2 l Z aq hw [] a0 h0 n0 Z0 ) hZ (hw _ (List.mem_of_getElem? (i := 10) rfl)) (hw _ (List.mem_of_getElem? (i := 9) rfl)) (by decide) (by decide)) (g := (mkF m 1 #[.val (.ref a0), .val (.int p1), .val (.int p2), .val (.long q3), .second] [(.ref a0)])) rfl (by rw [hml]; rfl) (Steps.refl _) (a := a0) (argsL := []) (rest := []) (lenOf pd93421996 rfl) rfl (by show 2 * 0 + _ ≤ _; exact Nat.le_of_eq rfl) (hb hby d1_1) (fun _ _ => ⟨rfl, e0, (by decide : 0 + 0 ≤ _), (by decide : 0 + 0 ≤ _)⟩)
  dsimp only [Pt.U, Pt.locs, Pt.cells, Pt.slots] at X30 l30 y30 z30 st30 hQ30
  subst l30 y30 z30
  obtain ⟨rfl, N30q, e30⟩ := hQ30
  have N31 := Fr.app N0 N30q
  obtain ⟨T32, h32, X32, e32, W32, st32⟩ := putFN X30 hx hZ hown (hw _ (List.mem_of_getElem? (i := 14) rfl)) Via.refl e30 F_interruptible E_a0 (Or.inr ⟨(hw _ (List.mem_of_getElem? (i := 15) rfl)), rfl, hnm⟩) (hw _ (List.mem_of_getElem? (i := 1) rfl)) (ty := .boolean) (v' := (.int (p1 &&& 1))) (by decide) rfl (fits_nar_bool _) (g := (mkF m 6 #[.val (.ref a0), .val (.int p1), .val (.int p2), .val (.long q3), .second] [(.int p1), (.ref a0)])) rfl rfl (hb hby d1_6)
  have E33 := E_a0.wr W32
  have F34 : Fld Z h32 a0 "tierlock/Wait" "interruptible" "Z" (.int (p1 &&& 1)) := F_interruptible.same W32
  have F35 := F_timed.other W32 (Or.inr (slot_ne (Or.inr (hw _ (List.mem_of_getElem? (i := 17) rfl))) (Or.inr (hw _ (List.mem_of_getElem? (i := 15) rfl))) (by decide) (t := .boolean) (t' := .boolean) (by decide) (by decide)))
  have F36 := F_deadline.other W32 (Or.inr (slot_ne (Or.inr (hw _ (List.mem_of_getElem? (i := 19) rfl))) (Or.inr (hw _ (List.mem_of_getElem? (i := 15) rfl))) (by decide) (t := .long) (t' := .boolean) (by decide) (by decide)))
  have N37 := Fr.snoc X32 N31 g_a0
  have K38 : Keep h0 h32 [a0] := K0.wr W32 (Or.inl (List.mem_of_getElem? (i := 0) rfl))
  have Z39 : n0 ≤ h32.size := Nat.le_trans Z0 (Keep.of_wr W32).1
  obtain ⟨T40, h40, X40, e40, W40, st40⟩ := putFN X32 hx hZ hown (hw _ (List.mem_of_getElem? (i := 16) rfl)) Via.refl e32 F35 E33 (Or.inr ⟨(hw _ (List.mem_of_getElem? (i := 17) rfl)), rfl, hnm⟩) (hw _ (List.mem_of_getElem? (i := 1) rfl)) (ty := .boolean) (v' := (.int (p2 &&& 1))) (by decide) rfl (fits_nar_bool _) (g := (mkF m 11 #[.val (.ref a0), .val (.int p1), .val (.int p2), .val (.long q3), .second] [(.int p2), (.ref a0)])) rfl rfl (hb hby d1_11)
  have E41 := E33.wr W40
  have F42 := F34.other W40 (Or.inr (slot_ne (Or.inr (hw _ (List.mem_of_getElem? (i := 15) rfl))) (Or.inr (hw _ (List.mem_of_getElem? (i := 17) rfl))) (by decide) (t := .boolean) (t' := .boolean) (by decide) (by decide)))
  have F43 : Fld Z h40 a0 "tierlock/Wait" "timed" "Z" (.int (p2 &&& 1)) := F35.same W40
  have F44 := F36.other W40 (Or.inr (slot_ne (Or.inr (hw _ (List.mem_of_getElem? (i := 19) rfl))) (Or.inr (hw _ (List.mem_of_getElem? (i := 17) rfl))) (by decide) (t := .long) (t' := .boolean) (by decide) (by decide)))
  have N45 := Fr.snoc X40 N37 g_a0
  have K46 : Keep h0 h40 [a0] := K38.wr W40 (Or.inl (List.mem_of_getElem? (i := 0) rfl))
  have Z47 : n0 ≤ h40.size := Nat.le_trans Z39 (Keep.of_wr W40).1
  obtain ⟨T48, h48, X48, e48, W48, st48⟩ := putF X40 hx hZ hown (host := "") (Or.inl (hw _ (List.mem_of_getElem? (i := 18) rfl))) Via.refl e40 F44 E41 (Or.inr ⟨(hw _ (List.mem_of_getElem? (i := 19) rfl)), rfl, hnm⟩) (hw _ (List.mem_of_getElem? (i := 1) rfl)) (ty := .long) (by decide) rfl rfl (g := (mkF m 16 #[.val (.ref a0), .val (.int p1), .val (.int p2), .val (.long q3), .second] [(.long q3), (.ref a0)])) rfl rfl (hb hby d1_16)
  have E49 := E41.wr W48
  have F50 := F42.other W48 (Or.inr (slot_ne (Or.inr (hw _ (List.mem_of_getElem? (i := 15) rfl))) (Or.inr (hw _ (List.mem_of_getElem? (i := 19) rfl))) (by decide) (t := .boolean) (t' := .long) (by decide) (by decide)))
  have F51 := F43.other W48 (Or.inr (slot_ne (Or.inr (hw _ (List.mem_of_getElem? (i := 17) rfl))) (Or.inr (hw _ (List.mem_of_getElem? (i := 19) rfl))) (by decide) (t := .boolean) (t' := .long) (by decide) (by decide)))
  have F52 : Fld Z h48 a0 "tierlock/Wait" "deadline" "J" (.long q3) := F44.same W48
  have N53 := Fr.snoc X48 N45 g_a0
  have K54 : Keep h0 h48 [a0] := K46.wr W48 (Or.inl (List.mem_of_getElem? (i := 0) rfl))
  have Z55 : n0 ≤ h48.size := Nat.le_trans Z47 (Keep.of_wr W48).1
  have pre56 : ∀ t, Steps p.tables e below (T48.setTop (mkF m 19 #[.val (.ref a0), .val (.int p1), .val (.int p2), .val (.long q3), .second] [])) t → Steps p.tables e below (s₁.setTop (entryFrame m #[(.ref a0), (.int p1), (.int p2), (.long q3)] 5)) t := fun t kt => by
    refine pre0 _ ?_
    show Steps p.tables e below (s₁.setTop (mkF m 0 #[.val (.ref a0), .val (.int p1), .val (.int p2), .val (.long q3), .second] [])) _
    refine XS.aloadN X0.here hx rfl (hb hby d1_0) rfl rfl ?_
    show Steps p.tables e below (s₁.setTop (mkF m 1 #[.val (.ref a0), .val (.int p1), .val (.int p2), .val (.long q3), .second] [(.ref a0)])) _
    refine st30.trans ?_
    show Steps p.tables e below (T30.setTop (mkF m 4 #[.val (.ref a0), .val (.int p1), .val (.int p2), .val (.long q3), .second] [])) _
    refine XS.aloadN X30.here hx rfl (hb hby d1_4) rfl rfl ?_
    show Steps p.tables e below (T30.setTop (mkF m 5 #[.val (.ref a0), .val (.int p1), .val (.int p2), .val (.long q3), .second] [(.ref a0)])) _
    refine XS.iloadN X30.here hx rfl (hb hby d1_5) rfl ?_
    show Steps p.tables e below (T30.setTop (mkF m 6 #[.val (.ref a0), .val (.int p1), .val (.int p2), .val (.long q3), .second] [(.int p1), (.ref a0)])) _
    refine st32 _ ?_
    show Steps p.tables e below (T32.setTop (mkF m 9 #[.val (.ref a0), .val (.int p1), .val (.int p2), .val (.long q3), .second] [])) _
    refine XS.aloadN X32.here hx rfl (hb hby d1_9) rfl rfl ?_
    show Steps p.tables e below (T32.setTop (mkF m 10 #[.val (.ref a0), .val (.int p1), .val (.int p2), .val (.long q3), .second] [(.ref a0)])) _
    refine XS.iloadN X32.here hx rfl (hb hby d1_10) rfl ?_
    show Steps p.tables e below (T32.setTop (mkF m 11 #[.val (.ref a0), .val (.int p1), .val (.int p2), .val (.long q3), .second] [(.int p2), (.ref a0)])) _
    refine st40 _ ?_
    show Steps p.tables e below (T40.setTop (mkF m 14 #[.val (.ref a0), .val (.int p1), .val (.int p2), .val (.long q3), .second] [])) _
    refine XS.aloadN X40.here hx rfl (hb hby d1_14) rfl rfl ?_
    show Steps p.tables e below (T40.setTop (mkF m 15 #[.val (.ref a0), .val (.int p1), .val (.int p2), .val (.long q3), .second] [(.ref a0)])) _
    refine XS.lloadN X40.here hx rfl (hb hby d1_15) rfl ?_
    show Steps p.tables e below (T40.setTop (mkF m 16 #[.val (.ref a0), .val (.int p1), .val (.int p2), .val (.long q3), .second] [(.long q3), (.ref a0)])) _
    refine st48 _ ?_
    show Steps p.tables e below (T48.setTop (mkF m 19 #[.val (.ref a0), .val (.int p1), .val (.int p2), .val (.long q3), .second] [])) _
    exact kt
  obtain ⟨fs, hr, hrun, hended, hW, hsame⟩ := X48.leave (v := none) (fun _ => rfl)
  refine ⟨_, _, pre56 _ ?_, hrun, hended, _, _, rfl, ?_, ⟨_, rfl⟩, hW, hsame.mono (by decide) (by decide)⟩
  · exact X48.returnOut hx Bd.returns (hb hby d1_19) hr
  · show Q1 Z a0 p1 p2 q3 u_interruptible u_timed u_deadline h0 n0 _ T48.heap _
    rw [e48]
    exact ⟨rfl, N53, K54, E49, F50, F51, F52⟩
theorem d4_0 : decode prog_21_method_3_code 0 = .ok (.aload_n 0, 1) := by decide +kernel
theorem d4_1 : decode prog_21_method_3_code 1 = .ok (.getfield 7, 3) := by decide +kernel
theorem d4_4 : decode prog_21_method_3_code 4 = .ok (.ifCond .ne 10, 3) := by decide +kernel
theorem d4_7 : decode prog_21_method_3_code 7 = .ok (.aload_n 0, 1) := by decide +kernel
theorem d4_8 : decode prog_21_method_3_code 8 = .ok (.getfield 13, 3) := by decide +kernel
theorem d4_11 : decode prog_21_method_3_code 11 = .ok (.ifCond .eq 7, 3) := by decide +kernel
theorem d4_14 : decode prog_21_method_3_code 14 = .ok (.iconst 1, 1) := by decide +kernel
theorem d4_15 : decode prog_21_method_3_code 15 = .ok (.goto 4, 3) := by decide +kernel
theorem d4_18 : decode prog_21_method_3_code 18 = .ok (.iconst 0, 1) := by decide +kernel
theorem d4_19 : decode prog_21_method_3_code 19 = .ok (.ireturn, 1) := by decide +kernel
theorem ef_4 (m : MethodId) (a0 : Addr) : entryFrame m #[(.ref a0)] 1 = mkF m 0 #[.val (.ref a0)] [] := by first | (simp [entryFrame, mkF, argsToLocals, Value.category]; done) | rfl
def Q4 (Z : State) (a0 : Addr) (u_interruptible : Int32) (u_timed : Int32) (u_deadline : Int64) (h0 : Heap) (n0 : Nat) (v : Option Value) (h : Heap) (L : List Loc) : Prop := v = some (.int (if u_interruptible = (0 : Int32) then (if u_timed = (0 : Int32) then (0 : Int32) else (1 : Int32)) else (1 : Int32))) ∧ Fr n0 L ∧ h = h0
set_option maxRecDepth 65536 in
set_option maxHeartbeats 40000000 in
theorem rm4 (l : Launch) (Z : State) (aq : Array Value) (hw : ∀ d ∈ tables_1, d.before aq Z = true) (ws : List Jvm.Cond) (a0 : Addr) (u_interruptible : Int32) (u_timed : Int32) (u_deadline : Int64) (h0 : Heap) (n0 : Nat) (Z0 : n0 ≤ h0.size) (E_a0 : Exa Z h0 a0 "tierlock/Wait") (F_interruptible : Fld Z h0 a0 "tierlock/Wait" "interruptible" "Z" (.int u_interruptible)) (F_timed : Fld Z h0 a0 "tierlock/Wait" "timed" "Z" (.int u_timed)) (F_deadline : Fld Z h0 a0 "tierlock/Wait" "deadline" "J" (.long u_deadline)) :
    MetFree l (⟨"tierlock/Wait", "mayEnd", "()Z"⟩ : MethodName) (head1 (Jvm.Cond.code (⟨"tierlock/Wait", "mayEnd", "()Z"⟩ : MethodName) prog_21_method_3_code 1 (some .boolean) :: ws) ({ frames := 0, cells := 0, slots := 0, locals := 0 } : Room)) (fun a U => a = #[(.ref a0)] ∧ Z.Warmed39 U.vm ∧ U.heap = h0) (fun _ _ _ _ _ => True) (fun _ U o U' => ∃ v L, o = .returned v ∧ Q4 Z a0 u_interruptible u_timed u_deadline h0 n0 v U'.heap L ∧ FrameEnd U o U' L ({ frames := 0, cells := 0, slots := 0, locals := 0 } : Room).cells ({ frames := 0, cells := 0, slots := 0, locals := 0 } : Room).slots) := by
  refine MetFree.of_bodySF (plainFor_of_name pn57441766) hisR ?_
  intro p e s m args below meth c s₁ Bd hml0 hP hK
  obtain ⟨rfl, hZ, hh⟩ := hP
  have hx := Bd.exec
  have hby := Bd.bytes
  have hml : c.maxLocals = 1 := hml0
  have hown : s.vm.findClass "tierlock/Wait" = some m.cls := findClass_of_methodNamed Bd.named
  have hnm := (name_of_methodNamed Bd.named Bd.method).1
  have X0 : Stand p l e ({ frames := 0, cells := 0, slots := 0, locals := 0 } : Room) s m #[(.ref a0)] below meth c s₁ [] 0 0 := Stand.of_body Bd
  have e0 : s₁.heap = h0 := by rw [← hh, Bd.state]; rfl
  have N0 := Fr.nil n0
  have pre0 : ∀ t, Steps p.tables e below (s₁.setTop (mkF m 0 #[.val (.ref a0)] [])) t → Steps p.tables e below (s₁.setTop (entryFrame m #[(.ref a0)] 1)) t := fun t k => castTop (ef_4 m a0) k
  obtain ⟨T63, X63, e63, st63⟩ := getF X0 hx hZ hown (host := "") (Or.inl (hw _ (List.mem_of_getElem? (i := 14) rfl))) Via.refl e0 F_interruptible (g := (mkF m 1 #[.val (.ref a0)] [(.ref a0)])) rfl rfl (hb hby d4_1)
  have pre64 : ∀ t, Steps p.tables e below (T63.setTop (mkF m 4 #[.val (.ref a0)] [(.int u_interruptible)])) t → Steps p.tables e below (s₁.setTop (entryFrame m #[(.ref a0)] 1)) t := fun t kt => by
    refine pre0 _ ?_
    show Steps p.tables e below (s₁.setTop (mkF m 0 #[.val (.ref a0)] [])) _
    refine XS.aloadN X0.here hx rfl (hb hby d4_0) rfl rfl ?_
    show Steps p.tables e below (s₁.setTop (mkF m 1 #[.val (.ref a0)] [(.ref a0)])) _
    refine st63 _ ?_
    show Steps p.tables e below (T63.setTop (mkF m 4 #[.val (.ref a0)] [(.int u_interruptible)])) _
    exact kt
  by_cases hc65 : u_interruptible = (0 : Int32)
  · skip
    obtain ⟨T66, X66, e66, st66⟩ := getF X63 hx hZ hown (host := "") (Or.inl (hw _ (List.mem_of_getElem? (i := 16) rfl))) Via.refl e63 F_timed (g := (mkF m 8 #[.val (.ref a0)] [(.ref a0)])) rfl rfl (hb hby d4_8)
    have pre67 : ∀ t, Steps p.tables e below (T66.setTop (mkF m 11 #[.val (.ref a0)] [(.int u_timed)])) t → Steps p.tables e below (s₁.setTop (entryFrame m #[(.ref a0)] 1)) t := fun t kt => by
      refine pre64 _ ?_
      show Steps p.tables e below (T63.setTop (mkF m 4 #[.val (.ref a0)] [(.int u_interruptible)])) _
      refine XS.ifNo X63.here hx rfl (hb hby d4_4) rfl ((if0 _ _).trans (teq hc65).2) ?_
      show Steps p.tables e below (T63.setTop (mkF m 7 #[.val (.ref a0)] [])) _
      refine XS.aloadN X63.here hx rfl (hb hby d4_7) rfl rfl ?_
      show Steps p.tables e below (T63.setTop (mkF m 8 #[.val (.ref a0)] [(.ref a0)])) _
      refine st66 _ ?_
      show Steps p.tables e below (T66.setTop (mkF m 11 #[.val (.ref a0)] [(.int u_timed)])) _
      exact kt
    by_cases hc68 : u_timed = (0 : Int32)
    · skip
      have pre69 : ∀ t, Steps p.tables e below (T66.setTop (mkF m 19 #[.val (.ref a0)] [(.int (0 : Int32))])) t → Steps p.tables e below (s₁.setTop (entryFrame m #[(.ref a0)] 1)) t := fun t kt => by
        refine pre67 _ ?_
        show Steps p.tables e below (T66.setTop (mkF m 11 #[.val (.ref a0)] [(.int u_timed)])) _
        refine XS.ifYes X66.here hx rfl (pc0 := 11) (pc' := 18) rfl (hb hby d4_11) rfl ((if0 _ _).trans (teq hc68).1) (by decide) (by decide) ?_
        show Steps p.tables e below (T66.setTop (mkF m 18 #[.val (.ref a0)] [])) _
        refine XS.iconst X66.here hx rfl (hb hby d4_18) ?_
        show Steps p.tables e below (T66.setTop (mkF m 19 #[.val (.ref a0)] [(.int (0 : Int32))])) _
        exact kt
      obtain ⟨fs, hr, hrun, hended, hW, hsame⟩ := X66.leave (v := some (.int (0 : Int32))) (fun h => by rw [Bd.returns] at h; cases h)
      refine ⟨_, _, pre69 _ ?_, hrun, hended, _, _, rfl, ?_, ⟨_, rfl⟩, hW, hsame.mono (by decide) (by decide)⟩
      · exact retN X66 hx (t := .boolean) Bd.returns (by simp) (hb hby d4_19) hr
      · show Q4 Z a0 u_interruptible u_timed u_deadline h0 n0 _ T66.heap _
        rw [e66]
        exact ⟨(own_rI (by rw [if_pos hc65, if_pos hc68] : (0 : Int32) = (if u_interruptible = (0 : Int32) then (if u_timed = (0 : Int32) then (0 : Int32) else (1 : Int32)) else (1 : Int32)))), N0, rfl⟩
    · skip
      have pre70 : ∀ t, Steps p.tables e below (T66.setTop (mkF m 19 #[.val (.ref a0)] [(.int (1 : Int32))])) t → Steps p.tables e below (s₁.setTop (entryFrame m #[(.ref a0)] 1)) t := fun t kt => by
        refine pre67 _ ?_
        show Steps p.tables e below (T66.setTop (mkF m 11 #[.val (.ref a0)] [(.int u_timed)])) _
        refine XS.ifNo X66.here hx rfl (hb hby d4_11) rfl ((if0 _ _).trans (feq hc68).1) ?_
        show Steps p.tables e below (T66.setTop (mkF m 14 #[.val (.ref a0)] [])) _
        refine XS.iconst X66.here hx rfl (hb hby d4_14) ?_
        show Steps p.tables e below (T66.setTop (mkF m 15 #[.val (.ref a0)] [(.int (1 : Int32))])) _
        refine XS.goto X66.here hx rfl (pc0 := 15) (pc' := 19) rfl (hb hby d4_15) (by decide) (by decide) ?_
        show Steps p.tables e below (T66.setTop (mkF m 19 #[.val (.ref a0)] [(.int (1 : Int32))])) _
        exact kt
      obtain ⟨fs, hr, hrun, hended, hW, hsame⟩ := X66.leave (v := some (.int (1 : Int32))) (fun h => by rw [Bd.returns] at h; cases h)
      refine ⟨_, _, pre70 _ ?_, hrun, hended, _, _, rfl, ?_, ⟨_, rfl⟩, hW, hsame.mono (by decide) (by decide)⟩
      · exact retN X66 hx (t := .boolean) Bd.returns (by simp) (hb hby d4_19) hr
      · show Q4 Z a0 u_interruptible u_timed u_deadline h0 n0 _ T66.heap _
        rw [e66]
        exact ⟨(own_rI (by rw [if_pos hc65, if_neg hc68] : (1 : Int32) = (if u_interruptible = (0 : Int32) then (if u_timed = (0 : Int32) then (0 : Int32) else (1 : Int32)) else (1 : Int32)))), N0, rfl⟩
  · skip
    have pre71 : ∀ t, Steps p.tables e below (T63.setTop (mkF m 19 #[.val (.ref a0)] [(.int (1 : Int32))])) t → Steps p.tables e below (s₁.setTop (entryFrame m #[(.ref a0)] 1)) t := fun t kt => by
      refine pre64 _ ?_
      show Steps p.tables e below (T63.setTop (mkF m 4 #[.val (.ref a0)] [(.int u_interruptible)])) _
      refine XS.ifYes X63.here hx rfl (pc0 := 4) (pc' := 14) rfl (hb hby d4_4) rfl ((if0 _ _).trans (feq hc65).2) (by decide) (by decide) ?_
      show Steps p.tables e below (T63.setTop (mkF m 14 #[.val (.ref a0)] [])) _
      refine XS.iconst X63.here hx rfl (hb hby d4_14) ?_
      show Steps p.tables e below (T63.setTop (mkF m 15 #[.val (.ref a0)] [(.int (1 : Int32))])) _
      refine XS.goto X63.here hx rfl (pc0 := 15) (pc' := 19) rfl (hb hby d4_15) (by decide) (by decide) ?_
      show Steps p.tables e below (T63.setTop (mkF m 19 #[.val (.ref a0)] [(.int (1 : Int32))])) _
      exact kt
    obtain ⟨fs, hr, hrun, hended, hW, hsame⟩ := X63.leave (v := some (.int (1 : Int32))) (fun h => by rw [Bd.returns] at h; cases h)
    refine ⟨_, _, pre71 _ ?_, hrun, hended, _, _, rfl, ?_, ⟨_, rfl⟩, hW, hsame.mono (by decide) (by decide)⟩
    · exact retN X63 hx (t := .boolean) Bd.returns (by simp) (hb hby d4_19) hr
    · show Q4 Z a0 u_interruptible u_timed u_deadline h0 n0 _ T63.heap _
      rw [e63]
      exact ⟨(own_rI (by rw [if_neg hc65] : (1 : Int32) = (if u_interruptible = (0 : Int32) then (if u_timed = (0 : Int32) then (0 : Int32) else (1 : Int32)) else (1 : Int32)))), N0, rfl⟩
theorem pd7521226 : parseMethodDescriptor "(ZZJ)V" = some ⟨[.boolean, .boolean, .long], none⟩ := by decide +kernel
theorem pd93422000 : parseMethodDescriptor "()Z" = some ⟨[], some .boolean⟩ := by decide +kernel
theorem pn77563087 : plainName "tierlock/WaitMayEndPinLaw" = true := by first | (simp [plainName, overriddenIn]; done) | decide +kernel

theorem own_plain0 (p0 : Int32) (q1 : Int64) (q2 : Int64)
    (v1 : Int32) (hv1 : v1 = (if (p0 &&& (1 : Int32)) = (0 : Int32) then (0 : Int32) else (1 : Int32)))
    (v2 : Int32) (hv2 : v2 = (if (p0 &&& (2 : Int32)) = (0 : Int32) then (0 : Int32) else (1 : Int32)))
    (v3 : Int32) (hv3 : v3 = (if v1 = (0 : Int32) then (if v2 = (0 : Int32) then (0 : Int32) else (1 : Int32)) else (1 : Int32))) : (if (v1 &&& 1) = (0 : Int32) then (if (v2 &&& 1) = (0 : Int32) then (0 : Int32) else (1 : Int32)) else (1 : Int32)) = v3 := by
  subst hv3
  have b1 : v1 = 0 ∨ v1 = 1 := by rw [hv1]; split <;> simp
  have b2 : v2 = 0 ∨ v2 = 1 := by rw [hv2]; split <;> simp
  clear hv1 hv2
  rcases b1 with rfl | rfl <;> rcases b2 with rfl | rfl <;> decide
theorem ef_0 (m : MethodId) (p0 : Int32) (q1 : Int64) (q2 : Int64) : entryFrame m #[(.int p0), (.long q1), (.long q2)] maxLocals = mkF m 0 #[.val (.int p0), .val (.long q1), .second, .val (.long q2), .second, .unset, .unset, .unset, .unset, .unset, .unset] [] := by first | (simp [entryFrame, mkF, argsToLocals, Value.category, maxLocals]; done) | rfl
def Q0 (n0 : Nat) (v : Option Value) (L : List Loc) : Prop := v = some (.int (1 : Int32)) ∧ Fr n0 L
set_option maxRecDepth 65536 in
set_option maxHeartbeats 40000000 in
theorem rm0 (l : Launch) (Z : State) (aq : Array Value) (hw : ∀ d ∈ tables_1, d.before aq Z = true) (ws : List Jvm.Cond) (p0 : Int32) (q1 : Int64) (q2 : Int64) (h0 : Heap) (n0 : Nat) (Z0 : n0 ≤ h0.size) :
    MetFree l x (head1 (Jvm.Cond.code x code maxLocals ret :: ws) room_1) (fun a U => a = #[(.int p0), (.long q1), (.long q2)] ∧ Z.Warmed39 U.vm ∧ U.heap = h0) (fun _ _ _ _ _ => True) (fun _ U o U' => ∃ v L, o = .returned v ∧ Q0 n0 v L ∧ FrameEnd U o U' L room_1.cells room_1.slots) := by
  refine MetFree.of_bodySF (plainFor_of_name pn77563087) hisR ?_
  intro p e s m args below meth c s₁ Bd hml0 hP hK
  obtain ⟨rfl, hZ, hh⟩ := hP
  have hx := Bd.exec
  have hby := Bd.bytes
  have hml : c.maxLocals = 11 := hml0
  have hown : s.vm.findClass "tierlock/WaitMayEndPinLaw" = some m.cls := findClass_of_methodNamed Bd.named
  have X0 : Stand p l e room_1 s m #[(.int p0), (.long q1), (.long q2)] below meth c s₁ [] 0 0 := Stand.of_body Bd
  have e0 : s₁.heap = h0 := by rw [← hh, Bd.state]; rfl
  have N0 := Fr.nil n0
  have pre0 : ∀ t, Steps p.tables e below (s₁.setTop (mkF m 0 #[.val (.int p0), .val (.long q1), .second, .val (.long q2), .second, .unset, .unset, .unset, .unset, .unset, .unset] [])) t → Steps p.tables e below (s₁.setTop (entryFrame m #[(.int p0), (.long q1), (.long q2)] maxLocals)) t := fun t k => castTop (ef_0 m p0 q1 q2) k
  have pre72 : ∀ t, Steps p.tables e below (s₁.setTop (mkF m 3 #[.val (.int p0), .val (.long q1), .second, .val (.long q2), .second, .unset, .unset, .unset, .unset, .unset, .unset] [(.int (p0 &&& (1 : Int32)))])) t → Steps p.tables e below (s₁.setTop (entryFrame m #[(.int p0), (.long q1), (.long q2)] maxLocals)) t := fun t kt => by
    refine pre0 _ ?_
    show Steps p.tables e below (s₁.setTop (mkF m 0 #[.val (.int p0), .val (.long q1), .second, .val (.long q2), .second, .unset, .unset, .unset, .unset, .unset, .unset] [])) _
    refine XS.iloadN X0.here hx rfl (hb hby at_0) rfl ?_
    show Steps p.tables e below (s₁.setTop (mkF m 1 #[.val (.int p0), .val (.long q1), .second, .val (.long q2), .second, .unset, .unset, .unset, .unset, .unset, .unset] [(.int p0)])) _
    refine XS.iconst X0.here hx rfl (hb hby at_1) ?_
    show Steps p.tables e below (s₁.setTop (mkF m 2 #[.val (.int p0), .val (.long q1), .second, .val (.long q2), .second, .unset, .unset, .unset, .unset, .unset, .unset] [(.int (1 : Int32)), (.int p0)])) _
    refine XS.iand X0.here hx rfl (hb hby at_2) rfl ?_
    show Steps p.tables e below (s₁.setTop (mkF m 3 #[.val (.int p0), .val (.long q1), .second, .val (.long q2), .second, .unset, .unset, .unset, .unset, .unset, .unset] [(.int (p0 &&& (1 : Int32)))])) _
    exact kt
  obtain ⟨v1, hv1⟩ : ∃ z : Int32, z = (if (p0 &&& (1 : Int32)) = (0 : Int32) then (0 : Int32) else (1 : Int32)) := ⟨_, rfl⟩
  have pre74 : ∀ t, Steps p.tables e below (s₁.setTop (mkF m 11 #[.val (.int p0), .val (.long q1), .second, .val (.long q2), .second, .unset, .unset, .unset, .unset, .unset, .unset] [(.int v1)])) t → Steps p.tables e below (s₁.setTop (entryFrame m #[(.int p0), (.long q1), (.long q2)] maxLocals)) t := fun t kt => by
    refine pre72 _ ?_
    show Steps p.tables e below (s₁.setTop (mkF m 3 #[.val (.int p0), .val (.long q1), .second, .val (.long q2), .second, .unset, .unset, .unset, .unset, .unset, .unset] [(.int (p0 &&& (1 : Int32)))])) _
    by_cases hc73 : (p0 &&& (1 : Int32)) = (0 : Int32)
    · rw [if_pos hc73] at hv1
      refine XS.ifYes X0.here hx rfl (pc0 := 3) (pc' := 10) rfl (hb hby at_3) rfl ((if0 _ _).trans (teq hc73).1) (by decide) (by decide) ?_
      show Steps p.tables e below (s₁.setTop (mkF m 10 #[.val (.int p0), .val (.long q1), .second, .val (.long q2), .second, .unset, .unset, .unset, .unset, .unset, .unset] [])) _
      refine XS.iconst X0.here hx rfl (hb hby at_10) ?_
      subst hv1
      exact kt
    · rw [if_neg hc73] at hv1
      refine XS.ifNo X0.here hx rfl (hb hby at_3) rfl ((if0 _ _).trans (feq hc73).1) ?_
      show Steps p.tables e below (s₁.setTop (mkF m 6 #[.val (.int p0), .val (.long q1), .second, .val (.long q2), .second, .unset, .unset, .unset, .unset, .unset, .unset] [])) _
      refine XS.iconst X0.here hx rfl (hb hby at_6) ?_
      show Steps p.tables e below (s₁.setTop (mkF m 7 #[.val (.int p0), .val (.long q1), .second, .val (.long q2), .second, .unset, .unset, .unset, .unset, .unset, .unset] [(.int (1 : Int32))])) _
      refine XS.goto X0.here hx rfl (pc0 := 7) (pc' := 11) rfl (hb hby at_7) (by decide) (by decide) ?_
      subst hv1
      exact kt
  have pre75 : ∀ t, Steps p.tables e below (s₁.setTop (mkF m 16 #[.val (.int p0), .val (.long q1), .second, .val (.long q2), .second, .val (.int v1), .unset, .unset, .unset, .unset, .unset] [(.int (p0 &&& (2 : Int32)))])) t → Steps p.tables e below (s₁.setTop (entryFrame m #[(.int p0), (.long q1), (.long q2)] maxLocals)) t := fun t kt => by
    refine pre74 _ ?_
    show Steps p.tables e below (s₁.setTop (mkF m 11 #[.val (.int p0), .val (.long q1), .second, .val (.long q2), .second, .unset, .unset, .unset, .unset, .unset, .unset] [(.int v1)])) _
    refine XS.istore X0.here hx rfl (hb hby at_11) rfl (l' := #[.val (.int p0), .val (.long q1), .second, .val (.long q2), .second, .val (.int v1), .unset, .unset, .unset, .unset, .unset]) rfl ?_
    show Steps p.tables e below (s₁.setTop (mkF m 13 #[.val (.int p0), .val (.long q1), .second, .val (.long q2), .second, .val (.int v1), .unset, .unset, .unset, .unset, .unset] [])) _
    refine XS.iloadN X0.here hx rfl (hb hby at_13) rfl ?_
    show Steps p.tables e below (s₁.setTop (mkF m 14 #[.val (.int p0), .val (.long q1), .second, .val (.long q2), .second, .val (.int v1), .unset, .unset, .unset, .unset, .unset] [(.int p0)])) _
    refine XS.iconst X0.here hx rfl (hb hby at_14) ?_
    show Steps p.tables e below (s₁.setTop (mkF m 15 #[.val (.int p0), .val (.long q1), .second, .val (.long q2), .second, .val (.int v1), .unset, .unset, .unset, .unset, .unset] [(.int (2 : Int32)), (.int p0)])) _
    refine XS.iand X0.here hx rfl (hb hby at_15) rfl ?_
    show Steps p.tables e below (s₁.setTop (mkF m 16 #[.val (.int p0), .val (.long q1), .second, .val (.long q2), .second, .val (.int v1), .unset, .unset, .unset, .unset, .unset] [(.int (p0 &&& (2 : Int32)))])) _
    exact kt
  obtain ⟨v2, hv2⟩ : ∃ z : Int32, z = (if (p0 &&& (2 : Int32)) = (0 : Int32) then (0 : Int32) else (1 : Int32)) := ⟨_, rfl⟩
  have pre77 : ∀ t, Steps p.tables e below (s₁.setTop (mkF m 24 #[.val (.int p0), .val (.long q1), .second, .val (.long q2), .second, .val (.int v1), .unset, .unset, .unset, .unset, .unset] [(.int v2)])) t → Steps p.tables e below (s₁.setTop (entryFrame m #[(.int p0), (.long q1), (.long q2)] maxLocals)) t := fun t kt => by
    refine pre75 _ ?_
    show Steps p.tables e below (s₁.setTop (mkF m 16 #[.val (.int p0), .val (.long q1), .second, .val (.long q2), .second, .val (.int v1), .unset, .unset, .unset, .unset, .unset] [(.int (p0 &&& (2 : Int32)))])) _
    by_cases hc76 : (p0 &&& (2 : Int32)) = (0 : Int32)
    · rw [if_pos hc76] at hv2
      refine XS.ifYes X0.here hx rfl (pc0 := 16) (pc' := 23) rfl (hb hby at_16) rfl ((if0 _ _).trans (teq hc76).1) (by decide) (by decide) ?_
      show Steps p.tables e below (s₁.setTop (mkF m 23 #[.val (.int p0), .val (.long q1), .second, .val (.long q2), .second, .val (.int v1), .unset, .unset, .unset, .unset, .unset] [])) _
      refine XS.iconst X0.here hx rfl (hb hby at_23) ?_
      subst hv2
      exact kt
    · rw [if_neg hc76] at hv2
      refine XS.ifNo X0.here hx rfl (hb hby at_16) rfl ((if0 _ _).trans (feq hc76).1) ?_
      show Steps p.tables e below (s₁.setTop (mkF m 19 #[.val (.int p0), .val (.long q1), .second, .val (.long q2), .second, .val (.int v1), .unset, .unset, .unset, .unset, .unset] [])) _
      refine XS.iconst X0.here hx rfl (hb hby at_19) ?_
      show Steps p.tables e below (s₁.setTop (mkF m 20 #[.val (.int p0), .val (.long q1), .second, .val (.long q2), .second, .val (.int v1), .unset, .unset, .unset, .unset, .unset] [(.int (1 : Int32))])) _
      refine XS.goto X0.here hx rfl (pc0 := 20) (pc' := 24) rfl (hb hby at_20) (by decide) (by decide) ?_
      subst hv2
      exact kt
  obtain ⟨T78, h78, X78, e78, E78, A78, D78, -, st78⟩ := newO X0 hx hZ hown (hw _ (List.mem_of_getElem? (i := 0) rfl)) (hw _ (List.mem_of_getElem? (i := 1) rfl)) (hw _ (List.mem_of_getElem? (i := 2) rfl)) e0 (g := (mkF m 26 #[.val (.int p0), .val (.long q1), .second, .val (.long q2), .second, .val (.int v1), .val (.int v2), .unset, .unset, .unset, .unset] [])) rfl (hb hby at_26) (by decide) (by decide)
  obtain ⟨b78, g78⟩ : ∃ z, z = h0.size := ⟨_, rfl⟩
  rw [← g78] at A78 D78 st78
  have g_b78 : n0 ≤ b78 := Nat.le_trans Z0 (Nat.le_of_eq g78.symm)
  have Z79 : n0 ≤ h78.size := Nat.le_trans Z0 E78.1
  have F78_interruptible : Fld Z h78 b78 "tierlock/Wait" "interruptible" "Z" (.int (0 : Int32)) := D78 (Or.inr (hw _ (List.mem_of_getElem? (i := 15) rfl))) (ty := .boolean) (by decide)
  have F78_timed : Fld Z h78 b78 "tierlock/Wait" "timed" "Z" (.int (0 : Int32)) := D78 (Or.inr (hw _ (List.mem_of_getElem? (i := 17) rfl))) (ty := .boolean) (by decide)
  have F78_deadline : Fld Z h78 b78 "tierlock/Wait" "deadline" "J" (.long (0 : Int64)) := D78 (Or.inr (hw _ (List.mem_of_getElem? (i := 19) rfl))) (ty := .long) (by decide)
  obtain ⟨_, _, ⟨T80, L80, k80, n80⟩, -, X80, ⟨Lc80, hQ80, l80, y80, z80⟩, st80⟩ := X78.specialBack hx (y := (⟨"tierlock/Wait", "<init>", "(ZZJ)V"⟩ : MethodName)) rfl hown (mvT hZ (hw _ (List.mem_of_getElem? (i := 3) rfl))) (mvT hZ (hw _ (List.mem_of_getElem? (i := 4) rfl))) (mvT hZ (hw _ (List.mem_of_getElem? (i := 5) rfl))) (by decide) (backOf (W := 1) (rm1 l Z aq hw [] b78 v1 v2 q1 (0 : Int32) (0 : Int32) (0 : Int64) h78 n0 Z79 A78 F78_interruptible F78_timed F78_deadline g_b78) hZ (hw _ (List.mem_of_getElem? (i := 5) rfl)) (hw _ (List.mem_of_getElem? (i := 2) rfl)) (by decide) (by decide)) (g := (mkF m 35 #[.val (.int p0), .val (.long q1), .second, .val (.long q2), .second, .val (.int v1), .val (.int v2), .unset, .unset, .unset, .unset] [(.long q1), (.int v2), (.int v1), (.ref b78), (.ref b78)])) rfl (by rw [hml]; rfl) (Steps.refl _) (a := b78) (argsL := [(.int v1), (.int v2), (.long q1)]) (rest := [(.ref b78)]) (lenOf pd7521226 rfl) rfl (by show 2 * 0 + _ ≤ _; exact Nat.le_of_eq rfl) (hb hby at_35) (fun _ _ => ⟨rfl, e78, (by decide : 1 + 0 ≤ _), (by decide : 3 + 0 ≤ _)⟩)
  dsimp only [Pt.U, Pt.locs, Pt.cells, Pt.slots] at X80 l80 y80 z80 st80 hQ80
  subst l80 y80 z80
  obtain ⟨rfl, N80q, K80, E80_0, F80_0, F80_1, F80_2⟩ := hQ80
  have Z81 : n0 ≤ T80.heap.size := Nat.le_trans Z79 K80.1
  have N82 := Fr.app N0 N80q
  obtain ⟨T83, h83, X83, e83, E83, A83, D83, -, st83⟩ := newO X80 hx hZ hown (hw _ (List.mem_of_getElem? (i := 0) rfl)) (hw _ (List.mem_of_getElem? (i := 1) rfl)) (hw _ (List.mem_of_getElem? (i := 2) rfl)) rfl (g := (mkF m 40 #[.val (.int p0), .val (.long q1), .second, .val (.long q2), .second, .val (.int v1), .val (.int v2), .val (.ref b78), .unset, .unset, .unset] [])) rfl (hb hby at_40) (by decide) (by decide)
  obtain ⟨b83, g83⟩ : ∃ z, z = T80.heap.size := ⟨_, rfl⟩
  rw [← g83] at A83 D83 st83
  have ne_b78_b83 : b78 ≠ b83 := Nat.ne_of_lt (Nat.lt_of_lt_of_le E80_0.lt (Nat.le_of_eq g83.symm))
  have g_b83 : n0 ≤ b83 := Nat.le_trans Z81 (Nat.le_of_eq g83.symm)
  have E84 := E80_0.ext E83
  have F85 := F80_0.ext E83
  have F86 := F80_1.ext E83
  have F87 := F80_2.ext E83
  have Z88 : n0 ≤ h83.size := Nat.le_trans Z81 E83.1
  have F83_interruptible : Fld Z h83 b83 "tierlock/Wait" "interruptible" "Z" (.int (0 : Int32)) := D83 (Or.inr (hw _ (List.mem_of_getElem? (i := 15) rfl))) (ty := .boolean) (by decide)
  have F83_timed : Fld Z h83 b83 "tierlock/Wait" "timed" "Z" (.int (0 : Int32)) := D83 (Or.inr (hw _ (List.mem_of_getElem? (i := 17) rfl))) (ty := .boolean) (by decide)
  have F83_deadline : Fld Z h83 b83 "tierlock/Wait" "deadline" "J" (.long (0 : Int64)) := D83 (Or.inr (hw _ (List.mem_of_getElem? (i := 19) rfl))) (ty := .long) (by decide)
  obtain ⟨_, _, ⟨T89, L89, k89, n89⟩, -, X89, ⟨Lc89, hQ89, l89, y89, z89⟩, st89⟩ := X83.specialBack hx (y := (⟨"tierlock/Wait", "<init>", "(ZZJ)V"⟩ : MethodName)) rfl hown (mvT hZ (hw _ (List.mem_of_getElem? (i := 3) rfl))) (mvT hZ (hw _ (List.mem_of_getElem? (i := 4) rfl))) (mvT hZ (hw _ (List.mem_of_getElem? (i := 5) rfl))) (by decide) (backOf (W := 1) (rm1 l Z aq hw [] b83 v1 v2 q2 (0 : Int32) (0 : Int32) (0 : Int64) h83 n0 Z88 A83 F83_interruptible F83_timed F83_deadline g_b83) hZ (hw _ (List.mem_of_getElem? (i := 5) rfl)) (hw _ (List.mem_of_getElem? (i := 2) rfl)) (by decide) (by decide)) (g := (mkF m 49 #[.val (.int p0), .val (.long q1), .second, .val (.long q2), .second, .val (.int v1), .val (.int v2), .val (.ref b78), .unset, .unset, .unset] [(.long q2), (.int v2), (.int v1), (.ref b83), (.ref b83)])) rfl (by rw [hml]; rfl) (Steps.refl _) (a := b83) (argsL := [(.int v1), (.int v2), (.long q2)]) (rest := [(.ref b83)]) (lenOf pd7521226 rfl) rfl (by show 2 * 0 + _ ≤ _; exact Nat.le_of_eq rfl) (hb hby at_49) (fun _ _ => ⟨rfl, e83, (by decide : 2 + 0 ≤ _), (by decide : 6 + 0 ≤ _)⟩)
  dsimp only [Pt.U, Pt.locs, Pt.cells, Pt.slots] at X89 l89 y89 z89 st89 hQ89
  subst l89 y89 z89
  obtain ⟨rfl, N89q, K89, E89_0, F89_0, F89_1, F89_2⟩ := hQ89
  have E90 := E84.keep K89
  have F91 := F85.keep K89 (ninS ne_b78_b83 nin0)
  have F92 := F86.keep K89 (ninS ne_b78_b83 nin0)
  have F93 := F87.keep K89 (ninS ne_b78_b83 nin0)
  have Z94 : n0 ≤ T89.heap.size := Nat.le_trans Z88 K89.1
  have N95 := Fr.app N82 N89q
  have pre96 : ∀ t, Steps p.tables e below (T89.setTop (mkF m 56 #[.val (.int p0), .val (.long q1), .second, .val (.long q2), .second, .val (.int v1), .val (.int v2), .val (.ref b78), .val (.ref b83), .unset, .unset] [(.int v1)])) t → Steps p.tables e below (s₁.setTop (entryFrame m #[(.int p0), (.long q1), (.long q2)] maxLocals)) t := fun t kt => by
    refine pre77 _ ?_
    show Steps p.tables e below (s₁.setTop (mkF m 24 #[.val (.int p0), .val (.long q1), .second, .val (.long q2), .second, .val (.int v1), .unset, .unset, .unset, .unset, .unset] [(.int v2)])) _
    refine XS.istore X0.here hx rfl (hb hby at_24) rfl (l' := #[.val (.int p0), .val (.long q1), .second, .val (.long q2), .second, .val (.int v1), .val (.int v2), .unset, .unset, .unset, .unset]) rfl ?_
    show Steps p.tables e below (s₁.setTop (mkF m 26 #[.val (.int p0), .val (.long q1), .second, .val (.long q2), .second, .val (.int v1), .val (.int v2), .unset, .unset, .unset, .unset] [])) _
    refine st78 _ ?_
    show Steps p.tables e below (T78.setTop (mkF m 29 #[.val (.int p0), .val (.long q1), .second, .val (.long q2), .second, .val (.int v1), .val (.int v2), .unset, .unset, .unset, .unset] [(.ref b78)])) _
    refine XS.dup X78.here hx rfl (hb hby at_29) rfl rfl ?_
    show Steps p.tables e below (T78.setTop (mkF m 30 #[.val (.int p0), .val (.long q1), .second, .val (.long q2), .second, .val (.int v1), .val (.int v2), .unset, .unset, .unset, .unset] [(.ref b78), (.ref b78)])) _
    refine XS.iload X78.here hx rfl (hb hby at_30) rfl ?_
    show Steps p.tables e below (T78.setTop (mkF m 32 #[.val (.int p0), .val (.long q1), .second, .val (.long q2), .second, .val (.int v1), .val (.int v2), .unset, .unset, .unset, .unset] [(.int v1), (.ref b78), (.ref b78)])) _
    refine XS.iload X78.here hx rfl (hb hby at_32) rfl ?_
    show Steps p.tables e below (T78.setTop (mkF m 34 #[.val (.int p0), .val (.long q1), .second, .val (.long q2), .second, .val (.int v1), .val (.int v2), .unset, .unset, .unset, .unset] [(.int v2), (.int v1), (.ref b78), (.ref b78)])) _
    refine XS.lloadN X78.here hx rfl (hb hby at_34) rfl ?_
    show Steps p.tables e below (T78.setTop (mkF m 35 #[.val (.int p0), .val (.long q1), .second, .val (.long q2), .second, .val (.int v1), .val (.int v2), .unset, .unset, .unset, .unset] [(.long q1), (.int v2), (.int v1), (.ref b78), (.ref b78)])) _
    refine st80.trans ?_
    show Steps p.tables e below (T80.setTop (mkF m 38 #[.val (.int p0), .val (.long q1), .second, .val (.long q2), .second, .val (.int v1), .val (.int v2), .unset, .unset, .unset, .unset] [(.ref b78)])) _
    refine XS.astore X80.here hx rfl (hb hby at_38) rfl rfl (l' := #[.val (.int p0), .val (.long q1), .second, .val (.long q2), .second, .val (.int v1), .val (.int v2), .val (.ref b78), .unset, .unset, .unset]) rfl ?_
    show Steps p.tables e below (T80.setTop (mkF m 40 #[.val (.int p0), .val (.long q1), .second, .val (.long q2), .second, .val (.int v1), .val (.int v2), .val (.ref b78), .unset, .unset, .unset] [])) _
    refine st83 _ ?_
    show Steps p.tables e below (T83.setTop (mkF m 43 #[.val (.int p0), .val (.long q1), .second, .val (.long q2), .second, .val (.int v1), .val (.int v2), .val (.ref b78), .unset, .unset, .unset] [(.ref b83)])) _
    refine XS.dup X83.here hx rfl (hb hby at_43) rfl rfl ?_
    show Steps p.tables e below (T83.setTop (mkF m 44 #[.val (.int p0), .val (.long q1), .second, .val (.long q2), .second, .val (.int v1), .val (.int v2), .val (.ref b78), .unset, .unset, .unset] [(.ref b83), (.ref b83)])) _
    refine XS.iload X83.here hx rfl (hb hby at_44) rfl ?_
    show Steps p.tables e below (T83.setTop (mkF m 46 #[.val (.int p0), .val (.long q1), .second, .val (.long q2), .second, .val (.int v1), .val (.int v2), .val (.ref b78), .unset, .unset, .unset] [(.int v1), (.ref b83), (.ref b83)])) _
    refine XS.iload X83.here hx rfl (hb hby at_46) rfl ?_
    show Steps p.tables e below (T83.setTop (mkF m 48 #[.val (.int p0), .val (.long q1), .second, .val (.long q2), .second, .val (.int v1), .val (.int v2), .val (.ref b78), .unset, .unset, .unset] [(.int v2), (.int v1), (.ref b83), (.ref b83)])) _
    refine XS.lloadN X83.here hx rfl (hb hby at_48) rfl ?_
    show Steps p.tables e below (T83.setTop (mkF m 49 #[.val (.int p0), .val (.long q1), .second, .val (.long q2), .second, .val (.int v1), .val (.int v2), .val (.ref b78), .unset, .unset, .unset] [(.long q2), (.int v2), (.int v1), (.ref b83), (.ref b83)])) _
    refine st89.trans ?_
    show Steps p.tables e below (T89.setTop (mkF m 52 #[.val (.int p0), .val (.long q1), .second, .val (.long q2), .second, .val (.int v1), .val (.int v2), .val (.ref b78), .unset, .unset, .unset] [(.ref b83)])) _
    refine XS.astore X89.here hx rfl (hb hby at_52) rfl rfl (l' := #[.val (.int p0), .val (.long q1), .second, .val (.long q2), .second, .val (.int v1), .val (.int v2), .val (.ref b78), .val (.ref b83), .unset, .unset]) rfl ?_
    show Steps p.tables e below (T89.setTop (mkF m 54 #[.val (.int p0), .val (.long q1), .second, .val (.long q2), .second, .val (.int v1), .val (.int v2), .val (.ref b78), .val (.ref b83), .unset, .unset] [])) _
    refine XS.iload X89.here hx rfl (hb hby at_54) rfl ?_
    show Steps p.tables e below (T89.setTop (mkF m 56 #[.val (.int p0), .val (.long q1), .second, .val (.long q2), .second, .val (.int v1), .val (.int v2), .val (.ref b78), .val (.ref b83), .unset, .unset] [(.int v1)])) _
    exact kt
  obtain ⟨v3, hv3⟩ : ∃ z : Int32, z = (if v1 = (0 : Int32) then (if v2 = (0 : Int32) then (0 : Int32) else (1 : Int32)) else (1 : Int32)) := ⟨_, rfl⟩
  have pre99 : ∀ t, Steps p.tables e below (T89.setTop (mkF m 79 #[.val (.int p0), .val (.long q1), .second, .val (.long q2), .second, .val (.int v1), .val (.int v2), .val (.ref b78), .val (.ref b83), .val (.int v3), .unset] [])) t → Steps p.tables e below (s₁.setTop (entryFrame m #[(.int p0), (.long q1), (.long q2)] maxLocals)) t := fun t kt => by
    refine pre96 _ ?_
    show Steps p.tables e below (T89.setTop (mkF m 56 #[.val (.int p0), .val (.long q1), .second, .val (.long q2), .second, .val (.int v1), .val (.int v2), .val (.ref b78), .val (.ref b83), .unset, .unset] [(.int v1)])) _
    by_cases hc97 : v1 = (0 : Int32)
    · rw [if_pos hc97] at hv3
      refine XS.ifYes X89.here hx rfl (pc0 := 56) (pc' := 65) rfl (hb hby at_56) rfl ((if0 _ _).trans (teq hc97).1) (by decide) (by decide) ?_
      show Steps p.tables e below (T89.setTop (mkF m 65 #[.val (.int p0), .val (.long q1), .second, .val (.long q2), .second, .val (.int v1), .val (.int v2), .val (.ref b78), .val (.ref b83), .unset, .unset] [])) _
      refine XS.iload X89.here hx rfl (hb hby at_65) rfl ?_
      show Steps p.tables e below (T89.setTop (mkF m 67 #[.val (.int p0), .val (.long q1), .second, .val (.long q2), .second, .val (.int v1), .val (.int v2), .val (.ref b78), .val (.ref b83), .unset, .unset] [(.int v2)])) _
      by_cases hc98 : v2 = (0 : Int32)
      · rw [if_pos hc98] at hv3
        refine XS.ifYes X89.here hx rfl (pc0 := 67) (pc' := 76) rfl (hb hby at_67) rfl ((if0 _ _).trans (teq hc98).1) (by decide) (by decide) ?_
        show Steps p.tables e below (T89.setTop (mkF m 76 #[.val (.int p0), .val (.long q1), .second, .val (.long q2), .second, .val (.int v1), .val (.int v2), .val (.ref b78), .val (.ref b83), .unset, .unset] [])) _
        refine XS.iconst X89.here hx rfl (hb hby at_76) ?_
        show Steps p.tables e below (T89.setTop (mkF m 77 #[.val (.int p0), .val (.long q1), .second, .val (.long q2), .second, .val (.int v1), .val (.int v2), .val (.ref b78), .val (.ref b83), .unset, .unset] [(.int (0 : Int32))])) _
        refine XS.istore X89.here hx rfl (hb hby at_77) rfl (l' := #[.val (.int p0), .val (.long q1), .second, .val (.long q2), .second, .val (.int v1), .val (.int v2), .val (.ref b78), .val (.ref b83), .val (.int (0 : Int32)), .unset]) rfl ?_
        subst hv3
        exact kt
      · rw [if_neg hc98] at hv3
        refine XS.ifNo X89.here hx rfl (hb hby at_67) rfl ((if0 _ _).trans (feq hc98).1) ?_
        show Steps p.tables e below (T89.setTop (mkF m 70 #[.val (.int p0), .val (.long q1), .second, .val (.long q2), .second, .val (.int v1), .val (.int v2), .val (.ref b78), .val (.ref b83), .unset, .unset] [])) _
        refine XS.iconst X89.here hx rfl (hb hby at_70) ?_
        show Steps p.tables e below (T89.setTop (mkF m 71 #[.val (.int p0), .val (.long q1), .second, .val (.long q2), .second, .val (.int v1), .val (.int v2), .val (.ref b78), .val (.ref b83), .unset, .unset] [(.int (1 : Int32))])) _
        refine XS.istore X89.here hx rfl (hb hby at_71) rfl (l' := #[.val (.int p0), .val (.long q1), .second, .val (.long q2), .second, .val (.int v1), .val (.int v2), .val (.ref b78), .val (.ref b83), .val (.int (1 : Int32)), .unset]) rfl ?_
        show Steps p.tables e below (T89.setTop (mkF m 73 #[.val (.int p0), .val (.long q1), .second, .val (.long q2), .second, .val (.int v1), .val (.int v2), .val (.ref b78), .val (.ref b83), .val (.int (1 : Int32)), .unset] [])) _
        refine XS.goto X89.here hx rfl (pc0 := 73) (pc' := 79) rfl (hb hby at_73) (by decide) (by decide) ?_
        subst hv3
        exact kt
    · rw [if_neg hc97] at hv3
      refine XS.ifNo X89.here hx rfl (hb hby at_56) rfl ((if0 _ _).trans (feq hc97).1) ?_
      show Steps p.tables e below (T89.setTop (mkF m 59 #[.val (.int p0), .val (.long q1), .second, .val (.long q2), .second, .val (.int v1), .val (.int v2), .val (.ref b78), .val (.ref b83), .unset, .unset] [])) _
      refine XS.iconst X89.here hx rfl (hb hby at_59) ?_
      show Steps p.tables e below (T89.setTop (mkF m 60 #[.val (.int p0), .val (.long q1), .second, .val (.long q2), .second, .val (.int v1), .val (.int v2), .val (.ref b78), .val (.ref b83), .unset, .unset] [(.int (1 : Int32))])) _
      refine XS.istore X89.here hx rfl (hb hby at_60) rfl (l' := #[.val (.int p0), .val (.long q1), .second, .val (.long q2), .second, .val (.int v1), .val (.int v2), .val (.ref b78), .val (.ref b83), .val (.int (1 : Int32)), .unset]) rfl ?_
      show Steps p.tables e below (T89.setTop (mkF m 62 #[.val (.int p0), .val (.long q1), .second, .val (.long q2), .second, .val (.int v1), .val (.int v2), .val (.ref b78), .val (.ref b83), .val (.int (1 : Int32)), .unset] [])) _
      refine XS.goto X89.here hx rfl (pc0 := 62) (pc' := 79) rfl (hb hby at_62) (by decide) (by decide) ?_
      subst hv3
      exact kt
  obtain ⟨cq100, kq100, q100a, q100b, q100c⟩ := isOf hZ rfl E90
  obtain ⟨_, _, ⟨T100, L100, k100, n100⟩, -, X100, ⟨Lc100, hQ100, l100, y100, z100⟩, st100⟩ := X89.virtualBack hx (y := (⟨"tierlock/Wait", "mayEnd", "()Z"⟩ : MethodName)) (z := (⟨"tierlock/Wait", "mayEnd", "()Z"⟩ : MethodName)) hown (mvT hZ (hw _ (List.mem_of_getElem? (i := 20) rfl))) (mvT hZ (hw _ (List.mem_of_getElem? (i := 21) rfl))) (notFace_of_selects (args := #[]) (mvT hZ (hw _ (List.mem_of_getElem? (i := 23) rfl)))) (mvT hZ (hw _ (List.mem_of_getElem? (i := 23) rfl))) (mvT hZ (hw _ (List.mem_of_getElem? (i := 22) rfl))) (by decide) (backOf (W := 0) (rm4 l Z aq hw [] b78 (v1 &&& 1) (v2 &&& 1) q1 T89.heap n0 Z94 E90 F91 F92 F93) hZ (hw _ (List.mem_of_getElem? (i := 24) rfl)) (hw _ (List.mem_of_getElem? (i := 2) rfl)) (by decide) (by decide)) q100a q100c (g := (mkF m 81 #[.val (.int p0), .val (.long q1), .second, .val (.long q2), .second, .val (.int v1), .val (.int v2), .val (.ref b78), .val (.ref b83), .val (.int v3), .unset] [(.ref b78)])) rfl (by rw [hml]; rfl) (Steps.refl _) (argsL := []) (rest := []) (lenOf pd93422000 rfl) rfl (by show 2 * 0 + _ ≤ _; exact Nat.le_of_eq rfl) (hb hby at_81) (fun _ _ => ⟨rfl, rfl, (by decide : 2 + 0 ≤ _), (by decide : 6 + 0 ≤ _)⟩)
  dsimp only [Pt.U, Pt.locs, Pt.cells, Pt.slots] at X100 l100 y100 z100 st100 hQ100
  subst l100 y100 z100
  obtain ⟨rfl, N100q, e100⟩ := hQ100
  have N101 := Fr.app N95 N100q
  obtain ⟨cq102, kq102, q102a, q102b, q102c⟩ := isOf hZ e100 E89_0
  obtain ⟨_, _, ⟨T102, L102, k102, n102⟩, -, X102, ⟨Lc102, hQ102, l102, y102, z102⟩, st102⟩ := X100.virtualBack hx (y := (⟨"tierlock/Wait", "mayEnd", "()Z"⟩ : MethodName)) (z := (⟨"tierlock/Wait", "mayEnd", "()Z"⟩ : MethodName)) hown (mvT hZ (hw _ (List.mem_of_getElem? (i := 20) rfl))) (mvT hZ (hw _ (List.mem_of_getElem? (i := 21) rfl))) (notFace_of_selects (args := #[]) (mvT hZ (hw _ (List.mem_of_getElem? (i := 23) rfl)))) (mvT hZ (hw _ (List.mem_of_getElem? (i := 23) rfl))) (mvT hZ (hw _ (List.mem_of_getElem? (i := 22) rfl))) (by decide) (backOf (W := 0) (rm4 l Z aq hw [] b83 (v1 &&& 1) (v2 &&& 1) q2 T89.heap n0 Z94 E89_0 F89_0 F89_1 F89_2) hZ (hw _ (List.mem_of_getElem? (i := 24) rfl)) (hw _ (List.mem_of_getElem? (i := 2) rfl)) (by decide) (by decide)) q102a q102c (g := (mkF m 95 #[.val (.int p0), .val (.long q1), .second, .val (.long q2), .second, .val (.int v1), .val (.int v2), .val (.ref b78), .val (.ref b83), .val (.int v3), .val (.int (if (v1 &&& 1) = (0 : Int32) then (if (v2 &&& 1) = (0 : Int32) then (0 : Int32) else (1 : Int32)) else (1 : Int32)))] [(.ref b83)])) rfl (by rw [hml]; rfl) (Steps.refl _) (argsL := []) (rest := []) (lenOf pd93422000 rfl) rfl (by show 2 * 0 + _ ≤ _; exact Nat.le_of_eq rfl) (hb hby at_95) (fun _ _ => ⟨rfl, e100, (by decide : 2 + 0 ≤ _), (by decide : 6 + 0 ≤ _)⟩)
  dsimp only [Pt.U, Pt.locs, Pt.cells, Pt.slots] at X102 l102 y102 z102 st102 hQ102
  subst l102 y102 z102
  obtain ⟨rfl, N102q, e102⟩ := hQ102
  have N103 := Fr.app N101 N102q
  have pre104 : ∀ t, Steps p.tables e below (T102.setTop (mkF m 108 #[.val (.int p0), .val (.long q1), .second, .val (.long q2), .second, .val (.int v1), .val (.int v2), .val (.ref b78), .val (.ref b83), .val (.int v3), .val (.int (if (v1 &&& 1) = (0 : Int32) then (if (v2 &&& 1) = (0 : Int32) then (0 : Int32) else (1 : Int32)) else (1 : Int32)))] [(.int (1 : Int32))])) t → Steps p.tables e below (s₁.setTop (entryFrame m #[(.int p0), (.long q1), (.long q2)] maxLocals)) t := fun t kt => by
    refine pre99 _ ?_
    show Steps p.tables e below (T89.setTop (mkF m 79 #[.val (.int p0), .val (.long q1), .second, .val (.long q2), .second, .val (.int v1), .val (.int v2), .val (.ref b78), .val (.ref b83), .val (.int v3), .unset] [])) _
    refine XS.aload X89.here hx rfl (hb hby at_79) rfl rfl ?_
    show Steps p.tables e below (T89.setTop (mkF m 81 #[.val (.int p0), .val (.long q1), .second, .val (.long q2), .second, .val (.int v1), .val (.int v2), .val (.ref b78), .val (.ref b83), .val (.int v3), .unset] [(.ref b78)])) _
    refine st100.trans ?_
    show Steps p.tables e below (T100.setTop (mkF m 84 #[.val (.int p0), .val (.long q1), .second, .val (.long q2), .second, .val (.int v1), .val (.int v2), .val (.ref b78), .val (.ref b83), .val (.int v3), .unset] [(.int (if (v1 &&& 1) = (0 : Int32) then (if (v2 &&& 1) = (0 : Int32) then (0 : Int32) else (1 : Int32)) else (1 : Int32)))])) _
    refine XS.istore X100.here hx rfl (hb hby at_84) rfl (l' := #[.val (.int p0), .val (.long q1), .second, .val (.long q2), .second, .val (.int v1), .val (.int v2), .val (.ref b78), .val (.ref b83), .val (.int v3), .val (.int (if (v1 &&& 1) = (0 : Int32) then (if (v2 &&& 1) = (0 : Int32) then (0 : Int32) else (1 : Int32)) else (1 : Int32)))]) rfl ?_
    show Steps p.tables e below (T100.setTop (mkF m 86 #[.val (.int p0), .val (.long q1), .second, .val (.long q2), .second, .val (.int v1), .val (.int v2), .val (.ref b78), .val (.ref b83), .val (.int v3), .val (.int (if (v1 &&& 1) = (0 : Int32) then (if (v2 &&& 1) = (0 : Int32) then (0 : Int32) else (1 : Int32)) else (1 : Int32)))] [])) _
    refine XS.iload X100.here hx rfl (hb hby at_86) rfl ?_
    show Steps p.tables e below (T100.setTop (mkF m 88 #[.val (.int p0), .val (.long q1), .second, .val (.long q2), .second, .val (.int v1), .val (.int v2), .val (.ref b78), .val (.ref b83), .val (.int v3), .val (.int (if (v1 &&& 1) = (0 : Int32) then (if (v2 &&& 1) = (0 : Int32) then (0 : Int32) else (1 : Int32)) else (1 : Int32)))] [(.int (if (v1 &&& 1) = (0 : Int32) then (if (v2 &&& 1) = (0 : Int32) then (0 : Int32) else (1 : Int32)) else (1 : Int32)))])) _
    refine XS.iload X100.here hx rfl (hb hby at_88) rfl ?_
    show Steps p.tables e below (T100.setTop (mkF m 90 #[.val (.int p0), .val (.long q1), .second, .val (.long q2), .second, .val (.int v1), .val (.int v2), .val (.ref b78), .val (.ref b83), .val (.int v3), .val (.int (if (v1 &&& 1) = (0 : Int32) then (if (v2 &&& 1) = (0 : Int32) then (0 : Int32) else (1 : Int32)) else (1 : Int32)))] [(.int v3), (.int (if (v1 &&& 1) = (0 : Int32) then (if (v2 &&& 1) = (0 : Int32) then (0 : Int32) else (1 : Int32)) else (1 : Int32)))])) _
    refine XS.icmpNo X100.here hx rfl (hb hby at_90) rfl (teq (own_plain0 p0 q1 q2 v1 hv1 v2 hv2 v3 hv3)).2 ?_
    show Steps p.tables e below (T100.setTop (mkF m 93 #[.val (.int p0), .val (.long q1), .second, .val (.long q2), .second, .val (.int v1), .val (.int v2), .val (.ref b78), .val (.ref b83), .val (.int v3), .val (.int (if (v1 &&& 1) = (0 : Int32) then (if (v2 &&& 1) = (0 : Int32) then (0 : Int32) else (1 : Int32)) else (1 : Int32)))] [])) _
    refine XS.aload X100.here hx rfl (hb hby at_93) rfl rfl ?_
    show Steps p.tables e below (T100.setTop (mkF m 95 #[.val (.int p0), .val (.long q1), .second, .val (.long q2), .second, .val (.int v1), .val (.int v2), .val (.ref b78), .val (.ref b83), .val (.int v3), .val (.int (if (v1 &&& 1) = (0 : Int32) then (if (v2 &&& 1) = (0 : Int32) then (0 : Int32) else (1 : Int32)) else (1 : Int32)))] [(.ref b83)])) _
    refine st102.trans ?_
    show Steps p.tables e below (T102.setTop (mkF m 98 #[.val (.int p0), .val (.long q1), .second, .val (.long q2), .second, .val (.int v1), .val (.int v2), .val (.ref b78), .val (.ref b83), .val (.int v3), .val (.int (if (v1 &&& 1) = (0 : Int32) then (if (v2 &&& 1) = (0 : Int32) then (0 : Int32) else (1 : Int32)) else (1 : Int32)))] [(.int (if (v1 &&& 1) = (0 : Int32) then (if (v2 &&& 1) = (0 : Int32) then (0 : Int32) else (1 : Int32)) else (1 : Int32)))])) _
    refine XS.iload X102.here hx rfl (hb hby at_98) rfl ?_
    show Steps p.tables e below (T102.setTop (mkF m 100 #[.val (.int p0), .val (.long q1), .second, .val (.long q2), .second, .val (.int v1), .val (.int v2), .val (.ref b78), .val (.ref b83), .val (.int v3), .val (.int (if (v1 &&& 1) = (0 : Int32) then (if (v2 &&& 1) = (0 : Int32) then (0 : Int32) else (1 : Int32)) else (1 : Int32)))] [(.int (if (v1 &&& 1) = (0 : Int32) then (if (v2 &&& 1) = (0 : Int32) then (0 : Int32) else (1 : Int32)) else (1 : Int32))), (.int (if (v1 &&& 1) = (0 : Int32) then (if (v2 &&& 1) = (0 : Int32) then (0 : Int32) else (1 : Int32)) else (1 : Int32)))])) _
    refine XS.icmpNo X102.here hx rfl (hb hby at_100) rfl (teq (rfl : (if (v1 &&& 1) = (0 : Int32) then (if (v2 &&& 1) = (0 : Int32) then (0 : Int32) else (1 : Int32)) else (1 : Int32)) = (if (v1 &&& 1) = (0 : Int32) then (if (v2 &&& 1) = (0 : Int32) then (0 : Int32) else (1 : Int32)) else (1 : Int32)))).2 ?_
    show Steps p.tables e below (T102.setTop (mkF m 103 #[.val (.int p0), .val (.long q1), .second, .val (.long q2), .second, .val (.int v1), .val (.int v2), .val (.ref b78), .val (.ref b83), .val (.int v3), .val (.int (if (v1 &&& 1) = (0 : Int32) then (if (v2 &&& 1) = (0 : Int32) then (0 : Int32) else (1 : Int32)) else (1 : Int32)))] [])) _
    refine XS.iconst X102.here hx rfl (hb hby at_103) ?_
    show Steps p.tables e below (T102.setTop (mkF m 104 #[.val (.int p0), .val (.long q1), .second, .val (.long q2), .second, .val (.int v1), .val (.int v2), .val (.ref b78), .val (.ref b83), .val (.int v3), .val (.int (if (v1 &&& 1) = (0 : Int32) then (if (v2 &&& 1) = (0 : Int32) then (0 : Int32) else (1 : Int32)) else (1 : Int32)))] [(.int (1 : Int32))])) _
    refine XS.goto X102.here hx rfl (pc0 := 104) (pc' := 108) rfl (hb hby at_104) (by decide) (by decide) ?_
    show Steps p.tables e below (T102.setTop (mkF m 108 #[.val (.int p0), .val (.long q1), .second, .val (.long q2), .second, .val (.int v1), .val (.int v2), .val (.ref b78), .val (.ref b83), .val (.int v3), .val (.int (if (v1 &&& 1) = (0 : Int32) then (if (v2 &&& 1) = (0 : Int32) then (0 : Int32) else (1 : Int32)) else (1 : Int32)))] [(.int (1 : Int32))])) _
    exact kt
  have hfin : (1 : Int32) = 1 := rfl
  obtain ⟨fs, hr, hrun, hended, hW, hsame⟩ := X102.leave (v := some (.int ((1 : Int32) &&& 1))) (fun h => by rw [Bd.returns] at h; cases h)
  refine ⟨_, _, pre104 _ ?_, hrun, hended, _, _, rfl, ?_, ⟨_, rfl⟩, hW, hsame.mono (by decide) (by decide)⟩
  · exact retN X102 hx (t := .boolean) Bd.returns (by simp) (hb hby at_108) hr
  · exact ⟨by rw [hfin]; rfl, N103⟩
set_option maxRecDepth 65536 in
set_option maxHeartbeats 40000000 in
theorem comes_1 {Post : Tables → Env → Array Value → State → Outcome → State → Prop} (hpost : ∀ tb e args s v u, (limb_1_1.after args s (.returned v) u = true ∧ limb_1_2.after args s (.returned v) u = true ∧ True) → FrameEnd s (.returned v) u (Jvm.fieldLocs frame_1_writes args s ++ Jvm.arrayLocs frame_1_arrays args s ++ Jvm.staticLocs frame_1_statics s) 16 128 → Post tb e args s (.returned v) u) :
    ArmFor flags0 classFile x code maxLocals ret World_1 tables_1 room_1 Calls_1 rest_1 Pre_1 Post := by
  intro l hfl _ _ p e ha hc hk s m args below hf hA hF happ hP
  obtain ⟨hcalls, hrest, hpre⟩ := hP
  obtain ⟨-, -, -, hnamed, -, -, -, hat⟩ := (Spec.applies_iff hf).mp happ
  obtain ⟨hg, hn⟩ := and_e (Cond.before_iff.mp (show (Jvm.Cond.and given_1 narrow_1).before args s = true from hpre))
  obtain ⟨hcount, hg0⟩ := and_e hg
  obtain ⟨ha0, hg1⟩ := and_e hg0
  obtain ⟨ha1, hg2⟩ := and_e hg1
  have ha2 := hg2
  obtain ⟨w0, w1, w2, rfl⟩ : ∃ w0 w1 w2 : Value, args = #[w0, w1, w2] := by
    have hs : args.size = 3 := by simpa [Cond.value, given_1] using hcount
    obtain ⟨L⟩ := args
    match L, hs with
    | [w0, w1, w2], _ => exact ⟨w0, w1, w2, rfl⟩
  have hw := fun d (hd : d ∈ tables_1) => atoms_spec (ws := Jvm.Cond.code x code maxLocals ret :: tables_1) hat d (List.mem_cons_of_mem _ hd)
  obtain ⟨i0, ei0⟩ := is_v ha0
  obtain rfl : w0 = (.int i0) := Option.some.inj ei0
  obtain ⟨i1, ei1⟩ := isL_v ha1
  obtain rfl : w1 = (.long i1) := Option.some.inj ei1
  obtain ⟨i2, ei2⟩ := isL_v ha2
  obtain rfl : w2 = (.long i2) := Option.some.inj ei2
  obtain ⟨n, o, h1, h2, h3, _, L, rfl, ⟨rfl, N⟩, hq⟩ := rm0 l s _ hw tables_1 i0 i1 i2 s.heap s.heap.size (Nat.le_refl _) p e ha hc hk s m _ below hf ((Spec.applies_iff_loose hf).mp happ).1 ⟨rfl, State.Warmed39.refl s, rfl⟩ trivial
  refine ⟨n, _, h1, h2, h3, hpost _ _ _ _ _ _ ⟨Cond.after_iff.mpr rfl, Cond.after_iff.mpr (eq_i res_at (Term.int_eval (1)) rfl), trivial⟩ ⟨hq.1, hq.2.1, (hq.2.2.sift fun y hy => Or.inr (N y hy)).mono (by decide) (by decide)⟩⟩
theorem main_1_1 : Claimed_1_1 := comes_1 fun _ _ _ _ _ _ h hF => ⟨h.1, hF⟩
theorem main_1_2 : Claimed_1_2 := comes_1 fun _ _ _ _ _ _ h hF => ⟨h.2.1, hF⟩
end Jvm.Pilot.@@N@@
namespace Jvm.Pilot.@@N@@
open Jvm Jvm.ClassFile Sem Op Lib Jvm.Free Jvm.Stand Jvm.Pilot.@@N@@.Jvm.D
/-! MADE BY PROGRAM (witnessworld.py) out of the Statement's table words and the real class files: 10 classes; the members and pool entries that the words name. The judged class is class 1, her method 1. -/
namespace start1
open Jvm.ClassFile
def u (s : String) : CpInfo := .utf8 (stringToUtf16 s)
/-- a pool by its gaps: so many unusable entries, then the entry; so many at the end -/
def gap : Nat → List CpInfo → List CpInfo
  | 0, r => r
  | n + 1, r => .unusable :: gap n r
def poolList (es : List (Nat × CpInfo)) (last : Nat) : List CpInfo := es.foldr (fun e r => gap e.1 (e.2 :: r)) (gap last [])
def pool (es : List (Nat × CpInfo)) (last : Nat) : Array CpInfo := ⟨poolList es last⟩
def fileOf (pool : Array CpInfo) (this : Nat) (attrs : Array Attribute := #[]) (ms : Array MethodInfo := #[]) (fl : Nat := 33) (sup : Nat := 0) (ifs : Array Nat := #[]) (fds : Array FieldInfo := #[]) : ClassFile where
  minorVersion := 0
  majorVersion := 65
  constantPool := pool
  accessFlags := fl
  thisClass := this
  superClass := sup
  interfaces := ifs
  fields := fds
  methods := ms
  attributes := attrs
def plain (name : String) (sup : Option ClassId) : Class where
  name := name
  kind := .ordinary
  loader := none
  accessFlags := 33
  super := sup
  interfaces := #[]
  cf := none
  fields := #[]
  methods := #[]
  instanceTypes := #[]
  staticTypes := #[]
  resolved := #[]
  callSites := []
  init := .initialized
  statics := none
  mirror := none

def pool0 : Array CpInfo := pool [(5, u "<init>"), (0, u "()V"), (1, .class_ 10), (1, u "java/lang/Object")] 113

def k0c0 : Code := { maxStack := 0, maxLocals := 1, code := object_method_1_code, exceptionTable := #[], attributes := #[] }
def k0m0 : Method := { name := "<init>", desc := "()V", sig := { parameters := [], returnType := none }, accessFlags := 1, code := some k0c0 }
/-- java/lang/Object -/
def k0 : Class := { plain "java/lang/Object" none with
  accessFlags := 33
  interfaces := #[]
  cf := some (fileOf pool0 8 #[] #[{ accessFlags := 1, nameIndex := 5, descriptorIndex := 6, attributes := #[] }] 33 0 #[] #[])
  fields := #[]
  methods := #[k0m0]
  instanceTypes := #[]
  staticTypes := #[]
  resolved := Array.replicate 124 none
  statics := none }

def pool1 : Array CpInfo := pool [(2, .class_ 4), (1, u "java/lang/Object"), (0, u "<init>"), (0, u "()V"), (0, .class_ 8), (0, u "tierlock/Wait"), (0, .methodref 7 10), (0, .nameAndType 5 11), (0, u "(ZZJ)V"), (0, .methodref 7 13), (0, .nameAndType 14 15), (0, u "mayEnd"), (0, u "()Z"), (0, .class_ 17), (0, u "tierlock/WaitMayEndPinLaw"), (2, u "law"), (0, u "(IJJ)Z")] 3

def k1m0 : Method := { name := "<init>", desc := "()V", sig := { parameters := [], returnType := none }, accessFlags := 1, code := none }
def k1c1 : Code := { maxStack := 6, maxLocals := 11, code := code, exceptionTable := #[], attributes := #[] }
def k1m1 : Method := { name := "law", desc := "(IJJ)Z", sig := { parameters := [.int, .long, .long], returnType := some .boolean }, accessFlags := 9, code := some k1c1 }
/-- tierlock/WaitMayEndPinLaw -/
def k1 : Class := { plain "tierlock/WaitMayEndPinLaw" (some 0) with
  accessFlags := 49
  interfaces := #[]
  cf := some (fileOf pool1 16 #[] #[{ accessFlags := 1, nameIndex := 5, descriptorIndex := 6, attributes := #[] }, { accessFlags := 9, nameIndex := 20, descriptorIndex := 21, attributes := #[] }] 49 2 #[] #[])
  fields := #[]
  methods := #[k1m0, k1m1]
  instanceTypes := #[]
  staticTypes := #[]
  resolved := Array.replicate 25 none
  statics := none }

def pool2 : Array CpInfo := pool [(1, .methodref 2 3), (0, .class_ 4), (0, .nameAndType 5 6), (0, u "java/lang/Object"), (0, u "<init>"), (0, u "()V"), (0, .class_ 8), (0, u "java/lang/Record")] 13

def k2c0 : Code := { maxStack := 1, maxLocals := 1, code := jdk_30_method_1_code, exceptionTable := #[], attributes := #[] }
def k2m0 : Method := { name := "<init>", desc := "()V", sig := { parameters := [], returnType := none }, accessFlags := 4, code := some k2c0 }
/-- java/lang/Record -/
def k2 : Class := { plain "java/lang/Record" (some 0) with
  accessFlags := 1057
  interfaces := #[]
  cf := some (fileOf pool2 7 #[] #[{ accessFlags := 4, nameIndex := 5, descriptorIndex := 6, attributes := #[] }] 1057 2 #[] #[])
  fields := #[]
  methods := #[k2m0]
  instanceTypes := #[]
  staticTypes := #[]
  resolved := Array.replicate 22 none
  statics := none }

def pool3 : Array CpInfo := pool [(1, .methodref 2 3), (0, .class_ 4), (0, .nameAndType 5 6), (0, u "java/lang/Record"), (0, u "<init>"), (0, u "()V"), (0, .fieldref 8 9), (0, .class_ 10), (0, .nameAndType 11 12), (0, u "tierlock/Wait"), (0, u "interruptible"), (0, u "Z"), (0, .fieldref 8 14), (0, .nameAndType 15 12), (0, u "timed"), (0, .fieldref 8 17), (0, .nameAndType 18 19), (0, u "deadline"), (0, u "J"), (14, u "(ZZJ)V"), (5, u "()Z"), (17, u "UNINTERRUPTIBLE"), (0, u "Ltierlock/Wait;"), (2, u "INTERRUPTIBLE"), (5, u "mayEnd")] 29

def k3c0 : Code := { maxStack := 3, maxLocals := 5, code := prog_21_method_1_code, exceptionTable := #[], attributes := #[] }
def k3m0 : Method := { name := "<init>", desc := "(ZZJ)V", sig := { parameters := [.boolean, .boolean, .long], returnType := none }, accessFlags := 0, code := some k3c0 }
def k3c1 : Code := { maxStack := 1, maxLocals := 1, code := prog_21_method_3_code, exceptionTable := #[], attributes := #[] }
def k3m1 : Method := { name := "mayEnd", desc := "()Z", sig := { parameters := [], returnType := some .boolean }, accessFlags := 0, code := some k3c1 }
/-- tierlock/Wait -/
def k3 : Class := { plain "tierlock/Wait" (some 2) with
  accessFlags := 48
  interfaces := #[]
  cf := some (fileOf pool3 8 #[] #[{ accessFlags := 0, nameIndex := 5, descriptorIndex := 34, attributes := #[] }, { accessFlags := 0, nameIndex := 68, descriptorIndex := 40, attributes := #[] }] 48 2 #[] #[{ accessFlags := 18, nameIndex := 11, descriptorIndex := 12, attributes := #[] }, { accessFlags := 18, nameIndex := 15, descriptorIndex := 12, attributes := #[] }, { accessFlags := 18, nameIndex := 18, descriptorIndex := 19, attributes := #[] }, { accessFlags := 24, nameIndex := 58, descriptorIndex := 59, attributes := #[] }, { accessFlags := 24, nameIndex := 62, descriptorIndex := 59, attributes := #[] }])
  fields := #[{ name := "interruptible", type := .boolean, accessFlags := 18, slot := 0, constantValue := 0 }, { name := "timed", type := .boolean, accessFlags := 18, slot := 1, constantValue := 0 }, { name := "deadline", type := .long, accessFlags := 18, slot := 2, constantValue := 0 }, { name := "UNINTERRUPTIBLE", type := (.object "tierlock/Wait"), accessFlags := 24, slot := 0, constantValue := 0 }, { name := "INTERRUPTIBLE", type := (.object "tierlock/Wait"), accessFlags := 24, slot := 1, constantValue := 0 }]
  methods := #[k3m0, k3m1]
  instanceTypes := #[.boolean, .boolean, .long]
  staticTypes := #[(.object "tierlock/Wait"), (.object "tierlock/Wait")]
  resolved := Array.replicate 98 none
  statics := none }

def pool4 : Array CpInfo := pool [(1, u "java/lang/Cloneable"), (0, .class_ 1), (0, u "java/lang/Object"), (0, .class_ 3)] 3

/-- java/lang/Cloneable -/
def k4 : Class := { plain "java/lang/Cloneable" (some 0) with
  accessFlags := 1537
  interfaces := #[]
  cf := some (fileOf pool4 2 #[] #[] 1537 4 #[] #[])
  fields := #[]
  methods := #[]
  instanceTypes := #[]
  staticTypes := #[]
  resolved := Array.replicate 8 none
  statics := none }

def pool5 : Array CpInfo := pool [(1, u "java/io/Serializable"), (0, .class_ 1), (0, u "java/lang/Object"), (0, .class_ 3)] 3

/-- java/io/Serializable -/
def k5 : Class := { plain "java/io/Serializable" (some 0) with
  accessFlags := 1537
  interfaces := #[]
  cf := some (fileOf pool5 2 #[] #[] 1537 4 #[] #[])
  fields := #[]
  methods := #[]
  instanceTypes := #[]
  staticTypes := #[]
  resolved := Array.replicate 8 none
  statics := none }

/-- the primitive byte -/
def k6 : Class := { plain "byte" none with kind := .primitive 'B', accessFlags := 0x411 }
/-- [B -/
def k7 : Class := { plain "[B" (some 0) with kind := .array 6 .byte, interfaces := #[4, 5], accessFlags := 1041 }

/-- the primitive int -/
def k8 : Class := { plain "int" none with kind := .primitive 'I', accessFlags := 0x411 }
/-- [I -/
def k9 : Class := { plain "[I" (some 0) with kind := .array 8 .int, interfaces := #[4, 5], accessFlags := 1041 }

def heap : Heap := #[]
def classes : Array Class := #[k0, k1, k2, k3, k4, k5, k6, k7, k8, k9]
def interned : List (Array UInt16 × Addr) := []
def slotsUsed : Nat := 0
def theMethod : MethodId := ⟨1, 1⟩
def args0 : Array Value := #[.int 5, .long 5, .long 5]
def aboutOver (below : List Frame) : State where
  vm := { classes := classes, interned := interned.toArray }
  heap := heap
  slotsUsed := slotsUsed
  threads := #[{ frames := .invoking theMethod args0 :: below }]
def below0 : List Frame := [.native { method := ⟨0, 0⟩, args := #[] }]
def about1 : State := aboutOver below0
def p0 : Program := .bare "" "" ""
def e0 : Env := launch0.env 0 0 0
theorem w_frames : about1.frames = Frame.invoking theMethod args0 :: below0 := rfl
set_option maxRecDepth 65536 in
theorem w_args : argsFit about1.vm theMethod args0 = true := by decide +kernel
set_option maxRecDepth 65536 in
theorem w_heap : heapFits about1 = true := by decide +kernel
set_option maxRecDepth 65536 in
theorem w_runnable : about1.curStatus? = some .runnable := by decide +kernel
set_option maxRecDepth 65536 in
theorem w_alone : about1.alone = true := by decide +kernel
set_option maxRecDepth 65536 in
theorem w_named : about1.methodNamed? x = some theMethod := by decide +kernel
set_option maxRecDepth 65536 in
theorem w_hears : about1.hears theMethod below0 = true := by decide +kernel
set_option maxRecDepth 65536 in
theorem w_ripe : about1.ripe theMethod args0 below0 = true := by decide +kernel
theorem w_running : about1.status = .running := rfl
set_option maxRecDepth 65536 in
theorem w_room : about1.hasRoom e0.platform room_1 = true :=
  launch0.hasRoom_least _ room_1 (by decide +kernel) (by decide +kernel) (by decide +kernel) (by decide +kernel) (by decide +kernel) (by decide +kernel)
theorem allAtoms_all (ts : List Jvm.Cond) (a : Array Jvm.Value) (st : Jvm.State) : (allAtoms ts).before a st = ts.all (fun c => c.before a st) := by
  induction ts with
  | nil => rfl
  | cons c t ih =>
    show (Jvm.Cond.and c (allAtoms t)).before a st = _
    rw [Jvm.Cond.before_and, ih, List.all_cons]
def words1 : List Jvm.Cond := Jvm.Cond.code x code maxLocals ret :: tables_1
/-- a 'code' word, met by the world's own term for the bytes: nothing is compared byte by byte -/
theorem code_word {y : MethodName} {bytes : ByteArray} {mx : Nat} {rt : Option FieldType} {a : Array Value} {s : State} {m : MethodId} {meth : Method} {c : Code} (h1 : s.methodNamed? y = some m) (h2 : s.vm.method? m = some meth) (h3 : meth.code = some c) (h4 : c.code = bytes)
    (h5 : (c.maxLocals == mx && c.exceptionTable.isEmpty && decide (c.maxStack ≤ mostOperands) && decide (meth.sig.returnType = rt) && !meth.locks && decide (parseMethodDescriptor y.desc = some meth.sig)) = true) : (Jvm.Cond.code y bytes mx rt).before a s = true := by
  simp only [Bool.and_eq_true, beq_iff_eq, Bool.not_eq_true', decide_eq_true_eq] at h5
  obtain ⟨⟨⟨⟨⟨g1, g2⟩, g3⟩, g4⟩, g5⟩, g6⟩ := h5
  simp [Cond.before, Cond.holds, Cond.value, h1, h2, h3, h4, g1, g2, g3, g4, g5, g6]
def isCode : Jvm.Cond → Bool
  | .code _ _ _ _ => true
  | _ => false
theorem all_split {L : List Jvm.Cond} {P : Jvm.Cond → Bool} (h1 : L.all (fun c => isCode c || P c) = true) (h2 : ∀ c ∈ L.filter isCode, P c = true) : L.all P = true := by
  refine List.all_eq_true.mpr fun c hc => ?_
  have h := List.all_eq_true.mp h1 c hc
  rcases Bool.eq_false_or_eq_true (isCode c) with hi | hi
  · exact h2 c (List.mem_filter.mpr ⟨hc, hi⟩)
  · simpa [hi] using h
set_option maxRecDepth 65536 in
theorem w_c0 : (Jvm.Cond.code x code maxLocals ret).before args0 about1 = true := code_word (m := ⟨1, 1⟩) (meth := k1m1) (c := k1c1) (by decide +kernel) rfl rfl rfl (by decide +kernel)
set_option maxRecDepth 65536 in
theorem w_c1 : (Jvm.Cond.code ({ cls := "tierlock/Wait", name := "<init>", desc := "(ZZJ)V" } : Jvm.MethodName) prog_21_method_1_code (5 : Nat) (Option.none : Option Jvm.ClassFile.FieldType)).before args0 about1 = true := code_word (m := ⟨3, 0⟩) (meth := k3m0) (c := k3c0) (by decide +kernel) rfl rfl rfl (by decide +kernel)
set_option maxRecDepth 65536 in
theorem w_c2 : (Jvm.Cond.code ({ cls := "java/lang/Record", name := "<init>", desc := "()V" } : Jvm.MethodName) jdk_30_method_1_code (1 : Nat) (Option.none : Option Jvm.ClassFile.FieldType)).before args0 about1 = true := code_word (m := ⟨2, 0⟩) (meth := k2m0) (c := k2c0) (by decide +kernel) rfl rfl rfl (by decide +kernel)
set_option maxRecDepth 65536 in
theorem w_c3 : (Jvm.Cond.code ({ cls := "java/lang/Object", name := "<init>", desc := "()V" } : Jvm.MethodName) object_method_1_code (1 : Nat) (Option.none : Option Jvm.ClassFile.FieldType)).before args0 about1 = true := code_word (m := ⟨0, 0⟩) (meth := k0m0) (c := k0c0) (by decide +kernel) rfl rfl rfl (by decide +kernel)
set_option maxRecDepth 65536 in
theorem w_c4 : (Jvm.Cond.code ({ cls := "tierlock/Wait", name := "mayEnd", desc := "()Z" } : Jvm.MethodName) prog_21_method_3_code (1 : Nat) (Option.some Jvm.ClassFile.FieldType.boolean)).before args0 about1 = true := code_word (m := ⟨3, 1⟩) (meth := k3m1) (c := k3c1) (by decide +kernel) rfl rfl rfl (by decide +kernel)
def codes1 : List Jvm.Cond := [Jvm.Cond.code x code maxLocals ret, Jvm.Cond.code ({ cls := "tierlock/Wait", name := "<init>", desc := "(ZZJ)V" } : Jvm.MethodName) prog_21_method_1_code (5 : Nat) (Option.none : Option Jvm.ClassFile.FieldType), Jvm.Cond.code ({ cls := "java/lang/Record", name := "<init>", desc := "()V" } : Jvm.MethodName) jdk_30_method_1_code (1 : Nat) (Option.none : Option Jvm.ClassFile.FieldType), Jvm.Cond.code ({ cls := "java/lang/Object", name := "<init>", desc := "()V" } : Jvm.MethodName) object_method_1_code (1 : Nat) (Option.none : Option Jvm.ClassFile.FieldType), Jvm.Cond.code ({ cls := "tierlock/Wait", name := "mayEnd", desc := "()Z" } : Jvm.MethodName) prog_21_method_3_code (1 : Nat) (Option.some Jvm.ClassFile.FieldType.boolean)]
set_option maxRecDepth 65536 in
theorem codes_eq : words1.filter isCode = codes1 := rfl
theorem w_codes : ∀ c ∈ words1.filter isCode, c.before args0 about1 = true := by
  rw [codes_eq]
  intro c hc
  simp only [codes1, List.mem_cons, List.not_mem_nil, or_false] at hc
  rcases hc with rfl | rfl | rfl | rfl | rfl
  · exact w_c0
  · exact w_c1
  · exact w_c2
  · exact w_c3
  · exact w_c4
set_option maxRecDepth 65536 in
theorem w_t1 : (words1.take 24).all (fun c => isCode c || c.before args0 about1) = true := by decide +kernel
set_option maxRecDepth 65536 in
theorem w_t2 : (words1.drop 24).all (fun c => isCode c || c.before args0 about1) = true := by decide +kernel
theorem w_tables : (allAtoms (Jvm.Cond.code x code maxLocals ret :: tables_1)).before args0 about1 = true := by
  rw [allAtoms_all]
  show words1.all (fun c => c.before args0 about1) = true
  refine all_split ?_ w_codes
  rw [← List.take_append_drop 24 words1, List.all_append, w_t1, w_t2]
  rfl
set_option maxRecDepth 65536 in
theorem w_case : (Jvm.Cond.and given_1 narrow_1).before args0 about1 = true := by decide +kernel
theorem w_applies : (headSpec (Jvm.Cond.code x code maxLocals ret :: tables_1) room_1).applies x e0.platform about1 = true :=
  (Spec.applies_iff w_frames).mpr ⟨w_running, w_runnable, w_alone, w_named, w_hears, w_ripe, w_room, w_tables⟩
theorem atStart : AtStart classFile x code maxLocals ret World_1 tables_1 room_1 Calls_1 rest_1 Pre_1 launch0 p0 e0 about1 theMethod args0 below0 :=
  ⟨lists_1, trivial, launch0.admits_env _ _ _, launch0.least_env, fairChoices_fair.cas, fairChoices_fair.clock, w_frames, w_args, w_heap, w_applies, trivial, trivial, w_case⟩
end start1
theorem witness_1 : WitnessClaimed_1 := ⟨start1.p0, start1.e0, start1.about1, start1.theMethod, start1.args0, start1.below0, start1.atStart⟩
end Jvm.Pilot.@@N@@
