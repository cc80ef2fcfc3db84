import JvmDerived
import JvmDerived.Pilot.@@N@@Statement
import JvmDerived.Pilot.@@N@@Code
set_option linter.unusedVariables false
set_option linter.unusedSimpArgs false
@@BLOCK:NumsL.lean.txt@@
namespace Jvm.RoadKit
open Sem ClassFile Op Lib Jvm.Stand Jvm.Free Jvm.LawKit
section New
variable {p : Program} {l : Launch} {e : Env} {R : Room} {s : State} {m : MethodId} {args : Array Value} {below : List Frame} {meth : Method} {c : Code} {T : State} {locs : List Loc} {cells slots : Nat}
theorem retI (X : Stand p l e R s m args below meth c T locs cells slots) (hx : p.tables.exec = Jvm.exec) {pc : Nat} {Ls : Array Slot} {z : Int32} {rest : List Value} (hret : meth.sig.returnType = some .int) (hd : decode c.code pc = .ok (.ireturn, 1)) {fs : List Frame}
    (hl : ∀ (f : JFrame) (acts : List Action), f.method = m → f.locked = none → f.entered = [] → (doReturn e (T.setTop f) acts (some (.int z))).1 = T.setFrames fs) : Steps p.tables e below (T.setTop (mkF m pc Ls (.int z :: rest))) (T.setFrames fs) := by
  have hm' : T.vm.method? m = some meth := X.method'
  have hn : narrow .int (.int z) = .int z := rfl
  show Steps p.tables e below (T.setTop { method := m, pc := pc, locals := Ls, stack := _ :: rest, locked := none }) _
  jvm_step X.here [X.here.top, hx, hd, hm', hret, hn]
  first | (intro acts; rw [hl _ acts rfl rfl rfl]) | rw [hl _ _ rfl rfl rfl]
  exact Steps.refl _
end New
end Jvm.RoadKit
namespace Jvm.Pilot.@@N@@
open Jvm Jvm.ClassFile Sem Op Lib Jvm.Free Jvm.Stand Jvm.LawKit Jvm.RoadKit Bundle Jvm.Pilot.@@N@@.Jvm.D
theorem own_lwN {x y : Int64} (h : ¬ x = y) : ¬ lcmpW x y = 0 := fun q => h ((lw_eq x y).mp q)
theorem own_lwE {x y : Int64} (h : x = y) : lcmpW x y = 0 := (lw_eq x y).mpr h
theorem own_lwL {x y : Int64} (h : x < y) : lcmpW x y < 0 := (lw_lt x y).mpr h
theorem own_lwM {x y : Int64} (h : ¬ x < y) : ¬ lcmpW x y < 0 := fun q => h ((lw_lt x y).mp q)
theorem own_lwG {x y : Int64} (h : y < x) : 0 < lcmpW x y := (lw_gt x y).mpr h
theorem own_lwH {x y : Int64} (h : ¬ y < x) : ¬ 0 < lcmpW x y := fun q => h ((lw_gt x y).mp q)
theorem own_F {Z : State} {h : Heap} {a : Addr} {C n d : String} {v w : Value} (q : v = w) (F : Fld Z h a C n d v) : Fld Z h a C n d w := q ▸ F
theorem own_rI {x y : Int32} (q : x = y) : (some (Value.int x)) = some (.int y) := by rw [q]
theorem own_rJ {x y : Int64} (q : x = y) : (some (Value.long x)) = some (.long y) := by rw [q]
theorem d1_0 : decode prog_75_method_1_code 0 = .ok (.aload_n 0, 1) := by decide +kernel
theorem d1_1 : decode prog_75_method_1_code 1 = .ok (.invokespecial 1, 3) := by decide +kernel
theorem d1_4 : decode prog_75_method_1_code 4 = .ok (.aload_n 0, 1) := by decide +kernel
theorem d1_5 : decode prog_75_method_1_code 5 = .ok (.lload_n 1, 1) := by decide +kernel
theorem d1_6 : decode prog_75_method_1_code 6 = .ok (.putfield 7, 3) := by decide +kernel
theorem d1_9 : decode prog_75_method_1_code 9 = .ok (.aload_n 0, 1) := by decide +kernel
theorem d1_10 : decode prog_75_method_1_code 10 = .ok (.lload_n 3, 1) := by decide +kernel
theorem d1_11 : decode prog_75_method_1_code 11 = .ok (.putfield 13, 3) := by decide +kernel
theorem d1_14 : decode prog_75_method_1_code 14 = .ok (.return_, 1) := by decide +kernel
theorem pn47812426 : plainName "com/example/strict_pdp/strictpdp/expression/ThreeValued$Count" = true := by first | (simp [plainName, overriddenIn]; done) | decide +kernel
theorem ef_1 (m : MethodId) (a0 : Addr) (q1 : Int64) (q2 : Int64) : entryFrame m #[(.ref a0), (.long q1), (.long q2)] 5 = mkF m 0 #[.val (.ref a0), .val (.long q1), .second, .val (.long q2), .second] [] := by first | (simp [entryFrame, mkF, argsToLocals, Value.category]; done) | rfl
def Q1 (Z : State) (a0 : Addr) (q1 : Int64) (q2 : Int64) (u_required : Int64) (u_allowedFalse : Int64) (u_falses : Int64) (u_trues : Int64) (h0 : Heap) (n0 : Nat) (v : Option Value) (h : Heap) (L : List Loc) : Prop := v = none ∧ Fr n0 L ∧ Keep h0 h [a0] ∧ Exa Z h a0 "com/example/strict_pdp/strictpdp/expression/ThreeValued$Count" ∧ Fld Z h a0 "com/example/strict_pdp/strictpdp/expression/ThreeValued$Count" "required" "J" (.long q1) ∧ Fld Z h a0 "com/example/strict_pdp/strictpdp/expression/ThreeValued$Count" "allowedFalse" "J" (.long q2) ∧ Fld Z h a0 "com/example/strict_pdp/strictpdp/expression/ThreeValued$Count" "falses" "J" (.long u_falses) ∧ Fld Z h a0 "com/example/strict_pdp/strictpdp/expression/ThreeValued$Count" "trues" "J" (.long u_trues)
set_option maxRecDepth 65536 in
set_option maxHeartbeats 40000000 in
theorem rm1 (l : Launch) (Z : State) (aq : Array Value) (hw : ∀ d ∈ tables_1, d.before aq Z = true) (ws : List Jvm.Cond) (a0 : Addr) (q1 : Int64) (q2 : Int64) (u_required : Int64) (u_allowedFalse : Int64) (u_falses : Int64) (u_trues : Int64) (h0 : Heap) (n0 : Nat) (Z0 : n0 ≤ h0.size) (E_a0 : Exa Z h0 a0 "com/example/strict_pdp/strictpdp/expression/ThreeValued$Count") (F_required : Fld Z h0 a0 "com/example/strict_pdp/strictpdp/expression/ThreeValued$Count" "required" "J" (.long u_required)) (F_allowedFalse : Fld Z h0 a0 "com/example/strict_pdp/strictpdp/expression/ThreeValued$Count" "allowedFalse" "J" (.long u_allowedFalse)) (F_falses : Fld Z h0 a0 "com/example/strict_pdp/strictpdp/expression/ThreeValued$Count" "falses" "J" (.long u_falses)) (F_trues : Fld Z h0 a0 "com/example/strict_pdp/strictpdp/expression/ThreeValued$Count" "trues" "J" (.long u_trues)) (g_a0 : n0 ≤ a0) :
    MetFree l (⟨"com/example/strict_pdp/strictpdp/expression/ThreeValued$Count", "<init>", "(JJ)V"⟩ : MethodName) (head1 (Jvm.Cond.code (⟨"com/example/strict_pdp/strictpdp/expression/ThreeValued$Count", "<init>", "(JJ)V"⟩ : MethodName) prog_75_method_1_code 5 none :: ws) ({ frames := 1, cells := 0, slots := 0, locals := 12 } : Room)) (fun a U => a = #[(.ref a0), (.long q1), (.long q2)] ∧ Z.Warmed39 U.vm ∧ U.heap = h0) (fun _ _ _ _ _ => True) (fun _ U o U' => ∃ v L, o = .returned v ∧ Q1 Z a0 q1 q2 u_required u_allowedFalse u_falses u_trues h0 n0 v U'.heap L ∧ FrameEnd U o U' L ({ frames := 1, cells := 0, slots := 0, locals := 12 } : Room).cells ({ frames := 1, cells := 0, slots := 0, locals := 12 } : Room).slots) := by
  refine MetFree.of_bodySF (plainFor_of_name pn47812426) hisR ?_
  intro p e s m args below meth c s₁ Bd hml0 hP hK
  obtain ⟨rfl, hZ, hh⟩ := hP
  have hx := Bd.exec
  have hby := Bd.bytes
  have hml : c.maxLocals = 5 := hml0
  have hown : s.vm.findClass "com/example/strict_pdp/strictpdp/expression/ThreeValued$Count" = some m.cls := findClass_of_methodNamed Bd.named
  have hnm := (name_of_methodNamed Bd.named Bd.method).1
  have X0 : Stand p l e ({ frames := 1, cells := 0, slots := 0, locals := 12 } : Room) s m #[(.ref a0), (.long q1), (.long q2)] below meth c s₁ [] 0 0 := Stand.of_body Bd
  have e0 : s₁.heap = h0 := by rw [← hh, Bd.state]; rfl
  have N0 := Fr.nil n0
  have K0 : Keep h0 h0 [a0] := Keep.refl _ _
  have pre0 : ∀ t, Steps p.tables e below (s₁.setTop (mkF m 0 #[.val (.ref a0), .val (.long q1), .second, .val (.long q2), .second] [])) t → Steps p.tables e below (s₁.setTop (entryFrame m #[(.ref a0), (.long q1), (.long q2)] 5)) t := fun t k => castTop (ef_1 m a0 q1 q2) k
  obtain ⟨T20, X20, e20, st20⟩ := initO X0 hx hZ hown (hw _ (List.mem_of_getElem? (i := 6) rfl)) (hw _ (List.mem_of_getElem? (i := 7) rfl)) (hw _ (List.mem_of_getElem? (i := 8) rfl)) e0 (g := (mkF m 1 #[.val (.ref a0), .val (.long q1), .second, .val (.long q2), .second] [(.ref a0)])) rfl (by rw [hml]; rfl) rfl (hb hby d1_1) (by decide) (W := 0) (by show 2 * 0 + _ ≤ _; exact Nat.le_of_eq rfl) (by decide)
  obtain ⟨T21, h21, X21, e21, W21, st21⟩ := putF X20 hx hZ hown (host := "") (Or.inl (hw _ (List.mem_of_getElem? (i := 9) rfl))) Via.refl e20 F_required E_a0 (Or.inr ⟨(hw _ (List.mem_of_getElem? (i := 10) rfl)), rfl, hnm⟩) (hw _ (List.mem_of_getElem? (i := 1) rfl)) (ty := .long) (by decide) rfl rfl (g := (mkF m 6 #[.val (.ref a0), .val (.long q1), .second, .val (.long q2), .second] [(.long q1), (.ref a0)])) rfl rfl (hb hby d1_6)
  have E22 := E_a0.wr W21
  have F23 : Fld Z h21 a0 "com/example/strict_pdp/strictpdp/expression/ThreeValued$Count" "required" "J" (.long q1) := F_required.same W21
  have F24 := F_allowedFalse.other W21 (Or.inr (slot_ne (Or.inr (hw _ (List.mem_of_getElem? (i := 12) rfl))) (Or.inr (hw _ (List.mem_of_getElem? (i := 10) rfl))) (by decide) (t := .long) (t' := .long) (by decide) (by decide)))
  have F25 := F_falses.other W21 (Or.inr (slot_ne (Or.inl (hw _ (List.mem_of_getElem? (i := 19) rfl))) (Or.inr (hw _ (List.mem_of_getElem? (i := 10) rfl))) (by decide) (t := .long) (t' := .long) (by decide) (by decide)))
  have F26 := F_trues.other W21 (Or.inr (slot_ne (Or.inl (hw _ (List.mem_of_getElem? (i := 30) rfl))) (Or.inr (hw _ (List.mem_of_getElem? (i := 10) rfl))) (by decide) (t := .long) (t' := .long) (by decide) (by decide)))
  have N27 := Fr.snoc X21 N0 g_a0
  have K28 : Keep h0 h21 [a0] := K0.wr W21 (Or.inl (List.mem_of_getElem? (i := 0) rfl))
  have Z29 : n0 ≤ h21.size := Nat.le_trans Z0 (Keep.of_wr W21).1
  obtain ⟨T30, h30, X30, e30, W30, st30⟩ := putF X21 hx hZ hown (host := "") (Or.inl (hw _ (List.mem_of_getElem? (i := 11) rfl))) Via.refl e21 F24 E22 (Or.inr ⟨(hw _ (List.mem_of_getElem? (i := 12) rfl)), rfl, hnm⟩) (hw _ (List.mem_of_getElem? (i := 1) rfl)) (ty := .long) (by decide) rfl rfl (g := (mkF m 11 #[.val (.ref a0), .val (.long q1), .second, .val (.long q2), .second] [(.long q2), (.ref a0)])) rfl rfl (hb hby d1_11)
  have E31 := E22.wr W30
  have F32 := F23.other W30 (Or.inr (slot_ne (Or.inr (hw _ (List.mem_of_getElem? (i := 10) rfl))) (Or.inr (hw _ (List.mem_of_getElem? (i := 12) rfl))) (by decide) (t := .long) (t' := .long) (by decide) (by decide)))
  have F33 : Fld Z h30 a0 "com/example/strict_pdp/strictpdp/expression/ThreeValued$Count" "allowedFalse" "J" (.long q2) := F24.same W30
  have F34 := F25.other W30 (Or.inr (slot_ne (Or.inl (hw _ (List.mem_of_getElem? (i := 19) rfl))) (Or.inr (hw _ (List.mem_of_getElem? (i := 12) rfl))) (by decide) (t := .long) (t' := .long) (by decide) (by decide)))
  have F35 := F26.other W30 (Or.inr (slot_ne (Or.inl (hw _ (List.mem_of_getElem? (i := 30) rfl))) (Or.inr (hw _ (List.mem_of_getElem? (i := 12) rfl))) (by decide) (t := .long) (t' := .long) (by decide) (by decide)))
  have N36 := Fr.snoc X30 N27 g_a0
  have K37 : Keep h0 h30 [a0] := K28.wr W30 (Or.inl (List.mem_of_getElem? (i := 0) rfl))
  have Z38 : n0 ≤ h30.size := Nat.le_trans Z29 (Keep.of_wr W30).1
  have pre39 : ∀ t, Steps p.tables e below (T30.setTop (mkF m 14 #[.val (.ref a0), .val (.long q1), .second, .val (.long q2), .second] [])) t → Steps p.tables e below (s₁.setTop (entryFrame m #[(.ref a0), (.long q1), (.long q2)] 5)) t := fun t kt => by
    refine pre0 _ ?_
    show Steps p.tables e below (s₁.setTop (mkF m 0 #[.val (.ref a0), .val (.long q1), .second, .val (.long q2), .second] [])) _
    refine XS.aloadN X0.here hx rfl (hb hby d1_0) rfl rfl ?_
    show Steps p.tables e below (s₁.setTop (mkF m 1 #[.val (.ref a0), .val (.long q1), .second, .val (.long q2), .second] [(.ref a0)])) _
    refine st20 _ ?_
    show Steps p.tables e below (T20.setTop (mkF m 4 #[.val (.ref a0), .val (.long q1), .second, .val (.long q2), .second] [])) _
    refine XS.aloadN X20.here hx rfl (hb hby d1_4) rfl rfl ?_
    show Steps p.tables e below (T20.setTop (mkF m 5 #[.val (.ref a0), .val (.long q1), .second, .val (.long q2), .second] [(.ref a0)])) _
    refine XS.lloadN X20.here hx rfl (hb hby d1_5) rfl ?_
    show Steps p.tables e below (T20.setTop (mkF m 6 #[.val (.ref a0), .val (.long q1), .second, .val (.long q2), .second] [(.long q1), (.ref a0)])) _
    refine st21 _ ?_
    show Steps p.tables e below (T21.setTop (mkF m 9 #[.val (.ref a0), .val (.long q1), .second, .val (.long q2), .second] [])) _
    refine XS.aloadN X21.here hx rfl (hb hby d1_9) rfl rfl ?_
    show Steps p.tables e below (T21.setTop (mkF m 10 #[.val (.ref a0), .val (.long q1), .second, .val (.long q2), .second] [(.ref a0)])) _
    refine XS.lloadN X21.here hx rfl (hb hby d1_10) rfl ?_
    show Steps p.tables e below (T21.setTop (mkF m 11 #[.val (.ref a0), .val (.long q1), .second, .val (.long q2), .second] [(.long q2), (.ref a0)])) _
    refine st30 _ ?_
    show Steps p.tables e below (T30.setTop (mkF m 14 #[.val (.ref a0), .val (.long q1), .second, .val (.long q2), .second] [])) _
    exact kt
  obtain ⟨fs, hr, hrun, hended, hW, hsame⟩ := X30.leave (v := none) (fun _ => rfl)
  refine ⟨_, _, pre39 _ ?_, hrun, hended, _, _, rfl, ?_, ⟨_, rfl⟩, hW, hsame.mono (by decide) (by decide)⟩
  · exact X30.returnOut hx Bd.returns (hb hby d1_14) hr
  · show Q1 Z a0 q1 q2 u_required u_allowedFalse u_falses u_trues h0 n0 _ T30.heap _
    rw [e30]
    exact ⟨rfl, N36, K37, E31, F32, F33, F34, F35⟩
theorem d3_0 : decode prog_75_method_3_code 0 = .ok (.iload_n 1, 1) := by decide +kernel
theorem d3_1 : decode prog_75_method_3_code 1 = .ok (.ifCond .eq 16, 3) := by decide +kernel
theorem d3_4 : decode prog_75_method_3_code 4 = .ok (.aload_n 0, 1) := by decide +kernel
theorem d3_5 : decode prog_75_method_3_code 5 = .ok (.dup, 1) := by decide +kernel
theorem d3_6 : decode prog_75_method_3_code 6 = .ok (.getfield 16, 3) := by decide +kernel
theorem d3_9 : decode prog_75_method_3_code 9 = .ok (.lconst 1, 1) := by decide +kernel
theorem d3_10 : decode prog_75_method_3_code 10 = .ok (.ladd, 1) := by decide +kernel
theorem d3_11 : decode prog_75_method_3_code 11 = .ok (.putfield 16, 3) := by decide +kernel
theorem d3_14 : decode prog_75_method_3_code 14 = .ok (.goto 13, 3) := by decide +kernel
theorem d3_17 : decode prog_75_method_3_code 17 = .ok (.aload_n 0, 1) := by decide +kernel
theorem d3_18 : decode prog_75_method_3_code 18 = .ok (.dup, 1) := by decide +kernel
theorem d3_19 : decode prog_75_method_3_code 19 = .ok (.getfield 19, 3) := by decide +kernel
theorem d3_22 : decode prog_75_method_3_code 22 = .ok (.lconst 1, 1) := by decide +kernel
theorem d3_23 : decode prog_75_method_3_code 23 = .ok (.ladd, 1) := by decide +kernel
theorem d3_24 : decode prog_75_method_3_code 24 = .ok (.putfield 19, 3) := by decide +kernel
theorem d3_27 : decode prog_75_method_3_code 27 = .ok (.return_, 1) := by decide +kernel
theorem ef_3 (m : MethodId) (a0 : Addr) (p1 : Int32) : entryFrame m #[(.ref a0), (.int p1)] 2 = mkF m 0 #[.val (.ref a0), .val (.int p1)] [] := by first | (simp [entryFrame, mkF, argsToLocals, Value.category]; done) | rfl
def Q3 (Z : State) (a0 : Addr) (p1 : Int32) (u_required : Int64) (u_allowedFalse : Int64) (u_falses : Int64) (u_trues : Int64) (h0 : Heap) (n0 : Nat) (v : Option Value) (h : Heap) (L : List Loc) : Prop := v = none ∧ Fr n0 L ∧ Keep h0 h [a0] ∧ Exa Z h a0 "com/example/strict_pdp/strictpdp/expression/ThreeValued$Count" ∧ Fld Z h a0 "com/example/strict_pdp/strictpdp/expression/ThreeValued$Count" "required" "J" (.long u_required) ∧ Fld Z h a0 "com/example/strict_pdp/strictpdp/expression/ThreeValued$Count" "allowedFalse" "J" (.long u_allowedFalse) ∧ Fld Z h a0 "com/example/strict_pdp/strictpdp/expression/ThreeValued$Count" "falses" "J" (.long (if p1 = (0 : Int32) then (u_falses + (1 : Int64)) else u_falses)) ∧ Fld Z h a0 "com/example/strict_pdp/strictpdp/expression/ThreeValued$Count" "trues" "J" (.long (if p1 = (0 : Int32) then u_trues else (u_trues + (1 : Int64))))
set_option maxRecDepth 65536 in
set_option maxHeartbeats 40000000 in
theorem rm3 (l : Launch) (Z : State) (aq : Array Value) (hw : ∀ d ∈ tables_1, d.before aq Z = true) (ws : List Jvm.Cond) (a0 : Addr) (p1 : Int32) (u_required : Int64) (u_allowedFalse : Int64) (u_falses : Int64) (u_trues : Int64) (h0 : Heap) (n0 : Nat) (Z0 : n0 ≤ h0.size) (E_a0 : Exa Z h0 a0 "com/example/strict_pdp/strictpdp/expression/ThreeValued$Count") (F_required : Fld Z h0 a0 "com/example/strict_pdp/strictpdp/expression/ThreeValued$Count" "required" "J" (.long u_required)) (F_allowedFalse : Fld Z h0 a0 "com/example/strict_pdp/strictpdp/expression/ThreeValued$Count" "allowedFalse" "J" (.long u_allowedFalse)) (F_falses : Fld Z h0 a0 "com/example/strict_pdp/strictpdp/expression/ThreeValued$Count" "falses" "J" (.long u_falses)) (F_trues : Fld Z h0 a0 "com/example/strict_pdp/strictpdp/expression/ThreeValued$Count" "trues" "J" (.long u_trues)) (g_a0 : n0 ≤ a0) :
    MetFree l (⟨"com/example/strict_pdp/strictpdp/expression/ThreeValued$Count", "add", "(Z)V"⟩ : MethodName) (head1 (Jvm.Cond.code (⟨"com/example/strict_pdp/strictpdp/expression/ThreeValued$Count", "add", "(Z)V"⟩ : MethodName) prog_75_method_3_code 2 none :: ws) ({ frames := 0, cells := 0, slots := 0, locals := 0 } : Room)) (fun a U => a = #[(.ref a0), (.int p1)] ∧ Z.Warmed39 U.vm ∧ U.heap = h0) (fun _ _ _ _ _ => True) (fun _ U o U' => ∃ v L, o = .returned v ∧ Q3 Z a0 p1 u_required u_allowedFalse u_falses u_trues h0 n0 v U'.heap L ∧ FrameEnd U o U' L ({ frames := 0, cells := 0, slots := 0, locals := 0 } : Room).cells ({ frames := 0, cells := 0, slots := 0, locals := 0 } : Room).slots) := by
  refine MetFree.of_bodySF (plainFor_of_name pn47812426) hisR ?_
  intro p e s m args below meth c s₁ Bd hml0 hP hK
  obtain ⟨rfl, hZ, hh⟩ := hP
  have hx := Bd.exec
  have hby := Bd.bytes
  have hml : c.maxLocals = 2 := hml0
  have hown : s.vm.findClass "com/example/strict_pdp/strictpdp/expression/ThreeValued$Count" = some m.cls := findClass_of_methodNamed Bd.named
  have hnm := (name_of_methodNamed Bd.named Bd.method).1
  have X0 : Stand p l e ({ frames := 0, cells := 0, slots := 0, locals := 0 } : Room) s m #[(.ref a0), (.int p1)] below meth c s₁ [] 0 0 := Stand.of_body Bd
  have e0 : s₁.heap = h0 := by rw [← hh, Bd.state]; rfl
  have N0 := Fr.nil n0
  have K0 : Keep h0 h0 [a0] := Keep.refl _ _
  have pre0 : ∀ t, Steps p.tables e below (s₁.setTop (mkF m 0 #[.val (.ref a0), .val (.int p1)] [])) t → Steps p.tables e below (s₁.setTop (entryFrame m #[(.ref a0), (.int p1)] 2)) t := fun t k => castTop (ef_3 m a0 p1) k
  have pre62 : ∀ t, Steps p.tables e below (s₁.setTop (mkF m 1 #[.val (.ref a0), .val (.int p1)] [(.int p1)])) t → Steps p.tables e below (s₁.setTop (entryFrame m #[(.ref a0), (.int p1)] 2)) t := fun t kt => by
    refine pre0 _ ?_
    show Steps p.tables e below (s₁.setTop (mkF m 0 #[.val (.ref a0), .val (.int p1)] [])) _
    refine XS.iloadN X0.here hx rfl (hb hby d3_0) rfl ?_
    show Steps p.tables e below (s₁.setTop (mkF m 1 #[.val (.ref a0), .val (.int p1)] [(.int p1)])) _
    exact kt
  by_cases hc63 : p1 = (0 : Int32)
  · skip
    obtain ⟨T64, X64, e64, st64⟩ := getF X0 hx hZ hown (host := "") (Or.inl (hw _ (List.mem_of_getElem? (i := 18) rfl))) Via.refl e0 F_falses (g := (mkF m 19 #[.val (.ref a0), .val (.int p1)] [(.ref a0), (.ref a0)])) rfl rfl (hb hby d3_19)
    obtain ⟨T65, h65, X65, e65, W65, st65⟩ := putF X64 hx hZ hown (host := "") (Or.inl (hw _ (List.mem_of_getElem? (i := 18) rfl))) Via.refl e64 F_falses E_a0 (Or.inl (hw _ (List.mem_of_getElem? (i := 19) rfl))) (hw _ (List.mem_of_getElem? (i := 1) rfl)) (ty := .long) (by decide) rfl rfl (g := (mkF m 24 #[.val (.ref a0), .val (.int p1)] [(.long (u_falses + (1 : Int64))), (.ref a0)])) rfl rfl (hb hby d3_24)
    have E66 := E_a0.wr W65
    have F67 := F_required.other W65 (Or.inr (slot_ne (Or.inr (hw _ (List.mem_of_getElem? (i := 10) rfl))) (Or.inl (hw _ (List.mem_of_getElem? (i := 19) rfl))) (by decide) (t := .long) (t' := .long) (by decide) (by decide)))
    have F68 := F_allowedFalse.other W65 (Or.inr (slot_ne (Or.inr (hw _ (List.mem_of_getElem? (i := 12) rfl))) (Or.inl (hw _ (List.mem_of_getElem? (i := 19) rfl))) (by decide) (t := .long) (t' := .long) (by decide) (by decide)))
    have F69 : Fld Z h65 a0 "com/example/strict_pdp/strictpdp/expression/ThreeValued$Count" "falses" "J" (.long (u_falses + (1 : Int64))) := F_falses.same W65
    have F70 := F_trues.other W65 (Or.inr (slot_ne (Or.inl (hw _ (List.mem_of_getElem? (i := 30) rfl))) (Or.inl (hw _ (List.mem_of_getElem? (i := 19) rfl))) (by decide) (t := .long) (t' := .long) (by decide) (by decide)))
    have N71 := Fr.snoc X65 N0 g_a0
    have K72 : Keep h0 h65 [a0] := K0.wr W65 (Or.inl (List.mem_of_getElem? (i := 0) rfl))
    have Z73 : n0 ≤ h65.size := Nat.le_trans Z0 (Keep.of_wr W65).1
    have pre74 : ∀ t, Steps p.tables e below (T65.setTop (mkF m 27 #[.val (.ref a0), .val (.int p1)] [])) t → Steps p.tables e below (s₁.setTop (entryFrame m #[(.ref a0), (.int p1)] 2)) t := fun t kt => by
      refine pre62 _ ?_
      show Steps p.tables e below (s₁.setTop (mkF m 1 #[.val (.ref a0), .val (.int p1)] [(.int p1)])) _
      refine XS.ifYes X0.here hx rfl (pc0 := 1) (pc' := 17) rfl (hb hby d3_1) rfl ((if0 _ _).trans (teq hc63).1) (by decide) (by decide) ?_
      show Steps p.tables e below (s₁.setTop (mkF m 17 #[.val (.ref a0), .val (.int p1)] [])) _
      refine XS.aloadN X0.here hx rfl (hb hby d3_17) rfl rfl ?_
      show Steps p.tables e below (s₁.setTop (mkF m 18 #[.val (.ref a0), .val (.int p1)] [(.ref a0)])) _
      refine XS.dup X0.here hx rfl (hb hby d3_18) rfl rfl ?_
      show Steps p.tables e below (s₁.setTop (mkF m 19 #[.val (.ref a0), .val (.int p1)] [(.ref a0), (.ref a0)])) _
      refine st64 _ ?_
      show Steps p.tables e below (T64.setTop (mkF m 22 #[.val (.ref a0), .val (.int p1)] [(.long u_falses), (.ref a0)])) _
      refine XS.lconst X64.here hx rfl (hb hby d3_22) ?_
      show Steps p.tables e below (T64.setTop (mkF m 23 #[.val (.ref a0), .val (.int p1)] [(.long (1 : Int64)), (.long u_falses), (.ref a0)])) _
      refine XS.ladd X64.here hx rfl (hb hby d3_23) rfl ?_
      show Steps p.tables e below (T64.setTop (mkF m 24 #[.val (.ref a0), .val (.int p1)] [(.long (u_falses + (1 : Int64))), (.ref a0)])) _
      refine st65 _ ?_
      show Steps p.tables e below (T65.setTop (mkF m 27 #[.val (.ref a0), .val (.int p1)] [])) _
      exact kt
    obtain ⟨fs, hr, hrun, hended, hW, hsame⟩ := X65.leave (v := none) (fun _ => rfl)
    refine ⟨_, _, pre74 _ ?_, hrun, hended, _, _, rfl, ?_, ⟨_, rfl⟩, hW, hsame.mono (by decide) (by decide)⟩
    · exact X65.returnOut hx Bd.returns (hb hby d3_27) hr
    · show Q3 Z a0 p1 u_required u_allowedFalse u_falses u_trues h0 n0 _ T65.heap _
      rw [e65]
      exact ⟨rfl, N71, K72, E66, F67, F68, (own_F (congrArg Value.long (by rw [if_pos hc63] : (u_falses + (1 : Int64)) = (if p1 = (0 : Int32) then (u_falses + (1 : Int64)) else u_falses))) F69), (own_F (congrArg Value.long (by rw [if_pos hc63] : u_trues = (if p1 = (0 : Int32) then u_trues else (u_trues + (1 : Int64))))) F70)⟩
  · skip
    obtain ⟨T75, X75, e75, st75⟩ := getF X0 hx hZ hown (host := "") (Or.inl (hw _ (List.mem_of_getElem? (i := 29) rfl))) Via.refl e0 F_trues (g := (mkF m 6 #[.val (.ref a0), .val (.int p1)] [(.ref a0), (.ref a0)])) rfl rfl (hb hby d3_6)
    obtain ⟨T76, h76, X76, e76, W76, st76⟩ := putF X75 hx hZ hown (host := "") (Or.inl (hw _ (List.mem_of_getElem? (i := 29) rfl))) Via.refl e75 F_trues E_a0 (Or.inl (hw _ (List.mem_of_getElem? (i := 30) rfl))) (hw _ (List.mem_of_getElem? (i := 1) rfl)) (ty := .long) (by decide) rfl rfl (g := (mkF m 11 #[.val (.ref a0), .val (.int p1)] [(.long (u_trues + (1 : Int64))), (.ref a0)])) rfl rfl (hb hby d3_11)
    have E77 := E_a0.wr W76
    have F78 := F_required.other W76 (Or.inr (slot_ne (Or.inr (hw _ (List.mem_of_getElem? (i := 10) rfl))) (Or.inl (hw _ (List.mem_of_getElem? (i := 30) rfl))) (by decide) (t := .long) (t' := .long) (by decide) (by decide)))
    have F79 := F_allowedFalse.other W76 (Or.inr (slot_ne (Or.inr (hw _ (List.mem_of_getElem? (i := 12) rfl))) (Or.inl (hw _ (List.mem_of_getElem? (i := 30) rfl))) (by decide) (t := .long) (t' := .long) (by decide) (by decide)))
    have F80 := F_falses.other W76 (Or.inr (slot_ne (Or.inl (hw _ (List.mem_of_getElem? (i := 19) rfl))) (Or.inl (hw _ (List.mem_of_getElem? (i := 30) rfl))) (by decide) (t := .long) (t' := .long) (by decide) (by decide)))
    have F81 : Fld Z h76 a0 "com/example/strict_pdp/strictpdp/expression/ThreeValued$Count" "trues" "J" (.long (u_trues + (1 : Int64))) := F_trues.same W76
    have N82 := Fr.snoc X76 N0 g_a0
    have K83 : Keep h0 h76 [a0] := K0.wr W76 (Or.inl (List.mem_of_getElem? (i := 0) rfl))
    have Z84 : n0 ≤ h76.size := Nat.le_trans Z0 (Keep.of_wr W76).1
    have pre85 : ∀ t, Steps p.tables e below (T76.setTop (mkF m 27 #[.val (.ref a0), .val (.int p1)] [])) t → Steps p.tables e below (s₁.setTop (entryFrame m #[(.ref a0), (.int p1)] 2)) t := fun t kt => by
      refine pre62 _ ?_
      show Steps p.tables e below (s₁.setTop (mkF m 1 #[.val (.ref a0), .val (.int p1)] [(.int p1)])) _
      refine XS.ifNo X0.here hx rfl (hb hby d3_1) rfl ((if0 _ _).trans (feq hc63).1) ?_
      show Steps p.tables e below (s₁.setTop (mkF m 4 #[.val (.ref a0), .val (.int p1)] [])) _
      refine XS.aloadN X0.here hx rfl (hb hby d3_4) rfl rfl ?_
      show Steps p.tables e below (s₁.setTop (mkF m 5 #[.val (.ref a0), .val (.int p1)] [(.ref a0)])) _
      refine XS.dup X0.here hx rfl (hb hby d3_5) rfl rfl ?_
      show Steps p.tables e below (s₁.setTop (mkF m 6 #[.val (.ref a0), .val (.int p1)] [(.ref a0), (.ref a0)])) _
      refine st75 _ ?_
      show Steps p.tables e below (T75.setTop (mkF m 9 #[.val (.ref a0), .val (.int p1)] [(.long u_trues), (.ref a0)])) _
      refine XS.lconst X75.here hx rfl (hb hby d3_9) ?_
      show Steps p.tables e below (T75.setTop (mkF m 10 #[.val (.ref a0), .val (.int p1)] [(.long (1 : Int64)), (.long u_trues), (.ref a0)])) _
      refine XS.ladd X75.here hx rfl (hb hby d3_10) rfl ?_
      show Steps p.tables e below (T75.setTop (mkF m 11 #[.val (.ref a0), .val (.int p1)] [(.long (u_trues + (1 : Int64))), (.ref a0)])) _
      refine st76 _ ?_
      show Steps p.tables e below (T76.setTop (mkF m 14 #[.val (.ref a0), .val (.int p1)] [])) _
      refine XS.goto X76.here hx rfl (pc0 := 14) (pc' := 27) rfl (hb hby d3_14) (by decide) (by decide) ?_
      show Steps p.tables e below (T76.setTop (mkF m 27 #[.val (.ref a0), .val (.int p1)] [])) _
      exact kt
    obtain ⟨fs, hr, hrun, hended, hW, hsame⟩ := X76.leave (v := none) (fun _ => rfl)
    refine ⟨_, _, pre85 _ ?_, hrun, hended, _, _, rfl, ?_, ⟨_, rfl⟩, hW, hsame.mono (by decide) (by decide)⟩
    · exact X76.returnOut hx Bd.returns (hb hby d3_27) hr
    · show Q3 Z a0 p1 u_required u_allowedFalse u_falses u_trues h0 n0 _ T76.heap _
      rw [e76]
      exact ⟨rfl, N82, K83, E77, F78, F79, (own_F (congrArg Value.long (by rw [if_neg hc63] : u_falses = (if p1 = (0 : Int32) then (u_falses + (1 : Int64)) else u_falses))) F80), (own_F (congrArg Value.long (by rw [if_neg hc63] : (u_trues + (1 : Int64)) = (if p1 = (0 : Int32) then u_trues else (u_trues + (1 : Int64))))) F81)⟩
theorem d4_0 : decode method_2_code 0 = .ok (.iload_n 1, 1) := by decide +kernel
theorem d4_1 : decode method_2_code 1 = .ok (.iload_n 2, 1) := by decide +kernel
theorem d4_2 : decode method_2_code 2 = .ok (.if_icmp .ge 13, 3) := by decide +kernel
theorem d4_5 : decode method_2_code 5 = .ok (.iload_n 0, 1) := by decide +kernel
theorem d4_6 : decode method_2_code 6 = .ok (.iload_n 1, 1) := by decide +kernel
theorem d4_7 : decode method_2_code 7 = .ok (.iushr, 1) := by decide +kernel
theorem d4_8 : decode method_2_code 8 = .ok (.iconst 1, 1) := by decide +kernel
theorem d4_9 : decode method_2_code 9 = .ok (.iand, 1) := by decide +kernel
theorem d4_10 : decode method_2_code 10 = .ok (.ifCond .eq 5, 3) := by decide +kernel
theorem d4_13 : decode method_2_code 13 = .ok (.lconst 1, 1) := by decide +kernel
theorem d4_14 : decode method_2_code 14 = .ok (.lreturn, 1) := by decide +kernel
theorem d4_15 : decode method_2_code 15 = .ok (.lconst 0, 1) := by decide +kernel
theorem d4_16 : decode method_2_code 16 = .ok (.lreturn, 1) := by decide +kernel
theorem pn68141061 : plainName "com/example/strict_pdp/strictpdp/expression/CountKnownPinLaw" = true := by first | (simp [plainName, overriddenIn]; done) | decide +kernel
theorem ef_4 (m : MethodId) (p0 : Int32) (p1 : Int32) (p2 : Int32) : entryFrame m #[(.int p0), (.int p1), (.int p2)] 3 = mkF m 0 #[.val (.int p0), .val (.int p1), .val (.int p2)] [] := by first | (simp [entryFrame, mkF, argsToLocals, Value.category]; done) | rfl
def Q4 (Z : State) (p0 : Int32) (p1 : Int32) (p2 : Int32) (h0 : Heap) (n0 : Nat) (v : Option Value) (h : Heap) (L : List Loc) : Prop := v = some (.long (if p1 < p2 then (if (((p0.toUInt32 >>> (p1 &&& 31).toUInt32).toInt32) &&& (1 : Int32)) = (0 : Int32) then (0 : Int64) else (1 : Int64)) else (0 : Int64))) ∧ Fr n0 L ∧ h = h0
set_option maxRecDepth 65536 in
set_option maxHeartbeats 40000000 in
theorem rm4 (l : Launch) (Z : State) (aq : Array Value) (hw : ∀ d ∈ tables_1, d.before aq Z = true) (ws : List Jvm.Cond) (p0 : Int32) (p1 : Int32) (p2 : Int32) (h0 : Heap) (n0 : Nat) (Z0 : n0 ≤ h0.size) :
    MetFree l (⟨"com/example/strict_pdp/strictpdp/expression/CountKnownPinLaw", "bit", "(III)J"⟩ : MethodName) (head1 (Jvm.Cond.code (⟨"com/example/strict_pdp/strictpdp/expression/CountKnownPinLaw", "bit", "(III)J"⟩ : MethodName) method_2_code 3 (some .long) :: ws) ({ frames := 0, cells := 0, slots := 0, locals := 0 } : Room)) (fun a U => a = #[(.int p0), (.int p1), (.int p2)] ∧ Z.Warmed39 U.vm ∧ U.heap = h0) (fun _ _ _ _ _ => True) (fun _ U o U' => ∃ v L, o = .returned v ∧ Q4 Z p0 p1 p2 h0 n0 v U'.heap L ∧ FrameEnd U o U' L ({ frames := 0, cells := 0, slots := 0, locals := 0 } : Room).cells ({ frames := 0, cells := 0, slots := 0, locals := 0 } : Room).slots) := by
  refine MetFree.of_bodySF (plainFor_of_name pn68141061) hisR ?_
  intro p e s m args below meth c s₁ Bd hml0 hP hK
  obtain ⟨rfl, hZ, hh⟩ := hP
  have hx := Bd.exec
  have hby := Bd.bytes
  have hml : c.maxLocals = 3 := hml0
  have hown : s.vm.findClass "com/example/strict_pdp/strictpdp/expression/CountKnownPinLaw" = some m.cls := findClass_of_methodNamed Bd.named
  have hnm := (name_of_methodNamed Bd.named Bd.method).1
  have X0 : Stand p l e ({ frames := 0, cells := 0, slots := 0, locals := 0 } : Room) s m #[(.int p0), (.int p1), (.int p2)] below meth c s₁ [] 0 0 := Stand.of_body Bd
  have e0 : s₁.heap = h0 := by rw [← hh, Bd.state]; rfl
  have N0 := Fr.nil n0
  have pre0 : ∀ t, Steps p.tables e below (s₁.setTop (mkF m 0 #[.val (.int p0), .val (.int p1), .val (.int p2)] [])) t → Steps p.tables e below (s₁.setTop (entryFrame m #[(.int p0), (.int p1), (.int p2)] 3)) t := fun t k => castTop (ef_4 m p0 p1 p2) k
  have pre90 : ∀ t, Steps p.tables e below (s₁.setTop (mkF m 2 #[.val (.int p0), .val (.int p1), .val (.int p2)] [(.int p2), (.int p1)])) t → Steps p.tables e below (s₁.setTop (entryFrame m #[(.int p0), (.int p1), (.int p2)] 3)) t := fun t kt => by
    refine pre0 _ ?_
    show Steps p.tables e below (s₁.setTop (mkF m 0 #[.val (.int p0), .val (.int p1), .val (.int p2)] [])) _
    refine XS.iloadN X0.here hx rfl (hb hby d4_0) rfl ?_
    show Steps p.tables e below (s₁.setTop (mkF m 1 #[.val (.int p0), .val (.int p1), .val (.int p2)] [(.int p1)])) _
    refine XS.iloadN X0.here hx rfl (hb hby d4_1) rfl ?_
    show Steps p.tables e below (s₁.setTop (mkF m 2 #[.val (.int p0), .val (.int p1), .val (.int p2)] [(.int p2), (.int p1)])) _
    exact kt
  by_cases hc91 : p1 < p2
  · skip
    have pre92 : ∀ t, Steps p.tables e below (s₁.setTop (mkF m 10 #[.val (.int p0), .val (.int p1), .val (.int p2)] [(.int (((p0.toUInt32 >>> (p1 &&& 31).toUInt32).toInt32) &&& (1 : Int32)))])) t → Steps p.tables e below (s₁.setTop (entryFrame m #[(.int p0), (.int p1), (.int p2)] 3)) t := fun t kt => by
      refine pre90 _ ?_
      show Steps p.tables e below (s₁.setTop (mkF m 2 #[.val (.int p0), .val (.int p1), .val (.int p2)] [(.int p2), (.int p1)])) _
      refine XS.icmpNo X0.here hx rfl (hb hby d4_2) rfl (tlt hc91).2.1 ?_
      show Steps p.tables e below (s₁.setTop (mkF m 5 #[.val (.int p0), .val (.int p1), .val (.int p2)] [])) _
      refine XS.iloadN X0.here hx rfl (hb hby d4_5) rfl ?_
      show Steps p.tables e below (s₁.setTop (mkF m 6 #[.val (.int p0), .val (.int p1), .val (.int p2)] [(.int p0)])) _
      refine XS.iloadN X0.here hx rfl (hb hby d4_6) rfl ?_
      show Steps p.tables e below (s₁.setTop (mkF m 7 #[.val (.int p0), .val (.int p1), .val (.int p2)] [(.int p1), (.int p0)])) _
      refine XS.iushr X0.here hx rfl (hb hby d4_7) rfl ?_
      show Steps p.tables e below (s₁.setTop (mkF m 8 #[.val (.int p0), .val (.int p1), .val (.int p2)] [(.int ((p0.toUInt32 >>> (p1 &&& 31).toUInt32).toInt32))])) _
      refine XS.iconst X0.here hx rfl (hb hby d4_8) ?_
      show Steps p.tables e below (s₁.setTop (mkF m 9 #[.val (.int p0), .val (.int p1), .val (.int p2)] [(.int (1 : Int32)), (.int ((p0.toUInt32 >>> (p1 &&& 31).toUInt32).toInt32))])) _
      refine XS.iand X0.here hx rfl (hb hby d4_9) rfl ?_
      show Steps p.tables e below (s₁.setTop (mkF m 10 #[.val (.int p0), .val (.int p1), .val (.int p2)] [(.int (((p0.toUInt32 >>> (p1 &&& 31).toUInt32).toInt32) &&& (1 : Int32)))])) _
      exact kt
    by_cases hc93 : (((p0.toUInt32 >>> (p1 &&& 31).toUInt32).toInt32) &&& (1 : Int32)) = (0 : Int32)
    · skip
      have pre94 : ∀ t, Steps p.tables e below (s₁.setTop (mkF m 16 #[.val (.int p0), .val (.int p1), .val (.int p2)] [(.long (0 : Int64))])) t → Steps p.tables e below (s₁.setTop (entryFrame m #[(.int p0), (.int p1), (.int p2)] 3)) t := fun t kt => by
        refine pre92 _ ?_
        show Steps p.tables e below (s₁.setTop (mkF m 10 #[.val (.int p0), .val (.int p1), .val (.int p2)] [(.int (((p0.toUInt32 >>> (p1 &&& 31).toUInt32).toInt32) &&& (1 : Int32)))])) _
        refine XS.ifYes X0.here hx rfl (pc0 := 10) (pc' := 15) rfl (hb hby d4_10) rfl ((if0 _ _).trans (teq hc93).1) (by decide) (by decide) ?_
        show Steps p.tables e below (s₁.setTop (mkF m 15 #[.val (.int p0), .val (.int p1), .val (.int p2)] [])) _
        refine XS.lconst X0.here hx rfl (hb hby d4_15) ?_
        show Steps p.tables e below (s₁.setTop (mkF m 16 #[.val (.int p0), .val (.int p1), .val (.int p2)] [(.long (0 : Int64))])) _
        exact kt
      obtain ⟨fs, hr, hrun, hended, hW, hsame⟩ := X0.leave (v := some (.long (0 : Int64))) (fun h => by rw [Bd.returns] at h; cases h)
      refine ⟨_, _, pre94 _ ?_, hrun, hended, _, _, rfl, ?_, ⟨_, rfl⟩, hW, hsame.mono (by decide) (by decide)⟩
      · jvm_step X0.here [X0.here.top, hx, (hb hby d4_16), X0.method', Bd.returns, narrow]
        first | (intro acts; rw [hr _ acts rfl rfl rfl]) | rw [hr _ _ rfl rfl rfl]
        exact Steps.refl _
      · show Q4 Z p0 p1 p2 h0 n0 _ s₁.heap _
        rw [e0]
        exact ⟨(own_rJ (by rw [if_pos hc91, if_pos hc93] : (0 : Int64) = (if p1 < p2 then (if (((p0.toUInt32 >>> (p1 &&& 31).toUInt32).toInt32) &&& (1 : Int32)) = (0 : Int32) then (0 : Int64) else (1 : Int64)) else (0 : Int64)))), N0, rfl⟩
    · skip
      have pre95 : ∀ t, Steps p.tables e below (s₁.setTop (mkF m 14 #[.val (.int p0), .val (.int p1), .val (.int p2)] [(.long (1 : Int64))])) t → Steps p.tables e below (s₁.setTop (entryFrame m #[(.int p0), (.int p1), (.int p2)] 3)) t := fun t kt => by
        refine pre92 _ ?_
        show Steps p.tables e below (s₁.setTop (mkF m 10 #[.val (.int p0), .val (.int p1), .val (.int p2)] [(.int (((p0.toUInt32 >>> (p1 &&& 31).toUInt32).toInt32) &&& (1 : Int32)))])) _
        refine XS.ifNo X0.here hx rfl (hb hby d4_10) rfl ((if0 _ _).trans (feq hc93).1) ?_
        show Steps p.tables e below (s₁.setTop (mkF m 13 #[.val (.int p0), .val (.int p1), .val (.int p2)] [])) _
        refine XS.lconst X0.here hx rfl (hb hby d4_13) ?_
        show Steps p.tables e below (s₁.setTop (mkF m 14 #[.val (.int p0), .val (.int p1), .val (.int p2)] [(.long (1 : Int64))])) _
        exact kt
      obtain ⟨fs, hr, hrun, hended, hW, hsame⟩ := X0.leave (v := some (.long (1 : Int64))) (fun h => by rw [Bd.returns] at h; cases h)
      refine ⟨_, _, pre95 _ ?_, hrun, hended, _, _, rfl, ?_, ⟨_, rfl⟩, hW, hsame.mono (by decide) (by decide)⟩
      · jvm_step X0.here [X0.here.top, hx, (hb hby d4_14), X0.method', Bd.returns, narrow]
        first | (intro acts; rw [hr _ acts rfl rfl rfl]) | rw [hr _ _ rfl rfl rfl]
        exact Steps.refl _
      · show Q4 Z p0 p1 p2 h0 n0 _ s₁.heap _
        rw [e0]
        exact ⟨(own_rJ (by rw [if_pos hc91, if_neg hc93] : (1 : Int64) = (if p1 < p2 then (if (((p0.toUInt32 >>> (p1 &&& 31).toUInt32).toInt32) &&& (1 : Int32)) = (0 : Int32) then (0 : Int64) else (1 : Int64)) else (0 : Int64)))), N0, rfl⟩
  · skip
    have pre96 : ∀ t, Steps p.tables e below (s₁.setTop (mkF m 16 #[.val (.int p0), .val (.int p1), .val (.int p2)] [(.long (0 : Int64))])) t → Steps p.tables e below (s₁.setTop (entryFrame m #[(.int p0), (.int p1), (.int p2)] 3)) t := fun t kt => by
      refine pre90 _ ?_
      show Steps p.tables e below (s₁.setTop (mkF m 2 #[.val (.int p0), .val (.int p1), .val (.int p2)] [(.int p2), (.int p1)])) _
      refine XS.icmpYes X0.here hx rfl (pc0 := 2) (pc' := 15) rfl (hb hby d4_2) rfl (flt hc91).2.1 (by decide) (by decide) ?_
      show Steps p.tables e below (s₁.setTop (mkF m 15 #[.val (.int p0), .val (.int p1), .val (.int p2)] [])) _
      refine XS.lconst X0.here hx rfl (hb hby d4_15) ?_
      show Steps p.tables e below (s₁.setTop (mkF m 16 #[.val (.int p0), .val (.int p1), .val (.int p2)] [(.long (0 : Int64))])) _
      exact kt
    obtain ⟨fs, hr, hrun, hended, hW, hsame⟩ := X0.leave (v := some (.long (0 : Int64))) (fun h => by rw [Bd.returns] at h; cases h)
    refine ⟨_, _, pre96 _ ?_, hrun, hended, _, _, rfl, ?_, ⟨_, rfl⟩, hW, hsame.mono (by decide) (by decide)⟩
    · jvm_step X0.here [X0.here.top, hx, (hb hby d4_16), X0.method', Bd.returns, narrow]
      first | (intro acts; rw [hr _ acts rfl rfl rfl]) | rw [hr _ _ rfl rfl rfl]
      exact Steps.refl _
    · show Q4 Z p0 p1 p2 h0 n0 _ s₁.heap _
      rw [e0]
      exact ⟨(own_rJ (by rw [if_neg hc91] : (0 : Int64) = (if p1 < p2 then (if (((p0.toUInt32 >>> (p1 &&& 31).toUInt32).toInt32) &&& (1 : Int32)) = (0 : Int32) then (0 : Int64) else (1 : Int64)) else (0 : Int64)))), N0, rfl⟩
theorem d5_0 : decode prog_75_method_2_code 0 = .ok (.aload_n 0, 1) := by decide +kernel
theorem d5_1 : decode prog_75_method_2_code 1 = .ok (.getfield 16, 3) := by decide +kernel
theorem d5_4 : decode prog_75_method_2_code 4 = .ok (.aload_n 0, 1) := by decide +kernel
theorem d5_5 : decode prog_75_method_2_code 5 = .ok (.getfield 7, 3) := by decide +kernel
theorem d5_8 : decode prog_75_method_2_code 8 = .ok (.lcmp, 1) := by decide +kernel
theorem d5_9 : decode prog_75_method_2_code 9 = .ok (.ifCond .ge 15, 3) := by decide +kernel
theorem d5_12 : decode prog_75_method_2_code 12 = .ok (.aload_n 0, 1) := by decide +kernel
theorem d5_13 : decode prog_75_method_2_code 13 = .ok (.getfield 19, 3) := by decide +kernel
theorem d5_16 : decode prog_75_method_2_code 16 = .ok (.aload_n 0, 1) := by decide +kernel
theorem d5_17 : decode prog_75_method_2_code 17 = .ok (.getfield 13, 3) := by decide +kernel
theorem d5_20 : decode prog_75_method_2_code 20 = .ok (.lcmp, 1) := by decide +kernel
theorem d5_21 : decode prog_75_method_2_code 21 = .ok (.ifCond .le 7, 3) := by decide +kernel
theorem d5_24 : decode prog_75_method_2_code 24 = .ok (.iconst 1, 1) := by decide +kernel
theorem d5_25 : decode prog_75_method_2_code 25 = .ok (.goto 4, 3) := by decide +kernel
theorem d5_28 : decode prog_75_method_2_code 28 = .ok (.iconst 0, 1) := by decide +kernel
theorem d5_29 : decode prog_75_method_2_code 29 = .ok (.ireturn, 1) := by decide +kernel
theorem ef_5 (m : MethodId) (a0 : Addr) : entryFrame m #[(.ref a0)] 1 = mkF m 0 #[.val (.ref a0)] [] := by first | (simp [entryFrame, mkF, argsToLocals, Value.category]; done) | rfl
def Q5 (Z : State) (a0 : Addr) (u_required : Int64) (u_allowedFalse : Int64) (u_falses : Int64) (u_trues : Int64) (h0 : Heap) (n0 : Nat) (v : Option Value) (h : Heap) (L : List Loc) : Prop := v = some (.int (if u_trues < u_required then (if u_allowedFalse < u_falses then (1 : Int32) else (0 : Int32)) else (1 : Int32))) ∧ Fr n0 L ∧ h = h0
set_option maxRecDepth 65536 in
set_option maxHeartbeats 40000000 in
theorem rm5 (l : Launch) (Z : State) (aq : Array Value) (hw : ∀ d ∈ tables_1, d.before aq Z = true) (ws : List Jvm.Cond) (a0 : Addr) (u_required : Int64) (u_allowedFalse : Int64) (u_falses : Int64) (u_trues : Int64) (h0 : Heap) (n0 : Nat) (Z0 : n0 ≤ h0.size) (E_a0 : Exa Z h0 a0 "com/example/strict_pdp/strictpdp/expression/ThreeValued$Count") (F_required : Fld Z h0 a0 "com/example/strict_pdp/strictpdp/expression/ThreeValued$Count" "required" "J" (.long u_required)) (F_allowedFalse : Fld Z h0 a0 "com/example/strict_pdp/strictpdp/expression/ThreeValued$Count" "allowedFalse" "J" (.long u_allowedFalse)) (F_falses : Fld Z h0 a0 "com/example/strict_pdp/strictpdp/expression/ThreeValued$Count" "falses" "J" (.long u_falses)) (F_trues : Fld Z h0 a0 "com/example/strict_pdp/strictpdp/expression/ThreeValued$Count" "trues" "J" (.long u_trues)) :
    MetFree l (⟨"com/example/strict_pdp/strictpdp/expression/ThreeValued$Count", "known", "()Z"⟩ : MethodName) (head1 (Jvm.Cond.code (⟨"com/example/strict_pdp/strictpdp/expression/ThreeValued$Count", "known", "()Z"⟩ : MethodName) prog_75_method_2_code 1 (some .boolean) :: ws) ({ frames := 0, cells := 0, slots := 0, locals := 0 } : Room)) (fun a U => a = #[(.ref a0)] ∧ Z.Warmed39 U.vm ∧ U.heap = h0) (fun _ _ _ _ _ => True) (fun _ U o U' => ∃ v L, o = .returned v ∧ Q5 Z a0 u_required u_allowedFalse u_falses u_trues h0 n0 v U'.heap L ∧ FrameEnd U o U' L ({ frames := 0, cells := 0, slots := 0, locals := 0 } : Room).cells ({ frames := 0, cells := 0, slots := 0, locals := 0 } : Room).slots) := by
  refine MetFree.of_bodySF (plainFor_of_name pn47812426) hisR ?_
  intro p e s m args below meth c s₁ Bd hml0 hP hK
  obtain ⟨rfl, hZ, hh⟩ := hP
  have hx := Bd.exec
  have hby := Bd.bytes
  have hml : c.maxLocals = 1 := hml0
  have hown : s.vm.findClass "com/example/strict_pdp/strictpdp/expression/ThreeValued$Count" = some m.cls := findClass_of_methodNamed Bd.named
  have hnm := (name_of_methodNamed Bd.named Bd.method).1
  have X0 : Stand p l e ({ frames := 0, cells := 0, slots := 0, locals := 0 } : Room) s m #[(.ref a0)] below meth c s₁ [] 0 0 := Stand.of_body Bd
  have e0 : s₁.heap = h0 := by rw [← hh, Bd.state]; rfl
  have N0 := Fr.nil n0
  have pre0 : ∀ t, Steps p.tables e below (s₁.setTop (mkF m 0 #[.val (.ref a0)] [])) t → Steps p.tables e below (s₁.setTop (entryFrame m #[(.ref a0)] 1)) t := fun t k => castTop (ef_5 m a0) k
  obtain ⟨T105, X105, e105, st105⟩ := getF X0 hx hZ hown (host := "") (Or.inl (hw _ (List.mem_of_getElem? (i := 29) rfl))) Via.refl e0 F_trues (g := (mkF m 1 #[.val (.ref a0)] [(.ref a0)])) rfl rfl (hb hby d5_1)
  obtain ⟨T106, X106, e106, st106⟩ := getF X105 hx hZ hown (host := "") (Or.inl (hw _ (List.mem_of_getElem? (i := 9) rfl))) Via.refl e105 F_required (g := (mkF m 5 #[.val (.ref a0)] [(.ref a0), (.long u_trues)])) rfl rfl (hb hby d5_5)
  have pre107 : ∀ t, Steps p.tables e below (T106.setTop (mkF m 9 #[.val (.ref a0)] [(.int (lcmpW u_trues u_required))])) t → Steps p.tables e below (s₁.setTop (entryFrame m #[(.ref a0)] 1)) t := fun t kt => by
    refine pre0 _ ?_
    show Steps p.tables e below (s₁.setTop (mkF m 0 #[.val (.ref a0)] [])) _
    refine XS.aloadN X0.here hx rfl (hb hby d5_0) rfl rfl ?_
    show Steps p.tables e below (s₁.setTop (mkF m 1 #[.val (.ref a0)] [(.ref a0)])) _
    refine st105 _ ?_
    show Steps p.tables e below (T105.setTop (mkF m 4 #[.val (.ref a0)] [(.long u_trues)])) _
    refine XS.aloadN X105.here hx rfl (hb hby d5_4) rfl rfl ?_
    show Steps p.tables e below (T105.setTop (mkF m 5 #[.val (.ref a0)] [(.ref a0), (.long u_trues)])) _
    refine st106 _ ?_
    show Steps p.tables e below (T106.setTop (mkF m 8 #[.val (.ref a0)] [(.long u_required), (.long u_trues)])) _
    refine XS.lcmp X106.here hx rfl (hb hby d5_8) rfl ?_
    show Steps p.tables e below (T106.setTop (mkF m 9 #[.val (.ref a0)] [(.int (lcmpW u_trues u_required))])) _
    exact kt
  by_cases hc108 : u_trues < u_required
  · skip
    obtain ⟨T109, X109, e109, st109⟩ := getF X106 hx hZ hown (host := "") (Or.inl (hw _ (List.mem_of_getElem? (i := 18) rfl))) Via.refl e106 F_falses (g := (mkF m 13 #[.val (.ref a0)] [(.ref a0)])) rfl rfl (hb hby d5_13)
    obtain ⟨T110, X110, e110, st110⟩ := getF X109 hx hZ hown (host := "") (Or.inl (hw _ (List.mem_of_getElem? (i := 11) rfl))) Via.refl e109 F_allowedFalse (g := (mkF m 17 #[.val (.ref a0)] [(.ref a0), (.long u_falses)])) rfl rfl (hb hby d5_17)
    have pre111 : ∀ t, Steps p.tables e below (T110.setTop (mkF m 21 #[.val (.ref a0)] [(.int (lcmpW u_falses u_allowedFalse))])) t → Steps p.tables e below (s₁.setTop (entryFrame m #[(.ref a0)] 1)) t := fun t kt => by
      refine pre107 _ ?_
      show Steps p.tables e below (T106.setTop (mkF m 9 #[.val (.ref a0)] [(.int (lcmpW u_trues u_required))])) _
      refine XS.ifNo X106.here hx rfl (hb hby d5_9) rfl ((if0 _ _).trans (tlt (own_lwL hc108)).2.1) ?_
      show Steps p.tables e below (T106.setTop (mkF m 12 #[.val (.ref a0)] [])) _
      refine XS.aloadN X106.here hx rfl (hb hby d5_12) rfl rfl ?_
      show Steps p.tables e below (T106.setTop (mkF m 13 #[.val (.ref a0)] [(.ref a0)])) _
      refine st109 _ ?_
      show Steps p.tables e below (T109.setTop (mkF m 16 #[.val (.ref a0)] [(.long u_falses)])) _
      refine XS.aloadN X109.here hx rfl (hb hby d5_16) rfl rfl ?_
      show Steps p.tables e below (T109.setTop (mkF m 17 #[.val (.ref a0)] [(.ref a0), (.long u_falses)])) _
      refine st110 _ ?_
      show Steps p.tables e below (T110.setTop (mkF m 20 #[.val (.ref a0)] [(.long u_allowedFalse), (.long u_falses)])) _
      refine XS.lcmp X110.here hx rfl (hb hby d5_20) rfl ?_
      show Steps p.tables e below (T110.setTop (mkF m 21 #[.val (.ref a0)] [(.int (lcmpW u_falses u_allowedFalse))])) _
      exact kt
    by_cases hc112 : u_allowedFalse < u_falses
    · skip
      have pre113 : ∀ t, Steps p.tables e below (T110.setTop (mkF m 29 #[.val (.ref a0)] [(.int (1 : Int32))])) t → Steps p.tables e below (s₁.setTop (entryFrame m #[(.ref a0)] 1)) t := fun t kt => by
        refine pre111 _ ?_
        show Steps p.tables e below (T110.setTop (mkF m 21 #[.val (.ref a0)] [(.int (lcmpW u_falses u_allowedFalse))])) _
        refine XS.ifNo X110.here hx rfl (hb hby d5_21) rfl ((if0 _ _).trans (tlt (own_lwG hc112)).2.2.2) ?_
        show Steps p.tables e below (T110.setTop (mkF m 24 #[.val (.ref a0)] [])) _
        refine XS.iconst X110.here hx rfl (hb hby d5_24) ?_
        show Steps p.tables e below (T110.setTop (mkF m 25 #[.val (.ref a0)] [(.int (1 : Int32))])) _
        refine XS.goto X110.here hx rfl (pc0 := 25) (pc' := 29) rfl (hb hby d5_25) (by decide) (by decide) ?_
        show Steps p.tables e below (T110.setTop (mkF m 29 #[.val (.ref a0)] [(.int (1 : Int32))])) _
        exact kt
      obtain ⟨fs, hr, hrun, hended, hW, hsame⟩ := X110.leave (v := some (.int (1 : Int32))) (fun h => by rw [Bd.returns] at h; cases h)
      refine ⟨_, _, pre113 _ ?_, hrun, hended, _, _, rfl, ?_, ⟨_, rfl⟩, hW, hsame.mono (by decide) (by decide)⟩
      · exact retN X110 hx (t := .boolean) Bd.returns (by simp) (hb hby d5_29) hr
      · show Q5 Z a0 u_required u_allowedFalse u_falses u_trues h0 n0 _ T110.heap _
        rw [e110]
        exact ⟨(own_rI (by rw [if_pos hc108, if_pos hc112] : (1 : Int32) = (if u_trues < u_required then (if u_allowedFalse < u_falses then (1 : Int32) else (0 : Int32)) else (1 : Int32)))), N0, rfl⟩
    · skip
      have pre114 : ∀ t, Steps p.tables e below (T110.setTop (mkF m 29 #[.val (.ref a0)] [(.int (0 : Int32))])) t → Steps p.tables e below (s₁.setTop (entryFrame m #[(.ref a0)] 1)) t := fun t kt => by
        refine pre111 _ ?_
        show Steps p.tables e below (T110.setTop (mkF m 21 #[.val (.ref a0)] [(.int (lcmpW u_falses u_allowedFalse))])) _
        refine XS.ifYes X110.here hx rfl (pc0 := 21) (pc' := 28) rfl (hb hby d5_21) rfl ((if0 _ _).trans (flt (own_lwH hc112)).2.2.2) (by decide) (by decide) ?_
        show Steps p.tables e below (T110.setTop (mkF m 28 #[.val (.ref a0)] [])) _
        refine XS.iconst X110.here hx rfl (hb hby d5_28) ?_
        show Steps p.tables e below (T110.setTop (mkF m 29 #[.val (.ref a0)] [(.int (0 : Int32))])) _
        exact kt
      obtain ⟨fs, hr, hrun, hended, hW, hsame⟩ := X110.leave (v := some (.int (0 : Int32))) (fun h => by rw [Bd.returns] at h; cases h)
      refine ⟨_, _, pre114 _ ?_, hrun, hended, _, _, rfl, ?_, ⟨_, rfl⟩, hW, hsame.mono (by decide) (by decide)⟩
      · exact retN X110 hx (t := .boolean) Bd.returns (by simp) (hb hby d5_29) hr
      · show Q5 Z a0 u_required u_allowedFalse u_falses u_trues h0 n0 _ T110.heap _
        rw [e110]
        exact ⟨(own_rI (by rw [if_pos hc108, if_neg hc112] : (0 : Int32) = (if u_trues < u_required then (if u_allowedFalse < u_falses then (1 : Int32) else (0 : Int32)) else (1 : Int32)))), N0, rfl⟩
  · skip
    have pre115 : ∀ t, Steps p.tables e below (T106.setTop (mkF m 29 #[.val (.ref a0)] [(.int (1 : Int32))])) t → Steps p.tables e below (s₁.setTop (entryFrame m #[(.ref a0)] 1)) t := fun t kt => by
      refine pre107 _ ?_
      show Steps p.tables e below (T106.setTop (mkF m 9 #[.val (.ref a0)] [(.int (lcmpW u_trues u_required))])) _
      refine XS.ifYes X106.here hx rfl (pc0 := 9) (pc' := 24) rfl (hb hby d5_9) rfl ((if0 _ _).trans (flt (own_lwM hc108)).2.1) (by decide) (by decide) ?_
      show Steps p.tables e below (T106.setTop (mkF m 24 #[.val (.ref a0)] [])) _
      refine XS.iconst X106.here hx rfl (hb hby d5_24) ?_
      show Steps p.tables e below (T106.setTop (mkF m 25 #[.val (.ref a0)] [(.int (1 : Int32))])) _
      refine XS.goto X106.here hx rfl (pc0 := 25) (pc' := 29) rfl (hb hby d5_25) (by decide) (by decide) ?_
      show Steps p.tables e below (T106.setTop (mkF m 29 #[.val (.ref a0)] [(.int (1 : Int32))])) _
      exact kt
    obtain ⟨fs, hr, hrun, hended, hW, hsame⟩ := X106.leave (v := some (.int (1 : Int32))) (fun h => by rw [Bd.returns] at h; cases h)
    refine ⟨_, _, pre115 _ ?_, hrun, hended, _, _, rfl, ?_, ⟨_, rfl⟩, hW, hsame.mono (by decide) (by decide)⟩
    · exact retN X106 hx (t := .boolean) Bd.returns (by simp) (hb hby d5_29) hr
    · show Q5 Z a0 u_required u_allowedFalse u_falses u_trues h0 n0 _ T106.heap _
      rw [e106]
      exact ⟨(own_rI (by rw [if_neg hc108] : (1 : Int32) = (if u_trues < u_required then (if u_allowedFalse < u_falses then (1 : Int32) else (0 : Int32)) else (1 : Int32)))), N0, rfl⟩
theorem pd84330432 : parseMethodDescriptor "(JJ)V" = some ⟨[.long, .long], none⟩ := by decide +kernel
theorem pd88010534 : parseMethodDescriptor "(Z)V" = some ⟨[.boolean], none⟩ := by decide +kernel
theorem pd86748539 : parseMethodDescriptor "(III)J" = some ⟨[.int, .int, .int], some .long⟩ := by decide +kernel
theorem pd93422000 : parseMethodDescriptor "()Z" = some ⟨[], some .boolean⟩ := by decide +kernel
theorem own_st {P Q : Prop} [Decidable P] [Decidable Q] {f t f' t' : Int64} (hf : f' = (if P then (if Q then (if (0 : Int32) = (0 : Int32) then (f + (1 : Int64)) else f) else (if (1 : Int32) = (0 : Int32) then (f + (1 : Int64)) else f)) else f))
    (ht : t' = (if P then (if Q then (if (0 : Int32) = (0 : Int32) then t else (t + (1 : Int64))) else (if (1 : Int32) = (0 : Int32) then t else (t + (1 : Int64)))) else t)) :
    t' = t + (if P then (if Q then (0 : Int64) else (1 : Int64)) else (0 : Int64)) ∧ f' + t' = (f + t) + (if P then (1 : Int64) else (0 : Int64)) := by
  subst hf ht
  by_cases p : P
  · by_cases q : Q
    · simp only [p, q, if_true]
      exact ⟨(Int64.add_zero t).symm, by ac_rfl⟩
    · simp only [p, q, if_true, if_false]
      rw [if_neg (by decide), if_neg (by decide)]
      exact ⟨rfl, by ac_rfl⟩
  · simp only [p, if_false]
    exact ⟨(Int64.add_zero t).symm, (Int64.add_zero _).symm⟩
theorem own_m7 (x : Int32) : ∃ k : Fin 8, x &&& (7 : Int32) = Int32.ofNat k.val := by
  have h := Jvm.Kit.i32_mask x 7 (k := 3) (by decide) (by decide)
  refine ⟨⟨(x.toInt % 8).toNat, by omega⟩, ?_⟩
  apply Int32.toInt_inj.mp
  rw [h, Int32.toInt_ofNat_small (by show (x.toInt % 8).toNat < 2 ^ 31; omega)]
  show x.toInt % 2 ^ 3 = ((x.toInt % 8).toNat : Int)
  omega
theorem own_sum : ∀ k : Fin 8, (0 : Int64) + 0 + (if (0 : Int32) < Int32.ofNat k.val then (1 : Int64) else 0) + (if (1 : Int32) < Int32.ofNat k.val then (1 : Int64) else 0) + (if (2 : Int32) < Int32.ofNat k.val then (1 : Int64) else 0) + (if (3 : Int32) < Int32.ofNat k.val then (1 : Int64) else 0) + (if (4 : Int32) < Int32.ofNat k.val then (1 : Int64) else 0) + (if (5 : Int32) < Int32.ofNat k.val then (1 : Int64) else 0) + (if (6 : Int32) < Int32.ofNat k.val then (1 : Int64) else 0) = (Int32.ofNat k.val).toInt64 := by decide +kernel
theorem own_bit0 (x : Int32) : (((x.toUInt32 >>> ((0 : Int32) &&& 31).toUInt32).toInt32) &&& (1 : Int32)) = (0 : Int32) ↔ (x &&& (1 : Int32)) = (0 : Int32) := by
  rw [← Int32.toBitVec_inj, ← Int32.toBitVec_inj]
  show (x.toBitVec >>> (0 : Nat)) &&& 1#32 = 0#32 ↔ x.toBitVec &&& 1#32 = 0#32
  rw [BitVec.ushiftRight_zero]
theorem own_bit1 (x : Int32) : (((x.toUInt32 >>> ((1 : Int32) &&& 31).toUInt32).toInt32) &&& (1 : Int32)) = (0 : Int32) ↔ (x &&& (2 : Int32)) = (0 : Int32) := by
  rw [← Int32.toBitVec_inj, ← Int32.toBitVec_inj]
  show (x.toBitVec >>> (1 : Nat)) &&& 1#32 = 0#32 ↔ x.toBitVec &&& 2#32 = 0#32
  have e : 2#32 = BitVec.twoPow 32 1 := by decide
  rw [e, BitVec.and_twoPow, BitVec.and_one_eq_setWidth_ofBool_getLsbD, BitVec.getLsbD_ushiftRight]
  simp only [Nat.add_zero]
  cases x.toBitVec.getLsbD 1 <;> decide
theorem own_bit2 (x : Int32) : (((x.toUInt32 >>> ((2 : Int32) &&& 31).toUInt32).toInt32) &&& (1 : Int32)) = (0 : Int32) ↔ (x &&& (4 : Int32)) = (0 : Int32) := by
  rw [← Int32.toBitVec_inj, ← Int32.toBitVec_inj]
  show (x.toBitVec >>> (2 : Nat)) &&& 1#32 = 0#32 ↔ x.toBitVec &&& 4#32 = 0#32
  have e : 4#32 = BitVec.twoPow 32 2 := by decide
  rw [e, BitVec.and_twoPow, BitVec.and_one_eq_setWidth_ofBool_getLsbD, BitVec.getLsbD_ushiftRight]
  simp only [Nat.add_zero]
  cases x.toBitVec.getLsbD 2 <;> decide
theorem own_bit3 (x : Int32) : (((x.toUInt32 >>> ((3 : Int32) &&& 31).toUInt32).toInt32) &&& (1 : Int32)) = (0 : Int32) ↔ (x &&& (8 : Int32)) = (0 : Int32) := by
  rw [← Int32.toBitVec_inj, ← Int32.toBitVec_inj]
  show (x.toBitVec >>> (3 : Nat)) &&& 1#32 = 0#32 ↔ x.toBitVec &&& 8#32 = 0#32
  have e : 8#32 = BitVec.twoPow 32 3 := by decide
  rw [e, BitVec.and_twoPow, BitVec.and_one_eq_setWidth_ofBool_getLsbD, BitVec.getLsbD_ushiftRight]
  simp only [Nat.add_zero]
  cases x.toBitVec.getLsbD 3 <;> decide
theorem own_bit4 (x : Int32) : (((x.toUInt32 >>> ((4 : Int32) &&& 31).toUInt32).toInt32) &&& (1 : Int32)) = (0 : Int32) ↔ (x &&& (16 : Int32)) = (0 : Int32) := by
  rw [← Int32.toBitVec_inj, ← Int32.toBitVec_inj]
  show (x.toBitVec >>> (4 : Nat)) &&& 1#32 = 0#32 ↔ x.toBitVec &&& 16#32 = 0#32
  have e : 16#32 = BitVec.twoPow 32 4 := by decide
  rw [e, BitVec.and_twoPow, BitVec.and_one_eq_setWidth_ofBool_getLsbD, BitVec.getLsbD_ushiftRight]
  simp only [Nat.add_zero]
  cases x.toBitVec.getLsbD 4 <;> decide
theorem own_bit5 (x : Int32) : (((x.toUInt32 >>> ((5 : Int32) &&& 31).toUInt32).toInt32) &&& (1 : Int32)) = (0 : Int32) ↔ (x &&& (32 : Int32)) = (0 : Int32) := by
  rw [← Int32.toBitVec_inj, ← Int32.toBitVec_inj]
  show (x.toBitVec >>> (5 : Nat)) &&& 1#32 = 0#32 ↔ x.toBitVec &&& 32#32 = 0#32
  have e : 32#32 = BitVec.twoPow 32 5 := by decide
  rw [e, BitVec.and_twoPow, BitVec.and_one_eq_setWidth_ofBool_getLsbD, BitVec.getLsbD_ushiftRight]
  simp only [Nat.add_zero]
  cases x.toBitVec.getLsbD 5 <;> decide
theorem own_bit6 (x : Int32) : (((x.toUInt32 >>> ((6 : Int32) &&& 31).toUInt32).toInt32) &&& (1 : Int32)) = (0 : Int32) ↔ (x &&& (64 : Int32)) = (0 : Int32) := by
  rw [← Int32.toBitVec_inj, ← Int32.toBitVec_inj]
  show (x.toBitVec >>> (6 : Nat)) &&& 1#32 = 0#32 ↔ x.toBitVec &&& 64#32 = 0#32
  have e : 64#32 = BitVec.twoPow 32 6 := by decide
  rw [e, BitVec.and_twoPow, BitVec.and_one_eq_setWidth_ofBool_getLsbD, BitVec.getLsbD_ushiftRight]
  simp only [Nat.add_zero]
  cases x.toBitVec.getLsbD 6 <;> decide

theorem own_plain0 (q0 : Int64) (q1 : Int64) (p2 : Int32) (p3 : Int32)
    (v1 : Int64) (hv1 : v1 = (if (0 : Int32) < (p3 &&& (7 : Int32)) then (if (p2 &&& (1 : Int32)) = (0 : Int32) then (if (0 : Int32) = (0 : Int32) then ((0 : Int64) + (1 : Int64)) else (0 : Int64)) else (if (1 : Int32) = (0 : Int32) then ((0 : Int64) + (1 : Int64)) else (0 : Int64))) else (0 : Int64)))
    (v2 : Int64) (hv2 : v2 = (if (0 : Int32) < (p3 &&& (7 : Int32)) then (if (p2 &&& (1 : Int32)) = (0 : Int32) then (if (0 : Int32) = (0 : Int32) then (0 : Int64) else ((0 : Int64) + (1 : Int64))) else (if (1 : Int32) = (0 : Int32) then (0 : Int64) else ((0 : Int64) + (1 : Int64)))) else (0 : Int64)))
    (v3 : Int64) (hv3 : v3 = (if (1 : Int32) < (p3 &&& (7 : Int32)) then (if (p2 &&& (2 : Int32)) = (0 : Int32) then (if (0 : Int32) = (0 : Int32) then (v1 + (1 : Int64)) else v1) else (if (1 : Int32) = (0 : Int32) then (v1 + (1 : Int64)) else v1)) else v1))
    (v4 : Int64) (hv4 : v4 = (if (1 : Int32) < (p3 &&& (7 : Int32)) then (if (p2 &&& (2 : Int32)) = (0 : Int32) then (if (0 : Int32) = (0 : Int32) then v2 else (v2 + (1 : Int64))) else (if (1 : Int32) = (0 : Int32) then v2 else (v2 + (1 : Int64)))) else v2))
    (v5 : Int64) (hv5 : v5 = (if (2 : Int32) < (p3 &&& (7 : Int32)) then (if (p2 &&& (4 : Int32)) = (0 : Int32) then (if (0 : Int32) = (0 : Int32) then (v3 + (1 : Int64)) else v3) else (if (1 : Int32) = (0 : Int32) then (v3 + (1 : Int64)) else v3)) else v3))
    (v6 : Int64) (hv6 : v6 = (if (2 : Int32) < (p3 &&& (7 : Int32)) then (if (p2 &&& (4 : Int32)) = (0 : Int32) then (if (0 : Int32) = (0 : Int32) then v4 else (v4 + (1 : Int64))) else (if (1 : Int32) = (0 : Int32) then v4 else (v4 + (1 : Int64)))) else v4))
    (v7 : Int64) (hv7 : v7 = (if (3 : Int32) < (p3 &&& (7 : Int32)) then (if (p2 &&& (8 : Int32)) = (0 : Int32) then (if (0 : Int32) = (0 : Int32) then (v5 + (1 : Int64)) else v5) else (if (1 : Int32) = (0 : Int32) then (v5 + (1 : Int64)) else v5)) else v5))
    (v8 : Int64) (hv8 : v8 = (if (3 : Int32) < (p3 &&& (7 : Int32)) then (if (p2 &&& (8 : Int32)) = (0 : Int32) then (if (0 : Int32) = (0 : Int32) then v6 else (v6 + (1 : Int64))) else (if (1 : Int32) = (0 : Int32) then v6 else (v6 + (1 : Int64)))) else v6))
    (v9 : Int64) (hv9 : v9 = (if (4 : Int32) < (p3 &&& (7 : Int32)) then (if (p2 &&& (16 : Int32)) = (0 : Int32) then (if (0 : Int32) = (0 : Int32) then (v7 + (1 : Int64)) else v7) else (if (1 : Int32) = (0 : Int32) then (v7 + (1 : Int64)) else v7)) else v7))
    (v10 : Int64) (hv10 : v10 = (if (4 : Int32) < (p3 &&& (7 : Int32)) then (if (p2 &&& (16 : Int32)) = (0 : Int32) then (if (0 : Int32) = (0 : Int32) then v8 else (v8 + (1 : Int64))) else (if (1 : Int32) = (0 : Int32) then v8 else (v8 + (1 : Int64)))) else v8))
    (v11 : Int64) (hv11 : v11 = (if (5 : Int32) < (p3 &&& (7 : Int32)) then (if (p2 &&& (32 : Int32)) = (0 : Int32) then (if (0 : Int32) = (0 : Int32) then (v9 + (1 : Int64)) else v9) else (if (1 : Int32) = (0 : Int32) then (v9 + (1 : Int64)) else v9)) else v9))
    (v12 : Int64) (hv12 : v12 = (if (5 : Int32) < (p3 &&& (7 : Int32)) then (if (p2 &&& (32 : Int32)) = (0 : Int32) then (if (0 : Int32) = (0 : Int32) then v10 else (v10 + (1 : Int64))) else (if (1 : Int32) = (0 : Int32) then v10 else (v10 + (1 : Int64)))) else v10))
    (v13 : Int64) (hv13 : v13 = (if (6 : Int32) < (p3 &&& (7 : Int32)) then (if (p2 &&& (64 : Int32)) = (0 : Int32) then (if (0 : Int32) = (0 : Int32) then (v11 + (1 : Int64)) else v11) else (if (1 : Int32) = (0 : Int32) then (v11 + (1 : Int64)) else v11)) else v11))
    (v14 : Int64) (hv14 : v14 = (if (6 : Int32) < (p3 &&& (7 : Int32)) then (if (p2 &&& (64 : Int32)) = (0 : Int32) then (if (0 : Int32) = (0 : Int32) then v12 else (v12 + (1 : Int64))) else (if (1 : Int32) = (0 : Int32) then v12 else (v12 + (1 : Int64)))) else v12))
    (v15 : Int64) (hv15 : v15 = (if (0 : Int32) < (p3 &&& (7 : Int32)) then (if (((p2.toUInt32 >>> ((0 : Int32) &&& 31).toUInt32).toInt32) &&& (1 : Int32)) = (0 : Int32) then (0 : Int64) else (1 : Int64)) else (0 : Int64)))
    (v16 : Int64) (hv16 : v16 = (if (1 : Int32) < (p3 &&& (7 : Int32)) then (if (((p2.toUInt32 >>> ((1 : Int32) &&& 31).toUInt32).toInt32) &&& (1 : Int32)) = (0 : Int32) then (0 : Int64) else (1 : Int64)) else (0 : Int64)))
    (v17 : Int64) (hv17 : v17 = (if (2 : Int32) < (p3 &&& (7 : Int32)) then (if (((p2.toUInt32 >>> ((2 : Int32) &&& 31).toUInt32).toInt32) &&& (1 : Int32)) = (0 : Int32) then (0 : Int64) else (1 : Int64)) else (0 : Int64)))
    (v18 : Int64) (hv18 : v18 = (if (3 : Int32) < (p3 &&& (7 : Int32)) then (if (((p2.toUInt32 >>> ((3 : Int32) &&& 31).toUInt32).toInt32) &&& (1 : Int32)) = (0 : Int32) then (0 : Int64) else (1 : Int64)) else (0 : Int64)))
    (v19 : Int64) (hv19 : v19 = (if (4 : Int32) < (p3 &&& (7 : Int32)) then (if (((p2.toUInt32 >>> ((4 : Int32) &&& 31).toUInt32).toInt32) &&& (1 : Int32)) = (0 : Int32) then (0 : Int64) else (1 : Int64)) else (0 : Int64)))
    (v20 : Int64) (hv20 : v20 = (if (5 : Int32) < (p3 &&& (7 : Int32)) then (if (((p2.toUInt32 >>> ((5 : Int32) &&& 31).toUInt32).toInt32) &&& (1 : Int32)) = (0 : Int32) then (0 : Int64) else (1 : Int64)) else (0 : Int64)))
    (v21 : Int64) (hv21 : v21 = (if (6 : Int32) < (p3 &&& (7 : Int32)) then (if (((p2.toUInt32 >>> ((6 : Int32) &&& 31).toUInt32).toInt32) &&& (1 : Int32)) = (0 : Int32) then (0 : Int64) else (1 : Int64)) else (0 : Int64)))
    (v22 : Int64) (hv22 : v22 = ((((((v15 + v16) + v17) + v18) + v19) + v20) + v21))
    (v23 : Int32) (hv23 : v23 = (if v22 < q0 then (if q1 < (((p3 &&& (7 : Int32)).toInt64) - v22) then (1 : Int32) else (0 : Int32)) else (1 : Int32)))
    (v24 : Int32) (hv24 : v24 = (if (if v14 < q0 then (if q1 < v13 then (1 : Int32) else (0 : Int32)) else (1 : Int32)) = v23 then (1 : Int32) else (0 : Int32))) : v24 = 1 := by
  simp only [own_bit0] at hv15
  simp only [own_bit1] at hv16
  simp only [own_bit2] at hv17
  simp only [own_bit3] at hv18
  simp only [own_bit4] at hv19
  simp only [own_bit5] at hv20
  simp only [own_bit6] at hv21
  obtain ⟨t0, c0⟩ := own_st hv1 hv2
  rw [← hv15] at t0
  obtain ⟨t1, c1⟩ := own_st hv3 hv4
  rw [← hv16] at t1
  obtain ⟨t2, c2⟩ := own_st hv5 hv6
  rw [← hv17] at t2
  obtain ⟨t3, c3⟩ := own_st hv7 hv8
  rw [← hv18] at t3
  obtain ⟨t4, c4⟩ := own_st hv9 hv10
  rw [← hv19] at t4
  obtain ⟨t5, c5⟩ := own_st hv11 hv12
  rw [← hv20] at t5
  obtain ⟨t6, c6⟩ := own_st hv13 hv14
  rw [← hv21] at t6
  have eT : v14 = v22 := by
    rw [hv22, t6, t5, t4, t3, t2, t1, t0, Int64.zero_add]
  have eC : v13 + v14 = (p3 &&& (7 : Int32)).toInt64 := by
    rw [c6, c5, c4, c3, c2, c1, c0]
    obtain ⟨k, hk⟩ := own_m7 p3
    rw [hk]
    exact own_sum k
  have eF : v13 = (p3 &&& (7 : Int32)).toInt64 - v22 := by
    rw [← eC, ← eT, Int64.add_sub_cancel]
  rw [hv24, hv23, eF, eT, if_pos rfl]
theorem ef_0 (m : MethodId) (q0 : Int64) (q1 : Int64) (p2 : Int32) (p3 : Int32) : entryFrame m #[(.long q0), (.long q1), (.int p2), (.int p3)] maxLocals = mkF m 0 #[.val (.long q0), .second, .val (.long q1), .second, .val (.int p2), .val (.int p3), .unset, .unset, .unset, .unset, .unset, .unset, .unset] [] := by first | (simp [entryFrame, mkF, argsToLocals, Value.category, maxLocals]; done) | rfl
def Q0 (n0 : Nat) (v : Option Value) (L : List Loc) : Prop := v = some (.int (1 : Int32)) ∧ Fr n0 L
set_option maxRecDepth 65536 in
set_option maxHeartbeats 40000000 in
theorem rm0 (l : Launch) (Z : State) (aq : Array Value) (hw : ∀ d ∈ tables_1, d.before aq Z = true) (ws : List Jvm.Cond) (q0 : Int64) (q1 : Int64) (p2 : Int32) (p3 : Int32) (h0 : Heap) (n0 : Nat) (Z0 : n0 ≤ h0.size) :
    MetFree l x (head1 (Jvm.Cond.code x code maxLocals ret :: ws) room_1) (fun a U => a = #[(.long q0), (.long q1), (.int p2), (.int p3)] ∧ Z.Warmed39 U.vm ∧ U.heap = h0) (fun _ _ _ _ _ => True) (fun _ U o U' => ∃ v L, o = .returned v ∧ Q0 n0 v L ∧ FrameEnd U o U' L room_1.cells room_1.slots) := by
  refine MetFree.of_bodySF (plainFor_of_name pn68141061) hisR ?_
  intro p e s m args below meth c s₁ Bd hml0 hP hK
  obtain ⟨rfl, hZ, hh⟩ := hP
  have hx := Bd.exec
  have hby := Bd.bytes
  have hml : c.maxLocals = 13 := hml0
  have hown : s.vm.findClass "com/example/strict_pdp/strictpdp/expression/CountKnownPinLaw" = some m.cls := findClass_of_methodNamed Bd.named
  have X0 : Stand p l e room_1 s m #[(.long q0), (.long q1), (.int p2), (.int p3)] below meth c s₁ [] 0 0 := Stand.of_body Bd
  have e0 : s₁.heap = h0 := by rw [← hh, Bd.state]; rfl
  have N0 := Fr.nil n0
  have pre0 : ∀ t, Steps p.tables e below (s₁.setTop (mkF m 0 #[.val (.long q0), .second, .val (.long q1), .second, .val (.int p2), .val (.int p3), .unset, .unset, .unset, .unset, .unset, .unset, .unset] [])) t → Steps p.tables e below (s₁.setTop (entryFrame m #[(.long q0), (.long q1), (.int p2), (.int p3)] maxLocals)) t := fun t k => castTop (ef_0 m q0 q1 p2 p3) k
  obtain ⟨T116, h116, X116, e116, E116, A116, D116, -, st116⟩ := newO X0 hx hZ hown (hw _ (List.mem_of_getElem? (i := 0) rfl)) (hw _ (List.mem_of_getElem? (i := 1) rfl)) (hw _ (List.mem_of_getElem? (i := 2) rfl)) e0 (g := (mkF m 7 #[.val (.long q0), .second, .val (.long q1), .second, .val (.int p2), .val (.int p3), .val (.int (p3 &&& (7 : Int32))), .unset, .unset, .unset, .unset, .unset, .unset] [])) rfl (hb hby at_7) (by decide) (by decide)
  obtain ⟨b116, g116⟩ : ∃ z, z = h0.size := ⟨_, rfl⟩
  rw [← g116] at A116 D116 st116
  have g_b116 : n0 ≤ b116 := Nat.le_trans Z0 (Nat.le_of_eq g116.symm)
  have Z117 : n0 ≤ h116.size := Nat.le_trans Z0 E116.1
  have F116_required : Fld Z h116 b116 "com/example/strict_pdp/strictpdp/expression/ThreeValued$Count" "required" "J" (.long (0 : Int64)) := D116 (Or.inr (hw _ (List.mem_of_getElem? (i := 10) rfl))) (ty := .long) (by decide)
  have F116_allowedFalse : Fld Z h116 b116 "com/example/strict_pdp/strictpdp/expression/ThreeValued$Count" "allowedFalse" "J" (.long (0 : Int64)) := D116 (Or.inr (hw _ (List.mem_of_getElem? (i := 12) rfl))) (ty := .long) (by decide)
  have F116_falses : Fld Z h116 b116 "com/example/strict_pdp/strictpdp/expression/ThreeValued$Count" "falses" "J" (.long (0 : Int64)) := D116 (Or.inl (hw _ (List.mem_of_getElem? (i := 19) rfl))) (ty := .long) (by decide)
  have F116_trues : Fld Z h116 b116 "com/example/strict_pdp/strictpdp/expression/ThreeValued$Count" "trues" "J" (.long (0 : Int64)) := D116 (Or.inl (hw _ (List.mem_of_getElem? (i := 30) rfl))) (ty := .long) (by decide)
  obtain ⟨_, _, ⟨T118, L118, k118, n118⟩, -, X118, ⟨Lc118, hQ118, l118, y118, z118⟩, st118⟩ := X116.specialBack hx (y := (⟨"com/example/strict_pdp/strictpdp/expression/ThreeValued$Count", "<init>", "(JJ)V"⟩ : MethodName)) rfl hown (mvT hZ (hw _ (List.mem_of_getElem? (i := 3) rfl))) (mvT hZ (hw _ (List.mem_of_getElem? (i := 4) rfl))) (mvT hZ (hw _ (List.mem_of_getElem? (i := 5) rfl))) (by decide) (backOf (W := 1) (rm1 l Z aq hw [] b116 q0 q1 (0 : Int64) (0 : Int64) (0 : Int64) (0 : Int64) h116 n0 Z117 A116 F116_required F116_allowedFalse F116_falses F116_trues g_b116) hZ (hw _ (List.mem_of_getElem? (i := 5) rfl)) (hw _ (List.mem_of_getElem? (i := 2) rfl)) (by decide) (by decide)) (g := (mkF m 13 #[.val (.long q0), .second, .val (.long q1), .second, .val (.int p2), .val (.int p3), .val (.int (p3 &&& (7 : Int32))), .unset, .unset, .unset, .unset, .unset, .unset] [(.long q1), (.long q0), (.ref b116), (.ref b116)])) rfl (by rw [hml]; rfl) (Steps.refl _) (a := b116) (argsL := [(.long q0), (.long q1)]) (rest := [(.ref b116)]) (lenOf pd84330432 rfl) rfl (by show 2 * 0 + _ ≤ _; exact Nat.le_of_eq rfl) (hb hby at_13) (fun _ _ => ⟨rfl, e116, (by decide : 1 + 0 ≤ _), (by decide : 5 + 0 ≤ _)⟩)
  dsimp only [Pt.U, Pt.locs, Pt.cells, Pt.slots] at X118 l118 y118 z118 st118 hQ118
  subst l118 y118 z118
  obtain ⟨rfl, N118q, K118, E118_0, F118_0, F118_1, F118_2, F118_3⟩ := hQ118
  have Z119 : n0 ≤ T118.heap.size := Nat.le_trans Z117 K118.1
  have N120 := Fr.app N0 N118q
  have pre121 : ∀ t, Steps p.tables e below (T118.setTop (mkF m 20 #[.val (.long q0), .second, .val (.long q1), .second, .val (.int p2), .val (.int p3), .val (.int (p3 &&& (7 : Int32))), .val (.ref b116), .unset, .unset, .unset, .unset, .unset] [(.int (p3 &&& (7 : Int32)))])) t → Steps p.tables e below (s₁.setTop (entryFrame m #[(.long q0), (.long q1), (.int p2), (.int p3)] maxLocals)) t := fun t kt => by
    refine pre0 _ ?_
    show Steps p.tables e below (s₁.setTop (mkF m 0 #[.val (.long q0), .second, .val (.long q1), .second, .val (.int p2), .val (.int p3), .unset, .unset, .unset, .unset, .unset, .unset, .unset] [])) _
    refine XS.iload X0.here hx rfl (hb hby at_0) rfl ?_
    show Steps p.tables e below (s₁.setTop (mkF m 2 #[.val (.long q0), .second, .val (.long q1), .second, .val (.int p2), .val (.int p3), .unset, .unset, .unset, .unset, .unset, .unset, .unset] [(.int p3)])) _
    refine XS.bipush X0.here hx rfl (hb hby at_2) ?_
    show Steps p.tables e below (s₁.setTop (mkF m 4 #[.val (.long q0), .second, .val (.long q1), .second, .val (.int p2), .val (.int p3), .unset, .unset, .unset, .unset, .unset, .unset, .unset] [(.int (7 : Int32)), (.int p3)])) _
    refine XS.iand X0.here hx rfl (hb hby at_4) rfl ?_
    show Steps p.tables e below (s₁.setTop (mkF m 5 #[.val (.long q0), .second, .val (.long q1), .second, .val (.int p2), .val (.int p3), .unset, .unset, .unset, .unset, .unset, .unset, .unset] [(.int (p3 &&& (7 : Int32)))])) _
    refine XS.istore X0.here hx rfl (hb hby at_5) rfl (l' := #[.val (.long q0), .second, .val (.long q1), .second, .val (.int p2), .val (.int p3), .val (.int (p3 &&& (7 : Int32))), .unset, .unset, .unset, .unset, .unset, .unset]) rfl ?_
    show Steps p.tables e below (s₁.setTop (mkF m 7 #[.val (.long q0), .second, .val (.long q1), .second, .val (.int p2), .val (.int p3), .val (.int (p3 &&& (7 : Int32))), .unset, .unset, .unset, .unset, .unset, .unset] [])) _
    refine st116 _ ?_
    show Steps p.tables e below (T116.setTop (mkF m 10 #[.val (.long q0), .second, .val (.long q1), .second, .val (.int p2), .val (.int p3), .val (.int (p3 &&& (7 : Int32))), .unset, .unset, .unset, .unset, .unset, .unset] [(.ref b116)])) _
    refine XS.dup X116.here hx rfl (hb hby at_10) rfl rfl ?_
    show Steps p.tables e below (T116.setTop (mkF m 11 #[.val (.long q0), .second, .val (.long q1), .second, .val (.int p2), .val (.int p3), .val (.int (p3 &&& (7 : Int32))), .unset, .unset, .unset, .unset, .unset, .unset] [(.ref b116), (.ref b116)])) _
    refine XS.lloadN X116.here hx rfl (hb hby at_11) rfl ?_
    show Steps p.tables e below (T116.setTop (mkF m 12 #[.val (.long q0), .second, .val (.long q1), .second, .val (.int p2), .val (.int p3), .val (.int (p3 &&& (7 : Int32))), .unset, .unset, .unset, .unset, .unset, .unset] [(.long q0), (.ref b116), (.ref b116)])) _
    refine XS.lloadN X116.here hx rfl (hb hby at_12) rfl ?_
    show Steps p.tables e below (T116.setTop (mkF m 13 #[.val (.long q0), .second, .val (.long q1), .second, .val (.int p2), .val (.int p3), .val (.int (p3 &&& (7 : Int32))), .unset, .unset, .unset, .unset, .unset, .unset] [(.long q1), (.long q0), (.ref b116), (.ref b116)])) _
    refine st118.trans ?_
    show Steps p.tables e below (T118.setTop (mkF m 16 #[.val (.long q0), .second, .val (.long q1), .second, .val (.int p2), .val (.int p3), .val (.int (p3 &&& (7 : Int32))), .unset, .unset, .unset, .unset, .unset, .unset] [(.ref b116)])) _
    refine XS.astore X118.here hx rfl (hb hby at_16) rfl rfl (l' := #[.val (.long q0), .second, .val (.long q1), .second, .val (.int p2), .val (.int p3), .val (.int (p3 &&& (7 : Int32))), .val (.ref b116), .unset, .unset, .unset, .unset, .unset]) rfl ?_
    show Steps p.tables e below (T118.setTop (mkF m 18 #[.val (.long q0), .second, .val (.long q1), .second, .val (.int p2), .val (.int p3), .val (.int (p3 &&& (7 : Int32))), .val (.ref b116), .unset, .unset, .unset, .unset, .unset] [])) _
    refine XS.iload X118.here hx rfl (hb hby at_18) rfl ?_
    show Steps p.tables e below (T118.setTop (mkF m 20 #[.val (.long q0), .second, .val (.long q1), .second, .val (.int p2), .val (.int p3), .val (.int (p3 &&& (7 : Int32))), .val (.ref b116), .unset, .unset, .unset, .unset, .unset] [(.int (p3 &&& (7 : Int32)))])) _
    exact kt
  obtain ⟨v1, hv1⟩ : ∃ z : Int64, z = (if (0 : Int32) < (p3 &&& (7 : Int32)) then (if (p2 &&& (1 : Int32)) = (0 : Int32) then (if (0 : Int32) = (0 : Int32) then ((0 : Int64) + (1 : Int64)) else (0 : Int64)) else (if (1 : Int32) = (0 : Int32) then ((0 : Int64) + (1 : Int64)) else (0 : Int64))) else (0 : Int64)) := ⟨_, rfl⟩
  obtain ⟨v2, hv2⟩ : ∃ z : Int64, z = (if (0 : Int32) < (p3 &&& (7 : Int32)) then (if (p2 &&& (1 : Int32)) = (0 : Int32) then (if (0 : Int32) = (0 : Int32) then (0 : Int64) else ((0 : Int64) + (1 : Int64))) else (if (1 : Int32) = (0 : Int32) then (0 : Int64) else ((0 : Int64) + (1 : Int64)))) else (0 : Int64)) := ⟨_, rfl⟩
  obtain ⟨T131, L131, X131, N131, Z131, E132, F133, F134, F135, F136, pre131⟩ : ∃ (T' : State) (L' : List Loc), Stand p l e room_1 s m #[(.long q0), (.long q1), (.int p2), (.int p3)] below meth c T' L' 1 5 ∧ Fr n0 L' ∧ n0 ≤ T'.heap.size ∧ Exa Z T'.heap b116 "com/example/strict_pdp/strictpdp/expression/ThreeValued$Count" ∧ Fld Z T'.heap b116 "com/example/strict_pdp/strictpdp/expression/ThreeValued$Count" "required" "J" (.long q0) ∧ Fld Z T'.heap b116 "com/example/strict_pdp/strictpdp/expression/ThreeValued$Count" "allowedFalse" "J" (.long q1) ∧ Fld Z T'.heap b116 "com/example/strict_pdp/strictpdp/expression/ThreeValued$Count" "falses" "J" (.long v1) ∧ Fld Z T'.heap b116 "com/example/strict_pdp/strictpdp/expression/ThreeValued$Count" "trues" "J" (.long v2) ∧ ∀ t, Steps p.tables e below (T'.setTop (mkF m 40 #[.val (.long q0), .second, .val (.long q1), .second, .val (.int p2), .val (.int p3), .val (.int (p3 &&& (7 : Int32))), .val (.ref b116), .unset, .unset, .unset, .unset, .unset] [])) t → Steps p.tables e below (s₁.setTop (entryFrame m #[(.long q0), (.long q1), (.int p2), (.int p3)] maxLocals)) t := by
    by_cases hc137 : (0 : Int32) < (p3 &&& (7 : Int32))
    · skip
      have pre138 : ∀ t, Steps p.tables e below (T118.setTop (mkF m 29 #[.val (.long q0), .second, .val (.long q1), .second, .val (.int p2), .val (.int p3), .val (.int (p3 &&& (7 : Int32))), .val (.ref b116), .unset, .unset, .unset, .unset, .unset] [(.int (p2 &&& (1 : Int32))), (.ref b116)])) t → Steps p.tables e below (s₁.setTop (entryFrame m #[(.long q0), (.long q1), (.int p2), (.int p3)] maxLocals)) t := fun t kt => by
        refine pre121 _ ?_
        show Steps p.tables e below (T118.setTop (mkF m 20 #[.val (.long q0), .second, .val (.long q1), .second, .val (.int p2), .val (.int p3), .val (.int (p3 &&& (7 : Int32))), .val (.ref b116), .unset, .unset, .unset, .unset, .unset] [(.int (p3 &&& (7 : Int32)))])) _
        refine XS.ifNo X118.here hx rfl (hb hby at_20) rfl ((if0 _ _).trans (tlt hc137).2.2.2) ?_
        show Steps p.tables e below (T118.setTop (mkF m 23 #[.val (.long q0), .second, .val (.long q1), .second, .val (.int p2), .val (.int p3), .val (.int (p3 &&& (7 : Int32))), .val (.ref b116), .unset, .unset, .unset, .unset, .unset] [])) _
        refine XS.aload X118.here hx rfl (hb hby at_23) rfl rfl ?_
        show Steps p.tables e below (T118.setTop (mkF m 25 #[.val (.long q0), .second, .val (.long q1), .second, .val (.int p2), .val (.int p3), .val (.int (p3 &&& (7 : Int32))), .val (.ref b116), .unset, .unset, .unset, .unset, .unset] [(.ref b116)])) _
        refine XS.iload X118.here hx rfl (hb hby at_25) rfl ?_
        show Steps p.tables e below (T118.setTop (mkF m 27 #[.val (.long q0), .second, .val (.long q1), .second, .val (.int p2), .val (.int p3), .val (.int (p3 &&& (7 : Int32))), .val (.ref b116), .unset, .unset, .unset, .unset, .unset] [(.int p2), (.ref b116)])) _
        refine XS.iconst X118.here hx rfl (hb hby at_27) ?_
        show Steps p.tables e below (T118.setTop (mkF m 28 #[.val (.long q0), .second, .val (.long q1), .second, .val (.int p2), .val (.int p3), .val (.int (p3 &&& (7 : Int32))), .val (.ref b116), .unset, .unset, .unset, .unset, .unset] [(.int (1 : Int32)), (.int p2), (.ref b116)])) _
        refine XS.iand X118.here hx rfl (hb hby at_28) rfl ?_
        show Steps p.tables e below (T118.setTop (mkF m 29 #[.val (.long q0), .second, .val (.long q1), .second, .val (.int p2), .val (.int p3), .val (.int (p3 &&& (7 : Int32))), .val (.ref b116), .unset, .unset, .unset, .unset, .unset] [(.int (p2 &&& (1 : Int32))), (.ref b116)])) _
        exact kt
      by_cases hc139 : (p2 &&& (1 : Int32)) = (0 : Int32)
      · skip
        obtain ⟨cq140, kq140, q140a, q140b, q140c⟩ := isOf hZ rfl E118_0
        obtain ⟨_, _, ⟨T140, L140, k140, n140⟩, -, X140, ⟨Lc140, hQ140, l140, y140, z140⟩, st140⟩ := X118.virtualBack hx (y := (⟨"com/example/strict_pdp/strictpdp/expression/ThreeValued$Count", "add", "(Z)V"⟩ : MethodName)) (z := (⟨"com/example/strict_pdp/strictpdp/expression/ThreeValued$Count", "add", "(Z)V"⟩ : MethodName)) hown (mvT hZ (hw _ (List.mem_of_getElem? (i := 13) rfl))) (mvT hZ (hw _ (List.mem_of_getElem? (i := 14) rfl))) (notFace_of_selects (args := #[]) (mvT hZ (hw _ (List.mem_of_getElem? (i := 16) rfl)))) (mvT hZ (hw _ (List.mem_of_getElem? (i := 16) rfl))) (mvT hZ (hw _ (List.mem_of_getElem? (i := 15) rfl))) (by decide) (backOf (W := 0) (rm3 l Z aq hw [] b116 (0 : Int32) q0 q1 (0 : Int64) (0 : Int64) T118.heap n0 Z119 E118_0 F118_0 F118_1 F118_2 F118_3 g_b116) hZ (hw _ (List.mem_of_getElem? (i := 17) rfl)) (hw _ (List.mem_of_getElem? (i := 2) rfl)) (by decide) (by decide)) q140a q140c (g := (mkF m 37 #[.val (.long q0), .second, .val (.long q1), .second, .val (.int p2), .val (.int p3), .val (.int (p3 &&& (7 : Int32))), .val (.ref b116), .unset, .unset, .unset, .unset, .unset] [(.int (0 : Int32)), (.ref b116)])) rfl (by rw [hml]; rfl) (Steps.refl _) (argsL := [(.int (0 : Int32))]) (rest := []) (lenOf pd88010534 rfl) rfl (by show 2 * 0 + _ ≤ _; exact Nat.le_of_eq rfl) (hb hby at_37) (fun _ _ => ⟨rfl, rfl, (by decide : 1 + 0 ≤ _), (by decide : 5 + 0 ≤ _)⟩)
        dsimp only [Pt.U, Pt.locs, Pt.cells, Pt.slots] at X140 l140 y140 z140 st140 hQ140
        subst l140 y140 z140
        obtain ⟨rfl, N140q, K140, E140_0, F140_0, F140_1, F140_2, F140_3⟩ := hQ140
        have Z141 : n0 ≤ T140.heap.size := Nat.le_trans Z119 K140.1
        have N142 := Fr.app N120 N140q
        have pre143 : ∀ t, Steps p.tables e below (T140.setTop (mkF m 40 #[.val (.long q0), .second, .val (.long q1), .second, .val (.int p2), .val (.int p3), .val (.int (p3 &&& (7 : Int32))), .val (.ref b116), .unset, .unset, .unset, .unset, .unset] [])) t → Steps p.tables e below (s₁.setTop (entryFrame m #[(.long q0), (.long q1), (.int p2), (.int p3)] maxLocals)) t := fun t kt => by
          refine pre138 _ ?_
          show Steps p.tables e below (T118.setTop (mkF m 29 #[.val (.long q0), .second, .val (.long q1), .second, .val (.int p2), .val (.int p3), .val (.int (p3 &&& (7 : Int32))), .val (.ref b116), .unset, .unset, .unset, .unset, .unset] [(.int (p2 &&& (1 : Int32))), (.ref b116)])) _
          refine XS.ifYes X118.here hx rfl (pc0 := 29) (pc' := 36) rfl (hb hby at_29) rfl ((if0 _ _).trans (teq hc139).1) (by decide) (by decide) ?_
          show Steps p.tables e below (T118.setTop (mkF m 36 #[.val (.long q0), .second, .val (.long q1), .second, .val (.int p2), .val (.int p3), .val (.int (p3 &&& (7 : Int32))), .val (.ref b116), .unset, .unset, .unset, .unset, .unset] [(.ref b116)])) _
          refine XS.iconst X118.here hx rfl (hb hby at_36) ?_
          show Steps p.tables e below (T118.setTop (mkF m 37 #[.val (.long q0), .second, .val (.long q1), .second, .val (.int p2), .val (.int p3), .val (.int (p3 &&& (7 : Int32))), .val (.ref b116), .unset, .unset, .unset, .unset, .unset] [(.int (0 : Int32)), (.ref b116)])) _
          refine st140.trans ?_
          show Steps p.tables e below (T140.setTop (mkF m 40 #[.val (.long q0), .second, .val (.long q1), .second, .val (.int p2), .val (.int p3), .val (.int (p3 &&& (7 : Int32))), .val (.ref b116), .unset, .unset, .unset, .unset, .unset] [])) _
          exact kt
        rw [if_pos hc137] at hv1 hv2
        rw [if_pos hc139] at hv1 hv2
        subst hv1
        subst hv2
        exact ⟨_, _, X140, N142, Z141, E140_0, F140_0, F140_1, F140_2, F140_3, pre143⟩
      · skip
        obtain ⟨cq144, kq144, q144a, q144b, q144c⟩ := isOf hZ rfl E118_0
        obtain ⟨_, _, ⟨T144, L144, k144, n144⟩, -, X144, ⟨Lc144, hQ144, l144, y144, z144⟩, st144⟩ := X118.virtualBack hx (y := (⟨"com/example/strict_pdp/strictpdp/expression/ThreeValued$Count", "add", "(Z)V"⟩ : MethodName)) (z := (⟨"com/example/strict_pdp/strictpdp/expression/ThreeValued$Count", "add", "(Z)V"⟩ : MethodName)) hown (mvT hZ (hw _ (List.mem_of_getElem? (i := 13) rfl))) (mvT hZ (hw _ (List.mem_of_getElem? (i := 14) rfl))) (notFace_of_selects (args := #[]) (mvT hZ (hw _ (List.mem_of_getElem? (i := 16) rfl)))) (mvT hZ (hw _ (List.mem_of_getElem? (i := 16) rfl))) (mvT hZ (hw _ (List.mem_of_getElem? (i := 15) rfl))) (by decide) (backOf (W := 0) (rm3 l Z aq hw [] b116 (1 : Int32) q0 q1 (0 : Int64) (0 : Int64) T118.heap n0 Z119 E118_0 F118_0 F118_1 F118_2 F118_3 g_b116) hZ (hw _ (List.mem_of_getElem? (i := 17) rfl)) (hw _ (List.mem_of_getElem? (i := 2) rfl)) (by decide) (by decide)) q144a q144c (g := (mkF m 37 #[.val (.long q0), .second, .val (.long q1), .second, .val (.int p2), .val (.int p3), .val (.int (p3 &&& (7 : Int32))), .val (.ref b116), .unset, .unset, .unset, .unset, .unset] [(.int (1 : Int32)), (.ref b116)])) rfl (by rw [hml]; rfl) (Steps.refl _) (argsL := [(.int (1 : Int32))]) (rest := []) (lenOf pd88010534 rfl) rfl (by show 2 * 0 + _ ≤ _; exact Nat.le_of_eq rfl) (hb hby at_37) (fun _ _ => ⟨rfl, rfl, (by decide : 1 + 0 ≤ _), (by decide : 5 + 0 ≤ _)⟩)
        dsimp only [Pt.U, Pt.locs, Pt.cells, Pt.slots] at X144 l144 y144 z144 st144 hQ144
        subst l144 y144 z144
        obtain ⟨rfl, N144q, K144, E144_0, F144_0, F144_1, F144_2, F144_3⟩ := hQ144
        have Z145 : n0 ≤ T144.heap.size := Nat.le_trans Z119 K144.1
        have N146 := Fr.app N120 N144q
        have pre147 : ∀ t, Steps p.tables e below (T144.setTop (mkF m 40 #[.val (.long q0), .second, .val (.long q1), .second, .val (.int p2), .val (.int p3), .val (.int (p3 &&& (7 : Int32))), .val (.ref b116), .unset, .unset, .unset, .unset, .unset] [])) t → Steps p.tables e below (s₁.setTop (entryFrame m #[(.long q0), (.long q1), (.int p2), (.int p3)] maxLocals)) t := fun t kt => by
          refine pre138 _ ?_
          show Steps p.tables e below (T118.setTop (mkF m 29 #[.val (.long q0), .second, .val (.long q1), .second, .val (.int p2), .val (.int p3), .val (.int (p3 &&& (7 : Int32))), .val (.ref b116), .unset, .unset, .unset, .unset, .unset] [(.int (p2 &&& (1 : Int32))), (.ref b116)])) _
          refine XS.ifNo X118.here hx rfl (hb hby at_29) rfl ((if0 _ _).trans (feq hc139).1) ?_
          show Steps p.tables e below (T118.setTop (mkF m 32 #[.val (.long q0), .second, .val (.long q1), .second, .val (.int p2), .val (.int p3), .val (.int (p3 &&& (7 : Int32))), .val (.ref b116), .unset, .unset, .unset, .unset, .unset] [(.ref b116)])) _
          refine XS.iconst X118.here hx rfl (hb hby at_32) ?_
          show Steps p.tables e below (T118.setTop (mkF m 33 #[.val (.long q0), .second, .val (.long q1), .second, .val (.int p2), .val (.int p3), .val (.int (p3 &&& (7 : Int32))), .val (.ref b116), .unset, .unset, .unset, .unset, .unset] [(.int (1 : Int32)), (.ref b116)])) _
          refine XS.goto X118.here hx rfl (pc0 := 33) (pc' := 37) rfl (hb hby at_33) (by decide) (by decide) ?_
          show Steps p.tables e below (T118.setTop (mkF m 37 #[.val (.long q0), .second, .val (.long q1), .second, .val (.int p2), .val (.int p3), .val (.int (p3 &&& (7 : Int32))), .val (.ref b116), .unset, .unset, .unset, .unset, .unset] [(.int (1 : Int32)), (.ref b116)])) _
          refine st144.trans ?_
          show Steps p.tables e below (T144.setTop (mkF m 40 #[.val (.long q0), .second, .val (.long q1), .second, .val (.int p2), .val (.int p3), .val (.int (p3 &&& (7 : Int32))), .val (.ref b116), .unset, .unset, .unset, .unset, .unset] [])) _
          exact kt
        rw [if_pos hc137] at hv1 hv2
        rw [if_neg hc139] at hv1 hv2
        subst hv1
        subst hv2
        exact ⟨_, _, X144, N146, Z145, E144_0, F144_0, F144_1, F144_2, F144_3, pre147⟩
    · skip
      have pre148 : ∀ t, Steps p.tables e below (T118.setTop (mkF m 40 #[.val (.long q0), .second, .val (.long q1), .second, .val (.int p2), .val (.int p3), .val (.int (p3 &&& (7 : Int32))), .val (.ref b116), .unset, .unset, .unset, .unset, .unset] [])) t → Steps p.tables e below (s₁.setTop (entryFrame m #[(.long q0), (.long q1), (.int p2), (.int p3)] maxLocals)) t := fun t kt => by
        refine pre121 _ ?_
        show Steps p.tables e below (T118.setTop (mkF m 20 #[.val (.long q0), .second, .val (.long q1), .second, .val (.int p2), .val (.int p3), .val (.int (p3 &&& (7 : Int32))), .val (.ref b116), .unset, .unset, .unset, .unset, .unset] [(.int (p3 &&& (7 : Int32)))])) _
        refine XS.ifYes X118.here hx rfl (pc0 := 20) (pc' := 40) rfl (hb hby at_20) rfl ((if0 _ _).trans (flt hc137).2.2.2) (by decide) (by decide) ?_
        show Steps p.tables e below (T118.setTop (mkF m 40 #[.val (.long q0), .second, .val (.long q1), .second, .val (.int p2), .val (.int p3), .val (.int (p3 &&& (7 : Int32))), .val (.ref b116), .unset, .unset, .unset, .unset, .unset] [])) _
        exact kt
      rw [if_neg hc137] at hv1 hv2
      subst hv1
      subst hv2
      exact ⟨_, _, X118, N120, Z119, E118_0, F118_0, F118_1, F118_2, F118_3, pre148⟩
  have pre149 : ∀ t, Steps p.tables e below (T131.setTop (mkF m 43 #[.val (.long q0), .second, .val (.long q1), .second, .val (.int p2), .val (.int p3), .val (.int (p3 &&& (7 : Int32))), .val (.ref b116), .unset, .unset, .unset, .unset, .unset] [(.int (1 : Int32)), (.int (p3 &&& (7 : Int32)))])) t → Steps p.tables e below (s₁.setTop (entryFrame m #[(.long q0), (.long q1), (.int p2), (.int p3)] maxLocals)) t := fun t kt => by
    refine pre131 _ ?_
    show Steps p.tables e below (T131.setTop (mkF m 40 #[.val (.long q0), .second, .val (.long q1), .second, .val (.int p2), .val (.int p3), .val (.int (p3 &&& (7 : Int32))), .val (.ref b116), .unset, .unset, .unset, .unset, .unset] [])) _
    refine XS.iload X131.here hx rfl (hb hby at_40) rfl ?_
    show Steps p.tables e below (T131.setTop (mkF m 42 #[.val (.long q0), .second, .val (.long q1), .second, .val (.int p2), .val (.int p3), .val (.int (p3 &&& (7 : Int32))), .val (.ref b116), .unset, .unset, .unset, .unset, .unset] [(.int (p3 &&& (7 : Int32)))])) _
    refine XS.iconst X131.here hx rfl (hb hby at_42) ?_
    show Steps p.tables e below (T131.setTop (mkF m 43 #[.val (.long q0), .second, .val (.long q1), .second, .val (.int p2), .val (.int p3), .val (.int (p3 &&& (7 : Int32))), .val (.ref b116), .unset, .unset, .unset, .unset, .unset] [(.int (1 : Int32)), (.int (p3 &&& (7 : Int32)))])) _
    exact kt
  obtain ⟨v3, hv3⟩ : ∃ z : Int64, z = (if (1 : Int32) < (p3 &&& (7 : Int32)) then (if (p2 &&& (2 : Int32)) = (0 : Int32) then (if (0 : Int32) = (0 : Int32) then (v1 + (1 : Int64)) else v1) else (if (1 : Int32) = (0 : Int32) then (v1 + (1 : Int64)) else v1)) else v1) := ⟨_, rfl⟩
  obtain ⟨v4, hv4⟩ : ∃ z : Int64, z = (if (1 : Int32) < (p3 &&& (7 : Int32)) then (if (p2 &&& (2 : Int32)) = (0 : Int32) then (if (0 : Int32) = (0 : Int32) then v2 else (v2 + (1 : Int64))) else (if (1 : Int32) = (0 : Int32) then v2 else (v2 + (1 : Int64)))) else v2) := ⟨_, rfl⟩
  obtain ⟨T159, L159, X159, N159, Z159, E160, F161, F162, F163, F164, pre159⟩ : ∃ (T' : State) (L' : List Loc), Stand p l e room_1 s m #[(.long q0), (.long q1), (.int p2), (.int p3)] below meth c T' L' 1 5 ∧ Fr n0 L' ∧ n0 ≤ T'.heap.size ∧ Exa Z T'.heap b116 "com/example/strict_pdp/strictpdp/expression/ThreeValued$Count" ∧ Fld Z T'.heap b116 "com/example/strict_pdp/strictpdp/expression/ThreeValued$Count" "required" "J" (.long q0) ∧ Fld Z T'.heap b116 "com/example/strict_pdp/strictpdp/expression/ThreeValued$Count" "allowedFalse" "J" (.long q1) ∧ Fld Z T'.heap b116 "com/example/strict_pdp/strictpdp/expression/ThreeValued$Count" "falses" "J" (.long v3) ∧ Fld Z T'.heap b116 "com/example/strict_pdp/strictpdp/expression/ThreeValued$Count" "trues" "J" (.long v4) ∧ ∀ t, Steps p.tables e below (T'.setTop (mkF m 63 #[.val (.long q0), .second, .val (.long q1), .second, .val (.int p2), .val (.int p3), .val (.int (p3 &&& (7 : Int32))), .val (.ref b116), .unset, .unset, .unset, .unset, .unset] [])) t → Steps p.tables e below (s₁.setTop (entryFrame m #[(.long q0), (.long q1), (.int p2), (.int p3)] maxLocals)) t := by
    by_cases hc165 : (1 : Int32) < (p3 &&& (7 : Int32))
    · skip
      have pre166 : ∀ t, Steps p.tables e below (T131.setTop (mkF m 52 #[.val (.long q0), .second, .val (.long q1), .second, .val (.int p2), .val (.int p3), .val (.int (p3 &&& (7 : Int32))), .val (.ref b116), .unset, .unset, .unset, .unset, .unset] [(.int (p2 &&& (2 : Int32))), (.ref b116)])) t → Steps p.tables e below (s₁.setTop (entryFrame m #[(.long q0), (.long q1), (.int p2), (.int p3)] maxLocals)) t := fun t kt => by
        refine pre149 _ ?_
        show Steps p.tables e below (T131.setTop (mkF m 43 #[.val (.long q0), .second, .val (.long q1), .second, .val (.int p2), .val (.int p3), .val (.int (p3 &&& (7 : Int32))), .val (.ref b116), .unset, .unset, .unset, .unset, .unset] [(.int (1 : Int32)), (.int (p3 &&& (7 : Int32)))])) _
        refine XS.icmpNo X131.here hx rfl (hb hby at_43) rfl (tlt hc165).2.2.2 ?_
        show Steps p.tables e below (T131.setTop (mkF m 46 #[.val (.long q0), .second, .val (.long q1), .second, .val (.int p2), .val (.int p3), .val (.int (p3 &&& (7 : Int32))), .val (.ref b116), .unset, .unset, .unset, .unset, .unset] [])) _
        refine XS.aload X131.here hx rfl (hb hby at_46) rfl rfl ?_
        show Steps p.tables e below (T131.setTop (mkF m 48 #[.val (.long q0), .second, .val (.long q1), .second, .val (.int p2), .val (.int p3), .val (.int (p3 &&& (7 : Int32))), .val (.ref b116), .unset, .unset, .unset, .unset, .unset] [(.ref b116)])) _
        refine XS.iload X131.here hx rfl (hb hby at_48) rfl ?_
        show Steps p.tables e below (T131.setTop (mkF m 50 #[.val (.long q0), .second, .val (.long q1), .second, .val (.int p2), .val (.int p3), .val (.int (p3 &&& (7 : Int32))), .val (.ref b116), .unset, .unset, .unset, .unset, .unset] [(.int p2), (.ref b116)])) _
        refine XS.iconst X131.here hx rfl (hb hby at_50) ?_
        show Steps p.tables e below (T131.setTop (mkF m 51 #[.val (.long q0), .second, .val (.long q1), .second, .val (.int p2), .val (.int p3), .val (.int (p3 &&& (7 : Int32))), .val (.ref b116), .unset, .unset, .unset, .unset, .unset] [(.int (2 : Int32)), (.int p2), (.ref b116)])) _
        refine XS.iand X131.here hx rfl (hb hby at_51) rfl ?_
        show Steps p.tables e below (T131.setTop (mkF m 52 #[.val (.long q0), .second, .val (.long q1), .second, .val (.int p2), .val (.int p3), .val (.int (p3 &&& (7 : Int32))), .val (.ref b116), .unset, .unset, .unset, .unset, .unset] [(.int (p2 &&& (2 : Int32))), (.ref b116)])) _
        exact kt
      by_cases hc167 : (p2 &&& (2 : Int32)) = (0 : Int32)
      · skip
        obtain ⟨cq168, kq168, q168a, q168b, q168c⟩ := isOf hZ rfl E132
        obtain ⟨_, _, ⟨T168, L168, k168, n168⟩, -, X168, ⟨Lc168, hQ168, l168, y168, z168⟩, st168⟩ := X131.virtualBack hx (y := (⟨"com/example/strict_pdp/strictpdp/expression/ThreeValued$Count", "add", "(Z)V"⟩ : MethodName)) (z := (⟨"com/example/strict_pdp/strictpdp/expression/ThreeValued$Count", "add", "(Z)V"⟩ : MethodName)) hown (mvT hZ (hw _ (List.mem_of_getElem? (i := 13) rfl))) (mvT hZ (hw _ (List.mem_of_getElem? (i := 14) rfl))) (notFace_of_selects (args := #[]) (mvT hZ (hw _ (List.mem_of_getElem? (i := 16) rfl)))) (mvT hZ (hw _ (List.mem_of_getElem? (i := 16) rfl))) (mvT hZ (hw _ (List.mem_of_getElem? (i := 15) rfl))) (by decide) (backOf (W := 0) (rm3 l Z aq hw [] b116 (0 : Int32) q0 q1 v1 v2 T131.heap n0 Z131 E132 F133 F134 F135 F136 g_b116) hZ (hw _ (List.mem_of_getElem? (i := 17) rfl)) (hw _ (List.mem_of_getElem? (i := 2) rfl)) (by decide) (by decide)) q168a q168c (g := (mkF m 60 #[.val (.long q0), .second, .val (.long q1), .second, .val (.int p2), .val (.int p3), .val (.int (p3 &&& (7 : Int32))), .val (.ref b116), .unset, .unset, .unset, .unset, .unset] [(.int (0 : Int32)), (.ref b116)])) rfl (by rw [hml]; rfl) (Steps.refl _) (argsL := [(.int (0 : Int32))]) (rest := []) (lenOf pd88010534 rfl) rfl (by show 2 * 0 + _ ≤ _; exact Nat.le_of_eq rfl) (hb hby at_60) (fun _ _ => ⟨rfl, rfl, (by decide : 1 + 0 ≤ _), (by decide : 5 + 0 ≤ _)⟩)
        dsimp only [Pt.U, Pt.locs, Pt.cells, Pt.slots] at X168 l168 y168 z168 st168 hQ168
        subst l168 y168 z168
        obtain ⟨rfl, N168q, K168, E168_0, F168_0, F168_1, F168_2, F168_3⟩ := hQ168
        have Z169 : n0 ≤ T168.heap.size := Nat.le_trans Z131 K168.1
        have N170 := Fr.app N131 N168q
        have pre171 : ∀ t, Steps p.tables e below (T168.setTop (mkF m 63 #[.val (.long q0), .second, .val (.long q1), .second, .val (.int p2), .val (.int p3), .val (.int (p3 &&& (7 : Int32))), .val (.ref b116), .unset, .unset, .unset, .unset, .unset] [])) t → Steps p.tables e below (s₁.setTop (entryFrame m #[(.long q0), (.long q1), (.int p2), (.int p3)] maxLocals)) t := fun t kt => by
          refine pre166 _ ?_
          show Steps p.tables e below (T131.setTop (mkF m 52 #[.val (.long q0), .second, .val (.long q1), .second, .val (.int p2), .val (.int p3), .val (.int (p3 &&& (7 : Int32))), .val (.ref b116), .unset, .unset, .unset, .unset, .unset] [(.int (p2 &&& (2 : Int32))), (.ref b116)])) _
          refine XS.ifYes X131.here hx rfl (pc0 := 52) (pc' := 59) rfl (hb hby at_52) rfl ((if0 _ _).trans (teq hc167).1) (by decide) (by decide) ?_
          show Steps p.tables e below (T131.setTop (mkF m 59 #[.val (.long q0), .second, .val (.long q1), .second, .val (.int p2), .val (.int p3), .val (.int (p3 &&& (7 : Int32))), .val (.ref b116), .unset, .unset, .unset, .unset, .unset] [(.ref b116)])) _
          refine XS.iconst X131.here hx rfl (hb hby at_59) ?_
          show Steps p.tables e below (T131.setTop (mkF m 60 #[.val (.long q0), .second, .val (.long q1), .second, .val (.int p2), .val (.int p3), .val (.int (p3 &&& (7 : Int32))), .val (.ref b116), .unset, .unset, .unset, .unset, .unset] [(.int (0 : Int32)), (.ref b116)])) _
          refine st168.trans ?_
          show Steps p.tables e below (T168.setTop (mkF m 63 #[.val (.long q0), .second, .val (.long q1), .second, .val (.int p2), .val (.int p3), .val (.int (p3 &&& (7 : Int32))), .val (.ref b116), .unset, .unset, .unset, .unset, .unset] [])) _
          exact kt
        rw [if_pos hc165] at hv3 hv4
        rw [if_pos hc167] at hv3 hv4
        subst hv3
        subst hv4
        exact ⟨_, _, X168, N170, Z169, E168_0, F168_0, F168_1, F168_2, F168_3, pre171⟩
      · skip
        obtain ⟨cq172, kq172, q172a, q172b, q172c⟩ := isOf hZ rfl E132
        obtain ⟨_, _, ⟨T172, L172, k172, n172⟩, -, X172, ⟨Lc172, hQ172, l172, y172, z172⟩, st172⟩ := X131.virtualBack hx (y := (⟨"com/example/strict_pdp/strictpdp/expression/ThreeValued$Count", "add", "(Z)V"⟩ : MethodName)) (z := (⟨"com/example/strict_pdp/strictpdp/expression/ThreeValued$Count", "add", "(Z)V"⟩ : MethodName)) hown (mvT hZ (hw _ (List.mem_of_getElem? (i := 13) rfl))) (mvT hZ (hw _ (List.mem_of_getElem? (i := 14) rfl))) (notFace_of_selects (args := #[]) (mvT hZ (hw _ (List.mem_of_getElem? (i := 16) rfl)))) (mvT hZ (hw _ (List.mem_of_getElem? (i := 16) rfl))) (mvT hZ (hw _ (List.mem_of_getElem? (i := 15) rfl))) (by decide) (backOf (W := 0) (rm3 l Z aq hw [] b116 (1 : Int32) q0 q1 v1 v2 T131.heap n0 Z131 E132 F133 F134 F135 F136 g_b116) hZ (hw _ (List.mem_of_getElem? (i := 17) rfl)) (hw _ (List.mem_of_getElem? (i := 2) rfl)) (by decide) (by decide)) q172a q172c (g := (mkF m 60 #[.val (.long q0), .second, .val (.long q1), .second, .val (.int p2), .val (.int p3), .val (.int (p3 &&& (7 : Int32))), .val (.ref b116), .unset, .unset, .unset, .unset, .unset] [(.int (1 : Int32)), (.ref b116)])) rfl (by rw [hml]; rfl) (Steps.refl _) (argsL := [(.int (1 : Int32))]) (rest := []) (lenOf pd88010534 rfl) rfl (by show 2 * 0 + _ ≤ _; exact Nat.le_of_eq rfl) (hb hby at_60) (fun _ _ => ⟨rfl, rfl, (by decide : 1 + 0 ≤ _), (by decide : 5 + 0 ≤ _)⟩)
        dsimp only [Pt.U, Pt.locs, Pt.cells, Pt.slots] at X172 l172 y172 z172 st172 hQ172
        subst l172 y172 z172
        obtain ⟨rfl, N172q, K172, E172_0, F172_0, F172_1, F172_2, F172_3⟩ := hQ172
        have Z173 : n0 ≤ T172.heap.size := Nat.le_trans Z131 K172.1
        have N174 := Fr.app N131 N172q
        have pre175 : ∀ t, Steps p.tables e below (T172.setTop (mkF m 63 #[.val (.long q0), .second, .val (.long q1), .second, .val (.int p2), .val (.int p3), .val (.int (p3 &&& (7 : Int32))), .val (.ref b116), .unset, .unset, .unset, .unset, .unset] [])) t → Steps p.tables e below (s₁.setTop (entryFrame m #[(.long q0), (.long q1), (.int p2), (.int p3)] maxLocals)) t := fun t kt => by
          refine pre166 _ ?_
          show Steps p.tables e below (T131.setTop (mkF m 52 #[.val (.long q0), .second, .val (.long q1), .second, .val (.int p2), .val (.int p3), .val (.int (p3 &&& (7 : Int32))), .val (.ref b116), .unset, .unset, .unset, .unset, .unset] [(.int (p2 &&& (2 : Int32))), (.ref b116)])) _
          refine XS.ifNo X131.here hx rfl (hb hby at_52) rfl ((if0 _ _).trans (feq hc167).1) ?_
          show Steps p.tables e below (T131.setTop (mkF m 55 #[.val (.long q0), .second, .val (.long q1), .second, .val (.int p2), .val (.int p3), .val (.int (p3 &&& (7 : Int32))), .val (.ref b116), .unset, .unset, .unset, .unset, .unset] [(.ref b116)])) _
          refine XS.iconst X131.here hx rfl (hb hby at_55) ?_
          show Steps p.tables e below (T131.setTop (mkF m 56 #[.val (.long q0), .second, .val (.long q1), .second, .val (.int p2), .val (.int p3), .val (.int (p3 &&& (7 : Int32))), .val (.ref b116), .unset, .unset, .unset, .unset, .unset] [(.int (1 : Int32)), (.ref b116)])) _
          refine XS.goto X131.here hx rfl (pc0 := 56) (pc' := 60) rfl (hb hby at_56) (by decide) (by decide) ?_
          show Steps p.tables e below (T131.setTop (mkF m 60 #[.val (.long q0), .second, .val (.long q1), .second, .val (.int p2), .val (.int p3), .val (.int (p3 &&& (7 : Int32))), .val (.ref b116), .unset, .unset, .unset, .unset, .unset] [(.int (1 : Int32)), (.ref b116)])) _
          refine st172.trans ?_
          show Steps p.tables e below (T172.setTop (mkF m 63 #[.val (.long q0), .second, .val (.long q1), .second, .val (.int p2), .val (.int p3), .val (.int (p3 &&& (7 : Int32))), .val (.ref b116), .unset, .unset, .unset, .unset, .unset] [])) _
          exact kt
        rw [if_pos hc165] at hv3 hv4
        rw [if_neg hc167] at hv3 hv4
        subst hv3
        subst hv4
        exact ⟨_, _, X172, N174, Z173, E172_0, F172_0, F172_1, F172_2, F172_3, pre175⟩
    · skip
      have pre176 : ∀ t, Steps p.tables e below (T131.setTop (mkF m 63 #[.val (.long q0), .second, .val (.long q1), .second, .val (.int p2), .val (.int p3), .val (.int (p3 &&& (7 : Int32))), .val (.ref b116), .unset, .unset, .unset, .unset, .unset] [])) t → Steps p.tables e below (s₁.setTop (entryFrame m #[(.long q0), (.long q1), (.int p2), (.int p3)] maxLocals)) t := fun t kt => by
        refine pre149 _ ?_
        show Steps p.tables e below (T131.setTop (mkF m 43 #[.val (.long q0), .second, .val (.long q1), .second, .val (.int p2), .val (.int p3), .val (.int (p3 &&& (7 : Int32))), .val (.ref b116), .unset, .unset, .unset, .unset, .unset] [(.int (1 : Int32)), (.int (p3 &&& (7 : Int32)))])) _
        refine XS.icmpYes X131.here hx rfl (pc0 := 43) (pc' := 63) rfl (hb hby at_43) rfl (flt hc165).2.2.2 (by decide) (by decide) ?_
        show Steps p.tables e below (T131.setTop (mkF m 63 #[.val (.long q0), .second, .val (.long q1), .second, .val (.int p2), .val (.int p3), .val (.int (p3 &&& (7 : Int32))), .val (.ref b116), .unset, .unset, .unset, .unset, .unset] [])) _
        exact kt
      rw [if_neg hc165] at hv3 hv4
      subst hv3
      subst hv4
      exact ⟨_, _, X131, N131, Z131, E132, F133, F134, F135, F136, pre176⟩
  have pre177 : ∀ t, Steps p.tables e below (T159.setTop (mkF m 66 #[.val (.long q0), .second, .val (.long q1), .second, .val (.int p2), .val (.int p3), .val (.int (p3 &&& (7 : Int32))), .val (.ref b116), .unset, .unset, .unset, .unset, .unset] [(.int (2 : Int32)), (.int (p3 &&& (7 : Int32)))])) t → Steps p.tables e below (s₁.setTop (entryFrame m #[(.long q0), (.long q1), (.int p2), (.int p3)] maxLocals)) t := fun t kt => by
    refine pre159 _ ?_
    show Steps p.tables e below (T159.setTop (mkF m 63 #[.val (.long q0), .second, .val (.long q1), .second, .val (.int p2), .val (.int p3), .val (.int (p3 &&& (7 : Int32))), .val (.ref b116), .unset, .unset, .unset, .unset, .unset] [])) _
    refine XS.iload X159.here hx rfl (hb hby at_63) rfl ?_
    show Steps p.tables e below (T159.setTop (mkF m 65 #[.val (.long q0), .second, .val (.long q1), .second, .val (.int p2), .val (.int p3), .val (.int (p3 &&& (7 : Int32))), .val (.ref b116), .unset, .unset, .unset, .unset, .unset] [(.int (p3 &&& (7 : Int32)))])) _
    refine XS.iconst X159.here hx rfl (hb hby at_65) ?_
    show Steps p.tables e below (T159.setTop (mkF m 66 #[.val (.long q0), .second, .val (.long q1), .second, .val (.int p2), .val (.int p3), .val (.int (p3 &&& (7 : Int32))), .val (.ref b116), .unset, .unset, .unset, .unset, .unset] [(.int (2 : Int32)), (.int (p3 &&& (7 : Int32)))])) _
    exact kt
  obtain ⟨v5, hv5⟩ : ∃ z : Int64, z = (if (2 : Int32) < (p3 &&& (7 : Int32)) then (if (p2 &&& (4 : Int32)) = (0 : Int32) then (if (0 : Int32) = (0 : Int32) then (v3 + (1 : Int64)) else v3) else (if (1 : Int32) = (0 : Int32) then (v3 + (1 : Int64)) else v3)) else v3) := ⟨_, rfl⟩
  obtain ⟨v6, hv6⟩ : ∃ z : Int64, z = (if (2 : Int32) < (p3 &&& (7 : Int32)) then (if (p2 &&& (4 : Int32)) = (0 : Int32) then (if (0 : Int32) = (0 : Int32) then v4 else (v4 + (1 : Int64))) else (if (1 : Int32) = (0 : Int32) then v4 else (v4 + (1 : Int64)))) else v4) := ⟨_, rfl⟩
  obtain ⟨T187, L187, X187, N187, Z187, E188, F189, F190, F191, F192, pre187⟩ : ∃ (T' : State) (L' : List Loc), Stand p l e room_1 s m #[(.long q0), (.long q1), (.int p2), (.int p3)] below meth c T' L' 1 5 ∧ Fr n0 L' ∧ n0 ≤ T'.heap.size ∧ Exa Z T'.heap b116 "com/example/strict_pdp/strictpdp/expression/ThreeValued$Count" ∧ Fld Z T'.heap b116 "com/example/strict_pdp/strictpdp/expression/ThreeValued$Count" "required" "J" (.long q0) ∧ Fld Z T'.heap b116 "com/example/strict_pdp/strictpdp/expression/ThreeValued$Count" "allowedFalse" "J" (.long q1) ∧ Fld Z T'.heap b116 "com/example/strict_pdp/strictpdp/expression/ThreeValued$Count" "falses" "J" (.long v5) ∧ Fld Z T'.heap b116 "com/example/strict_pdp/strictpdp/expression/ThreeValued$Count" "trues" "J" (.long v6) ∧ ∀ t, Steps p.tables e below (T'.setTop (mkF m 86 #[.val (.long q0), .second, .val (.long q1), .second, .val (.int p2), .val (.int p3), .val (.int (p3 &&& (7 : Int32))), .val (.ref b116), .unset, .unset, .unset, .unset, .unset] [])) t → Steps p.tables e below (s₁.setTop (entryFrame m #[(.long q0), (.long q1), (.int p2), (.int p3)] maxLocals)) t := by
    by_cases hc193 : (2 : Int32) < (p3 &&& (7 : Int32))
    · skip
      have pre194 : ∀ t, Steps p.tables e below (T159.setTop (mkF m 75 #[.val (.long q0), .second, .val (.long q1), .second, .val (.int p2), .val (.int p3), .val (.int (p3 &&& (7 : Int32))), .val (.ref b116), .unset, .unset, .unset, .unset, .unset] [(.int (p2 &&& (4 : Int32))), (.ref b116)])) t → Steps p.tables e below (s₁.setTop (entryFrame m #[(.long q0), (.long q1), (.int p2), (.int p3)] maxLocals)) t := fun t kt => by
        refine pre177 _ ?_
        show Steps p.tables e below (T159.setTop (mkF m 66 #[.val (.long q0), .second, .val (.long q1), .second, .val (.int p2), .val (.int p3), .val (.int (p3 &&& (7 : Int32))), .val (.ref b116), .unset, .unset, .unset, .unset, .unset] [(.int (2 : Int32)), (.int (p3 &&& (7 : Int32)))])) _
        refine XS.icmpNo X159.here hx rfl (hb hby at_66) rfl (tlt hc193).2.2.2 ?_
        show Steps p.tables e below (T159.setTop (mkF m 69 #[.val (.long q0), .second, .val (.long q1), .second, .val (.int p2), .val (.int p3), .val (.int (p3 &&& (7 : Int32))), .val (.ref b116), .unset, .unset, .unset, .unset, .unset] [])) _
        refine XS.aload X159.here hx rfl (hb hby at_69) rfl rfl ?_
        show Steps p.tables e below (T159.setTop (mkF m 71 #[.val (.long q0), .second, .val (.long q1), .second, .val (.int p2), .val (.int p3), .val (.int (p3 &&& (7 : Int32))), .val (.ref b116), .unset, .unset, .unset, .unset, .unset] [(.ref b116)])) _
        refine XS.iload X159.here hx rfl (hb hby at_71) rfl ?_
        show Steps p.tables e below (T159.setTop (mkF m 73 #[.val (.long q0), .second, .val (.long q1), .second, .val (.int p2), .val (.int p3), .val (.int (p3 &&& (7 : Int32))), .val (.ref b116), .unset, .unset, .unset, .unset, .unset] [(.int p2), (.ref b116)])) _
        refine XS.iconst X159.here hx rfl (hb hby at_73) ?_
        show Steps p.tables e below (T159.setTop (mkF m 74 #[.val (.long q0), .second, .val (.long q1), .second, .val (.int p2), .val (.int p3), .val (.int (p3 &&& (7 : Int32))), .val (.ref b116), .unset, .unset, .unset, .unset, .unset] [(.int (4 : Int32)), (.int p2), (.ref b116)])) _
        refine XS.iand X159.here hx rfl (hb hby at_74) rfl ?_
        show Steps p.tables e below (T159.setTop (mkF m 75 #[.val (.long q0), .second, .val (.long q1), .second, .val (.int p2), .val (.int p3), .val (.int (p3 &&& (7 : Int32))), .val (.ref b116), .unset, .unset, .unset, .unset, .unset] [(.int (p2 &&& (4 : Int32))), (.ref b116)])) _
        exact kt
      by_cases hc195 : (p2 &&& (4 : Int32)) = (0 : Int32)
      · skip
        obtain ⟨cq196, kq196, q196a, q196b, q196c⟩ := isOf hZ rfl E160
        obtain ⟨_, _, ⟨T196, L196, k196, n196⟩, -, X196, ⟨Lc196, hQ196, l196, y196, z196⟩, st196⟩ := X159.virtualBack hx (y := (⟨"com/example/strict_pdp/strictpdp/expression/ThreeValued$Count", "add", "(Z)V"⟩ : MethodName)) (z := (⟨"com/example/strict_pdp/strictpdp/expression/ThreeValued$Count", "add", "(Z)V"⟩ : MethodName)) hown (mvT hZ (hw _ (List.mem_of_getElem? (i := 13) rfl))) (mvT hZ (hw _ (List.mem_of_getElem? (i := 14) rfl))) (notFace_of_selects (args := #[]) (mvT hZ (hw _ (List.mem_of_getElem? (i := 16) rfl)))) (mvT hZ (hw _ (List.mem_of_getElem? (i := 16) rfl))) (mvT hZ (hw _ (List.mem_of_getElem? (i := 15) rfl))) (by decide) (backOf (W := 0) (rm3 l Z aq hw [] b116 (0 : Int32) q0 q1 v3 v4 T159.heap n0 Z159 E160 F161 F162 F163 F164 g_b116) hZ (hw _ (List.mem_of_getElem? (i := 17) rfl)) (hw _ (List.mem_of_getElem? (i := 2) rfl)) (by decide) (by decide)) q196a q196c (g := (mkF m 83 #[.val (.long q0), .second, .val (.long q1), .second, .val (.int p2), .val (.int p3), .val (.int (p3 &&& (7 : Int32))), .val (.ref b116), .unset, .unset, .unset, .unset, .unset] [(.int (0 : Int32)), (.ref b116)])) rfl (by rw [hml]; rfl) (Steps.refl _) (argsL := [(.int (0 : Int32))]) (rest := []) (lenOf pd88010534 rfl) rfl (by show 2 * 0 + _ ≤ _; exact Nat.le_of_eq rfl) (hb hby at_83) (fun _ _ => ⟨rfl, rfl, (by decide : 1 + 0 ≤ _), (by decide : 5 + 0 ≤ _)⟩)
        dsimp only [Pt.U, Pt.locs, Pt.cells, Pt.slots] at X196 l196 y196 z196 st196 hQ196
        subst l196 y196 z196
        obtain ⟨rfl, N196q, K196, E196_0, F196_0, F196_1, F196_2, F196_3⟩ := hQ196
        have Z197 : n0 ≤ T196.heap.size := Nat.le_trans Z159 K196.1
        have N198 := Fr.app N159 N196q
        have pre199 : ∀ t, Steps p.tables e below (T196.setTop (mkF m 86 #[.val (.long q0), .second, .val (.long q1), .second, .val (.int p2), .val (.int p3), .val (.int (p3 &&& (7 : Int32))), .val (.ref b116), .unset, .unset, .unset, .unset, .unset] [])) t → Steps p.tables e below (s₁.setTop (entryFrame m #[(.long q0), (.long q1), (.int p2), (.int p3)] maxLocals)) t := fun t kt => by
          refine pre194 _ ?_
          show Steps p.tables e below (T159.setTop (mkF m 75 #[.val (.long q0), .second, .val (.long q1), .second, .val (.int p2), .val (.int p3), .val (.int (p3 &&& (7 : Int32))), .val (.ref b116), .unset, .unset, .unset, .unset, .unset] [(.int (p2 &&& (4 : Int32))), (.ref b116)])) _
          refine XS.ifYes X159.here hx rfl (pc0 := 75) (pc' := 82) rfl (hb hby at_75) rfl ((if0 _ _).trans (teq hc195).1) (by decide) (by decide) ?_
          show Steps p.tables e below (T159.setTop (mkF m 82 #[.val (.long q0), .second, .val (.long q1), .second, .val (.int p2), .val (.int p3), .val (.int (p3 &&& (7 : Int32))), .val (.ref b116), .unset, .unset, .unset, .unset, .unset] [(.ref b116)])) _
          refine XS.iconst X159.here hx rfl (hb hby at_82) ?_
          show Steps p.tables e below (T159.setTop (mkF m 83 #[.val (.long q0), .second, .val (.long q1), .second, .val (.int p2), .val (.int p3), .val (.int (p3 &&& (7 : Int32))), .val (.ref b116), .unset, .unset, .unset, .unset, .unset] [(.int (0 : Int32)), (.ref b116)])) _
          refine st196.trans ?_
          show Steps p.tables e below (T196.setTop (mkF m 86 #[.val (.long q0), .second, .val (.long q1), .second, .val (.int p2), .val (.int p3), .val (.int (p3 &&& (7 : Int32))), .val (.ref b116), .unset, .unset, .unset, .unset, .unset] [])) _
          exact kt
        rw [if_pos hc193] at hv5 hv6
        rw [if_pos hc195] at hv5 hv6
        subst hv5
        subst hv6
        exact ⟨_, _, X196, N198, Z197, E196_0, F196_0, F196_1, F196_2, F196_3, pre199⟩
      · skip
        obtain ⟨cq200, kq200, q200a, q200b, q200c⟩ := isOf hZ rfl E160
        obtain ⟨_, _, ⟨T200, L200, k200, n200⟩, -, X200, ⟨Lc200, hQ200, l200, y200, z200⟩, st200⟩ := X159.virtualBack hx (y := (⟨"com/example/strict_pdp/strictpdp/expression/ThreeValued$Count", "add", "(Z)V"⟩ : MethodName)) (z := (⟨"com/example/strict_pdp/strictpdp/expression/ThreeValued$Count", "add", "(Z)V"⟩ : MethodName)) hown (mvT hZ (hw _ (List.mem_of_getElem? (i := 13) rfl))) (mvT hZ (hw _ (List.mem_of_getElem? (i := 14) rfl))) (notFace_of_selects (args := #[]) (mvT hZ (hw _ (List.mem_of_getElem? (i := 16) rfl)))) (mvT hZ (hw _ (List.mem_of_getElem? (i := 16) rfl))) (mvT hZ (hw _ (List.mem_of_getElem? (i := 15) rfl))) (by decide) (backOf (W := 0) (rm3 l Z aq hw [] b116 (1 : Int32) q0 q1 v3 v4 T159.heap n0 Z159 E160 F161 F162 F163 F164 g_b116) hZ (hw _ (List.mem_of_getElem? (i := 17) rfl)) (hw _ (List.mem_of_getElem? (i := 2) rfl)) (by decide) (by decide)) q200a q200c (g := (mkF m 83 #[.val (.long q0), .second, .val (.long q1), .second, .val (.int p2), .val (.int p3), .val (.int (p3 &&& (7 : Int32))), .val (.ref b116), .unset, .unset, .unset, .unset, .unset] [(.int (1 : Int32)), (.ref b116)])) rfl (by rw [hml]; rfl) (Steps.refl _) (argsL := [(.int (1 : Int32))]) (rest := []) (lenOf pd88010534 rfl) rfl (by show 2 * 0 + _ ≤ _; exact Nat.le_of_eq rfl) (hb hby at_83) (fun _ _ => ⟨rfl, rfl, (by decide : 1 + 0 ≤ _), (by decide : 5 + 0 ≤ _)⟩)
        dsimp only [Pt.U, Pt.locs, Pt.cells, Pt.slots] at X200 l200 y200 z200 st200 hQ200
        subst l200 y200 z200
        obtain ⟨rfl, N200q, K200, E200_0, F200_0, F200_1, F200_2, F200_3⟩ := hQ200
        have Z201 : n0 ≤ T200.heap.size := Nat.le_trans Z159 K200.1
        have N202 := Fr.app N159 N200q
        have pre203 : ∀ t, Steps p.tables e below (T200.setTop (mkF m 86 #[.val (.long q0), .second, .val (.long q1), .second, .val (.int p2), .val (.int p3), .val (.int (p3 &&& (7 : Int32))), .val (.ref b116), .unset, .unset, .unset, .unset, .unset] [])) t → Steps p.tables e below (s₁.setTop (entryFrame m #[(.long q0), (.long q1), (.int p2), (.int p3)] maxLocals)) t := fun t kt => by
          refine pre194 _ ?_
          show Steps p.tables e below (T159.setTop (mkF m 75 #[.val (.long q0), .second, .val (.long q1), .second, .val (.int p2), .val (.int p3), .val (.int (p3 &&& (7 : Int32))), .val (.ref b116), .unset, .unset, .unset, .unset, .unset] [(.int (p2 &&& (4 : Int32))), (.ref b116)])) _
          refine XS.ifNo X159.here hx rfl (hb hby at_75) rfl ((if0 _ _).trans (feq hc195).1) ?_
          show Steps p.tables e below (T159.setTop (mkF m 78 #[.val (.long q0), .second, .val (.long q1), .second, .val (.int p2), .val (.int p3), .val (.int (p3 &&& (7 : Int32))), .val (.ref b116), .unset, .unset, .unset, .unset, .unset] [(.ref b116)])) _
          refine XS.iconst X159.here hx rfl (hb hby at_78) ?_
          show Steps p.tables e below (T159.setTop (mkF m 79 #[.val (.long q0), .second, .val (.long q1), .second, .val (.int p2), .val (.int p3), .val (.int (p3 &&& (7 : Int32))), .val (.ref b116), .unset, .unset, .unset, .unset, .unset] [(.int (1 : Int32)), (.ref b116)])) _
          refine XS.goto X159.here hx rfl (pc0 := 79) (pc' := 83) rfl (hb hby at_79) (by decide) (by decide) ?_
          show Steps p.tables e below (T159.setTop (mkF m 83 #[.val (.long q0), .second, .val (.long q1), .second, .val (.int p2), .val (.int p3), .val (.int (p3 &&& (7 : Int32))), .val (.ref b116), .unset, .unset, .unset, .unset, .unset] [(.int (1 : Int32)), (.ref b116)])) _
          refine st200.trans ?_
          show Steps p.tables e below (T200.setTop (mkF m 86 #[.val (.long q0), .second, .val (.long q1), .second, .val (.int p2), .val (.int p3), .val (.int (p3 &&& (7 : Int32))), .val (.ref b116), .unset, .unset, .unset, .unset, .unset] [])) _
          exact kt
        rw [if_pos hc193] at hv5 hv6
        rw [if_neg hc195] at hv5 hv6
        subst hv5
        subst hv6
        exact ⟨_, _, X200, N202, Z201, E200_0, F200_0, F200_1, F200_2, F200_3, pre203⟩
    · skip
      have pre204 : ∀ t, Steps p.tables e below (T159.setTop (mkF m 86 #[.val (.long q0), .second, .val (.long q1), .second, .val (.int p2), .val (.int p3), .val (.int (p3 &&& (7 : Int32))), .val (.ref b116), .unset, .unset, .unset, .unset, .unset] [])) t → Steps p.tables e below (s₁.setTop (entryFrame m #[(.long q0), (.long q1), (.int p2), (.int p3)] maxLocals)) t := fun t kt => by
        refine pre177 _ ?_
        show Steps p.tables e below (T159.setTop (mkF m 66 #[.val (.long q0), .second, .val (.long q1), .second, .val (.int p2), .val (.int p3), .val (.int (p3 &&& (7 : Int32))), .val (.ref b116), .unset, .unset, .unset, .unset, .unset] [(.int (2 : Int32)), (.int (p3 &&& (7 : Int32)))])) _
        refine XS.icmpYes X159.here hx rfl (pc0 := 66) (pc' := 86) rfl (hb hby at_66) rfl (flt hc193).2.2.2 (by decide) (by decide) ?_
        show Steps p.tables e below (T159.setTop (mkF m 86 #[.val (.long q0), .second, .val (.long q1), .second, .val (.int p2), .val (.int p3), .val (.int (p3 &&& (7 : Int32))), .val (.ref b116), .unset, .unset, .unset, .unset, .unset] [])) _
        exact kt
      rw [if_neg hc193] at hv5 hv6
      subst hv5
      subst hv6
      exact ⟨_, _, X159, N159, Z159, E160, F161, F162, F163, F164, pre204⟩
  have pre205 : ∀ t, Steps p.tables e below (T187.setTop (mkF m 89 #[.val (.long q0), .second, .val (.long q1), .second, .val (.int p2), .val (.int p3), .val (.int (p3 &&& (7 : Int32))), .val (.ref b116), .unset, .unset, .unset, .unset, .unset] [(.int (3 : Int32)), (.int (p3 &&& (7 : Int32)))])) t → Steps p.tables e below (s₁.setTop (entryFrame m #[(.long q0), (.long q1), (.int p2), (.int p3)] maxLocals)) t := fun t kt => by
    refine pre187 _ ?_
    show Steps p.tables e below (T187.setTop (mkF m 86 #[.val (.long q0), .second, .val (.long q1), .second, .val (.int p2), .val (.int p3), .val (.int (p3 &&& (7 : Int32))), .val (.ref b116), .unset, .unset, .unset, .unset, .unset] [])) _
    refine XS.iload X187.here hx rfl (hb hby at_86) rfl ?_
    show Steps p.tables e below (T187.setTop (mkF m 88 #[.val (.long q0), .second, .val (.long q1), .second, .val (.int p2), .val (.int p3), .val (.int (p3 &&& (7 : Int32))), .val (.ref b116), .unset, .unset, .unset, .unset, .unset] [(.int (p3 &&& (7 : Int32)))])) _
    refine XS.iconst X187.here hx rfl (hb hby at_88) ?_
    show Steps p.tables e below (T187.setTop (mkF m 89 #[.val (.long q0), .second, .val (.long q1), .second, .val (.int p2), .val (.int p3), .val (.int (p3 &&& (7 : Int32))), .val (.ref b116), .unset, .unset, .unset, .unset, .unset] [(.int (3 : Int32)), (.int (p3 &&& (7 : Int32)))])) _
    exact kt
  obtain ⟨v7, hv7⟩ : ∃ z : Int64, z = (if (3 : Int32) < (p3 &&& (7 : Int32)) then (if (p2 &&& (8 : Int32)) = (0 : Int32) then (if (0 : Int32) = (0 : Int32) then (v5 + (1 : Int64)) else v5) else (if (1 : Int32) = (0 : Int32) then (v5 + (1 : Int64)) else v5)) else v5) := ⟨_, rfl⟩
  obtain ⟨v8, hv8⟩ : ∃ z : Int64, z = (if (3 : Int32) < (p3 &&& (7 : Int32)) then (if (p2 &&& (8 : Int32)) = (0 : Int32) then (if (0 : Int32) = (0 : Int32) then v6 else (v6 + (1 : Int64))) else (if (1 : Int32) = (0 : Int32) then v6 else (v6 + (1 : Int64)))) else v6) := ⟨_, rfl⟩
  obtain ⟨T215, L215, X215, N215, Z215, E216, F217, F218, F219, F220, pre215⟩ : ∃ (T' : State) (L' : List Loc), Stand p l e room_1 s m #[(.long q0), (.long q1), (.int p2), (.int p3)] below meth c T' L' 1 5 ∧ Fr n0 L' ∧ n0 ≤ T'.heap.size ∧ Exa Z T'.heap b116 "com/example/strict_pdp/strictpdp/expression/ThreeValued$Count" ∧ Fld Z T'.heap b116 "com/example/strict_pdp/strictpdp/expression/ThreeValued$Count" "required" "J" (.long q0) ∧ Fld Z T'.heap b116 "com/example/strict_pdp/strictpdp/expression/ThreeValued$Count" "allowedFalse" "J" (.long q1) ∧ Fld Z T'.heap b116 "com/example/strict_pdp/strictpdp/expression/ThreeValued$Count" "falses" "J" (.long v7) ∧ Fld Z T'.heap b116 "com/example/strict_pdp/strictpdp/expression/ThreeValued$Count" "trues" "J" (.long v8) ∧ ∀ t, Steps p.tables e below (T'.setTop (mkF m 110 #[.val (.long q0), .second, .val (.long q1), .second, .val (.int p2), .val (.int p3), .val (.int (p3 &&& (7 : Int32))), .val (.ref b116), .unset, .unset, .unset, .unset, .unset] [])) t → Steps p.tables e below (s₁.setTop (entryFrame m #[(.long q0), (.long q1), (.int p2), (.int p3)] maxLocals)) t := by
    by_cases hc221 : (3 : Int32) < (p3 &&& (7 : Int32))
    · skip
      have pre222 : ∀ t, Steps p.tables e below (T187.setTop (mkF m 99 #[.val (.long q0), .second, .val (.long q1), .second, .val (.int p2), .val (.int p3), .val (.int (p3 &&& (7 : Int32))), .val (.ref b116), .unset, .unset, .unset, .unset, .unset] [(.int (p2 &&& (8 : Int32))), (.ref b116)])) t → Steps p.tables e below (s₁.setTop (entryFrame m #[(.long q0), (.long q1), (.int p2), (.int p3)] maxLocals)) t := fun t kt => by
        refine pre205 _ ?_
        show Steps p.tables e below (T187.setTop (mkF m 89 #[.val (.long q0), .second, .val (.long q1), .second, .val (.int p2), .val (.int p3), .val (.int (p3 &&& (7 : Int32))), .val (.ref b116), .unset, .unset, .unset, .unset, .unset] [(.int (3 : Int32)), (.int (p3 &&& (7 : Int32)))])) _
        refine XS.icmpNo X187.here hx rfl (hb hby at_89) rfl (tlt hc221).2.2.2 ?_
        show Steps p.tables e below (T187.setTop (mkF m 92 #[.val (.long q0), .second, .val (.long q1), .second, .val (.int p2), .val (.int p3), .val (.int (p3 &&& (7 : Int32))), .val (.ref b116), .unset, .unset, .unset, .unset, .unset] [])) _
        refine XS.aload X187.here hx rfl (hb hby at_92) rfl rfl ?_
        show Steps p.tables e below (T187.setTop (mkF m 94 #[.val (.long q0), .second, .val (.long q1), .second, .val (.int p2), .val (.int p3), .val (.int (p3 &&& (7 : Int32))), .val (.ref b116), .unset, .unset, .unset, .unset, .unset] [(.ref b116)])) _
        refine XS.iload X187.here hx rfl (hb hby at_94) rfl ?_
        show Steps p.tables e below (T187.setTop (mkF m 96 #[.val (.long q0), .second, .val (.long q1), .second, .val (.int p2), .val (.int p3), .val (.int (p3 &&& (7 : Int32))), .val (.ref b116), .unset, .unset, .unset, .unset, .unset] [(.int p2), (.ref b116)])) _
        refine XS.bipush X187.here hx rfl (hb hby at_96) ?_
        show Steps p.tables e below (T187.setTop (mkF m 98 #[.val (.long q0), .second, .val (.long q1), .second, .val (.int p2), .val (.int p3), .val (.int (p3 &&& (7 : Int32))), .val (.ref b116), .unset, .unset, .unset, .unset, .unset] [(.int (8 : Int32)), (.int p2), (.ref b116)])) _
        refine XS.iand X187.here hx rfl (hb hby at_98) rfl ?_
        show Steps p.tables e below (T187.setTop (mkF m 99 #[.val (.long q0), .second, .val (.long q1), .second, .val (.int p2), .val (.int p3), .val (.int (p3 &&& (7 : Int32))), .val (.ref b116), .unset, .unset, .unset, .unset, .unset] [(.int (p2 &&& (8 : Int32))), (.ref b116)])) _
        exact kt
      by_cases hc223 : (p2 &&& (8 : Int32)) = (0 : Int32)
      · skip
        obtain ⟨cq224, kq224, q224a, q224b, q224c⟩ := isOf hZ rfl E188
        obtain ⟨_, _, ⟨T224, L224, k224, n224⟩, -, X224, ⟨Lc224, hQ224, l224, y224, z224⟩, st224⟩ := X187.virtualBack hx (y := (⟨"com/example/strict_pdp/strictpdp/expression/ThreeValued$Count", "add", "(Z)V"⟩ : MethodName)) (z := (⟨"com/example/strict_pdp/strictpdp/expression/ThreeValued$Count", "add", "(Z)V"⟩ : MethodName)) hown (mvT hZ (hw _ (List.mem_of_getElem? (i := 13) rfl))) (mvT hZ (hw _ (List.mem_of_getElem? (i := 14) rfl))) (notFace_of_selects (args := #[]) (mvT hZ (hw _ (List.mem_of_getElem? (i := 16) rfl)))) (mvT hZ (hw _ (List.mem_of_getElem? (i := 16) rfl))) (mvT hZ (hw _ (List.mem_of_getElem? (i := 15) rfl))) (by decide) (backOf (W := 0) (rm3 l Z aq hw [] b116 (0 : Int32) q0 q1 v5 v6 T187.heap n0 Z187 E188 F189 F190 F191 F192 g_b116) hZ (hw _ (List.mem_of_getElem? (i := 17) rfl)) (hw _ (List.mem_of_getElem? (i := 2) rfl)) (by decide) (by decide)) q224a q224c (g := (mkF m 107 #[.val (.long q0), .second, .val (.long q1), .second, .val (.int p2), .val (.int p3), .val (.int (p3 &&& (7 : Int32))), .val (.ref b116), .unset, .unset, .unset, .unset, .unset] [(.int (0 : Int32)), (.ref b116)])) rfl (by rw [hml]; rfl) (Steps.refl _) (argsL := [(.int (0 : Int32))]) (rest := []) (lenOf pd88010534 rfl) rfl (by show 2 * 0 + _ ≤ _; exact Nat.le_of_eq rfl) (hb hby at_107) (fun _ _ => ⟨rfl, rfl, (by decide : 1 + 0 ≤ _), (by decide : 5 + 0 ≤ _)⟩)
        dsimp only [Pt.U, Pt.locs, Pt.cells, Pt.slots] at X224 l224 y224 z224 st224 hQ224
        subst l224 y224 z224
        obtain ⟨rfl, N224q, K224, E224_0, F224_0, F224_1, F224_2, F224_3⟩ := hQ224
        have Z225 : n0 ≤ T224.heap.size := Nat.le_trans Z187 K224.1
        have N226 := Fr.app N187 N224q
        have pre227 : ∀ t, Steps p.tables e below (T224.setTop (mkF m 110 #[.val (.long q0), .second, .val (.long q1), .second, .val (.int p2), .val (.int p3), .val (.int (p3 &&& (7 : Int32))), .val (.ref b116), .unset, .unset, .unset, .unset, .unset] [])) t → Steps p.tables e below (s₁.setTop (entryFrame m #[(.long q0), (.long q1), (.int p2), (.int p3)] maxLocals)) t := fun t kt => by
          refine pre222 _ ?_
          show Steps p.tables e below (T187.setTop (mkF m 99 #[.val (.long q0), .second, .val (.long q1), .second, .val (.int p2), .val (.int p3), .val (.int (p3 &&& (7 : Int32))), .val (.ref b116), .unset, .unset, .unset, .unset, .unset] [(.int (p2 &&& (8 : Int32))), (.ref b116)])) _
          refine XS.ifYes X187.here hx rfl (pc0 := 99) (pc' := 106) rfl (hb hby at_99) rfl ((if0 _ _).trans (teq hc223).1) (by decide) (by decide) ?_
          show Steps p.tables e below (T187.setTop (mkF m 106 #[.val (.long q0), .second, .val (.long q1), .second, .val (.int p2), .val (.int p3), .val (.int (p3 &&& (7 : Int32))), .val (.ref b116), .unset, .unset, .unset, .unset, .unset] [(.ref b116)])) _
          refine XS.iconst X187.here hx rfl (hb hby at_106) ?_
          show Steps p.tables e below (T187.setTop (mkF m 107 #[.val (.long q0), .second, .val (.long q1), .second, .val (.int p2), .val (.int p3), .val (.int (p3 &&& (7 : Int32))), .val (.ref b116), .unset, .unset, .unset, .unset, .unset] [(.int (0 : Int32)), (.ref b116)])) _
          refine st224.trans ?_
          show Steps p.tables e below (T224.setTop (mkF m 110 #[.val (.long q0), .second, .val (.long q1), .second, .val (.int p2), .val (.int p3), .val (.int (p3 &&& (7 : Int32))), .val (.ref b116), .unset, .unset, .unset, .unset, .unset] [])) _
          exact kt
        rw [if_pos hc221] at hv7 hv8
        rw [if_pos hc223] at hv7 hv8
        subst hv7
        subst hv8
        exact ⟨_, _, X224, N226, Z225, E224_0, F224_0, F224_1, F224_2, F224_3, pre227⟩
      · skip
        obtain ⟨cq228, kq228, q228a, q228b, q228c⟩ := isOf hZ rfl E188
        obtain ⟨_, _, ⟨T228, L228, k228, n228⟩, -, X228, ⟨Lc228, hQ228, l228, y228, z228⟩, st228⟩ := X187.virtualBack hx (y := (⟨"com/example/strict_pdp/strictpdp/expression/ThreeValued$Count", "add", "(Z)V"⟩ : MethodName)) (z := (⟨"com/example/strict_pdp/strictpdp/expression/ThreeValued$Count", "add", "(Z)V"⟩ : MethodName)) hown (mvT hZ (hw _ (List.mem_of_getElem? (i := 13) rfl))) (mvT hZ (hw _ (List.mem_of_getElem? (i := 14) rfl))) (notFace_of_selects (args := #[]) (mvT hZ (hw _ (List.mem_of_getElem? (i := 16) rfl)))) (mvT hZ (hw _ (List.mem_of_getElem? (i := 16) rfl))) (mvT hZ (hw _ (List.mem_of_getElem? (i := 15) rfl))) (by decide) (backOf (W := 0) (rm3 l Z aq hw [] b116 (1 : Int32) q0 q1 v5 v6 T187.heap n0 Z187 E188 F189 F190 F191 F192 g_b116) hZ (hw _ (List.mem_of_getElem? (i := 17) rfl)) (hw _ (List.mem_of_getElem? (i := 2) rfl)) (by decide) (by decide)) q228a q228c (g := (mkF m 107 #[.val (.long q0), .second, .val (.long q1), .second, .val (.int p2), .val (.int p3), .val (.int (p3 &&& (7 : Int32))), .val (.ref b116), .unset, .unset, .unset, .unset, .unset] [(.int (1 : Int32)), (.ref b116)])) rfl (by rw [hml]; rfl) (Steps.refl _) (argsL := [(.int (1 : Int32))]) (rest := []) (lenOf pd88010534 rfl) rfl (by show 2 * 0 + _ ≤ _; exact Nat.le_of_eq rfl) (hb hby at_107) (fun _ _ => ⟨rfl, rfl, (by decide : 1 + 0 ≤ _), (by decide : 5 + 0 ≤ _)⟩)
        dsimp only [Pt.U, Pt.locs, Pt.cells, Pt.slots] at X228 l228 y228 z228 st228 hQ228
        subst l228 y228 z228
        obtain ⟨rfl, N228q, K228, E228_0, F228_0, F228_1, F228_2, F228_3⟩ := hQ228
        have Z229 : n0 ≤ T228.heap.size := Nat.le_trans Z187 K228.1
        have N230 := Fr.app N187 N228q
        have pre231 : ∀ t, Steps p.tables e below (T228.setTop (mkF m 110 #[.val (.long q0), .second, .val (.long q1), .second, .val (.int p2), .val (.int p3), .val (.int (p3 &&& (7 : Int32))), .val (.ref b116), .unset, .unset, .unset, .unset, .unset] [])) t → Steps p.tables e below (s₁.setTop (entryFrame m #[(.long q0), (.long q1), (.int p2), (.int p3)] maxLocals)) t := fun t kt => by
          refine pre222 _ ?_
          show Steps p.tables e below (T187.setTop (mkF m 99 #[.val (.long q0), .second, .val (.long q1), .second, .val (.int p2), .val (.int p3), .val (.int (p3 &&& (7 : Int32))), .val (.ref b116), .unset, .unset, .unset, .unset, .unset] [(.int (p2 &&& (8 : Int32))), (.ref b116)])) _
          refine XS.ifNo X187.here hx rfl (hb hby at_99) rfl ((if0 _ _).trans (feq hc223).1) ?_
          show Steps p.tables e below (T187.setTop (mkF m 102 #[.val (.long q0), .second, .val (.long q1), .second, .val (.int p2), .val (.int p3), .val (.int (p3 &&& (7 : Int32))), .val (.ref b116), .unset, .unset, .unset, .unset, .unset] [(.ref b116)])) _
          refine XS.iconst X187.here hx rfl (hb hby at_102) ?_
          show Steps p.tables e below (T187.setTop (mkF m 103 #[.val (.long q0), .second, .val (.long q1), .second, .val (.int p2), .val (.int p3), .val (.int (p3 &&& (7 : Int32))), .val (.ref b116), .unset, .unset, .unset, .unset, .unset] [(.int (1 : Int32)), (.ref b116)])) _
          refine XS.goto X187.here hx rfl (pc0 := 103) (pc' := 107) rfl (hb hby at_103) (by decide) (by decide) ?_
          show Steps p.tables e below (T187.setTop (mkF m 107 #[.val (.long q0), .second, .val (.long q1), .second, .val (.int p2), .val (.int p3), .val (.int (p3 &&& (7 : Int32))), .val (.ref b116), .unset, .unset, .unset, .unset, .unset] [(.int (1 : Int32)), (.ref b116)])) _
          refine st228.trans ?_
          show Steps p.tables e below (T228.setTop (mkF m 110 #[.val (.long q0), .second, .val (.long q1), .second, .val (.int p2), .val (.int p3), .val (.int (p3 &&& (7 : Int32))), .val (.ref b116), .unset, .unset, .unset, .unset, .unset] [])) _
          exact kt
        rw [if_pos hc221] at hv7 hv8
        rw [if_neg hc223] at hv7 hv8
        subst hv7
        subst hv8
        exact ⟨_, _, X228, N230, Z229, E228_0, F228_0, F228_1, F228_2, F228_3, pre231⟩
    · skip
      have pre232 : ∀ t, Steps p.tables e below (T187.setTop (mkF m 110 #[.val (.long q0), .second, .val (.long q1), .second, .val (.int p2), .val (.int p3), .val (.int (p3 &&& (7 : Int32))), .val (.ref b116), .unset, .unset, .unset, .unset, .unset] [])) t → Steps p.tables e below (s₁.setTop (entryFrame m #[(.long q0), (.long q1), (.int p2), (.int p3)] maxLocals)) t := fun t kt => by
        refine pre205 _ ?_
        show Steps p.tables e below (T187.setTop (mkF m 89 #[.val (.long q0), .second, .val (.long q1), .second, .val (.int p2), .val (.int p3), .val (.int (p3 &&& (7 : Int32))), .val (.ref b116), .unset, .unset, .unset, .unset, .unset] [(.int (3 : Int32)), (.int (p3 &&& (7 : Int32)))])) _
        refine XS.icmpYes X187.here hx rfl (pc0 := 89) (pc' := 110) rfl (hb hby at_89) rfl (flt hc221).2.2.2 (by decide) (by decide) ?_
        show Steps p.tables e below (T187.setTop (mkF m 110 #[.val (.long q0), .second, .val (.long q1), .second, .val (.int p2), .val (.int p3), .val (.int (p3 &&& (7 : Int32))), .val (.ref b116), .unset, .unset, .unset, .unset, .unset] [])) _
        exact kt
      rw [if_neg hc221] at hv7 hv8
      subst hv7
      subst hv8
      exact ⟨_, _, X187, N187, Z187, E188, F189, F190, F191, F192, pre232⟩
  have pre233 : ∀ t, Steps p.tables e below (T215.setTop (mkF m 113 #[.val (.long q0), .second, .val (.long q1), .second, .val (.int p2), .val (.int p3), .val (.int (p3 &&& (7 : Int32))), .val (.ref b116), .unset, .unset, .unset, .unset, .unset] [(.int (4 : Int32)), (.int (p3 &&& (7 : Int32)))])) t → Steps p.tables e below (s₁.setTop (entryFrame m #[(.long q0), (.long q1), (.int p2), (.int p3)] maxLocals)) t := fun t kt => by
    refine pre215 _ ?_
    show Steps p.tables e below (T215.setTop (mkF m 110 #[.val (.long q0), .second, .val (.long q1), .second, .val (.int p2), .val (.int p3), .val (.int (p3 &&& (7 : Int32))), .val (.ref b116), .unset, .unset, .unset, .unset, .unset] [])) _
    refine XS.iload X215.here hx rfl (hb hby at_110) rfl ?_
    show Steps p.tables e below (T215.setTop (mkF m 112 #[.val (.long q0), .second, .val (.long q1), .second, .val (.int p2), .val (.int p3), .val (.int (p3 &&& (7 : Int32))), .val (.ref b116), .unset, .unset, .unset, .unset, .unset] [(.int (p3 &&& (7 : Int32)))])) _
    refine XS.iconst X215.here hx rfl (hb hby at_112) ?_
    show Steps p.tables e below (T215.setTop (mkF m 113 #[.val (.long q0), .second, .val (.long q1), .second, .val (.int p2), .val (.int p3), .val (.int (p3 &&& (7 : Int32))), .val (.ref b116), .unset, .unset, .unset, .unset, .unset] [(.int (4 : Int32)), (.int (p3 &&& (7 : Int32)))])) _
    exact kt
  obtain ⟨v9, hv9⟩ : ∃ z : Int64, z = (if (4 : Int32) < (p3 &&& (7 : Int32)) then (if (p2 &&& (16 : Int32)) = (0 : Int32) then (if (0 : Int32) = (0 : Int32) then (v7 + (1 : Int64)) else v7) else (if (1 : Int32) = (0 : Int32) then (v7 + (1 : Int64)) else v7)) else v7) := ⟨_, rfl⟩
  obtain ⟨v10, hv10⟩ : ∃ z : Int64, z = (if (4 : Int32) < (p3 &&& (7 : Int32)) then (if (p2 &&& (16 : Int32)) = (0 : Int32) then (if (0 : Int32) = (0 : Int32) then v8 else (v8 + (1 : Int64))) else (if (1 : Int32) = (0 : Int32) then v8 else (v8 + (1 : Int64)))) else v8) := ⟨_, rfl⟩
  obtain ⟨T243, L243, X243, N243, Z243, E244, F245, F246, F247, F248, pre243⟩ : ∃ (T' : State) (L' : List Loc), Stand p l e room_1 s m #[(.long q0), (.long q1), (.int p2), (.int p3)] below meth c T' L' 1 5 ∧ Fr n0 L' ∧ n0 ≤ T'.heap.size ∧ Exa Z T'.heap b116 "com/example/strict_pdp/strictpdp/expression/ThreeValued$Count" ∧ Fld Z T'.heap b116 "com/example/strict_pdp/strictpdp/expression/ThreeValued$Count" "required" "J" (.long q0) ∧ Fld Z T'.heap b116 "com/example/strict_pdp/strictpdp/expression/ThreeValued$Count" "allowedFalse" "J" (.long q1) ∧ Fld Z T'.heap b116 "com/example/strict_pdp/strictpdp/expression/ThreeValued$Count" "falses" "J" (.long v9) ∧ Fld Z T'.heap b116 "com/example/strict_pdp/strictpdp/expression/ThreeValued$Count" "trues" "J" (.long v10) ∧ ∀ t, Steps p.tables e below (T'.setTop (mkF m 134 #[.val (.long q0), .second, .val (.long q1), .second, .val (.int p2), .val (.int p3), .val (.int (p3 &&& (7 : Int32))), .val (.ref b116), .unset, .unset, .unset, .unset, .unset] [])) t → Steps p.tables e below (s₁.setTop (entryFrame m #[(.long q0), (.long q1), (.int p2), (.int p3)] maxLocals)) t := by
    by_cases hc249 : (4 : Int32) < (p3 &&& (7 : Int32))
    · skip
      have pre250 : ∀ t, Steps p.tables e below (T215.setTop (mkF m 123 #[.val (.long q0), .second, .val (.long q1), .second, .val (.int p2), .val (.int p3), .val (.int (p3 &&& (7 : Int32))), .val (.ref b116), .unset, .unset, .unset, .unset, .unset] [(.int (p2 &&& (16 : Int32))), (.ref b116)])) t → Steps p.tables e below (s₁.setTop (entryFrame m #[(.long q0), (.long q1), (.int p2), (.int p3)] maxLocals)) t := fun t kt => by
        refine pre233 _ ?_
        show Steps p.tables e below (T215.setTop (mkF m 113 #[.val (.long q0), .second, .val (.long q1), .second, .val (.int p2), .val (.int p3), .val (.int (p3 &&& (7 : Int32))), .val (.ref b116), .unset, .unset, .unset, .unset, .unset] [(.int (4 : Int32)), (.int (p3 &&& (7 : Int32)))])) _
        refine XS.icmpNo X215.here hx rfl (hb hby at_113) rfl (tlt hc249).2.2.2 ?_
        show Steps p.tables e below (T215.setTop (mkF m 116 #[.val (.long q0), .second, .val (.long q1), .second, .val (.int p2), .val (.int p3), .val (.int (p3 &&& (7 : Int32))), .val (.ref b116), .unset, .unset, .unset, .unset, .unset] [])) _
        refine XS.aload X215.here hx rfl (hb hby at_116) rfl rfl ?_
        show Steps p.tables e below (T215.setTop (mkF m 118 #[.val (.long q0), .second, .val (.long q1), .second, .val (.int p2), .val (.int p3), .val (.int (p3 &&& (7 : Int32))), .val (.ref b116), .unset, .unset, .unset, .unset, .unset] [(.ref b116)])) _
        refine XS.iload X215.here hx rfl (hb hby at_118) rfl ?_
        show Steps p.tables e below (T215.setTop (mkF m 120 #[.val (.long q0), .second, .val (.long q1), .second, .val (.int p2), .val (.int p3), .val (.int (p3 &&& (7 : Int32))), .val (.ref b116), .unset, .unset, .unset, .unset, .unset] [(.int p2), (.ref b116)])) _
        refine XS.bipush X215.here hx rfl (hb hby at_120) ?_
        show Steps p.tables e below (T215.setTop (mkF m 122 #[.val (.long q0), .second, .val (.long q1), .second, .val (.int p2), .val (.int p3), .val (.int (p3 &&& (7 : Int32))), .val (.ref b116), .unset, .unset, .unset, .unset, .unset] [(.int (16 : Int32)), (.int p2), (.ref b116)])) _
        refine XS.iand X215.here hx rfl (hb hby at_122) rfl ?_
        show Steps p.tables e below (T215.setTop (mkF m 123 #[.val (.long q0), .second, .val (.long q1), .second, .val (.int p2), .val (.int p3), .val (.int (p3 &&& (7 : Int32))), .val (.ref b116), .unset, .unset, .unset, .unset, .unset] [(.int (p2 &&& (16 : Int32))), (.ref b116)])) _
        exact kt
      by_cases hc251 : (p2 &&& (16 : Int32)) = (0 : Int32)
      · skip
        obtain ⟨cq252, kq252, q252a, q252b, q252c⟩ := isOf hZ rfl E216
        obtain ⟨_, _, ⟨T252, L252, k252, n252⟩, -, X252, ⟨Lc252, hQ252, l252, y252, z252⟩, st252⟩ := X215.virtualBack hx (y := (⟨"com/example/strict_pdp/strictpdp/expression/ThreeValued$Count", "add", "(Z)V"⟩ : MethodName)) (z := (⟨"com/example/strict_pdp/strictpdp/expression/ThreeValued$Count", "add", "(Z)V"⟩ : MethodName)) hown (mvT hZ (hw _ (List.mem_of_getElem? (i := 13) rfl))) (mvT hZ (hw _ (List.mem_of_getElem? (i := 14) rfl))) (notFace_of_selects (args := #[]) (mvT hZ (hw _ (List.mem_of_getElem? (i := 16) rfl)))) (mvT hZ (hw _ (List.mem_of_getElem? (i := 16) rfl))) (mvT hZ (hw _ (List.mem_of_getElem? (i := 15) rfl))) (by decide) (backOf (W := 0) (rm3 l Z aq hw [] b116 (0 : Int32) q0 q1 v7 v8 T215.heap n0 Z215 E216 F217 F218 F219 F220 g_b116) hZ (hw _ (List.mem_of_getElem? (i := 17) rfl)) (hw _ (List.mem_of_getElem? (i := 2) rfl)) (by decide) (by decide)) q252a q252c (g := (mkF m 131 #[.val (.long q0), .second, .val (.long q1), .second, .val (.int p2), .val (.int p3), .val (.int (p3 &&& (7 : Int32))), .val (.ref b116), .unset, .unset, .unset, .unset, .unset] [(.int (0 : Int32)), (.ref b116)])) rfl (by rw [hml]; rfl) (Steps.refl _) (argsL := [(.int (0 : Int32))]) (rest := []) (lenOf pd88010534 rfl) rfl (by show 2 * 0 + _ ≤ _; exact Nat.le_of_eq rfl) (hb hby at_131) (fun _ _ => ⟨rfl, rfl, (by decide : 1 + 0 ≤ _), (by decide : 5 + 0 ≤ _)⟩)
        dsimp only [Pt.U, Pt.locs, Pt.cells, Pt.slots] at X252 l252 y252 z252 st252 hQ252
        subst l252 y252 z252
        obtain ⟨rfl, N252q, K252, E252_0, F252_0, F252_1, F252_2, F252_3⟩ := hQ252
        have Z253 : n0 ≤ T252.heap.size := Nat.le_trans Z215 K252.1
        have N254 := Fr.app N215 N252q
        have pre255 : ∀ t, Steps p.tables e below (T252.setTop (mkF m 134 #[.val (.long q0), .second, .val (.long q1), .second, .val (.int p2), .val (.int p3), .val (.int (p3 &&& (7 : Int32))), .val (.ref b116), .unset, .unset, .unset, .unset, .unset] [])) t → Steps p.tables e below (s₁.setTop (entryFrame m #[(.long q0), (.long q1), (.int p2), (.int p3)] maxLocals)) t := fun t kt => by
          refine pre250 _ ?_
          show Steps p.tables e below (T215.setTop (mkF m 123 #[.val (.long q0), .second, .val (.long q1), .second, .val (.int p2), .val (.int p3), .val (.int (p3 &&& (7 : Int32))), .val (.ref b116), .unset, .unset, .unset, .unset, .unset] [(.int (p2 &&& (16 : Int32))), (.ref b116)])) _
          refine XS.ifYes X215.here hx rfl (pc0 := 123) (pc' := 130) rfl (hb hby at_123) rfl ((if0 _ _).trans (teq hc251).1) (by decide) (by decide) ?_
          show Steps p.tables e below (T215.setTop (mkF m 130 #[.val (.long q0), .second, .val (.long q1), .second, .val (.int p2), .val (.int p3), .val (.int (p3 &&& (7 : Int32))), .val (.ref b116), .unset, .unset, .unset, .unset, .unset] [(.ref b116)])) _
          refine XS.iconst X215.here hx rfl (hb hby at_130) ?_
          show Steps p.tables e below (T215.setTop (mkF m 131 #[.val (.long q0), .second, .val (.long q1), .second, .val (.int p2), .val (.int p3), .val (.int (p3 &&& (7 : Int32))), .val (.ref b116), .unset, .unset, .unset, .unset, .unset] [(.int (0 : Int32)), (.ref b116)])) _
          refine st252.trans ?_
          show Steps p.tables e below (T252.setTop (mkF m 134 #[.val (.long q0), .second, .val (.long q1), .second, .val (.int p2), .val (.int p3), .val (.int (p3 &&& (7 : Int32))), .val (.ref b116), .unset, .unset, .unset, .unset, .unset] [])) _
          exact kt
        rw [if_pos hc249] at hv9 hv10
        rw [if_pos hc251] at hv9 hv10
        subst hv9
        subst hv10
        exact ⟨_, _, X252, N254, Z253, E252_0, F252_0, F252_1, F252_2, F252_3, pre255⟩
      · skip
        obtain ⟨cq256, kq256, q256a, q256b, q256c⟩ := isOf hZ rfl E216
        obtain ⟨_, _, ⟨T256, L256, k256, n256⟩, -, X256, ⟨Lc256, hQ256, l256, y256, z256⟩, st256⟩ := X215.virtualBack hx (y := (⟨"com/example/strict_pdp/strictpdp/expression/ThreeValued$Count", "add", "(Z)V"⟩ : MethodName)) (z := (⟨"com/example/strict_pdp/strictpdp/expression/ThreeValued$Count", "add", "(Z)V"⟩ : MethodName)) hown (mvT hZ (hw _ (List.mem_of_getElem? (i := 13) rfl))) (mvT hZ (hw _ (List.mem_of_getElem? (i := 14) rfl))) (notFace_of_selects (args := #[]) (mvT hZ (hw _ (List.mem_of_getElem? (i := 16) rfl)))) (mvT hZ (hw _ (List.mem_of_getElem? (i := 16) rfl))) (mvT hZ (hw _ (List.mem_of_getElem? (i := 15) rfl))) (by decide) (backOf (W := 0) (rm3 l Z aq hw [] b116 (1 : Int32) q0 q1 v7 v8 T215.heap n0 Z215 E216 F217 F218 F219 F220 g_b116) hZ (hw _ (List.mem_of_getElem? (i := 17) rfl)) (hw _ (List.mem_of_getElem? (i := 2) rfl)) (by decide) (by decide)) q256a q256c (g := (mkF m 131 #[.val (.long q0), .second, .val (.long q1), .second, .val (.int p2), .val (.int p3), .val (.int (p3 &&& (7 : Int32))), .val (.ref b116), .unset, .unset, .unset, .unset, .unset] [(.int (1 : Int32)), (.ref b116)])) rfl (by rw [hml]; rfl) (Steps.refl _) (argsL := [(.int (1 : Int32))]) (rest := []) (lenOf pd88010534 rfl) rfl (by show 2 * 0 + _ ≤ _; exact Nat.le_of_eq rfl) (hb hby at_131) (fun _ _ => ⟨rfl, rfl, (by decide : 1 + 0 ≤ _), (by decide : 5 + 0 ≤ _)⟩)
        dsimp only [Pt.U, Pt.locs, Pt.cells, Pt.slots] at X256 l256 y256 z256 st256 hQ256
        subst l256 y256 z256
        obtain ⟨rfl, N256q, K256, E256_0, F256_0, F256_1, F256_2, F256_3⟩ := hQ256
        have Z257 : n0 ≤ T256.heap.size := Nat.le_trans Z215 K256.1
        have N258 := Fr.app N215 N256q
        have pre259 : ∀ t, Steps p.tables e below (T256.setTop (mkF m 134 #[.val (.long q0), .second, .val (.long q1), .second, .val (.int p2), .val (.int p3), .val (.int (p3 &&& (7 : Int32))), .val (.ref b116), .unset, .unset, .unset, .unset, .unset] [])) t → Steps p.tables e below (s₁.setTop (entryFrame m #[(.long q0), (.long q1), (.int p2), (.int p3)] maxLocals)) t := fun t kt => by
          refine pre250 _ ?_
          show Steps p.tables e below (T215.setTop (mkF m 123 #[.val (.long q0), .second, .val (.long q1), .second, .val (.int p2), .val (.int p3), .val (.int (p3 &&& (7 : Int32))), .val (.ref b116), .unset, .unset, .unset, .unset, .unset] [(.int (p2 &&& (16 : Int32))), (.ref b116)])) _
          refine XS.ifNo X215.here hx rfl (hb hby at_123) rfl ((if0 _ _).trans (feq hc251).1) ?_
          show Steps p.tables e below (T215.setTop (mkF m 126 #[.val (.long q0), .second, .val (.long q1), .second, .val (.int p2), .val (.int p3), .val (.int (p3 &&& (7 : Int32))), .val (.ref b116), .unset, .unset, .unset, .unset, .unset] [(.ref b116)])) _
          refine XS.iconst X215.here hx rfl (hb hby at_126) ?_
          show Steps p.tables e below (T215.setTop (mkF m 127 #[.val (.long q0), .second, .val (.long q1), .second, .val (.int p2), .val (.int p3), .val (.int (p3 &&& (7 : Int32))), .val (.ref b116), .unset, .unset, .unset, .unset, .unset] [(.int (1 : Int32)), (.ref b116)])) _
          refine XS.goto X215.here hx rfl (pc0 := 127) (pc' := 131) rfl (hb hby at_127) (by decide) (by decide) ?_
          show Steps p.tables e below (T215.setTop (mkF m 131 #[.val (.long q0), .second, .val (.long q1), .second, .val (.int p2), .val (.int p3), .val (.int (p3 &&& (7 : Int32))), .val (.ref b116), .unset, .unset, .unset, .unset, .unset] [(.int (1 : Int32)), (.ref b116)])) _
          refine st256.trans ?_
          show Steps p.tables e below (T256.setTop (mkF m 134 #[.val (.long q0), .second, .val (.long q1), .second, .val (.int p2), .val (.int p3), .val (.int (p3 &&& (7 : Int32))), .val (.ref b116), .unset, .unset, .unset, .unset, .unset] [])) _
          exact kt
        rw [if_pos hc249] at hv9 hv10
        rw [if_neg hc251] at hv9 hv10
        subst hv9
        subst hv10
        exact ⟨_, _, X256, N258, Z257, E256_0, F256_0, F256_1, F256_2, F256_3, pre259⟩
    · skip
      have pre260 : ∀ t, Steps p.tables e below (T215.setTop (mkF m 134 #[.val (.long q0), .second, .val (.long q1), .second, .val (.int p2), .val (.int p3), .val (.int (p3 &&& (7 : Int32))), .val (.ref b116), .unset, .unset, .unset, .unset, .unset] [])) t → Steps p.tables e below (s₁.setTop (entryFrame m #[(.long q0), (.long q1), (.int p2), (.int p3)] maxLocals)) t := fun t kt => by
        refine pre233 _ ?_
        show Steps p.tables e below (T215.setTop (mkF m 113 #[.val (.long q0), .second, .val (.long q1), .second, .val (.int p2), .val (.int p3), .val (.int (p3 &&& (7 : Int32))), .val (.ref b116), .unset, .unset, .unset, .unset, .unset] [(.int (4 : Int32)), (.int (p3 &&& (7 : Int32)))])) _
        refine XS.icmpYes X215.here hx rfl (pc0 := 113) (pc' := 134) rfl (hb hby at_113) rfl (flt hc249).2.2.2 (by decide) (by decide) ?_
        show Steps p.tables e below (T215.setTop (mkF m 134 #[.val (.long q0), .second, .val (.long q1), .second, .val (.int p2), .val (.int p3), .val (.int (p3 &&& (7 : Int32))), .val (.ref b116), .unset, .unset, .unset, .unset, .unset] [])) _
        exact kt
      rw [if_neg hc249] at hv9 hv10
      subst hv9
      subst hv10
      exact ⟨_, _, X215, N215, Z215, E216, F217, F218, F219, F220, pre260⟩
  have pre261 : ∀ t, Steps p.tables e below (T243.setTop (mkF m 137 #[.val (.long q0), .second, .val (.long q1), .second, .val (.int p2), .val (.int p3), .val (.int (p3 &&& (7 : Int32))), .val (.ref b116), .unset, .unset, .unset, .unset, .unset] [(.int (5 : Int32)), (.int (p3 &&& (7 : Int32)))])) t → Steps p.tables e below (s₁.setTop (entryFrame m #[(.long q0), (.long q1), (.int p2), (.int p3)] maxLocals)) t := fun t kt => by
    refine pre243 _ ?_
    show Steps p.tables e below (T243.setTop (mkF m 134 #[.val (.long q0), .second, .val (.long q1), .second, .val (.int p2), .val (.int p3), .val (.int (p3 &&& (7 : Int32))), .val (.ref b116), .unset, .unset, .unset, .unset, .unset] [])) _
    refine XS.iload X243.here hx rfl (hb hby at_134) rfl ?_
    show Steps p.tables e below (T243.setTop (mkF m 136 #[.val (.long q0), .second, .val (.long q1), .second, .val (.int p2), .val (.int p3), .val (.int (p3 &&& (7 : Int32))), .val (.ref b116), .unset, .unset, .unset, .unset, .unset] [(.int (p3 &&& (7 : Int32)))])) _
    refine XS.iconst X243.here hx rfl (hb hby at_136) ?_
    show Steps p.tables e below (T243.setTop (mkF m 137 #[.val (.long q0), .second, .val (.long q1), .second, .val (.int p2), .val (.int p3), .val (.int (p3 &&& (7 : Int32))), .val (.ref b116), .unset, .unset, .unset, .unset, .unset] [(.int (5 : Int32)), (.int (p3 &&& (7 : Int32)))])) _
    exact kt
  obtain ⟨v11, hv11⟩ : ∃ z : Int64, z = (if (5 : Int32) < (p3 &&& (7 : Int32)) then (if (p2 &&& (32 : Int32)) = (0 : Int32) then (if (0 : Int32) = (0 : Int32) then (v9 + (1 : Int64)) else v9) else (if (1 : Int32) = (0 : Int32) then (v9 + (1 : Int64)) else v9)) else v9) := ⟨_, rfl⟩
  obtain ⟨v12, hv12⟩ : ∃ z : Int64, z = (if (5 : Int32) < (p3 &&& (7 : Int32)) then (if (p2 &&& (32 : Int32)) = (0 : Int32) then (if (0 : Int32) = (0 : Int32) then v10 else (v10 + (1 : Int64))) else (if (1 : Int32) = (0 : Int32) then v10 else (v10 + (1 : Int64)))) else v10) := ⟨_, rfl⟩
  obtain ⟨T271, L271, X271, N271, Z271, E272, F273, F274, F275, F276, pre271⟩ : ∃ (T' : State) (L' : List Loc), Stand p l e room_1 s m #[(.long q0), (.long q1), (.int p2), (.int p3)] below meth c T' L' 1 5 ∧ Fr n0 L' ∧ n0 ≤ T'.heap.size ∧ Exa Z T'.heap b116 "com/example/strict_pdp/strictpdp/expression/ThreeValued$Count" ∧ Fld Z T'.heap b116 "com/example/strict_pdp/strictpdp/expression/ThreeValued$Count" "required" "J" (.long q0) ∧ Fld Z T'.heap b116 "com/example/strict_pdp/strictpdp/expression/ThreeValued$Count" "allowedFalse" "J" (.long q1) ∧ Fld Z T'.heap b116 "com/example/strict_pdp/strictpdp/expression/ThreeValued$Count" "falses" "J" (.long v11) ∧ Fld Z T'.heap b116 "com/example/strict_pdp/strictpdp/expression/ThreeValued$Count" "trues" "J" (.long v12) ∧ ∀ t, Steps p.tables e below (T'.setTop (mkF m 158 #[.val (.long q0), .second, .val (.long q1), .second, .val (.int p2), .val (.int p3), .val (.int (p3 &&& (7 : Int32))), .val (.ref b116), .unset, .unset, .unset, .unset, .unset] [])) t → Steps p.tables e below (s₁.setTop (entryFrame m #[(.long q0), (.long q1), (.int p2), (.int p3)] maxLocals)) t := by
    by_cases hc277 : (5 : Int32) < (p3 &&& (7 : Int32))
    · skip
      have pre278 : ∀ t, Steps p.tables e below (T243.setTop (mkF m 147 #[.val (.long q0), .second, .val (.long q1), .second, .val (.int p2), .val (.int p3), .val (.int (p3 &&& (7 : Int32))), .val (.ref b116), .unset, .unset, .unset, .unset, .unset] [(.int (p2 &&& (32 : Int32))), (.ref b116)])) t → Steps p.tables e below (s₁.setTop (entryFrame m #[(.long q0), (.long q1), (.int p2), (.int p3)] maxLocals)) t := fun t kt => by
        refine pre261 _ ?_
        show Steps p.tables e below (T243.setTop (mkF m 137 #[.val (.long q0), .second, .val (.long q1), .second, .val (.int p2), .val (.int p3), .val (.int (p3 &&& (7 : Int32))), .val (.ref b116), .unset, .unset, .unset, .unset, .unset] [(.int (5 : Int32)), (.int (p3 &&& (7 : Int32)))])) _
        refine XS.icmpNo X243.here hx rfl (hb hby at_137) rfl (tlt hc277).2.2.2 ?_
        show Steps p.tables e below (T243.setTop (mkF m 140 #[.val (.long q0), .second, .val (.long q1), .second, .val (.int p2), .val (.int p3), .val (.int (p3 &&& (7 : Int32))), .val (.ref b116), .unset, .unset, .unset, .unset, .unset] [])) _
        refine XS.aload X243.here hx rfl (hb hby at_140) rfl rfl ?_
        show Steps p.tables e below (T243.setTop (mkF m 142 #[.val (.long q0), .second, .val (.long q1), .second, .val (.int p2), .val (.int p3), .val (.int (p3 &&& (7 : Int32))), .val (.ref b116), .unset, .unset, .unset, .unset, .unset] [(.ref b116)])) _
        refine XS.iload X243.here hx rfl (hb hby at_142) rfl ?_
        show Steps p.tables e below (T243.setTop (mkF m 144 #[.val (.long q0), .second, .val (.long q1), .second, .val (.int p2), .val (.int p3), .val (.int (p3 &&& (7 : Int32))), .val (.ref b116), .unset, .unset, .unset, .unset, .unset] [(.int p2), (.ref b116)])) _
        refine XS.bipush X243.here hx rfl (hb hby at_144) ?_
        show Steps p.tables e below (T243.setTop (mkF m 146 #[.val (.long q0), .second, .val (.long q1), .second, .val (.int p2), .val (.int p3), .val (.int (p3 &&& (7 : Int32))), .val (.ref b116), .unset, .unset, .unset, .unset, .unset] [(.int (32 : Int32)), (.int p2), (.ref b116)])) _
        refine XS.iand X243.here hx rfl (hb hby at_146) rfl ?_
        show Steps p.tables e below (T243.setTop (mkF m 147 #[.val (.long q0), .second, .val (.long q1), .second, .val (.int p2), .val (.int p3), .val (.int (p3 &&& (7 : Int32))), .val (.ref b116), .unset, .unset, .unset, .unset, .unset] [(.int (p2 &&& (32 : Int32))), (.ref b116)])) _
        exact kt
      by_cases hc279 : (p2 &&& (32 : Int32)) = (0 : Int32)
      · skip
        obtain ⟨cq280, kq280, q280a, q280b, q280c⟩ := isOf hZ rfl E244
        obtain ⟨_, _, ⟨T280, L280, k280, n280⟩, -, X280, ⟨Lc280, hQ280, l280, y280, z280⟩, st280⟩ := X243.virtualBack hx (y := (⟨"com/example/strict_pdp/strictpdp/expression/ThreeValued$Count", "add", "(Z)V"⟩ : MethodName)) (z := (⟨"com/example/strict_pdp/strictpdp/expression/ThreeValued$Count", "add", "(Z)V"⟩ : MethodName)) hown (mvT hZ (hw _ (List.mem_of_getElem? (i := 13) rfl))) (mvT hZ (hw _ (List.mem_of_getElem? (i := 14) rfl))) (notFace_of_selects (args := #[]) (mvT hZ (hw _ (List.mem_of_getElem? (i := 16) rfl)))) (mvT hZ (hw _ (List.mem_of_getElem? (i := 16) rfl))) (mvT hZ (hw _ (List.mem_of_getElem? (i := 15) rfl))) (by decide) (backOf (W := 0) (rm3 l Z aq hw [] b116 (0 : Int32) q0 q1 v9 v10 T243.heap n0 Z243 E244 F245 F246 F247 F248 g_b116) hZ (hw _ (List.mem_of_getElem? (i := 17) rfl)) (hw _ (List.mem_of_getElem? (i := 2) rfl)) (by decide) (by decide)) q280a q280c (g := (mkF m 155 #[.val (.long q0), .second, .val (.long q1), .second, .val (.int p2), .val (.int p3), .val (.int (p3 &&& (7 : Int32))), .val (.ref b116), .unset, .unset, .unset, .unset, .unset] [(.int (0 : Int32)), (.ref b116)])) rfl (by rw [hml]; rfl) (Steps.refl _) (argsL := [(.int (0 : Int32))]) (rest := []) (lenOf pd88010534 rfl) rfl (by show 2 * 0 + _ ≤ _; exact Nat.le_of_eq rfl) (hb hby at_155) (fun _ _ => ⟨rfl, rfl, (by decide : 1 + 0 ≤ _), (by decide : 5 + 0 ≤ _)⟩)
        dsimp only [Pt.U, Pt.locs, Pt.cells, Pt.slots] at X280 l280 y280 z280 st280 hQ280
        subst l280 y280 z280
        obtain ⟨rfl, N280q, K280, E280_0, F280_0, F280_1, F280_2, F280_3⟩ := hQ280
        have Z281 : n0 ≤ T280.heap.size := Nat.le_trans Z243 K280.1
        have N282 := Fr.app N243 N280q
        have pre283 : ∀ t, Steps p.tables e below (T280.setTop (mkF m 158 #[.val (.long q0), .second, .val (.long q1), .second, .val (.int p2), .val (.int p3), .val (.int (p3 &&& (7 : Int32))), .val (.ref b116), .unset, .unset, .unset, .unset, .unset] [])) t → Steps p.tables e below (s₁.setTop (entryFrame m #[(.long q0), (.long q1), (.int p2), (.int p3)] maxLocals)) t := fun t kt => by
          refine pre278 _ ?_
          show Steps p.tables e below (T243.setTop (mkF m 147 #[.val (.long q0), .second, .val (.long q1), .second, .val (.int p2), .val (.int p3), .val (.int (p3 &&& (7 : Int32))), .val (.ref b116), .unset, .unset, .unset, .unset, .unset] [(.int (p2 &&& (32 : Int32))), (.ref b116)])) _
          refine XS.ifYes X243.here hx rfl (pc0 := 147) (pc' := 154) rfl (hb hby at_147) rfl ((if0 _ _).trans (teq hc279).1) (by decide) (by decide) ?_
          show Steps p.tables e below (T243.setTop (mkF m 154 #[.val (.long q0), .second, .val (.long q1), .second, .val (.int p2), .val (.int p3), .val (.int (p3 &&& (7 : Int32))), .val (.ref b116), .unset, .unset, .unset, .unset, .unset] [(.ref b116)])) _
          refine XS.iconst X243.here hx rfl (hb hby at_154) ?_
          show Steps p.tables e below (T243.setTop (mkF m 155 #[.val (.long q0), .second, .val (.long q1), .second, .val (.int p2), .val (.int p3), .val (.int (p3 &&& (7 : Int32))), .val (.ref b116), .unset, .unset, .unset, .unset, .unset] [(.int (0 : Int32)), (.ref b116)])) _
          refine st280.trans ?_
          show Steps p.tables e below (T280.setTop (mkF m 158 #[.val (.long q0), .second, .val (.long q1), .second, .val (.int p2), .val (.int p3), .val (.int (p3 &&& (7 : Int32))), .val (.ref b116), .unset, .unset, .unset, .unset, .unset] [])) _
          exact kt
        rw [if_pos hc277] at hv11 hv12
        rw [if_pos hc279] at hv11 hv12
        subst hv11
        subst hv12
        exact ⟨_, _, X280, N282, Z281, E280_0, F280_0, F280_1, F280_2, F280_3, pre283⟩
      · skip
        obtain ⟨cq284, kq284, q284a, q284b, q284c⟩ := isOf hZ rfl E244
        obtain ⟨_, _, ⟨T284, L284, k284, n284⟩, -, X284, ⟨Lc284, hQ284, l284, y284, z284⟩, st284⟩ := X243.virtualBack hx (y := (⟨"com/example/strict_pdp/strictpdp/expression/ThreeValued$Count", "add", "(Z)V"⟩ : MethodName)) (z := (⟨"com/example/strict_pdp/strictpdp/expression/ThreeValued$Count", "add", "(Z)V"⟩ : MethodName)) hown (mvT hZ (hw _ (List.mem_of_getElem? (i := 13) rfl))) (mvT hZ (hw _ (List.mem_of_getElem? (i := 14) rfl))) (notFace_of_selects (args := #[]) (mvT hZ (hw _ (List.mem_of_getElem? (i := 16) rfl)))) (mvT hZ (hw _ (List.mem_of_getElem? (i := 16) rfl))) (mvT hZ (hw _ (List.mem_of_getElem? (i := 15) rfl))) (by decide) (backOf (W := 0) (rm3 l Z aq hw [] b116 (1 : Int32) q0 q1 v9 v10 T243.heap n0 Z243 E244 F245 F246 F247 F248 g_b116) hZ (hw _ (List.mem_of_getElem? (i := 17) rfl)) (hw _ (List.mem_of_getElem? (i := 2) rfl)) (by decide) (by decide)) q284a q284c (g := (mkF m 155 #[.val (.long q0), .second, .val (.long q1), .second, .val (.int p2), .val (.int p3), .val (.int (p3 &&& (7 : Int32))), .val (.ref b116), .unset, .unset, .unset, .unset, .unset] [(.int (1 : Int32)), (.ref b116)])) rfl (by rw [hml]; rfl) (Steps.refl _) (argsL := [(.int (1 : Int32))]) (rest := []) (lenOf pd88010534 rfl) rfl (by show 2 * 0 + _ ≤ _; exact Nat.le_of_eq rfl) (hb hby at_155) (fun _ _ => ⟨rfl, rfl, (by decide : 1 + 0 ≤ _), (by decide : 5 + 0 ≤ _)⟩)
        dsimp only [Pt.U, Pt.locs, Pt.cells, Pt.slots] at X284 l284 y284 z284 st284 hQ284
        subst l284 y284 z284
        obtain ⟨rfl, N284q, K284, E284_0, F284_0, F284_1, F284_2, F284_3⟩ := hQ284
        have Z285 : n0 ≤ T284.heap.size := Nat.le_trans Z243 K284.1
        have N286 := Fr.app N243 N284q
        have pre287 : ∀ t, Steps p.tables e below (T284.setTop (mkF m 158 #[.val (.long q0), .second, .val (.long q1), .second, .val (.int p2), .val (.int p3), .val (.int (p3 &&& (7 : Int32))), .val (.ref b116), .unset, .unset, .unset, .unset, .unset] [])) t → Steps p.tables e below (s₁.setTop (entryFrame m #[(.long q0), (.long q1), (.int p2), (.int p3)] maxLocals)) t := fun t kt => by
          refine pre278 _ ?_
          show Steps p.tables e below (T243.setTop (mkF m 147 #[.val (.long q0), .second, .val (.long q1), .second, .val (.int p2), .val (.int p3), .val (.int (p3 &&& (7 : Int32))), .val (.ref b116), .unset, .unset, .unset, .unset, .unset] [(.int (p2 &&& (32 : Int32))), (.ref b116)])) _
          refine XS.ifNo X243.here hx rfl (hb hby at_147) rfl ((if0 _ _).trans (feq hc279).1) ?_
          show Steps p.tables e below (T243.setTop (mkF m 150 #[.val (.long q0), .second, .val (.long q1), .second, .val (.int p2), .val (.int p3), .val (.int (p3 &&& (7 : Int32))), .val (.ref b116), .unset, .unset, .unset, .unset, .unset] [(.ref b116)])) _
          refine XS.iconst X243.here hx rfl (hb hby at_150) ?_
          show Steps p.tables e below (T243.setTop (mkF m 151 #[.val (.long q0), .second, .val (.long q1), .second, .val (.int p2), .val (.int p3), .val (.int (p3 &&& (7 : Int32))), .val (.ref b116), .unset, .unset, .unset, .unset, .unset] [(.int (1 : Int32)), (.ref b116)])) _
          refine XS.goto X243.here hx rfl (pc0 := 151) (pc' := 155) rfl (hb hby at_151) (by decide) (by decide) ?_
          show Steps p.tables e below (T243.setTop (mkF m 155 #[.val (.long q0), .second, .val (.long q1), .second, .val (.int p2), .val (.int p3), .val (.int (p3 &&& (7 : Int32))), .val (.ref b116), .unset, .unset, .unset, .unset, .unset] [(.int (1 : Int32)), (.ref b116)])) _
          refine st284.trans ?_
          show Steps p.tables e below (T284.setTop (mkF m 158 #[.val (.long q0), .second, .val (.long q1), .second, .val (.int p2), .val (.int p3), .val (.int (p3 &&& (7 : Int32))), .val (.ref b116), .unset, .unset, .unset, .unset, .unset] [])) _
          exact kt
        rw [if_pos hc277] at hv11 hv12
        rw [if_neg hc279] at hv11 hv12
        subst hv11
        subst hv12
        exact ⟨_, _, X284, N286, Z285, E284_0, F284_0, F284_1, F284_2, F284_3, pre287⟩
    · skip
      have pre288 : ∀ t, Steps p.tables e below (T243.setTop (mkF m 158 #[.val (.long q0), .second, .val (.long q1), .second, .val (.int p2), .val (.int p3), .val (.int (p3 &&& (7 : Int32))), .val (.ref b116), .unset, .unset, .unset, .unset, .unset] [])) t → Steps p.tables e below (s₁.setTop (entryFrame m #[(.long q0), (.long q1), (.int p2), (.int p3)] maxLocals)) t := fun t kt => by
        refine pre261 _ ?_
        show Steps p.tables e below (T243.setTop (mkF m 137 #[.val (.long q0), .second, .val (.long q1), .second, .val (.int p2), .val (.int p3), .val (.int (p3 &&& (7 : Int32))), .val (.ref b116), .unset, .unset, .unset, .unset, .unset] [(.int (5 : Int32)), (.int (p3 &&& (7 : Int32)))])) _
        refine XS.icmpYes X243.here hx rfl (pc0 := 137) (pc' := 158) rfl (hb hby at_137) rfl (flt hc277).2.2.2 (by decide) (by decide) ?_
        show Steps p.tables e below (T243.setTop (mkF m 158 #[.val (.long q0), .second, .val (.long q1), .second, .val (.int p2), .val (.int p3), .val (.int (p3 &&& (7 : Int32))), .val (.ref b116), .unset, .unset, .unset, .unset, .unset] [])) _
        exact kt
      rw [if_neg hc277] at hv11 hv12
      subst hv11
      subst hv12
      exact ⟨_, _, X243, N243, Z243, E244, F245, F246, F247, F248, pre288⟩
  have pre289 : ∀ t, Steps p.tables e below (T271.setTop (mkF m 162 #[.val (.long q0), .second, .val (.long q1), .second, .val (.int p2), .val (.int p3), .val (.int (p3 &&& (7 : Int32))), .val (.ref b116), .unset, .unset, .unset, .unset, .unset] [(.int (6 : Int32)), (.int (p3 &&& (7 : Int32)))])) t → Steps p.tables e below (s₁.setTop (entryFrame m #[(.long q0), (.long q1), (.int p2), (.int p3)] maxLocals)) t := fun t kt => by
    refine pre271 _ ?_
    show Steps p.tables e below (T271.setTop (mkF m 158 #[.val (.long q0), .second, .val (.long q1), .second, .val (.int p2), .val (.int p3), .val (.int (p3 &&& (7 : Int32))), .val (.ref b116), .unset, .unset, .unset, .unset, .unset] [])) _
    refine XS.iload X271.here hx rfl (hb hby at_158) rfl ?_
    show Steps p.tables e below (T271.setTop (mkF m 160 #[.val (.long q0), .second, .val (.long q1), .second, .val (.int p2), .val (.int p3), .val (.int (p3 &&& (7 : Int32))), .val (.ref b116), .unset, .unset, .unset, .unset, .unset] [(.int (p3 &&& (7 : Int32)))])) _
    refine XS.bipush X271.here hx rfl (hb hby at_160) ?_
    show Steps p.tables e below (T271.setTop (mkF m 162 #[.val (.long q0), .second, .val (.long q1), .second, .val (.int p2), .val (.int p3), .val (.int (p3 &&& (7 : Int32))), .val (.ref b116), .unset, .unset, .unset, .unset, .unset] [(.int (6 : Int32)), (.int (p3 &&& (7 : Int32)))])) _
    exact kt
  obtain ⟨v13, hv13⟩ : ∃ z : Int64, z = (if (6 : Int32) < (p3 &&& (7 : Int32)) then (if (p2 &&& (64 : Int32)) = (0 : Int32) then (if (0 : Int32) = (0 : Int32) then (v11 + (1 : Int64)) else v11) else (if (1 : Int32) = (0 : Int32) then (v11 + (1 : Int64)) else v11)) else v11) := ⟨_, rfl⟩
  obtain ⟨v14, hv14⟩ : ∃ z : Int64, z = (if (6 : Int32) < (p3 &&& (7 : Int32)) then (if (p2 &&& (64 : Int32)) = (0 : Int32) then (if (0 : Int32) = (0 : Int32) then v12 else (v12 + (1 : Int64))) else (if (1 : Int32) = (0 : Int32) then v12 else (v12 + (1 : Int64)))) else v12) := ⟨_, rfl⟩
  obtain ⟨T299, L299, X299, N299, Z299, E300, F301, F302, F303, F304, pre299⟩ : ∃ (T' : State) (L' : List Loc), Stand p l e room_1 s m #[(.long q0), (.long q1), (.int p2), (.int p3)] below meth c T' L' 1 5 ∧ Fr n0 L' ∧ n0 ≤ T'.heap.size ∧ Exa Z T'.heap b116 "com/example/strict_pdp/strictpdp/expression/ThreeValued$Count" ∧ Fld Z T'.heap b116 "com/example/strict_pdp/strictpdp/expression/ThreeValued$Count" "required" "J" (.long q0) ∧ Fld Z T'.heap b116 "com/example/strict_pdp/strictpdp/expression/ThreeValued$Count" "allowedFalse" "J" (.long q1) ∧ Fld Z T'.heap b116 "com/example/strict_pdp/strictpdp/expression/ThreeValued$Count" "falses" "J" (.long v13) ∧ Fld Z T'.heap b116 "com/example/strict_pdp/strictpdp/expression/ThreeValued$Count" "trues" "J" (.long v14) ∧ ∀ t, Steps p.tables e below (T'.setTop (mkF m 183 #[.val (.long q0), .second, .val (.long q1), .second, .val (.int p2), .val (.int p3), .val (.int (p3 &&& (7 : Int32))), .val (.ref b116), .unset, .unset, .unset, .unset, .unset] [])) t → Steps p.tables e below (s₁.setTop (entryFrame m #[(.long q0), (.long q1), (.int p2), (.int p3)] maxLocals)) t := by
    by_cases hc305 : (6 : Int32) < (p3 &&& (7 : Int32))
    · skip
      have pre306 : ∀ t, Steps p.tables e below (T271.setTop (mkF m 172 #[.val (.long q0), .second, .val (.long q1), .second, .val (.int p2), .val (.int p3), .val (.int (p3 &&& (7 : Int32))), .val (.ref b116), .unset, .unset, .unset, .unset, .unset] [(.int (p2 &&& (64 : Int32))), (.ref b116)])) t → Steps p.tables e below (s₁.setTop (entryFrame m #[(.long q0), (.long q1), (.int p2), (.int p3)] maxLocals)) t := fun t kt => by
        refine pre289 _ ?_
        show Steps p.tables e below (T271.setTop (mkF m 162 #[.val (.long q0), .second, .val (.long q1), .second, .val (.int p2), .val (.int p3), .val (.int (p3 &&& (7 : Int32))), .val (.ref b116), .unset, .unset, .unset, .unset, .unset] [(.int (6 : Int32)), (.int (p3 &&& (7 : Int32)))])) _
        refine XS.icmpNo X271.here hx rfl (hb hby at_162) rfl (tlt hc305).2.2.2 ?_
        show Steps p.tables e below (T271.setTop (mkF m 165 #[.val (.long q0), .second, .val (.long q1), .second, .val (.int p2), .val (.int p3), .val (.int (p3 &&& (7 : Int32))), .val (.ref b116), .unset, .unset, .unset, .unset, .unset] [])) _
        refine XS.aload X271.here hx rfl (hb hby at_165) rfl rfl ?_
        show Steps p.tables e below (T271.setTop (mkF m 167 #[.val (.long q0), .second, .val (.long q1), .second, .val (.int p2), .val (.int p3), .val (.int (p3 &&& (7 : Int32))), .val (.ref b116), .unset, .unset, .unset, .unset, .unset] [(.ref b116)])) _
        refine XS.iload X271.here hx rfl (hb hby at_167) rfl ?_
        show Steps p.tables e below (T271.setTop (mkF m 169 #[.val (.long q0), .second, .val (.long q1), .second, .val (.int p2), .val (.int p3), .val (.int (p3 &&& (7 : Int32))), .val (.ref b116), .unset, .unset, .unset, .unset, .unset] [(.int p2), (.ref b116)])) _
        refine XS.bipush X271.here hx rfl (hb hby at_169) ?_
        show Steps p.tables e below (T271.setTop (mkF m 171 #[.val (.long q0), .second, .val (.long q1), .second, .val (.int p2), .val (.int p3), .val (.int (p3 &&& (7 : Int32))), .val (.ref b116), .unset, .unset, .unset, .unset, .unset] [(.int (64 : Int32)), (.int p2), (.ref b116)])) _
        refine XS.iand X271.here hx rfl (hb hby at_171) rfl ?_
        show Steps p.tables e below (T271.setTop (mkF m 172 #[.val (.long q0), .second, .val (.long q1), .second, .val (.int p2), .val (.int p3), .val (.int (p3 &&& (7 : Int32))), .val (.ref b116), .unset, .unset, .unset, .unset, .unset] [(.int (p2 &&& (64 : Int32))), (.ref b116)])) _
        exact kt
      by_cases hc307 : (p2 &&& (64 : Int32)) = (0 : Int32)
      · skip
        obtain ⟨cq308, kq308, q308a, q308b, q308c⟩ := isOf hZ rfl E272
        obtain ⟨_, _, ⟨T308, L308, k308, n308⟩, -, X308, ⟨Lc308, hQ308, l308, y308, z308⟩, st308⟩ := X271.virtualBack hx (y := (⟨"com/example/strict_pdp/strictpdp/expression/ThreeValued$Count", "add", "(Z)V"⟩ : MethodName)) (z := (⟨"com/example/strict_pdp/strictpdp/expression/ThreeValued$Count", "add", "(Z)V"⟩ : MethodName)) hown (mvT hZ (hw _ (List.mem_of_getElem? (i := 13) rfl))) (mvT hZ (hw _ (List.mem_of_getElem? (i := 14) rfl))) (notFace_of_selects (args := #[]) (mvT hZ (hw _ (List.mem_of_getElem? (i := 16) rfl)))) (mvT hZ (hw _ (List.mem_of_getElem? (i := 16) rfl))) (mvT hZ (hw _ (List.mem_of_getElem? (i := 15) rfl))) (by decide) (backOf (W := 0) (rm3 l Z aq hw [] b116 (0 : Int32) q0 q1 v11 v12 T271.heap n0 Z271 E272 F273 F274 F275 F276 g_b116) hZ (hw _ (List.mem_of_getElem? (i := 17) rfl)) (hw _ (List.mem_of_getElem? (i := 2) rfl)) (by decide) (by decide)) q308a q308c (g := (mkF m 180 #[.val (.long q0), .second, .val (.long q1), .second, .val (.int p2), .val (.int p3), .val (.int (p3 &&& (7 : Int32))), .val (.ref b116), .unset, .unset, .unset, .unset, .unset] [(.int (0 : Int32)), (.ref b116)])) rfl (by rw [hml]; rfl) (Steps.refl _) (argsL := [(.int (0 : Int32))]) (rest := []) (lenOf pd88010534 rfl) rfl (by show 2 * 0 + _ ≤ _; exact Nat.le_of_eq rfl) (hb hby at_180) (fun _ _ => ⟨rfl, rfl, (by decide : 1 + 0 ≤ _), (by decide : 5 + 0 ≤ _)⟩)
        dsimp only [Pt.U, Pt.locs, Pt.cells, Pt.slots] at X308 l308 y308 z308 st308 hQ308
        subst l308 y308 z308
        obtain ⟨rfl, N308q, K308, E308_0, F308_0, F308_1, F308_2, F308_3⟩ := hQ308
        have Z309 : n0 ≤ T308.heap.size := Nat.le_trans Z271 K308.1
        have N310 := Fr.app N271 N308q
        have pre311 : ∀ t, Steps p.tables e below (T308.setTop (mkF m 183 #[.val (.long q0), .second, .val (.long q1), .second, .val (.int p2), .val (.int p3), .val (.int (p3 &&& (7 : Int32))), .val (.ref b116), .unset, .unset, .unset, .unset, .unset] [])) t → Steps p.tables e below (s₁.setTop (entryFrame m #[(.long q0), (.long q1), (.int p2), (.int p3)] maxLocals)) t := fun t kt => by
          refine pre306 _ ?_
          show Steps p.tables e below (T271.setTop (mkF m 172 #[.val (.long q0), .second, .val (.long q1), .second, .val (.int p2), .val (.int p3), .val (.int (p3 &&& (7 : Int32))), .val (.ref b116), .unset, .unset, .unset, .unset, .unset] [(.int (p2 &&& (64 : Int32))), (.ref b116)])) _
          refine XS.ifYes X271.here hx rfl (pc0 := 172) (pc' := 179) rfl (hb hby at_172) rfl ((if0 _ _).trans (teq hc307).1) (by decide) (by decide) ?_
          show Steps p.tables e below (T271.setTop (mkF m 179 #[.val (.long q0), .second, .val (.long q1), .second, .val (.int p2), .val (.int p3), .val (.int (p3 &&& (7 : Int32))), .val (.ref b116), .unset, .unset, .unset, .unset, .unset] [(.ref b116)])) _
          refine XS.iconst X271.here hx rfl (hb hby at_179) ?_
          show Steps p.tables e below (T271.setTop (mkF m 180 #[.val (.long q0), .second, .val (.long q1), .second, .val (.int p2), .val (.int p3), .val (.int (p3 &&& (7 : Int32))), .val (.ref b116), .unset, .unset, .unset, .unset, .unset] [(.int (0 : Int32)), (.ref b116)])) _
          refine st308.trans ?_
          show Steps p.tables e below (T308.setTop (mkF m 183 #[.val (.long q0), .second, .val (.long q1), .second, .val (.int p2), .val (.int p3), .val (.int (p3 &&& (7 : Int32))), .val (.ref b116), .unset, .unset, .unset, .unset, .unset] [])) _
          exact kt
        rw [if_pos hc305] at hv13 hv14
        rw [if_pos hc307] at hv13 hv14
        subst hv13
        subst hv14
        exact ⟨_, _, X308, N310, Z309, E308_0, F308_0, F308_1, F308_2, F308_3, pre311⟩
      · skip
        obtain ⟨cq312, kq312, q312a, q312b, q312c⟩ := isOf hZ rfl E272
        obtain ⟨_, _, ⟨T312, L312, k312, n312⟩, -, X312, ⟨Lc312, hQ312, l312, y312, z312⟩, st312⟩ := X271.virtualBack hx (y := (⟨"com/example/strict_pdp/strictpdp/expression/ThreeValued$Count", "add", "(Z)V"⟩ : MethodName)) (z := (⟨"com/example/strict_pdp/strictpdp/expression/ThreeValued$Count", "add", "(Z)V"⟩ : MethodName)) hown (mvT hZ (hw _ (List.mem_of_getElem? (i := 13) rfl))) (mvT hZ (hw _ (List.mem_of_getElem? (i := 14) rfl))) (notFace_of_selects (args := #[]) (mvT hZ (hw _ (List.mem_of_getElem? (i := 16) rfl)))) (mvT hZ (hw _ (List.mem_of_getElem? (i := 16) rfl))) (mvT hZ (hw _ (List.mem_of_getElem? (i := 15) rfl))) (by decide) (backOf (W := 0) (rm3 l Z aq hw [] b116 (1 : Int32) q0 q1 v11 v12 T271.heap n0 Z271 E272 F273 F274 F275 F276 g_b116) hZ (hw _ (List.mem_of_getElem? (i := 17) rfl)) (hw _ (List.mem_of_getElem? (i := 2) rfl)) (by decide) (by decide)) q312a q312c (g := (mkF m 180 #[.val (.long q0), .second, .val (.long q1), .second, .val (.int p2), .val (.int p3), .val (.int (p3 &&& (7 : Int32))), .val (.ref b116), .unset, .unset, .unset, .unset, .unset] [(.int (1 : Int32)), (.ref b116)])) rfl (by rw [hml]; rfl) (Steps.refl _) (argsL := [(.int (1 : Int32))]) (rest := []) (lenOf pd88010534 rfl) rfl (by show 2 * 0 + _ ≤ _; exact Nat.le_of_eq rfl) (hb hby at_180) (fun _ _ => ⟨rfl, rfl, (by decide : 1 + 0 ≤ _), (by decide : 5 + 0 ≤ _)⟩)
        dsimp only [Pt.U, Pt.locs, Pt.cells, Pt.slots] at X312 l312 y312 z312 st312 hQ312
        subst l312 y312 z312
        obtain ⟨rfl, N312q, K312, E312_0, F312_0, F312_1, F312_2, F312_3⟩ := hQ312
        have Z313 : n0 ≤ T312.heap.size := Nat.le_trans Z271 K312.1
        have N314 := Fr.app N271 N312q
        have pre315 : ∀ t, Steps p.tables e below (T312.setTop (mkF m 183 #[.val (.long q0), .second, .val (.long q1), .second, .val (.int p2), .val (.int p3), .val (.int (p3 &&& (7 : Int32))), .val (.ref b116), .unset, .unset, .unset, .unset, .unset] [])) t → Steps p.tables e below (s₁.setTop (entryFrame m #[(.long q0), (.long q1), (.int p2), (.int p3)] maxLocals)) t := fun t kt => by
          refine pre306 _ ?_
          show Steps p.tables e below (T271.setTop (mkF m 172 #[.val (.long q0), .second, .val (.long q1), .second, .val (.int p2), .val (.int p3), .val (.int (p3 &&& (7 : Int32))), .val (.ref b116), .unset, .unset, .unset, .unset, .unset] [(.int (p2 &&& (64 : Int32))), (.ref b116)])) _
          refine XS.ifNo X271.here hx rfl (hb hby at_172) rfl ((if0 _ _).trans (feq hc307).1) ?_
          show Steps p.tables e below (T271.setTop (mkF m 175 #[.val (.long q0), .second, .val (.long q1), .second, .val (.int p2), .val (.int p3), .val (.int (p3 &&& (7 : Int32))), .val (.ref b116), .unset, .unset, .unset, .unset, .unset] [(.ref b116)])) _
          refine XS.iconst X271.here hx rfl (hb hby at_175) ?_
          show Steps p.tables e below (T271.setTop (mkF m 176 #[.val (.long q0), .second, .val (.long q1), .second, .val (.int p2), .val (.int p3), .val (.int (p3 &&& (7 : Int32))), .val (.ref b116), .unset, .unset, .unset, .unset, .unset] [(.int (1 : Int32)), (.ref b116)])) _
          refine XS.goto X271.here hx rfl (pc0 := 176) (pc' := 180) rfl (hb hby at_176) (by decide) (by decide) ?_
          show Steps p.tables e below (T271.setTop (mkF m 180 #[.val (.long q0), .second, .val (.long q1), .second, .val (.int p2), .val (.int p3), .val (.int (p3 &&& (7 : Int32))), .val (.ref b116), .unset, .unset, .unset, .unset, .unset] [(.int (1 : Int32)), (.ref b116)])) _
          refine st312.trans ?_
          show Steps p.tables e below (T312.setTop (mkF m 183 #[.val (.long q0), .second, .val (.long q1), .second, .val (.int p2), .val (.int p3), .val (.int (p3 &&& (7 : Int32))), .val (.ref b116), .unset, .unset, .unset, .unset, .unset] [])) _
          exact kt
        rw [if_pos hc305] at hv13 hv14
        rw [if_neg hc307] at hv13 hv14
        subst hv13
        subst hv14
        exact ⟨_, _, X312, N314, Z313, E312_0, F312_0, F312_1, F312_2, F312_3, pre315⟩
    · skip
      have pre316 : ∀ t, Steps p.tables e below (T271.setTop (mkF m 183 #[.val (.long q0), .second, .val (.long q1), .second, .val (.int p2), .val (.int p3), .val (.int (p3 &&& (7 : Int32))), .val (.ref b116), .unset, .unset, .unset, .unset, .unset] [])) t → Steps p.tables e below (s₁.setTop (entryFrame m #[(.long q0), (.long q1), (.int p2), (.int p3)] maxLocals)) t := fun t kt => by
        refine pre289 _ ?_
        show Steps p.tables e below (T271.setTop (mkF m 162 #[.val (.long q0), .second, .val (.long q1), .second, .val (.int p2), .val (.int p3), .val (.int (p3 &&& (7 : Int32))), .val (.ref b116), .unset, .unset, .unset, .unset, .unset] [(.int (6 : Int32)), (.int (p3 &&& (7 : Int32)))])) _
        refine XS.icmpYes X271.here hx rfl (pc0 := 162) (pc' := 183) rfl (hb hby at_162) rfl (flt hc305).2.2.2 (by decide) (by decide) ?_
        show Steps p.tables e below (T271.setTop (mkF m 183 #[.val (.long q0), .second, .val (.long q1), .second, .val (.int p2), .val (.int p3), .val (.int (p3 &&& (7 : Int32))), .val (.ref b116), .unset, .unset, .unset, .unset, .unset] [])) _
        exact kt
      rw [if_neg hc305] at hv13 hv14
      subst hv13
      subst hv14
      exact ⟨_, _, X271, N271, Z271, E272, F273, F274, F275, F276, pre316⟩
  obtain ⟨_, _, ⟨T317, L317, k317, n317⟩, -, X317, ⟨Lc317, hQ317, l317, y317, z317⟩, st317⟩ := Jvm.LawKit.callS X299 hx (y := (⟨"com/example/strict_pdp/strictpdp/expression/CountKnownPinLaw", "bit", "(III)J"⟩ : MethodName)) hown (mvT hZ (hw _ (List.mem_of_getElem? (i := 20) rfl))) (mvT hZ (hw _ (List.mem_of_getElem? (i := 21) rfl))) (mvT hZ (hw _ (List.mem_of_getElem? (i := 22) rfl))) (mvT hZ (hw _ (List.mem_of_getElem? (i := 23) rfl))) (by decide) (backOf (W := 0) (rm4 l Z aq hw [] p2 (0 : Int32) (p3 &&& (7 : Int32)) T299.heap n0 Z299 ) hZ (hw _ (List.mem_of_getElem? (i := 23) rfl)) (hw _ (List.mem_of_getElem? (i := 22) rfl)) (by decide) (by decide)) (g := (mkF m 188 #[.val (.long q0), .second, .val (.long q1), .second, .val (.int p2), .val (.int p3), .val (.int (p3 &&& (7 : Int32))), .val (.ref b116), .unset, .unset, .unset, .unset, .unset] [(.int (p3 &&& (7 : Int32))), (.int (0 : Int32)), (.int p2)])) rfl (by rw [hml]; rfl) (argsL := [(.int p2), (.int (0 : Int32)), (.int (p3 &&& (7 : Int32)))]) (rest := []) (lenOf pd86748539 rfl) rfl (by show 2 * 0 + _ ≤ _; exact Nat.le_of_eq rfl) (hb hby at_188) (fun _ _ => ⟨rfl, rfl, (by decide : 1 + 0 ≤ _), (by decide : 5 + 0 ≤ _)⟩)
  dsimp only [Pt.U, Pt.locs, Pt.cells, Pt.slots] at X317 l317 y317 z317 st317 hQ317
  subst l317 y317 z317
  obtain ⟨rfl, N317q, e317⟩ := hQ317
  have N318 := Fr.app N299 N317q
  have pre319 : ∀ t, Steps p.tables e below (T317.setTop (mkF m 191 #[.val (.long q0), .second, .val (.long q1), .second, .val (.int p2), .val (.int p3), .val (.int (p3 &&& (7 : Int32))), .val (.ref b116), .unset, .unset, .unset, .unset, .unset] [(.long (if (0 : Int32) < (p3 &&& (7 : Int32)) then (if (((p2.toUInt32 >>> ((0 : Int32) &&& 31).toUInt32).toInt32) &&& (1 : Int32)) = (0 : Int32) then (0 : Int64) else (1 : Int64)) else (0 : Int64)))])) t → Steps p.tables e below (s₁.setTop (entryFrame m #[(.long q0), (.long q1), (.int p2), (.int p3)] maxLocals)) t := fun t kt => by
    refine pre299 _ ?_
    show Steps p.tables e below (T299.setTop (mkF m 183 #[.val (.long q0), .second, .val (.long q1), .second, .val (.int p2), .val (.int p3), .val (.int (p3 &&& (7 : Int32))), .val (.ref b116), .unset, .unset, .unset, .unset, .unset] [])) _
    refine XS.iload X299.here hx rfl (hb hby at_183) rfl ?_
    show Steps p.tables e below (T299.setTop (mkF m 185 #[.val (.long q0), .second, .val (.long q1), .second, .val (.int p2), .val (.int p3), .val (.int (p3 &&& (7 : Int32))), .val (.ref b116), .unset, .unset, .unset, .unset, .unset] [(.int p2)])) _
    refine XS.iconst X299.here hx rfl (hb hby at_185) ?_
    show Steps p.tables e below (T299.setTop (mkF m 186 #[.val (.long q0), .second, .val (.long q1), .second, .val (.int p2), .val (.int p3), .val (.int (p3 &&& (7 : Int32))), .val (.ref b116), .unset, .unset, .unset, .unset, .unset] [(.int (0 : Int32)), (.int p2)])) _
    refine XS.iload X299.here hx rfl (hb hby at_186) rfl ?_
    show Steps p.tables e below (T299.setTop (mkF m 188 #[.val (.long q0), .second, .val (.long q1), .second, .val (.int p2), .val (.int p3), .val (.int (p3 &&& (7 : Int32))), .val (.ref b116), .unset, .unset, .unset, .unset, .unset] [(.int (p3 &&& (7 : Int32))), (.int (0 : Int32)), (.int p2)])) _
    refine st317 _ ?_
    show Steps p.tables e below (T317.setTop (mkF m 191 #[.val (.long q0), .second, .val (.long q1), .second, .val (.int p2), .val (.int p3), .val (.int (p3 &&& (7 : Int32))), .val (.ref b116), .unset, .unset, .unset, .unset, .unset] [(.long (if (0 : Int32) < (p3 &&& (7 : Int32)) then (if (((p2.toUInt32 >>> ((0 : Int32) &&& 31).toUInt32).toInt32) &&& (1 : Int32)) = (0 : Int32) then (0 : Int64) else (1 : Int64)) else (0 : Int64)))])) _
    exact kt
  obtain ⟨v15, hv15⟩ : ∃ z : Int64, z = (if (0 : Int32) < (p3 &&& (7 : Int32)) then (if (((p2.toUInt32 >>> ((0 : Int32) &&& 31).toUInt32).toInt32) &&& (1 : Int32)) = (0 : Int32) then (0 : Int64) else (1 : Int64)) else (0 : Int64)) := ⟨_, rfl⟩
  have pre320 : ∀ t, Steps p.tables e below (T317.setTop (mkF m 191 #[.val (.long q0), .second, .val (.long q1), .second, .val (.int p2), .val (.int p3), .val (.int (p3 &&& (7 : Int32))), .val (.ref b116), .unset, .unset, .unset, .unset, .unset] [(.long v15)])) t → Steps p.tables e below (s₁.setTop (entryFrame m #[(.long q0), (.long q1), (.int p2), (.int p3)] maxLocals)) t := fun t kt => pre319 t (by rw [hv15] at kt; exact kt)
  obtain ⟨_, _, ⟨T321, L321, k321, n321⟩, -, X321, ⟨Lc321, hQ321, l321, y321, z321⟩, st321⟩ := Jvm.LawKit.callS X317 hx (y := (⟨"com/example/strict_pdp/strictpdp/expression/CountKnownPinLaw", "bit", "(III)J"⟩ : MethodName)) hown (mvT hZ (hw _ (List.mem_of_getElem? (i := 20) rfl))) (mvT hZ (hw _ (List.mem_of_getElem? (i := 21) rfl))) (mvT hZ (hw _ (List.mem_of_getElem? (i := 22) rfl))) (mvT hZ (hw _ (List.mem_of_getElem? (i := 23) rfl))) (by decide) (backOf (W := 2) (rm4 l Z aq hw [] p2 (1 : Int32) (p3 &&& (7 : Int32)) T299.heap n0 Z299 ) hZ (hw _ (List.mem_of_getElem? (i := 23) rfl)) (hw _ (List.mem_of_getElem? (i := 22) rfl)) (by decide) (by decide)) (g := (mkF m 196 #[.val (.long q0), .second, .val (.long q1), .second, .val (.int p2), .val (.int p3), .val (.int (p3 &&& (7 : Int32))), .val (.ref b116), .unset, .unset, .unset, .unset, .unset] [(.int (p3 &&& (7 : Int32))), (.int (1 : Int32)), (.int p2), (.long v15)])) rfl (by rw [hml]; rfl) (argsL := [(.int p2), (.int (1 : Int32)), (.int (p3 &&& (7 : Int32)))]) (rest := [(.long v15)]) (lenOf pd86748539 rfl) rfl (by show 2 * 0 + _ ≤ _; exact Nat.le_of_eq rfl) (hb hby at_196) (fun _ _ => ⟨rfl, e317, (by decide : 1 + 0 ≤ _), (by decide : 5 + 0 ≤ _)⟩)
  dsimp only [Pt.U, Pt.locs, Pt.cells, Pt.slots] at X321 l321 y321 z321 st321 hQ321
  subst l321 y321 z321
  obtain ⟨rfl, N321q, e321⟩ := hQ321
  have N322 := Fr.app N318 N321q
  have pre323 : ∀ t, Steps p.tables e below (T321.setTop (mkF m 199 #[.val (.long q0), .second, .val (.long q1), .second, .val (.int p2), .val (.int p3), .val (.int (p3 &&& (7 : Int32))), .val (.ref b116), .unset, .unset, .unset, .unset, .unset] [(.long (if (1 : Int32) < (p3 &&& (7 : Int32)) then (if (((p2.toUInt32 >>> ((1 : Int32) &&& 31).toUInt32).toInt32) &&& (1 : Int32)) = (0 : Int32) then (0 : Int64) else (1 : Int64)) else (0 : Int64))), (.long v15)])) t → Steps p.tables e below (s₁.setTop (entryFrame m #[(.long q0), (.long q1), (.int p2), (.int p3)] maxLocals)) t := fun t kt => by
    refine pre320 _ ?_
    show Steps p.tables e below (T317.setTop (mkF m 191 #[.val (.long q0), .second, .val (.long q1), .second, .val (.int p2), .val (.int p3), .val (.int (p3 &&& (7 : Int32))), .val (.ref b116), .unset, .unset, .unset, .unset, .unset] [(.long v15)])) _
    refine XS.iload X317.here hx rfl (hb hby at_191) rfl ?_
    show Steps p.tables e below (T317.setTop (mkF m 193 #[.val (.long q0), .second, .val (.long q1), .second, .val (.int p2), .val (.int p3), .val (.int (p3 &&& (7 : Int32))), .val (.ref b116), .unset, .unset, .unset, .unset, .unset] [(.int p2), (.long v15)])) _
    refine XS.iconst X317.here hx rfl (hb hby at_193) ?_
    show Steps p.tables e below (T317.setTop (mkF m 194 #[.val (.long q0), .second, .val (.long q1), .second, .val (.int p2), .val (.int p3), .val (.int (p3 &&& (7 : Int32))), .val (.ref b116), .unset, .unset, .unset, .unset, .unset] [(.int (1 : Int32)), (.int p2), (.long v15)])) _
    refine XS.iload X317.here hx rfl (hb hby at_194) rfl ?_
    show Steps p.tables e below (T317.setTop (mkF m 196 #[.val (.long q0), .second, .val (.long q1), .second, .val (.int p2), .val (.int p3), .val (.int (p3 &&& (7 : Int32))), .val (.ref b116), .unset, .unset, .unset, .unset, .unset] [(.int (p3 &&& (7 : Int32))), (.int (1 : Int32)), (.int p2), (.long v15)])) _
    refine st321 _ ?_
    show Steps p.tables e below (T321.setTop (mkF m 199 #[.val (.long q0), .second, .val (.long q1), .second, .val (.int p2), .val (.int p3), .val (.int (p3 &&& (7 : Int32))), .val (.ref b116), .unset, .unset, .unset, .unset, .unset] [(.long (if (1 : Int32) < (p3 &&& (7 : Int32)) then (if (((p2.toUInt32 >>> ((1 : Int32) &&& 31).toUInt32).toInt32) &&& (1 : Int32)) = (0 : Int32) then (0 : Int64) else (1 : Int64)) else (0 : Int64))), (.long v15)])) _
    exact kt
  obtain ⟨v16, hv16⟩ : ∃ z : Int64, z = (if (1 : Int32) < (p3 &&& (7 : Int32)) then (if (((p2.toUInt32 >>> ((1 : Int32) &&& 31).toUInt32).toInt32) &&& (1 : Int32)) = (0 : Int32) then (0 : Int64) else (1 : Int64)) else (0 : Int64)) := ⟨_, rfl⟩
  have pre324 : ∀ t, Steps p.tables e below (T321.setTop (mkF m 199 #[.val (.long q0), .second, .val (.long q1), .second, .val (.int p2), .val (.int p3), .val (.int (p3 &&& (7 : Int32))), .val (.ref b116), .unset, .unset, .unset, .unset, .unset] [(.long v16), (.long v15)])) t → Steps p.tables e below (s₁.setTop (entryFrame m #[(.long q0), (.long q1), (.int p2), (.int p3)] maxLocals)) t := fun t kt => pre323 t (by rw [hv16] at kt; exact kt)
  obtain ⟨_, _, ⟨T325, L325, k325, n325⟩, -, X325, ⟨Lc325, hQ325, l325, y325, z325⟩, st325⟩ := Jvm.LawKit.callS X321 hx (y := (⟨"com/example/strict_pdp/strictpdp/expression/CountKnownPinLaw", "bit", "(III)J"⟩ : MethodName)) hown (mvT hZ (hw _ (List.mem_of_getElem? (i := 20) rfl))) (mvT hZ (hw _ (List.mem_of_getElem? (i := 21) rfl))) (mvT hZ (hw _ (List.mem_of_getElem? (i := 22) rfl))) (mvT hZ (hw _ (List.mem_of_getElem? (i := 23) rfl))) (by decide) (backOf (W := 2) (rm4 l Z aq hw [] p2 (2 : Int32) (p3 &&& (7 : Int32)) T299.heap n0 Z299 ) hZ (hw _ (List.mem_of_getElem? (i := 23) rfl)) (hw _ (List.mem_of_getElem? (i := 22) rfl)) (by decide) (by decide)) (g := (mkF m 205 #[.val (.long q0), .second, .val (.long q1), .second, .val (.int p2), .val (.int p3), .val (.int (p3 &&& (7 : Int32))), .val (.ref b116), .unset, .unset, .unset, .unset, .unset] [(.int (p3 &&& (7 : Int32))), (.int (2 : Int32)), (.int p2), (.long (v15 + v16))])) rfl (by rw [hml]; rfl) (argsL := [(.int p2), (.int (2 : Int32)), (.int (p3 &&& (7 : Int32)))]) (rest := [(.long (v15 + v16))]) (lenOf pd86748539 rfl) rfl (by show 2 * 0 + _ ≤ _; exact Nat.le_of_eq rfl) (hb hby at_205) (fun _ _ => ⟨rfl, e321, (by decide : 1 + 0 ≤ _), (by decide : 5 + 0 ≤ _)⟩)
  dsimp only [Pt.U, Pt.locs, Pt.cells, Pt.slots] at X325 l325 y325 z325 st325 hQ325
  subst l325 y325 z325
  obtain ⟨rfl, N325q, e325⟩ := hQ325
  have N326 := Fr.app N322 N325q
  have pre327 : ∀ t, Steps p.tables e below (T325.setTop (mkF m 208 #[.val (.long q0), .second, .val (.long q1), .second, .val (.int p2), .val (.int p3), .val (.int (p3 &&& (7 : Int32))), .val (.ref b116), .unset, .unset, .unset, .unset, .unset] [(.long (if (2 : Int32) < (p3 &&& (7 : Int32)) then (if (((p2.toUInt32 >>> ((2 : Int32) &&& 31).toUInt32).toInt32) &&& (1 : Int32)) = (0 : Int32) then (0 : Int64) else (1 : Int64)) else (0 : Int64))), (.long (v15 + v16))])) t → Steps p.tables e below (s₁.setTop (entryFrame m #[(.long q0), (.long q1), (.int p2), (.int p3)] maxLocals)) t := fun t kt => by
    refine pre324 _ ?_
    show Steps p.tables e below (T321.setTop (mkF m 199 #[.val (.long q0), .second, .val (.long q1), .second, .val (.int p2), .val (.int p3), .val (.int (p3 &&& (7 : Int32))), .val (.ref b116), .unset, .unset, .unset, .unset, .unset] [(.long v16), (.long v15)])) _
    refine XS.ladd X321.here hx rfl (hb hby at_199) rfl ?_
    show Steps p.tables e below (T321.setTop (mkF m 200 #[.val (.long q0), .second, .val (.long q1), .second, .val (.int p2), .val (.int p3), .val (.int (p3 &&& (7 : Int32))), .val (.ref b116), .unset, .unset, .unset, .unset, .unset] [(.long (v15 + v16))])) _
    refine XS.iload X321.here hx rfl (hb hby at_200) rfl ?_
    show Steps p.tables e below (T321.setTop (mkF m 202 #[.val (.long q0), .second, .val (.long q1), .second, .val (.int p2), .val (.int p3), .val (.int (p3 &&& (7 : Int32))), .val (.ref b116), .unset, .unset, .unset, .unset, .unset] [(.int p2), (.long (v15 + v16))])) _
    refine XS.iconst X321.here hx rfl (hb hby at_202) ?_
    show Steps p.tables e below (T321.setTop (mkF m 203 #[.val (.long q0), .second, .val (.long q1), .second, .val (.int p2), .val (.int p3), .val (.int (p3 &&& (7 : Int32))), .val (.ref b116), .unset, .unset, .unset, .unset, .unset] [(.int (2 : Int32)), (.int p2), (.long (v15 + v16))])) _
    refine XS.iload X321.here hx rfl (hb hby at_203) rfl ?_
    show Steps p.tables e below (T321.setTop (mkF m 205 #[.val (.long q0), .second, .val (.long q1), .second, .val (.int p2), .val (.int p3), .val (.int (p3 &&& (7 : Int32))), .val (.ref b116), .unset, .unset, .unset, .unset, .unset] [(.int (p3 &&& (7 : Int32))), (.int (2 : Int32)), (.int p2), (.long (v15 + v16))])) _
    refine st325 _ ?_
    show Steps p.tables e below (T325.setTop (mkF m 208 #[.val (.long q0), .second, .val (.long q1), .second, .val (.int p2), .val (.int p3), .val (.int (p3 &&& (7 : Int32))), .val (.ref b116), .unset, .unset, .unset, .unset, .unset] [(.long (if (2 : Int32) < (p3 &&& (7 : Int32)) then (if (((p2.toUInt32 >>> ((2 : Int32) &&& 31).toUInt32).toInt32) &&& (1 : Int32)) = (0 : Int32) then (0 : Int64) else (1 : Int64)) else (0 : Int64))), (.long (v15 + v16))])) _
    exact kt
  obtain ⟨v17, hv17⟩ : ∃ z : Int64, z = (if (2 : Int32) < (p3 &&& (7 : Int32)) then (if (((p2.toUInt32 >>> ((2 : Int32) &&& 31).toUInt32).toInt32) &&& (1 : Int32)) = (0 : Int32) then (0 : Int64) else (1 : Int64)) else (0 : Int64)) := ⟨_, rfl⟩
  have pre328 : ∀ t, Steps p.tables e below (T325.setTop (mkF m 208 #[.val (.long q0), .second, .val (.long q1), .second, .val (.int p2), .val (.int p3), .val (.int (p3 &&& (7 : Int32))), .val (.ref b116), .unset, .unset, .unset, .unset, .unset] [(.long v17), (.long (v15 + v16))])) t → Steps p.tables e below (s₁.setTop (entryFrame m #[(.long q0), (.long q1), (.int p2), (.int p3)] maxLocals)) t := fun t kt => pre327 t (by rw [hv17] at kt; exact kt)
  obtain ⟨_, _, ⟨T329, L329, k329, n329⟩, -, X329, ⟨Lc329, hQ329, l329, y329, z329⟩, st329⟩ := Jvm.LawKit.callS X325 hx (y := (⟨"com/example/strict_pdp/strictpdp/expression/CountKnownPinLaw", "bit", "(III)J"⟩ : MethodName)) hown (mvT hZ (hw _ (List.mem_of_getElem? (i := 20) rfl))) (mvT hZ (hw _ (List.mem_of_getElem? (i := 21) rfl))) (mvT hZ (hw _ (List.mem_of_getElem? (i := 22) rfl))) (mvT hZ (hw _ (List.mem_of_getElem? (i := 23) rfl))) (by decide) (backOf (W := 2) (rm4 l Z aq hw [] p2 (3 : Int32) (p3 &&& (7 : Int32)) T299.heap n0 Z299 ) hZ (hw _ (List.mem_of_getElem? (i := 23) rfl)) (hw _ (List.mem_of_getElem? (i := 22) rfl)) (by decide) (by decide)) (g := (mkF m 214 #[.val (.long q0), .second, .val (.long q1), .second, .val (.int p2), .val (.int p3), .val (.int (p3 &&& (7 : Int32))), .val (.ref b116), .unset, .unset, .unset, .unset, .unset] [(.int (p3 &&& (7 : Int32))), (.int (3 : Int32)), (.int p2), (.long ((v15 + v16) + v17))])) rfl (by rw [hml]; rfl) (argsL := [(.int p2), (.int (3 : Int32)), (.int (p3 &&& (7 : Int32)))]) (rest := [(.long ((v15 + v16) + v17))]) (lenOf pd86748539 rfl) rfl (by show 2 * 0 + _ ≤ _; exact Nat.le_of_eq rfl) (hb hby at_214) (fun _ _ => ⟨rfl, e325, (by decide : 1 + 0 ≤ _), (by decide : 5 + 0 ≤ _)⟩)
  dsimp only [Pt.U, Pt.locs, Pt.cells, Pt.slots] at X329 l329 y329 z329 st329 hQ329
  subst l329 y329 z329
  obtain ⟨rfl, N329q, e329⟩ := hQ329
  have N330 := Fr.app N326 N329q
  have pre331 : ∀ t, Steps p.tables e below (T329.setTop (mkF m 217 #[.val (.long q0), .second, .val (.long q1), .second, .val (.int p2), .val (.int p3), .val (.int (p3 &&& (7 : Int32))), .val (.ref b116), .unset, .unset, .unset, .unset, .unset] [(.long (if (3 : Int32) < (p3 &&& (7 : Int32)) then (if (((p2.toUInt32 >>> ((3 : Int32) &&& 31).toUInt32).toInt32) &&& (1 : Int32)) = (0 : Int32) then (0 : Int64) else (1 : Int64)) else (0 : Int64))), (.long ((v15 + v16) + v17))])) t → Steps p.tables e below (s₁.setTop (entryFrame m #[(.long q0), (.long q1), (.int p2), (.int p3)] maxLocals)) t := fun t kt => by
    refine pre328 _ ?_
    show Steps p.tables e below (T325.setTop (mkF m 208 #[.val (.long q0), .second, .val (.long q1), .second, .val (.int p2), .val (.int p3), .val (.int (p3 &&& (7 : Int32))), .val (.ref b116), .unset, .unset, .unset, .unset, .unset] [(.long v17), (.long (v15 + v16))])) _
    refine XS.ladd X325.here hx rfl (hb hby at_208) rfl ?_
    show Steps p.tables e below (T325.setTop (mkF m 209 #[.val (.long q0), .second, .val (.long q1), .second, .val (.int p2), .val (.int p3), .val (.int (p3 &&& (7 : Int32))), .val (.ref b116), .unset, .unset, .unset, .unset, .unset] [(.long ((v15 + v16) + v17))])) _
    refine XS.iload X325.here hx rfl (hb hby at_209) rfl ?_
    show Steps p.tables e below (T325.setTop (mkF m 211 #[.val (.long q0), .second, .val (.long q1), .second, .val (.int p2), .val (.int p3), .val (.int (p3 &&& (7 : Int32))), .val (.ref b116), .unset, .unset, .unset, .unset, .unset] [(.int p2), (.long ((v15 + v16) + v17))])) _
    refine XS.iconst X325.here hx rfl (hb hby at_211) ?_
    show Steps p.tables e below (T325.setTop (mkF m 212 #[.val (.long q0), .second, .val (.long q1), .second, .val (.int p2), .val (.int p3), .val (.int (p3 &&& (7 : Int32))), .val (.ref b116), .unset, .unset, .unset, .unset, .unset] [(.int (3 : Int32)), (.int p2), (.long ((v15 + v16) + v17))])) _
    refine XS.iload X325.here hx rfl (hb hby at_212) rfl ?_
    show Steps p.tables e below (T325.setTop (mkF m 214 #[.val (.long q0), .second, .val (.long q1), .second, .val (.int p2), .val (.int p3), .val (.int (p3 &&& (7 : Int32))), .val (.ref b116), .unset, .unset, .unset, .unset, .unset] [(.int (p3 &&& (7 : Int32))), (.int (3 : Int32)), (.int p2), (.long ((v15 + v16) + v17))])) _
    refine st329 _ ?_
    show Steps p.tables e below (T329.setTop (mkF m 217 #[.val (.long q0), .second, .val (.long q1), .second, .val (.int p2), .val (.int p3), .val (.int (p3 &&& (7 : Int32))), .val (.ref b116), .unset, .unset, .unset, .unset, .unset] [(.long (if (3 : Int32) < (p3 &&& (7 : Int32)) then (if (((p2.toUInt32 >>> ((3 : Int32) &&& 31).toUInt32).toInt32) &&& (1 : Int32)) = (0 : Int32) then (0 : Int64) else (1 : Int64)) else (0 : Int64))), (.long ((v15 + v16) + v17))])) _
    exact kt
  obtain ⟨v18, hv18⟩ : ∃ z : Int64, z = (if (3 : Int32) < (p3 &&& (7 : Int32)) then (if (((p2.toUInt32 >>> ((3 : Int32) &&& 31).toUInt32).toInt32) &&& (1 : Int32)) = (0 : Int32) then (0 : Int64) else (1 : Int64)) else (0 : Int64)) := ⟨_, rfl⟩
  have pre332 : ∀ t, Steps p.tables e below (T329.setTop (mkF m 217 #[.val (.long q0), .second, .val (.long q1), .second, .val (.int p2), .val (.int p3), .val (.int (p3 &&& (7 : Int32))), .val (.ref b116), .unset, .unset, .unset, .unset, .unset] [(.long v18), (.long ((v15 + v16) + v17))])) t → Steps p.tables e below (s₁.setTop (entryFrame m #[(.long q0), (.long q1), (.int p2), (.int p3)] maxLocals)) t := fun t kt => pre331 t (by rw [hv18] at kt; exact kt)
  obtain ⟨_, _, ⟨T333, L333, k333, n333⟩, -, X333, ⟨Lc333, hQ333, l333, y333, z333⟩, st333⟩ := Jvm.LawKit.callS X329 hx (y := (⟨"com/example/strict_pdp/strictpdp/expression/CountKnownPinLaw", "bit", "(III)J"⟩ : MethodName)) hown (mvT hZ (hw _ (List.mem_of_getElem? (i := 20) rfl))) (mvT hZ (hw _ (List.mem_of_getElem? (i := 21) rfl))) (mvT hZ (hw _ (List.mem_of_getElem? (i := 22) rfl))) (mvT hZ (hw _ (List.mem_of_getElem? (i := 23) rfl))) (by decide) (backOf (W := 2) (rm4 l Z aq hw [] p2 (4 : Int32) (p3 &&& (7 : Int32)) T299.heap n0 Z299 ) hZ (hw _ (List.mem_of_getElem? (i := 23) rfl)) (hw _ (List.mem_of_getElem? (i := 22) rfl)) (by decide) (by decide)) (g := (mkF m 223 #[.val (.long q0), .second, .val (.long q1), .second, .val (.int p2), .val (.int p3), .val (.int (p3 &&& (7 : Int32))), .val (.ref b116), .unset, .unset, .unset, .unset, .unset] [(.int (p3 &&& (7 : Int32))), (.int (4 : Int32)), (.int p2), (.long (((v15 + v16) + v17) + v18))])) rfl (by rw [hml]; rfl) (argsL := [(.int p2), (.int (4 : Int32)), (.int (p3 &&& (7 : Int32)))]) (rest := [(.long (((v15 + v16) + v17) + v18))]) (lenOf pd86748539 rfl) rfl (by show 2 * 0 + _ ≤ _; exact Nat.le_of_eq rfl) (hb hby at_223) (fun _ _ => ⟨rfl, e329, (by decide : 1 + 0 ≤ _), (by decide : 5 + 0 ≤ _)⟩)
  dsimp only [Pt.U, Pt.locs, Pt.cells, Pt.slots] at X333 l333 y333 z333 st333 hQ333
  subst l333 y333 z333
  obtain ⟨rfl, N333q, e333⟩ := hQ333
  have N334 := Fr.app N330 N333q
  have pre335 : ∀ t, Steps p.tables e below (T333.setTop (mkF m 226 #[.val (.long q0), .second, .val (.long q1), .second, .val (.int p2), .val (.int p3), .val (.int (p3 &&& (7 : Int32))), .val (.ref b116), .unset, .unset, .unset, .unset, .unset] [(.long (if (4 : Int32) < (p3 &&& (7 : Int32)) then (if (((p2.toUInt32 >>> ((4 : Int32) &&& 31).toUInt32).toInt32) &&& (1 : Int32)) = (0 : Int32) then (0 : Int64) else (1 : Int64)) else (0 : Int64))), (.long (((v15 + v16) + v17) + v18))])) t → Steps p.tables e below (s₁.setTop (entryFrame m #[(.long q0), (.long q1), (.int p2), (.int p3)] maxLocals)) t := fun t kt => by
    refine pre332 _ ?_
    show Steps p.tables e below (T329.setTop (mkF m 217 #[.val (.long q0), .second, .val (.long q1), .second, .val (.int p2), .val (.int p3), .val (.int (p3 &&& (7 : Int32))), .val (.ref b116), .unset, .unset, .unset, .unset, .unset] [(.long v18), (.long ((v15 + v16) + v17))])) _
    refine XS.ladd X329.here hx rfl (hb hby at_217) rfl ?_
    show Steps p.tables e below (T329.setTop (mkF m 218 #[.val (.long q0), .second, .val (.long q1), .second, .val (.int p2), .val (.int p3), .val (.int (p3 &&& (7 : Int32))), .val (.ref b116), .unset, .unset, .unset, .unset, .unset] [(.long (((v15 + v16) + v17) + v18))])) _
    refine XS.iload X329.here hx rfl (hb hby at_218) rfl ?_
    show Steps p.tables e below (T329.setTop (mkF m 220 #[.val (.long q0), .second, .val (.long q1), .second, .val (.int p2), .val (.int p3), .val (.int (p3 &&& (7 : Int32))), .val (.ref b116), .unset, .unset, .unset, .unset, .unset] [(.int p2), (.long (((v15 + v16) + v17) + v18))])) _
    refine XS.iconst X329.here hx rfl (hb hby at_220) ?_
    show Steps p.tables e below (T329.setTop (mkF m 221 #[.val (.long q0), .second, .val (.long q1), .second, .val (.int p2), .val (.int p3), .val (.int (p3 &&& (7 : Int32))), .val (.ref b116), .unset, .unset, .unset, .unset, .unset] [(.int (4 : Int32)), (.int p2), (.long (((v15 + v16) + v17) + v18))])) _
    refine XS.iload X329.here hx rfl (hb hby at_221) rfl ?_
    show Steps p.tables e below (T329.setTop (mkF m 223 #[.val (.long q0), .second, .val (.long q1), .second, .val (.int p2), .val (.int p3), .val (.int (p3 &&& (7 : Int32))), .val (.ref b116), .unset, .unset, .unset, .unset, .unset] [(.int (p3 &&& (7 : Int32))), (.int (4 : Int32)), (.int p2), (.long (((v15 + v16) + v17) + v18))])) _
    refine st333 _ ?_
    show Steps p.tables e below (T333.setTop (mkF m 226 #[.val (.long q0), .second, .val (.long q1), .second, .val (.int p2), .val (.int p3), .val (.int (p3 &&& (7 : Int32))), .val (.ref b116), .unset, .unset, .unset, .unset, .unset] [(.long (if (4 : Int32) < (p3 &&& (7 : Int32)) then (if (((p2.toUInt32 >>> ((4 : Int32) &&& 31).toUInt32).toInt32) &&& (1 : Int32)) = (0 : Int32) then (0 : Int64) else (1 : Int64)) else (0 : Int64))), (.long (((v15 + v16) + v17) + v18))])) _
    exact kt
  obtain ⟨v19, hv19⟩ : ∃ z : Int64, z = (if (4 : Int32) < (p3 &&& (7 : Int32)) then (if (((p2.toUInt32 >>> ((4 : Int32) &&& 31).toUInt32).toInt32) &&& (1 : Int32)) = (0 : Int32) then (0 : Int64) else (1 : Int64)) else (0 : Int64)) := ⟨_, rfl⟩
  have pre336 : ∀ t, Steps p.tables e below (T333.setTop (mkF m 226 #[.val (.long q0), .second, .val (.long q1), .second, .val (.int p2), .val (.int p3), .val (.int (p3 &&& (7 : Int32))), .val (.ref b116), .unset, .unset, .unset, .unset, .unset] [(.long v19), (.long (((v15 + v16) + v17) + v18))])) t → Steps p.tables e below (s₁.setTop (entryFrame m #[(.long q0), (.long q1), (.int p2), (.int p3)] maxLocals)) t := fun t kt => pre335 t (by rw [hv19] at kt; exact kt)
  obtain ⟨_, _, ⟨T337, L337, k337, n337⟩, -, X337, ⟨Lc337, hQ337, l337, y337, z337⟩, st337⟩ := Jvm.LawKit.callS X333 hx (y := (⟨"com/example/strict_pdp/strictpdp/expression/CountKnownPinLaw", "bit", "(III)J"⟩ : MethodName)) hown (mvT hZ (hw _ (List.mem_of_getElem? (i := 20) rfl))) (mvT hZ (hw _ (List.mem_of_getElem? (i := 21) rfl))) (mvT hZ (hw _ (List.mem_of_getElem? (i := 22) rfl))) (mvT hZ (hw _ (List.mem_of_getElem? (i := 23) rfl))) (by decide) (backOf (W := 2) (rm4 l Z aq hw [] p2 (5 : Int32) (p3 &&& (7 : Int32)) T299.heap n0 Z299 ) hZ (hw _ (List.mem_of_getElem? (i := 23) rfl)) (hw _ (List.mem_of_getElem? (i := 22) rfl)) (by decide) (by decide)) (g := (mkF m 232 #[.val (.long q0), .second, .val (.long q1), .second, .val (.int p2), .val (.int p3), .val (.int (p3 &&& (7 : Int32))), .val (.ref b116), .unset, .unset, .unset, .unset, .unset] [(.int (p3 &&& (7 : Int32))), (.int (5 : Int32)), (.int p2), (.long ((((v15 + v16) + v17) + v18) + v19))])) rfl (by rw [hml]; rfl) (argsL := [(.int p2), (.int (5 : Int32)), (.int (p3 &&& (7 : Int32)))]) (rest := [(.long ((((v15 + v16) + v17) + v18) + v19))]) (lenOf pd86748539 rfl) rfl (by show 2 * 0 + _ ≤ _; exact Nat.le_of_eq rfl) (hb hby at_232) (fun _ _ => ⟨rfl, e333, (by decide : 1 + 0 ≤ _), (by decide : 5 + 0 ≤ _)⟩)
  dsimp only [Pt.U, Pt.locs, Pt.cells, Pt.slots] at X337 l337 y337 z337 st337 hQ337
  subst l337 y337 z337
  obtain ⟨rfl, N337q, e337⟩ := hQ337
  have N338 := Fr.app N334 N337q
  have pre339 : ∀ t, Steps p.tables e below (T337.setTop (mkF m 235 #[.val (.long q0), .second, .val (.long q1), .second, .val (.int p2), .val (.int p3), .val (.int (p3 &&& (7 : Int32))), .val (.ref b116), .unset, .unset, .unset, .unset, .unset] [(.long (if (5 : Int32) < (p3 &&& (7 : Int32)) then (if (((p2.toUInt32 >>> ((5 : Int32) &&& 31).toUInt32).toInt32) &&& (1 : Int32)) = (0 : Int32) then (0 : Int64) else (1 : Int64)) else (0 : Int64))), (.long ((((v15 + v16) + v17) + v18) + v19))])) t → Steps p.tables e below (s₁.setTop (entryFrame m #[(.long q0), (.long q1), (.int p2), (.int p3)] maxLocals)) t := fun t kt => by
    refine pre336 _ ?_
    show Steps p.tables e below (T333.setTop (mkF m 226 #[.val (.long q0), .second, .val (.long q1), .second, .val (.int p2), .val (.int p3), .val (.int (p3 &&& (7 : Int32))), .val (.ref b116), .unset, .unset, .unset, .unset, .unset] [(.long v19), (.long (((v15 + v16) + v17) + v18))])) _
    refine XS.ladd X333.here hx rfl (hb hby at_226) rfl ?_
    show Steps p.tables e below (T333.setTop (mkF m 227 #[.val (.long q0), .second, .val (.long q1), .second, .val (.int p2), .val (.int p3), .val (.int (p3 &&& (7 : Int32))), .val (.ref b116), .unset, .unset, .unset, .unset, .unset] [(.long ((((v15 + v16) + v17) + v18) + v19))])) _
    refine XS.iload X333.here hx rfl (hb hby at_227) rfl ?_
    show Steps p.tables e below (T333.setTop (mkF m 229 #[.val (.long q0), .second, .val (.long q1), .second, .val (.int p2), .val (.int p3), .val (.int (p3 &&& (7 : Int32))), .val (.ref b116), .unset, .unset, .unset, .unset, .unset] [(.int p2), (.long ((((v15 + v16) + v17) + v18) + v19))])) _
    refine XS.iconst X333.here hx rfl (hb hby at_229) ?_
    show Steps p.tables e below (T333.setTop (mkF m 230 #[.val (.long q0), .second, .val (.long q1), .second, .val (.int p2), .val (.int p3), .val (.int (p3 &&& (7 : Int32))), .val (.ref b116), .unset, .unset, .unset, .unset, .unset] [(.int (5 : Int32)), (.int p2), (.long ((((v15 + v16) + v17) + v18) + v19))])) _
    refine XS.iload X333.here hx rfl (hb hby at_230) rfl ?_
    show Steps p.tables e below (T333.setTop (mkF m 232 #[.val (.long q0), .second, .val (.long q1), .second, .val (.int p2), .val (.int p3), .val (.int (p3 &&& (7 : Int32))), .val (.ref b116), .unset, .unset, .unset, .unset, .unset] [(.int (p3 &&& (7 : Int32))), (.int (5 : Int32)), (.int p2), (.long ((((v15 + v16) + v17) + v18) + v19))])) _
    refine st337 _ ?_
    show Steps p.tables e below (T337.setTop (mkF m 235 #[.val (.long q0), .second, .val (.long q1), .second, .val (.int p2), .val (.int p3), .val (.int (p3 &&& (7 : Int32))), .val (.ref b116), .unset, .unset, .unset, .unset, .unset] [(.long (if (5 : Int32) < (p3 &&& (7 : Int32)) then (if (((p2.toUInt32 >>> ((5 : Int32) &&& 31).toUInt32).toInt32) &&& (1 : Int32)) = (0 : Int32) then (0 : Int64) else (1 : Int64)) else (0 : Int64))), (.long ((((v15 + v16) + v17) + v18) + v19))])) _
    exact kt
  obtain ⟨v20, hv20⟩ : ∃ z : Int64, z = (if (5 : Int32) < (p3 &&& (7 : Int32)) then (if (((p2.toUInt32 >>> ((5 : Int32) &&& 31).toUInt32).toInt32) &&& (1 : Int32)) = (0 : Int32) then (0 : Int64) else (1 : Int64)) else (0 : Int64)) := ⟨_, rfl⟩
  have pre340 : ∀ t, Steps p.tables e below (T337.setTop (mkF m 235 #[.val (.long q0), .second, .val (.long q1), .second, .val (.int p2), .val (.int p3), .val (.int (p3 &&& (7 : Int32))), .val (.ref b116), .unset, .unset, .unset, .unset, .unset] [(.long v20), (.long ((((v15 + v16) + v17) + v18) + v19))])) t → Steps p.tables e below (s₁.setTop (entryFrame m #[(.long q0), (.long q1), (.int p2), (.int p3)] maxLocals)) t := fun t kt => pre339 t (by rw [hv20] at kt; exact kt)
  obtain ⟨_, _, ⟨T341, L341, k341, n341⟩, -, X341, ⟨Lc341, hQ341, l341, y341, z341⟩, st341⟩ := Jvm.LawKit.callS X337 hx (y := (⟨"com/example/strict_pdp/strictpdp/expression/CountKnownPinLaw", "bit", "(III)J"⟩ : MethodName)) hown (mvT hZ (hw _ (List.mem_of_getElem? (i := 20) rfl))) (mvT hZ (hw _ (List.mem_of_getElem? (i := 21) rfl))) (mvT hZ (hw _ (List.mem_of_getElem? (i := 22) rfl))) (mvT hZ (hw _ (List.mem_of_getElem? (i := 23) rfl))) (by decide) (backOf (W := 2) (rm4 l Z aq hw [] p2 (6 : Int32) (p3 &&& (7 : Int32)) T299.heap n0 Z299 ) hZ (hw _ (List.mem_of_getElem? (i := 23) rfl)) (hw _ (List.mem_of_getElem? (i := 22) rfl)) (by decide) (by decide)) (g := (mkF m 242 #[.val (.long q0), .second, .val (.long q1), .second, .val (.int p2), .val (.int p3), .val (.int (p3 &&& (7 : Int32))), .val (.ref b116), .unset, .unset, .unset, .unset, .unset] [(.int (p3 &&& (7 : Int32))), (.int (6 : Int32)), (.int p2), (.long (((((v15 + v16) + v17) + v18) + v19) + v20))])) rfl (by rw [hml]; rfl) (argsL := [(.int p2), (.int (6 : Int32)), (.int (p3 &&& (7 : Int32)))]) (rest := [(.long (((((v15 + v16) + v17) + v18) + v19) + v20))]) (lenOf pd86748539 rfl) rfl (by show 2 * 0 + _ ≤ _; exact Nat.le_of_eq rfl) (hb hby at_242) (fun _ _ => ⟨rfl, e337, (by decide : 1 + 0 ≤ _), (by decide : 5 + 0 ≤ _)⟩)
  dsimp only [Pt.U, Pt.locs, Pt.cells, Pt.slots] at X341 l341 y341 z341 st341 hQ341
  subst l341 y341 z341
  obtain ⟨rfl, N341q, e341⟩ := hQ341
  have N342 := Fr.app N338 N341q
  have pre343 : ∀ t, Steps p.tables e below (T341.setTop (mkF m 245 #[.val (.long q0), .second, .val (.long q1), .second, .val (.int p2), .val (.int p3), .val (.int (p3 &&& (7 : Int32))), .val (.ref b116), .unset, .unset, .unset, .unset, .unset] [(.long (if (6 : Int32) < (p3 &&& (7 : Int32)) then (if (((p2.toUInt32 >>> ((6 : Int32) &&& 31).toUInt32).toInt32) &&& (1 : Int32)) = (0 : Int32) then (0 : Int64) else (1 : Int64)) else (0 : Int64))), (.long (((((v15 + v16) + v17) + v18) + v19) + v20))])) t → Steps p.tables e below (s₁.setTop (entryFrame m #[(.long q0), (.long q1), (.int p2), (.int p3)] maxLocals)) t := fun t kt => by
    refine pre340 _ ?_
    show Steps p.tables e below (T337.setTop (mkF m 235 #[.val (.long q0), .second, .val (.long q1), .second, .val (.int p2), .val (.int p3), .val (.int (p3 &&& (7 : Int32))), .val (.ref b116), .unset, .unset, .unset, .unset, .unset] [(.long v20), (.long ((((v15 + v16) + v17) + v18) + v19))])) _
    refine XS.ladd X337.here hx rfl (hb hby at_235) rfl ?_
    show Steps p.tables e below (T337.setTop (mkF m 236 #[.val (.long q0), .second, .val (.long q1), .second, .val (.int p2), .val (.int p3), .val (.int (p3 &&& (7 : Int32))), .val (.ref b116), .unset, .unset, .unset, .unset, .unset] [(.long (((((v15 + v16) + v17) + v18) + v19) + v20))])) _
    refine XS.iload X337.here hx rfl (hb hby at_236) rfl ?_
    show Steps p.tables e below (T337.setTop (mkF m 238 #[.val (.long q0), .second, .val (.long q1), .second, .val (.int p2), .val (.int p3), .val (.int (p3 &&& (7 : Int32))), .val (.ref b116), .unset, .unset, .unset, .unset, .unset] [(.int p2), (.long (((((v15 + v16) + v17) + v18) + v19) + v20))])) _
    refine XS.bipush X337.here hx rfl (hb hby at_238) ?_
    show Steps p.tables e below (T337.setTop (mkF m 240 #[.val (.long q0), .second, .val (.long q1), .second, .val (.int p2), .val (.int p3), .val (.int (p3 &&& (7 : Int32))), .val (.ref b116), .unset, .unset, .unset, .unset, .unset] [(.int (6 : Int32)), (.int p2), (.long (((((v15 + v16) + v17) + v18) + v19) + v20))])) _
    refine XS.iload X337.here hx rfl (hb hby at_240) rfl ?_
    show Steps p.tables e below (T337.setTop (mkF m 242 #[.val (.long q0), .second, .val (.long q1), .second, .val (.int p2), .val (.int p3), .val (.int (p3 &&& (7 : Int32))), .val (.ref b116), .unset, .unset, .unset, .unset, .unset] [(.int (p3 &&& (7 : Int32))), (.int (6 : Int32)), (.int p2), (.long (((((v15 + v16) + v17) + v18) + v19) + v20))])) _
    refine st341 _ ?_
    show Steps p.tables e below (T341.setTop (mkF m 245 #[.val (.long q0), .second, .val (.long q1), .second, .val (.int p2), .val (.int p3), .val (.int (p3 &&& (7 : Int32))), .val (.ref b116), .unset, .unset, .unset, .unset, .unset] [(.long (if (6 : Int32) < (p3 &&& (7 : Int32)) then (if (((p2.toUInt32 >>> ((6 : Int32) &&& 31).toUInt32).toInt32) &&& (1 : Int32)) = (0 : Int32) then (0 : Int64) else (1 : Int64)) else (0 : Int64))), (.long (((((v15 + v16) + v17) + v18) + v19) + v20))])) _
    exact kt
  obtain ⟨v21, hv21⟩ : ∃ z : Int64, z = (if (6 : Int32) < (p3 &&& (7 : Int32)) then (if (((p2.toUInt32 >>> ((6 : Int32) &&& 31).toUInt32).toInt32) &&& (1 : Int32)) = (0 : Int32) then (0 : Int64) else (1 : Int64)) else (0 : Int64)) := ⟨_, rfl⟩
  have pre344 : ∀ t, Steps p.tables e below (T341.setTop (mkF m 245 #[.val (.long q0), .second, .val (.long q1), .second, .val (.int p2), .val (.int p3), .val (.int (p3 &&& (7 : Int32))), .val (.ref b116), .unset, .unset, .unset, .unset, .unset] [(.long v21), (.long (((((v15 + v16) + v17) + v18) + v19) + v20))])) t → Steps p.tables e below (s₁.setTop (entryFrame m #[(.long q0), (.long q1), (.int p2), (.int p3)] maxLocals)) t := fun t kt => pre343 t (by rw [hv21] at kt; exact kt)
  have pre345 : ∀ t, Steps p.tables e below (T341.setTop (mkF m 248 #[.val (.long q0), .second, .val (.long q1), .second, .val (.int p2), .val (.int p3), .val (.int (p3 &&& (7 : Int32))), .val (.ref b116), .val (.long ((((((v15 + v16) + v17) + v18) + v19) + v20) + v21)), .second, .unset, .unset, .unset] [])) t → Steps p.tables e below (s₁.setTop (entryFrame m #[(.long q0), (.long q1), (.int p2), (.int p3)] maxLocals)) t := fun t kt => by
    refine pre344 _ ?_
    show Steps p.tables e below (T341.setTop (mkF m 245 #[.val (.long q0), .second, .val (.long q1), .second, .val (.int p2), .val (.int p3), .val (.int (p3 &&& (7 : Int32))), .val (.ref b116), .unset, .unset, .unset, .unset, .unset] [(.long v21), (.long (((((v15 + v16) + v17) + v18) + v19) + v20))])) _
    refine XS.ladd X341.here hx rfl (hb hby at_245) rfl ?_
    show Steps p.tables e below (T341.setTop (mkF m 246 #[.val (.long q0), .second, .val (.long q1), .second, .val (.int p2), .val (.int p3), .val (.int (p3 &&& (7 : Int32))), .val (.ref b116), .unset, .unset, .unset, .unset, .unset] [(.long ((((((v15 + v16) + v17) + v18) + v19) + v20) + v21))])) _
    refine XS.lstore X341.here hx rfl (hb hby at_246) rfl (l' := #[.val (.long q0), .second, .val (.long q1), .second, .val (.int p2), .val (.int p3), .val (.int (p3 &&& (7 : Int32))), .val (.ref b116), .val (.long ((((((v15 + v16) + v17) + v18) + v19) + v20) + v21)), .second, .unset, .unset, .unset]) rfl ?_
    show Steps p.tables e below (T341.setTop (mkF m 248 #[.val (.long q0), .second, .val (.long q1), .second, .val (.int p2), .val (.int p3), .val (.int (p3 &&& (7 : Int32))), .val (.ref b116), .val (.long ((((((v15 + v16) + v17) + v18) + v19) + v20) + v21)), .second, .unset, .unset, .unset] [])) _
    exact kt
  obtain ⟨v22, hv22⟩ : ∃ z : Int64, z = ((((((v15 + v16) + v17) + v18) + v19) + v20) + v21) := ⟨_, rfl⟩
  have pre346 : ∀ t, Steps p.tables e below (T341.setTop (mkF m 248 #[.val (.long q0), .second, .val (.long q1), .second, .val (.int p2), .val (.int p3), .val (.int (p3 &&& (7 : Int32))), .val (.ref b116), .val (.long v22), .second, .unset, .unset, .unset] [])) t → Steps p.tables e below (s₁.setTop (entryFrame m #[(.long q0), (.long q1), (.int p2), (.int p3)] maxLocals)) t := fun t kt => pre345 t (by rw [hv22] at kt; exact kt)
  have pre347 : ∀ t, Steps p.tables e below (T341.setTop (mkF m 260 #[.val (.long q0), .second, .val (.long q1), .second, .val (.int p2), .val (.int p3), .val (.int (p3 &&& (7 : Int32))), .val (.ref b116), .val (.long v22), .second, .val (.long (((p3 &&& (7 : Int32)).toInt64) - v22)), .second, .unset] [(.int (lcmpW v22 q0))])) t → Steps p.tables e below (s₁.setTop (entryFrame m #[(.long q0), (.long q1), (.int p2), (.int p3)] maxLocals)) t := fun t kt => by
    refine pre346 _ ?_
    show Steps p.tables e below (T341.setTop (mkF m 248 #[.val (.long q0), .second, .val (.long q1), .second, .val (.int p2), .val (.int p3), .val (.int (p3 &&& (7 : Int32))), .val (.ref b116), .val (.long v22), .second, .unset, .unset, .unset] [])) _
    refine XS.iload X341.here hx rfl (hb hby at_248) rfl ?_
    show Steps p.tables e below (T341.setTop (mkF m 250 #[.val (.long q0), .second, .val (.long q1), .second, .val (.int p2), .val (.int p3), .val (.int (p3 &&& (7 : Int32))), .val (.ref b116), .val (.long v22), .second, .unset, .unset, .unset] [(.int (p3 &&& (7 : Int32)))])) _
    refine XS.i2l X341.here hx rfl (hb hby at_250) rfl ?_
    show Steps p.tables e below (T341.setTop (mkF m 251 #[.val (.long q0), .second, .val (.long q1), .second, .val (.int p2), .val (.int p3), .val (.int (p3 &&& (7 : Int32))), .val (.ref b116), .val (.long v22), .second, .unset, .unset, .unset] [(.long ((p3 &&& (7 : Int32)).toInt64))])) _
    refine XS.lload X341.here hx rfl (hb hby at_251) rfl ?_
    show Steps p.tables e below (T341.setTop (mkF m 253 #[.val (.long q0), .second, .val (.long q1), .second, .val (.int p2), .val (.int p3), .val (.int (p3 &&& (7 : Int32))), .val (.ref b116), .val (.long v22), .second, .unset, .unset, .unset] [(.long v22), (.long ((p3 &&& (7 : Int32)).toInt64))])) _
    refine XS.lsub X341.here hx rfl (hb hby at_253) rfl ?_
    show Steps p.tables e below (T341.setTop (mkF m 254 #[.val (.long q0), .second, .val (.long q1), .second, .val (.int p2), .val (.int p3), .val (.int (p3 &&& (7 : Int32))), .val (.ref b116), .val (.long v22), .second, .unset, .unset, .unset] [(.long (((p3 &&& (7 : Int32)).toInt64) - v22))])) _
    refine XS.lstore X341.here hx rfl (hb hby at_254) rfl (l' := #[.val (.long q0), .second, .val (.long q1), .second, .val (.int p2), .val (.int p3), .val (.int (p3 &&& (7 : Int32))), .val (.ref b116), .val (.long v22), .second, .val (.long (((p3 &&& (7 : Int32)).toInt64) - v22)), .second, .unset]) rfl ?_
    show Steps p.tables e below (T341.setTop (mkF m 256 #[.val (.long q0), .second, .val (.long q1), .second, .val (.int p2), .val (.int p3), .val (.int (p3 &&& (7 : Int32))), .val (.ref b116), .val (.long v22), .second, .val (.long (((p3 &&& (7 : Int32)).toInt64) - v22)), .second, .unset] [])) _
    refine XS.lload X341.here hx rfl (hb hby at_256) rfl ?_
    show Steps p.tables e below (T341.setTop (mkF m 258 #[.val (.long q0), .second, .val (.long q1), .second, .val (.int p2), .val (.int p3), .val (.int (p3 &&& (7 : Int32))), .val (.ref b116), .val (.long v22), .second, .val (.long (((p3 &&& (7 : Int32)).toInt64) - v22)), .second, .unset] [(.long v22)])) _
    refine XS.lloadN X341.here hx rfl (hb hby at_258) rfl ?_
    show Steps p.tables e below (T341.setTop (mkF m 259 #[.val (.long q0), .second, .val (.long q1), .second, .val (.int p2), .val (.int p3), .val (.int (p3 &&& (7 : Int32))), .val (.ref b116), .val (.long v22), .second, .val (.long (((p3 &&& (7 : Int32)).toInt64) - v22)), .second, .unset] [(.long q0), (.long v22)])) _
    refine XS.lcmp X341.here hx rfl (hb hby at_259) rfl ?_
    show Steps p.tables e below (T341.setTop (mkF m 260 #[.val (.long q0), .second, .val (.long q1), .second, .val (.int p2), .val (.int p3), .val (.int (p3 &&& (7 : Int32))), .val (.ref b116), .val (.long v22), .second, .val (.long (((p3 &&& (7 : Int32)).toInt64) - v22)), .second, .unset] [(.int (lcmpW v22 q0))])) _
    exact kt
  obtain ⟨v23, hv23⟩ : ∃ z : Int32, z = (if v22 < q0 then (if q1 < (((p3 &&& (7 : Int32)).toInt64) - v22) then (1 : Int32) else (0 : Int32)) else (1 : Int32)) := ⟨_, rfl⟩
  have pre350 : ∀ t, Steps p.tables e below (T341.setTop (mkF m 275 #[.val (.long q0), .second, .val (.long q1), .second, .val (.int p2), .val (.int p3), .val (.int (p3 &&& (7 : Int32))), .val (.ref b116), .val (.long v22), .second, .val (.long (((p3 &&& (7 : Int32)).toInt64) - v22)), .second, .unset] [(.int v23)])) t → Steps p.tables e below (s₁.setTop (entryFrame m #[(.long q0), (.long q1), (.int p2), (.int p3)] maxLocals)) t := fun t kt => by
    refine pre347 _ ?_
    show Steps p.tables e below (T341.setTop (mkF m 260 #[.val (.long q0), .second, .val (.long q1), .second, .val (.int p2), .val (.int p3), .val (.int (p3 &&& (7 : Int32))), .val (.ref b116), .val (.long v22), .second, .val (.long (((p3 &&& (7 : Int32)).toInt64) - v22)), .second, .unset] [(.int (lcmpW v22 q0))])) _
    by_cases hc348 : v22 < q0
    · rw [if_pos hc348] at hv23
      refine XS.ifNo X341.here hx rfl (hb hby at_260) rfl ((if0 _ _).trans (tlt (own_lwL hc348)).2.1) ?_
      show Steps p.tables e below (T341.setTop (mkF m 263 #[.val (.long q0), .second, .val (.long q1), .second, .val (.int p2), .val (.int p3), .val (.int (p3 &&& (7 : Int32))), .val (.ref b116), .val (.long v22), .second, .val (.long (((p3 &&& (7 : Int32)).toInt64) - v22)), .second, .unset] [])) _
      refine XS.lload X341.here hx rfl (hb hby at_263) rfl ?_
      show Steps p.tables e below (T341.setTop (mkF m 265 #[.val (.long q0), .second, .val (.long q1), .second, .val (.int p2), .val (.int p3), .val (.int (p3 &&& (7 : Int32))), .val (.ref b116), .val (.long v22), .second, .val (.long (((p3 &&& (7 : Int32)).toInt64) - v22)), .second, .unset] [(.long (((p3 &&& (7 : Int32)).toInt64) - v22))])) _
      refine XS.lloadN X341.here hx rfl (hb hby at_265) rfl ?_
      show Steps p.tables e below (T341.setTop (mkF m 266 #[.val (.long q0), .second, .val (.long q1), .second, .val (.int p2), .val (.int p3), .val (.int (p3 &&& (7 : Int32))), .val (.ref b116), .val (.long v22), .second, .val (.long (((p3 &&& (7 : Int32)).toInt64) - v22)), .second, .unset] [(.long q1), (.long (((p3 &&& (7 : Int32)).toInt64) - v22))])) _
      refine XS.lcmp X341.here hx rfl (hb hby at_266) rfl ?_
      show Steps p.tables e below (T341.setTop (mkF m 267 #[.val (.long q0), .second, .val (.long q1), .second, .val (.int p2), .val (.int p3), .val (.int (p3 &&& (7 : Int32))), .val (.ref b116), .val (.long v22), .second, .val (.long (((p3 &&& (7 : Int32)).toInt64) - v22)), .second, .unset] [(.int (lcmpW (((p3 &&& (7 : Int32)).toInt64) - v22) q1))])) _
      by_cases hc349 : q1 < (((p3 &&& (7 : Int32)).toInt64) - v22)
      · rw [if_pos hc349] at hv23
        refine XS.ifNo X341.here hx rfl (hb hby at_267) rfl ((if0 _ _).trans (tlt (own_lwG hc349)).2.2.2) ?_
        show Steps p.tables e below (T341.setTop (mkF m 270 #[.val (.long q0), .second, .val (.long q1), .second, .val (.int p2), .val (.int p3), .val (.int (p3 &&& (7 : Int32))), .val (.ref b116), .val (.long v22), .second, .val (.long (((p3 &&& (7 : Int32)).toInt64) - v22)), .second, .unset] [])) _
        refine XS.iconst X341.here hx rfl (hb hby at_270) ?_
        show Steps p.tables e below (T341.setTop (mkF m 271 #[.val (.long q0), .second, .val (.long q1), .second, .val (.int p2), .val (.int p3), .val (.int (p3 &&& (7 : Int32))), .val (.ref b116), .val (.long v22), .second, .val (.long (((p3 &&& (7 : Int32)).toInt64) - v22)), .second, .unset] [(.int (1 : Int32))])) _
        refine XS.goto X341.here hx rfl (pc0 := 271) (pc' := 275) rfl (hb hby at_271) (by decide) (by decide) ?_
        subst hv23
        exact kt
      · rw [if_neg hc349] at hv23
        refine XS.ifYes X341.here hx rfl (pc0 := 267) (pc' := 274) rfl (hb hby at_267) rfl ((if0 _ _).trans (flt (own_lwH hc349)).2.2.2) (by decide) (by decide) ?_
        show Steps p.tables e below (T341.setTop (mkF m 274 #[.val (.long q0), .second, .val (.long q1), .second, .val (.int p2), .val (.int p3), .val (.int (p3 &&& (7 : Int32))), .val (.ref b116), .val (.long v22), .second, .val (.long (((p3 &&& (7 : Int32)).toInt64) - v22)), .second, .unset] [])) _
        refine XS.iconst X341.here hx rfl (hb hby at_274) ?_
        subst hv23
        exact kt
    · rw [if_neg hc348] at hv23
      refine XS.ifYes X341.here hx rfl (pc0 := 260) (pc' := 270) rfl (hb hby at_260) rfl ((if0 _ _).trans (flt (own_lwM hc348)).2.1) (by decide) (by decide) ?_
      show Steps p.tables e below (T341.setTop (mkF m 270 #[.val (.long q0), .second, .val (.long q1), .second, .val (.int p2), .val (.int p3), .val (.int (p3 &&& (7 : Int32))), .val (.ref b116), .val (.long v22), .second, .val (.long (((p3 &&& (7 : Int32)).toInt64) - v22)), .second, .unset] [])) _
      refine XS.iconst X341.here hx rfl (hb hby at_270) ?_
      show Steps p.tables e below (T341.setTop (mkF m 271 #[.val (.long q0), .second, .val (.long q1), .second, .val (.int p2), .val (.int p3), .val (.int (p3 &&& (7 : Int32))), .val (.ref b116), .val (.long v22), .second, .val (.long (((p3 &&& (7 : Int32)).toInt64) - v22)), .second, .unset] [(.int (1 : Int32))])) _
      refine XS.goto X341.here hx rfl (pc0 := 271) (pc' := 275) rfl (hb hby at_271) (by decide) (by decide) ?_
      subst hv23
      exact kt
  obtain ⟨cq351, kq351, q351a, q351b, q351c⟩ := isOf hZ e341 E300
  obtain ⟨_, _, ⟨T351, L351, k351, n351⟩, -, X351, ⟨Lc351, hQ351, l351, y351, z351⟩, st351⟩ := X341.virtualBack hx (y := (⟨"com/example/strict_pdp/strictpdp/expression/ThreeValued$Count", "known", "()Z"⟩ : MethodName)) (z := (⟨"com/example/strict_pdp/strictpdp/expression/ThreeValued$Count", "known", "()Z"⟩ : MethodName)) hown (mvT hZ (hw _ (List.mem_of_getElem? (i := 24) rfl))) (mvT hZ (hw _ (List.mem_of_getElem? (i := 25) rfl))) (notFace_of_selects (args := #[]) (mvT hZ (hw _ (List.mem_of_getElem? (i := 27) rfl)))) (mvT hZ (hw _ (List.mem_of_getElem? (i := 27) rfl))) (mvT hZ (hw _ (List.mem_of_getElem? (i := 26) rfl))) (by decide) (backOf (W := 0) (rm5 l Z aq hw [] b116 q0 q1 v13 v14 T299.heap n0 Z299 E300 F301 F302 F303 F304) hZ (hw _ (List.mem_of_getElem? (i := 28) rfl)) (hw _ (List.mem_of_getElem? (i := 2) rfl)) (by decide) (by decide)) q351a q351c (g := (mkF m 279 #[.val (.long q0), .second, .val (.long q1), .second, .val (.int p2), .val (.int p3), .val (.int (p3 &&& (7 : Int32))), .val (.ref b116), .val (.long v22), .second, .val (.long (((p3 &&& (7 : Int32)).toInt64) - v22)), .second, .val (.int v23)] [(.ref b116)])) rfl (by rw [hml]; rfl) (Steps.refl _) (argsL := []) (rest := []) (lenOf pd93422000 rfl) rfl (by show 2 * 0 + _ ≤ _; exact Nat.le_of_eq rfl) (hb hby at_279) (fun _ _ => ⟨rfl, e341, (by decide : 1 + 0 ≤ _), (by decide : 5 + 0 ≤ _)⟩)
  dsimp only [Pt.U, Pt.locs, Pt.cells, Pt.slots] at X351 l351 y351 z351 st351 hQ351
  subst l351 y351 z351
  obtain ⟨rfl, N351q, e351⟩ := hQ351
  have N352 := Fr.app N342 N351q
  have pre353 : ∀ t, Steps p.tables e below (T351.setTop (mkF m 284 #[.val (.long q0), .second, .val (.long q1), .second, .val (.int p2), .val (.int p3), .val (.int (p3 &&& (7 : Int32))), .val (.ref b116), .val (.long v22), .second, .val (.long (((p3 &&& (7 : Int32)).toInt64) - v22)), .second, .val (.int v23)] [(.int v23), (.int (if v14 < q0 then (if q1 < v13 then (1 : Int32) else (0 : Int32)) else (1 : Int32)))])) t → Steps p.tables e below (s₁.setTop (entryFrame m #[(.long q0), (.long q1), (.int p2), (.int p3)] maxLocals)) t := fun t kt => by
    refine pre350 _ ?_
    show Steps p.tables e below (T341.setTop (mkF m 275 #[.val (.long q0), .second, .val (.long q1), .second, .val (.int p2), .val (.int p3), .val (.int (p3 &&& (7 : Int32))), .val (.ref b116), .val (.long v22), .second, .val (.long (((p3 &&& (7 : Int32)).toInt64) - v22)), .second, .unset] [(.int v23)])) _
    refine XS.istore X341.here hx rfl (hb hby at_275) rfl (l' := #[.val (.long q0), .second, .val (.long q1), .second, .val (.int p2), .val (.int p3), .val (.int (p3 &&& (7 : Int32))), .val (.ref b116), .val (.long v22), .second, .val (.long (((p3 &&& (7 : Int32)).toInt64) - v22)), .second, .val (.int v23)]) rfl ?_
    show Steps p.tables e below (T341.setTop (mkF m 277 #[.val (.long q0), .second, .val (.long q1), .second, .val (.int p2), .val (.int p3), .val (.int (p3 &&& (7 : Int32))), .val (.ref b116), .val (.long v22), .second, .val (.long (((p3 &&& (7 : Int32)).toInt64) - v22)), .second, .val (.int v23)] [])) _
    refine XS.aload X341.here hx rfl (hb hby at_277) rfl rfl ?_
    show Steps p.tables e below (T341.setTop (mkF m 279 #[.val (.long q0), .second, .val (.long q1), .second, .val (.int p2), .val (.int p3), .val (.int (p3 &&& (7 : Int32))), .val (.ref b116), .val (.long v22), .second, .val (.long (((p3 &&& (7 : Int32)).toInt64) - v22)), .second, .val (.int v23)] [(.ref b116)])) _
    refine st351.trans ?_
    show Steps p.tables e below (T351.setTop (mkF m 282 #[.val (.long q0), .second, .val (.long q1), .second, .val (.int p2), .val (.int p3), .val (.int (p3 &&& (7 : Int32))), .val (.ref b116), .val (.long v22), .second, .val (.long (((p3 &&& (7 : Int32)).toInt64) - v22)), .second, .val (.int v23)] [(.int (if v14 < q0 then (if q1 < v13 then (1 : Int32) else (0 : Int32)) else (1 : Int32)))])) _
    refine XS.iload X351.here hx rfl (hb hby at_282) rfl ?_
    show Steps p.tables e below (T351.setTop (mkF m 284 #[.val (.long q0), .second, .val (.long q1), .second, .val (.int p2), .val (.int p3), .val (.int (p3 &&& (7 : Int32))), .val (.ref b116), .val (.long v22), .second, .val (.long (((p3 &&& (7 : Int32)).toInt64) - v22)), .second, .val (.int v23)] [(.int v23), (.int (if v14 < q0 then (if q1 < v13 then (1 : Int32) else (0 : Int32)) else (1 : Int32)))])) _
    exact kt
  obtain ⟨v24, hv24⟩ : ∃ z : Int32, z = (if (if v14 < q0 then (if q1 < v13 then (1 : Int32) else (0 : Int32)) else (1 : Int32)) = v23 then (1 : Int32) else (0 : Int32)) := ⟨_, rfl⟩
  have pre355 : ∀ t, Steps p.tables e below (T351.setTop (mkF m 292 #[.val (.long q0), .second, .val (.long q1), .second, .val (.int p2), .val (.int p3), .val (.int (p3 &&& (7 : Int32))), .val (.ref b116), .val (.long v22), .second, .val (.long (((p3 &&& (7 : Int32)).toInt64) - v22)), .second, .val (.int v23)] [(.int v24)])) t → Steps p.tables e below (s₁.setTop (entryFrame m #[(.long q0), (.long q1), (.int p2), (.int p3)] maxLocals)) t := fun t kt => by
    refine pre353 _ ?_
    show Steps p.tables e below (T351.setTop (mkF m 284 #[.val (.long q0), .second, .val (.long q1), .second, .val (.int p2), .val (.int p3), .val (.int (p3 &&& (7 : Int32))), .val (.ref b116), .val (.long v22), .second, .val (.long (((p3 &&& (7 : Int32)).toInt64) - v22)), .second, .val (.int v23)] [(.int v23), (.int (if v14 < q0 then (if q1 < v13 then (1 : Int32) else (0 : Int32)) else (1 : Int32)))])) _
    by_cases hc354 : (if v14 < q0 then (if q1 < v13 then (1 : Int32) else (0 : Int32)) else (1 : Int32)) = v23
    · rw [if_pos hc354] at hv24
      refine XS.icmpNo X351.here hx rfl (hb hby at_284) rfl (teq hc354).2 ?_
      show Steps p.tables e below (T351.setTop (mkF m 287 #[.val (.long q0), .second, .val (.long q1), .second, .val (.int p2), .val (.int p3), .val (.int (p3 &&& (7 : Int32))), .val (.ref b116), .val (.long v22), .second, .val (.long (((p3 &&& (7 : Int32)).toInt64) - v22)), .second, .val (.int v23)] [])) _
      refine XS.iconst X351.here hx rfl (hb hby at_287) ?_
      show Steps p.tables e below (T351.setTop (mkF m 288 #[.val (.long q0), .second, .val (.long q1), .second, .val (.int p2), .val (.int p3), .val (.int (p3 &&& (7 : Int32))), .val (.ref b116), .val (.long v22), .second, .val (.long (((p3 &&& (7 : Int32)).toInt64) - v22)), .second, .val (.int v23)] [(.int (1 : Int32))])) _
      refine XS.goto X351.here hx rfl (pc0 := 288) (pc' := 292) rfl (hb hby at_288) (by decide) (by decide) ?_
      subst hv24
      exact kt
    · rw [if_neg hc354] at hv24
      refine XS.icmpYes X351.here hx rfl (pc0 := 284) (pc' := 291) rfl (hb hby at_284) rfl (feq hc354).2 (by decide) (by decide) ?_
      show Steps p.tables e below (T351.setTop (mkF m 291 #[.val (.long q0), .second, .val (.long q1), .second, .val (.int p2), .val (.int p3), .val (.int (p3 &&& (7 : Int32))), .val (.ref b116), .val (.long v22), .second, .val (.long (((p3 &&& (7 : Int32)).toInt64) - v22)), .second, .val (.int v23)] [])) _
      refine XS.iconst X351.here hx rfl (hb hby at_291) ?_
      subst hv24
      exact kt
  have hfin : v24 = 1 := (own_plain0 q0 q1 p2 p3 v1 hv1 v2 hv2 v3 hv3 v4 hv4 v5 hv5 v6 hv6 v7 hv7 v8 hv8 v9 hv9 v10 hv10 v11 hv11 v12 hv12 v13 hv13 v14 hv14 v15 hv15 v16 hv16 v17 hv17 v18 hv18 v19 hv19 v20 hv20 v21 hv21 v22 hv22 v23 hv23 v24 hv24)
  obtain ⟨fs, hr, hrun, hended, hW, hsame⟩ := X351.leave (v := some (.int (v24 &&& 1))) (fun h => by rw [Bd.returns] at h; cases h)
  refine ⟨_, _, pre355 _ ?_, hrun, hended, _, _, rfl, ?_, ⟨_, rfl⟩, hW, hsame.mono (by decide) (by decide)⟩
  · exact retN X351 hx (t := .boolean) Bd.returns (by simp) (hb hby at_292) hr
  · exact ⟨by rw [hfin]; rfl, N352⟩
set_option maxRecDepth 65536 in
set_option maxHeartbeats 40000000 in
theorem comes_1 {Post : Tables → Env → Array Value → State → Outcome → State → Prop} (hpost : ∀ tb e args s v u, (limb_1_1.after args s (.returned v) u = true ∧ limb_1_2.after args s (.returned v) u = true ∧ True) → FrameEnd s (.returned v) u (Jvm.fieldLocs frame_1_writes args s ++ Jvm.arrayLocs frame_1_arrays args s ++ Jvm.staticLocs frame_1_statics s) 16 128 → Post tb e args s (.returned v) u) :
    ArmFor flags0 classFile x code maxLocals ret World_1 tables_1 room_1 Calls_1 rest_1 Pre_1 Post := by
  intro l hfl _ _ p e ha hc hk s m args below hf hA hF happ hP
  obtain ⟨hcalls, hrest, hpre⟩ := hP
  obtain ⟨-, -, -, hnamed, -, -, -, hat⟩ := (Spec.applies_iff hf).mp happ
  obtain ⟨hg, hn⟩ := and_e (Cond.before_iff.mp (show (Jvm.Cond.and given_1 narrow_1).before args s = true from hpre))
  obtain ⟨hcount, hg0⟩ := and_e hg
  obtain ⟨ha0, hg1⟩ := and_e hg0
  obtain ⟨ha1, hg2⟩ := and_e hg1
  obtain ⟨ha2, hg3⟩ := and_e hg2
  have ha3 := hg3
  obtain ⟨w0, w1, w2, w3, rfl⟩ : ∃ w0 w1 w2 w3 : Value, args = #[w0, w1, w2, w3] := by
    have hs : args.size = 4 := by simpa [Cond.value, given_1] using hcount
    obtain ⟨L⟩ := args
    match L, hs with
    | [w0, w1, w2, w3], _ => exact ⟨w0, w1, w2, w3, rfl⟩
  have hw := fun d (hd : d ∈ tables_1) => atoms_spec (ws := Jvm.Cond.code x code maxLocals ret :: tables_1) hat d (List.mem_cons_of_mem _ hd)
  obtain ⟨i0, ei0⟩ := isL_v ha0
  obtain rfl : w0 = (.long i0) := Option.some.inj ei0
  obtain ⟨i1, ei1⟩ := isL_v ha1
  obtain rfl : w1 = (.long i1) := Option.some.inj ei1
  obtain ⟨i2, ei2⟩ := is_v ha2
  obtain rfl : w2 = (.int i2) := Option.some.inj ei2
  obtain ⟨i3, ei3⟩ := is_v ha3
  obtain rfl : w3 = (.int i3) := Option.some.inj ei3
  obtain ⟨n, o, h1, h2, h3, _, L, rfl, ⟨rfl, N⟩, hq⟩ := rm0 l s _ hw tables_1 i0 i1 i2 i3 s.heap s.heap.size (Nat.le_refl _) p e ha hc hk s m _ below hf ((Spec.applies_iff_loose hf).mp happ).1 ⟨rfl, State.Warmed39.refl s, rfl⟩ trivial
  refine ⟨n, _, h1, h2, h3, hpost _ _ _ _ _ _ ⟨Cond.after_iff.mpr rfl, Cond.after_iff.mpr (eq_i res_at (Term.int_eval (1)) rfl), trivial⟩ ⟨hq.1, hq.2.1, (hq.2.2.sift fun y hy => Or.inr (N y hy)).mono (by decide) (by decide)⟩⟩
theorem main_1_1 : Claimed_1_1 := comes_1 fun _ _ _ _ _ _ h hF => ⟨h.1, hF⟩
theorem main_1_2 : Claimed_1_2 := comes_1 fun _ _ _ _ _ _ h hF => ⟨h.2.1, hF⟩
end Jvm.Pilot.@@N@@
namespace Jvm.Pilot.@@N@@
open Jvm Jvm.ClassFile Sem Op Lib Jvm.Free Jvm.Stand Jvm.Pilot.@@N@@.Jvm.D
/-! MADE BY PROGRAM (witnessworld.py) out of the Statement's table words and the real class files: 9 classes; the members and pool entries that the words name. The judged class is class 1, her method 2. -/
namespace start1
open Jvm.ClassFile
def u (s : String) : CpInfo := .utf8 (stringToUtf16 s)
/-- a pool by its gaps: so many unusable entries, then the entry; so many at the end -/
def gap : Nat → List CpInfo → List CpInfo
  | 0, r => r
  | n + 1, r => .unusable :: gap n r
def poolList (es : List (Nat × CpInfo)) (last : Nat) : List CpInfo := es.foldr (fun e r => gap e.1 (e.2 :: r)) (gap last [])
def pool (es : List (Nat × CpInfo)) (last : Nat) : Array CpInfo := ⟨poolList es last⟩
def fileOf (pool : Array CpInfo) (this : Nat) (attrs : Array Attribute := #[]) (ms : Array MethodInfo := #[]) (fl : Nat := 33) (sup : Nat := 0) (ifs : Array Nat := #[]) (fds : Array FieldInfo := #[]) : ClassFile where
  minorVersion := 0
  majorVersion := 65
  constantPool := pool
  accessFlags := fl
  thisClass := this
  superClass := sup
  interfaces := ifs
  fields := fds
  methods := ms
  attributes := attrs
def plain (name : String) (sup : Option ClassId) : Class where
  name := name
  kind := .ordinary
  loader := none
  accessFlags := 33
  super := sup
  interfaces := #[]
  cf := none
  fields := #[]
  methods := #[]
  instanceTypes := #[]
  staticTypes := #[]
  resolved := #[]
  callSites := []
  init := .initialized
  statics := none
  mirror := none

def pool0 : Array CpInfo := pool [(5, u "<init>"), (0, u "()V"), (1, .class_ 10), (1, u "java/lang/Object")] 113

def k0c0 : Code := { maxStack := 0, maxLocals := 1, code := object_method_1_code, exceptionTable := #[], attributes := #[] }
def k0m0 : Method := { name := "<init>", desc := "()V", sig := { parameters := [], returnType := none }, accessFlags := 1, code := some k0c0 }
/-- java/lang/Object -/
def k0 : Class := { plain "java/lang/Object" none with
  accessFlags := 33
  interfaces := #[]
  cf := some (fileOf pool0 8 #[] #[{ accessFlags := 1, nameIndex := 5, descriptorIndex := 6, attributes := #[] }] 33 0 #[] #[])
  fields := #[]
  methods := #[k0m0]
  instanceTypes := #[]
  staticTypes := #[]
  resolved := Array.replicate 124 none
  statics := none }

def pool1 : Array CpInfo := pool [(2, .class_ 4), (1, u "java/lang/Object"), (0, u "<init>"), (0, u "()V"), (0, .class_ 8), (0, u "com/example/strict_pdp/strictpdp/expression/ThreeValued$Count"), (0, .methodref 7 10), (0, .nameAndType 5 11), (0, u "(JJ)V"), (0, .methodref 7 13), (0, .nameAndType 14 15), (0, u "add"), (0, u "(Z)V"), (0, .methodref 17 18), (0, .class_ 19), (0, .nameAndType 20 21), (0, u "com/example/strict_pdp/strictpdp/expression/CountKnownPinLaw"), (0, u "bit"), (0, u "(III)J"), (0, .methodref 7 23), (0, .nameAndType 24 25), (0, u "known"), (0, u "()Z"), (3, u "law"), (0, u "(JJII)Z")] 6

def k1m0 : Method := { name := "<init>", desc := "()V", sig := { parameters := [], returnType := none }, accessFlags := 2, code := none }
def k1c1 : Code := { maxStack := 2, maxLocals := 3, code := method_2_code, exceptionTable := #[], attributes := #[] }
def k1m1 : Method := { name := "bit", desc := "(III)J", sig := { parameters := [.int, .int, .int], returnType := some .long }, accessFlags := 10, code := some k1c1 }
def k1c2 : Code := { maxStack := 6, maxLocals := 13, code := code, exceptionTable := #[], attributes := #[] }
def k1m2 : Method := { name := "law", desc := "(JJII)Z", sig := { parameters := [.long, .long, .int, .int], returnType := some .boolean }, accessFlags := 9, code := some k1c2 }
/-- com/example/strict_pdp/strictpdp/expression/CountKnownPinLaw -/
def k1 : Class := { plain "com/example/strict_pdp/strictpdp/expression/CountKnownPinLaw" (some 0) with
  accessFlags := 49
  interfaces := #[]
  cf := some (fileOf pool1 17 #[] #[{ accessFlags := 2, nameIndex := 5, descriptorIndex := 6, attributes := #[] }, { accessFlags := 10, nameIndex := 20, descriptorIndex := 21, attributes := #[] }, { accessFlags := 9, nameIndex := 29, descriptorIndex := 30, attributes := #[] }] 49 2 #[] #[])
  fields := #[]
  methods := #[k1m0, k1m1, k1m2]
  instanceTypes := #[]
  staticTypes := #[]
  resolved := Array.replicate 37 none
  statics := none }

def pool2 : Array CpInfo := pool [(1, .methodref 2 3), (0, .class_ 4), (0, .nameAndType 5 6), (0, u "java/lang/Object"), (0, u "<init>"), (0, u "()V"), (0, .fieldref 8 9), (0, .class_ 10), (0, .nameAndType 11 12), (0, u "com/example/strict_pdp/strictpdp/expression/ThreeValued$Count"), (0, u "required"), (0, u "J"), (0, .fieldref 8 14), (0, .nameAndType 15 12), (0, u "allowedFalse"), (0, .fieldref 8 17), (0, .nameAndType 18 12), (0, u "trues"), (0, .fieldref 8 20), (0, .nameAndType 21 12), (0, u "falses"), (2, u "indeterminate"), (0, u "Lcom/example/strict_pdp/strictpdp/Status;"), (11, u "(JJ)V"), (2, u "known"), (0, u "()Z"), (1, u "add"), (0, u "(Z)V"), (6, .class_ 52), (0, u "com/example/strict_pdp/strictpdp/expression/ThreeValued")] 2

def k2c0 : Code := { maxStack := 3, maxLocals := 5, code := prog_75_method_1_code, exceptionTable := #[], attributes := #[] }
def k2m0 : Method := { name := "<init>", desc := "(JJ)V", sig := { parameters := [.long, .long], returnType := none }, accessFlags := 1, code := some k2c0 }
def k2c1 : Code := { maxStack := 4, maxLocals := 1, code := prog_75_method_2_code, exceptionTable := #[], attributes := #[] }
def k2m1 : Method := { name := "known", desc := "()Z", sig := { parameters := [], returnType := some .boolean }, accessFlags := 1, code := some k2c1 }
def k2c2 : Code := { maxStack := 5, maxLocals := 2, code := prog_75_method_3_code, exceptionTable := #[], attributes := #[] }
def k2m2 : Method := { name := "add", desc := "(Z)V", sig := { parameters := [.boolean], returnType := none }, accessFlags := 1, code := some k2c2 }
/-- com/example/strict_pdp/strictpdp/expression/ThreeValued$Count -/
def k2 : Class := { plain "com/example/strict_pdp/strictpdp/expression/ThreeValued$Count" (some 0) with
  accessFlags := 49
  interfaces := #[]
  cf := some (fileOf pool2 8 #[.nestHost 51] #[{ accessFlags := 1, nameIndex := 5, descriptorIndex := 37, attributes := #[] }, { accessFlags := 1, nameIndex := 40, descriptorIndex := 41, attributes := #[] }, { accessFlags := 1, nameIndex := 43, descriptorIndex := 44, attributes := #[] }] 49 2 #[] #[{ accessFlags := 18, nameIndex := 11, descriptorIndex := 12, attributes := #[] }, { accessFlags := 18, nameIndex := 15, descriptorIndex := 12, attributes := #[] }, { accessFlags := 2, nameIndex := 18, descriptorIndex := 12, attributes := #[] }, { accessFlags := 2, nameIndex := 21, descriptorIndex := 12, attributes := #[] }, { accessFlags := 2, nameIndex := 24, descriptorIndex := 25, attributes := #[] }])
  fields := #[{ name := "required", type := .long, accessFlags := 18, slot := 0, constantValue := 0 }, { name := "allowedFalse", type := .long, accessFlags := 18, slot := 1, constantValue := 0 }, { name := "trues", type := .long, accessFlags := 2, slot := 2, constantValue := 0 }, { name := "falses", type := .long, accessFlags := 2, slot := 3, constantValue := 0 }, { name := "indeterminate", type := (.object "com/example/strict_pdp/strictpdp/Status"), accessFlags := 2, slot := 4, constantValue := 0 }]
  methods := #[k2m0, k2m1, k2m2]
  instanceTypes := #[.long, .long, .long, .long, (.object "com/example/strict_pdp/strictpdp/Status")]
  staticTypes := #[]
  resolved := Array.replicate 55 none
  statics := none }

def pool3 : Array CpInfo := pool [(1, u "java/lang/Cloneable"), (0, .class_ 1), (0, u "java/lang/Object"), (0, .class_ 3)] 3

/-- java/lang/Cloneable -/
def k3 : Class := { plain "java/lang/Cloneable" (some 0) with
  accessFlags := 1537
  interfaces := #[]
  cf := some (fileOf pool3 2 #[] #[] 1537 4 #[] #[])
  fields := #[]
  methods := #[]
  instanceTypes := #[]
  staticTypes := #[]
  resolved := Array.replicate 8 none
  statics := none }

def pool4 : Array CpInfo := pool [(1, u "java/io/Serializable"), (0, .class_ 1), (0, u "java/lang/Object"), (0, .class_ 3)] 3

/-- java/io/Serializable -/
def k4 : Class := { plain "java/io/Serializable" (some 0) with
  accessFlags := 1537
  interfaces := #[]
  cf := some (fileOf pool4 2 #[] #[] 1537 4 #[] #[])
  fields := #[]
  methods := #[]
  instanceTypes := #[]
  staticTypes := #[]
  resolved := Array.replicate 8 none
  statics := none }

/-- the primitive byte -/
def k5 : Class := { plain "byte" none with kind := .primitive 'B', accessFlags := 0x411 }
/-- [B -/
def k6 : Class := { plain "[B" (some 0) with kind := .array 5 .byte, interfaces := #[3, 4], accessFlags := 1041 }

/-- the primitive int -/
def k7 : Class := { plain "int" none with kind := .primitive 'I', accessFlags := 0x411 }
/-- [I -/
def k8 : Class := { plain "[I" (some 0) with kind := .array 7 .int, interfaces := #[3, 4], accessFlags := 1041 }

def heap : Heap := #[]
def classes : Array Class := #[k0, k1, k2, k3, k4, k5, k6, k7, k8]
def interned : List (Array UInt16 × Addr) := []
def slotsUsed : Nat := 0
def theMethod : MethodId := ⟨1, 2⟩
def args0 : Array Value := #[.long 5, .long 5, .int 5, .int 5]
def aboutOver (below : List Frame) : State where
  vm := { classes := classes, interned := interned.toArray }
  heap := heap
  slotsUsed := slotsUsed
  threads := #[{ frames := .invoking theMethod args0 :: below }]
def below0 : List Frame := [.native { method := ⟨0, 0⟩, args := #[] }]
def about1 : State := aboutOver below0
def p0 : Program := .bare "" "" ""
def e0 : Env := launch0.env 0 0 0
theorem w_frames : about1.frames = Frame.invoking theMethod args0 :: below0 := rfl
set_option maxRecDepth 65536 in
theorem w_args : argsFit about1.vm theMethod args0 = true := by decide +kernel
set_option maxRecDepth 65536 in
theorem w_heap : heapFits about1 = true := by decide +kernel
set_option maxRecDepth 65536 in
theorem w_runnable : about1.curStatus? = some .runnable := by decide +kernel
set_option maxRecDepth 65536 in
theorem w_alone : about1.alone = true := by decide +kernel
set_option maxRecDepth 65536 in
theorem w_named : about1.methodNamed? x = some theMethod := by decide +kernel
set_option maxRecDepth 65536 in
theorem w_hears : about1.hears theMethod below0 = true := by decide +kernel
set_option maxRecDepth 65536 in
theorem w_ripe : about1.ripe theMethod args0 below0 = true := by decide +kernel
theorem w_running : about1.status = .running := rfl
set_option maxRecDepth 65536 in
theorem w_room : about1.hasRoom e0.platform room_1 = true :=
  launch0.hasRoom_least _ room_1 (by decide +kernel) (by decide +kernel) (by decide +kernel) (by decide +kernel) (by decide +kernel) (by decide +kernel)
theorem allAtoms_all (ts : List Jvm.Cond) (a : Array Jvm.Value) (st : Jvm.State) : (allAtoms ts).before a st = ts.all (fun c => c.before a st) := by
  induction ts with
  | nil => rfl
  | cons c t ih =>
    show (Jvm.Cond.and c (allAtoms t)).before a st = _
    rw [Jvm.Cond.before_and, ih, List.all_cons]
def words1 : List Jvm.Cond := Jvm.Cond.code x code maxLocals ret :: tables_1
/-- a 'code' word, met by the world's own term for the bytes: nothing is compared byte by byte -/
theorem code_word {y : MethodName} {bytes : ByteArray} {mx : Nat} {rt : Option FieldType} {a : Array Value} {s : State} {m : MethodId} {meth : Method} {c : Code} (h1 : s.methodNamed? y = some m) (h2 : s.vm.method? m = some meth) (h3 : meth.code = some c) (h4 : c.code = bytes)
    (h5 : (c.maxLocals == mx && c.exceptionTable.isEmpty && decide (c.maxStack ≤ mostOperands) && decide (meth.sig.returnType = rt) && !meth.locks && decide (parseMethodDescriptor y.desc = some meth.sig)) = true) : (Jvm.Cond.code y bytes mx rt).before a s = true := by
  simp only [Bool.and_eq_true, beq_iff_eq, Bool.not_eq_true', decide_eq_true_eq] at h5
  obtain ⟨⟨⟨⟨⟨g1, g2⟩, g3⟩, g4⟩, g5⟩, g6⟩ := h5
  simp [Cond.before, Cond.holds, Cond.value, h1, h2, h3, h4, g1, g2, g3, g4, g5, g6]
def isCode : Jvm.Cond → Bool
  | .code _ _ _ _ => true
  | _ => false
theorem all_split {L : List Jvm.Cond} {P : Jvm.Cond → Bool} (h1 : L.all (fun c => isCode c || P c) = true) (h2 : ∀ c ∈ L.filter isCode, P c = true) : L.all P = true := by
  refine List.all_eq_true.mpr fun c hc => ?_
  have h := List.all_eq_true.mp h1 c hc
  rcases Bool.eq_false_or_eq_true (isCode c) with hi | hi
  · exact h2 c (List.mem_filter.mpr ⟨hc, hi⟩)
  · simpa [hi] using h
set_option maxRecDepth 65536 in
theorem w_c0 : (Jvm.Cond.code x code maxLocals ret).before args0 about1 = true := code_word (m := ⟨1, 2⟩) (meth := k1m2) (c := k1c2) (by decide +kernel) rfl rfl rfl (by decide +kernel)
set_option maxRecDepth 65536 in
theorem w_c1 : (Jvm.Cond.code ({ cls := "com/example/strict_pdp/strictpdp/expression/ThreeValued$Count", name := "<init>", desc := "(JJ)V" } : Jvm.MethodName) prog_75_method_1_code (5 : Nat) (Option.none : Option Jvm.ClassFile.FieldType)).before args0 about1 = true := code_word (m := ⟨2, 0⟩) (meth := k2m0) (c := k2c0) (by decide +kernel) rfl rfl rfl (by decide +kernel)
set_option maxRecDepth 65536 in
theorem w_c2 : (Jvm.Cond.code ({ cls := "java/lang/Object", name := "<init>", desc := "()V" } : Jvm.MethodName) object_method_1_code (1 : Nat) (Option.none : Option Jvm.ClassFile.FieldType)).before args0 about1 = true := code_word (m := ⟨0, 0⟩) (meth := k0m0) (c := k0c0) (by decide +kernel) rfl rfl rfl (by decide +kernel)
set_option maxRecDepth 65536 in
theorem w_c3 : (Jvm.Cond.code ({ cls := "com/example/strict_pdp/strictpdp/expression/ThreeValued$Count", name := "add", desc := "(Z)V" } : Jvm.MethodName) prog_75_method_3_code (2 : Nat) (Option.none : Option Jvm.ClassFile.FieldType)).before args0 about1 = true := code_word (m := ⟨2, 2⟩) (meth := k2m2) (c := k2c2) (by decide +kernel) rfl rfl rfl (by decide +kernel)
set_option maxRecDepth 65536 in
theorem w_c4 : (Jvm.Cond.code ({ cls := "com/example/strict_pdp/strictpdp/expression/CountKnownPinLaw", name := "bit", desc := "(III)J" } : Jvm.MethodName) method_2_code (3 : Nat) (Option.some Jvm.ClassFile.FieldType.long)).before args0 about1 = true := code_word (m := ⟨1, 1⟩) (meth := k1m1) (c := k1c1) (by decide +kernel) rfl rfl rfl (by decide +kernel)
set_option maxRecDepth 65536 in
theorem w_c5 : (Jvm.Cond.code ({ cls := "com/example/strict_pdp/strictpdp/expression/ThreeValued$Count", name := "known", desc := "()Z" } : Jvm.MethodName) prog_75_method_2_code (1 : Nat) (Option.some Jvm.ClassFile.FieldType.boolean)).before args0 about1 = true := code_word (m := ⟨2, 1⟩) (meth := k2m1) (c := k2c1) (by decide +kernel) rfl rfl rfl (by decide +kernel)
def codes1 : List Jvm.Cond := [Jvm.Cond.code x code maxLocals ret, Jvm.Cond.code ({ cls := "com/example/strict_pdp/strictpdp/expression/ThreeValued$Count", name := "<init>", desc := "(JJ)V" } : Jvm.MethodName) prog_75_method_1_code (5 : Nat) (Option.none : Option Jvm.ClassFile.FieldType), Jvm.Cond.code ({ cls := "java/lang/Object", name := "<init>", desc := "()V" } : Jvm.MethodName) object_method_1_code (1 : Nat) (Option.none : Option Jvm.ClassFile.FieldType), Jvm.Cond.code ({ cls := "com/example/strict_pdp/strictpdp/expression/ThreeValued$Count", name := "add", desc := "(Z)V" } : Jvm.MethodName) prog_75_method_3_code (2 : Nat) (Option.none : Option Jvm.ClassFile.FieldType), Jvm.Cond.code ({ cls := "com/example/strict_pdp/strictpdp/expression/CountKnownPinLaw", name := "bit", desc := "(III)J" } : Jvm.MethodName) method_2_code (3 : Nat) (Option.some Jvm.ClassFile.FieldType.long), Jvm.Cond.code ({ cls := "com/example/strict_pdp/strictpdp/expression/ThreeValued$Count", name := "known", desc := "()Z" } : Jvm.MethodName) prog_75_method_2_code (1 : Nat) (Option.some Jvm.ClassFile.FieldType.boolean)]
set_option maxRecDepth 65536 in
theorem codes_eq : words1.filter isCode = codes1 := rfl
theorem w_codes : ∀ c ∈ words1.filter isCode, c.before args0 about1 = true := by
  rw [codes_eq]
  intro c hc
  simp only [codes1, List.mem_cons, List.not_mem_nil, or_false] at hc
  rcases hc with rfl | rfl | rfl | rfl | rfl | rfl
  · exact w_c0
  · exact w_c1
  · exact w_c2
  · exact w_c3
  · exact w_c4
  · exact w_c5
set_option maxRecDepth 65536 in
theorem w_t1 : (words1.take 24).all (fun c => isCode c || c.before args0 about1) = true := by decide +kernel
set_option maxRecDepth 65536 in
theorem w_t2 : (words1.drop 24).all (fun c => isCode c || c.before args0 about1) = true := by decide +kernel
theorem w_tables : (allAtoms (Jvm.Cond.code x code maxLocals ret :: tables_1)).before args0 about1 = true := by
  rw [allAtoms_all]
  show words1.all (fun c => c.before args0 about1) = true
  refine all_split ?_ w_codes
  rw [← List.take_append_drop 24 words1, List.all_append, w_t1, w_t2]
  rfl
set_option maxRecDepth 65536 in
theorem w_case : (Jvm.Cond.and given_1 narrow_1).before args0 about1 = true := by decide +kernel
theorem w_applies : (headSpec (Jvm.Cond.code x code maxLocals ret :: tables_1) room_1).applies x e0.platform about1 = true :=
  (Spec.applies_iff w_frames).mpr ⟨w_running, w_runnable, w_alone, w_named, w_hears, w_ripe, w_room, w_tables⟩
theorem atStart : AtStart classFile x code maxLocals ret World_1 tables_1 room_1 Calls_1 rest_1 Pre_1 launch0 p0 e0 about1 theMethod args0 below0 :=
  ⟨lists_1, trivial, launch0.admits_env _ _ _, launch0.least_env, fairChoices_fair.cas, fairChoices_fair.clock, w_frames, w_args, w_heap, w_applies, trivial, trivial, w_case⟩
end start1
theorem witness_1 : WitnessClaimed_1 := ⟨start1.p0, start1.e0, start1.about1, start1.theMethod, start1.args0, start1.below0, start1.atStart⟩
end Jvm.Pilot.@@N@@
