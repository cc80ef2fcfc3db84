import JvmDerived
import JvmDerived.Pilot.@@N@@Statement
import JvmDerived.Pilot.@@N@@Code
set_option linter.unusedVariables false
set_option linter.unusedSimpArgs false
@@BLOCK:NumsL.lean.txt@@
namespace Jvm.RoadKit
open Sem ClassFile Op Lib Jvm.Stand Jvm.Free Jvm.LawKit
section New
variable {p : Program} {l : Launch} {e : Env} {R : Room} {s : State} {m : MethodId} {args : Array Value} {below : List Frame} {meth : Method} {c : Code} {T : State} {locs : List Loc} {cells slots : Nat}
theorem retI (X : Stand p l e R s m args below meth c T locs cells slots) (hx : p.tables.exec = Jvm.exec) {pc : Nat} {Ls : Array Slot} {z : Int32} {rest : List Value} (hret : meth.sig.returnType = some .int) (hd : decode c.code pc = .ok (.ireturn, 1)) {fs : List Frame}
    (hl : ∀ (f : JFrame) (acts : List Action), f.method = m → f.locked = none → f.entered = [] → (doReturn e (T.setTop f) acts (some (.int z))).1 = T.setFrames fs) : Steps p.tables e below (T.setTop (mkF m pc Ls (.int z :: rest))) (T.setFrames fs) := by
  have hm' : T.vm.method? m = some meth := X.method'
  have hn : narrow .int (.int z) = .int z := rfl
  show Steps p.tables e below (T.setTop { method := m, pc := pc, locals := Ls, stack := _ :: rest, locked := none }) _
  jvm_step X.here [X.here.top, hx, hd, hm', hret, hn]
  first | (intro acts; rw [hl _ acts rfl rfl rfl]) | rw [hl _ _ rfl rfl rfl]
  exact Steps.refl _
end New
end Jvm.RoadKit
namespace Jvm.Pilot.@@N@@
open Jvm Jvm.ClassFile Sem Op Lib Jvm.Free Jvm.Stand Jvm.LawKit Jvm.RoadKit Bundle Jvm.Pilot.@@N@@.Jvm.D
theorem own_lwN {x y : Int64} (h : ¬ x = y) : ¬ lcmpW x y = 0 := fun q => h ((lw_eq x y).mp q)
theorem own_lwE {x y : Int64} (h : x = y) : lcmpW x y = 0 := (lw_eq x y).mpr h
theorem own_lwL {x y : Int64} (h : x < y) : lcmpW x y < 0 := (lw_lt x y).mpr h
theorem own_lwM {x y : Int64} (h : ¬ x < y) : ¬ lcmpW x y < 0 := fun q => h ((lw_lt x y).mp q)
theorem own_lwG {x y : Int64} (h : y < x) : 0 < lcmpW x y := (lw_gt x y).mpr h
theorem own_lwH {x y : Int64} (h : ¬ y < x) : ¬ 0 < lcmpW x y := fun q => h ((lw_gt x y).mp q)
theorem own_F {Z : State} {h : Heap} {a : Addr} {C n d : String} {v w : Value} (q : v = w) (F : Fld Z h a C n d v) : Fld Z h a C n d w := q ▸ F
theorem own_rI {x y : Int32} (q : x = y) : (some (Value.int x)) = some (.int y) := by rw [q]
theorem own_rJ {x y : Int64} (q : x = y) : (some (Value.long x)) = some (.long y) := by rw [q]
theorem d1_0 : decode prog_75_method_1_code 0 = .ok (.aload_n 0, 1) := by decide +kernel
theorem d1_1 : decode prog_75_method_1_code 1 = .ok (.invokespecial 1, 3) := by decide +kernel
theorem d1_4 : decode prog_75_method_1_code 4 = .ok (.aload_n 0, 1) := by decide +kernel
theorem d1_5 : decode prog_75_method_1_code 5 = .ok (.lload_n 1, 1) := by decide +kernel
theorem d1_6 : decode prog_75_method_1_code 6 = .ok (.putfield 7, 3) := by decide +kernel
theorem d1_9 : decode prog_75_method_1_code 9 = .ok (.aload_n 0, 1) := by decide +kernel
theorem d1_10 : decode prog_75_method_1_code 10 = .ok (.lload_n 3, 1) := by decide +kernel
theorem d1_11 : decode prog_75_method_1_code 11 = .ok (.putfield 13, 3) := by decide +kernel
theorem d1_14 : decode prog_75_method_1_code 14 = .ok (.return_, 1) := by decide +kernel
theorem pn47812426 : plainName "com/example/strict_pdp/strictpdp/expression/ThreeValued$Count" = true := by first | (simp [plainName, overriddenIn]; done) | decide +kernel
theorem ef_1 (m : MethodId) (a0 : Addr) (q1 : Int64) (q2 : Int64) : entryFrame m #[(.ref a0), (.long q1), (.long q2)] 5 = mkF m 0 #[.val (.ref a0), .val (.long q1), .second, .val (.long q2), .second] [] := by first | (simp [entryFrame, mkF, argsToLocals, Value.category]; done) | rfl
def Q1 (Z : State) (a0 : Addr) (q1 : Int64) (q2 : Int64) (u_required : Int64) (u_allowedFalse : Int64) (u_trues : Int64) (u_falses : Int64) (h0 : Heap) (n0 : Nat) (v : Option Value) (h : Heap) (L : List Loc) : Prop := v = none ∧ Fr n0 L ∧ Keep h0 h [a0] ∧ Exa Z h a0 "com/example/strict_pdp/strictpdp/expression/ThreeValued$Count" ∧ Fld Z h a0 "com/example/strict_pdp/strictpdp/expression/ThreeValued$Count" "required" "J" (.long q1) ∧ Fld Z h a0 "com/example/strict_pdp/strictpdp/expression/ThreeValued$Count" "allowedFalse" "J" (.long q2) ∧ Fld Z h a0 "com/example/strict_pdp/strictpdp/expression/ThreeValued$Count" "trues" "J" (.long u_trues) ∧ Fld Z h a0 "com/example/strict_pdp/strictpdp/expression/ThreeValued$Count" "falses" "J" (.long u_falses) ∧ Fld Z h a0 "com/example/strict_pdp/strictpdp/expression/ThreeValued$Count" "indeterminate" "Lcom/example/strict_pdp/strictpdp/Status;" .null
set_option maxRecDepth 65536 in
set_option maxHeartbeats 40000000 in
theorem rm1 (l : Launch) (Z : State) (aq : Array Value) (hw : ∀ d ∈ tables_1, d.before aq Z = true) (ws : List Jvm.Cond) (a0 : Addr) (q1 : Int64) (q2 : Int64) (u_required : Int64) (u_allowedFalse : Int64) (u_trues : Int64) (u_falses : Int64) (h0 : Heap) (n0 : Nat) (Z0 : n0 ≤ h0.size) (E_a0 : Exa Z h0 a0 "com/example/strict_pdp/strictpdp/expression/ThreeValued$Count") (F_required : Fld Z h0 a0 "com/example/strict_pdp/strictpdp/expression/ThreeValued$Count" "required" "J" (.long u_required)) (F_allowedFalse : Fld Z h0 a0 "com/example/strict_pdp/strictpdp/expression/ThreeValued$Count" "allowedFalse" "J" (.long u_allowedFalse)) (F_trues : Fld Z h0 a0 "com/example/strict_pdp/strictpdp/expression/ThreeValued$Count" "trues" "J" (.long u_trues)) (F_falses : Fld Z h0 a0 "com/example/strict_pdp/strictpdp/expression/ThreeValued$Count" "falses" "J" (.long u_falses)) (F_indeterminate : Fld Z h0 a0 "com/example/strict_pdp/strictpdp/expression/ThreeValued$Count" "indeterminate" "Lcom/example/strict_pdp/strictpdp/Status;" .null) (g_a0 : n0 ≤ a0) :
    MetFree l (⟨"com/example/strict_pdp/strictpdp/expression/ThreeValued$Count", "<init>", "(JJ)V"⟩ : MethodName) (head1 (Jvm.Cond.code (⟨"com/example/strict_pdp/strictpdp/expression/ThreeValued$Count", "<init>", "(JJ)V"⟩ : MethodName) prog_75_method_1_code 5 none :: ws) ({ frames := 1, cells := 0, slots := 0, locals := 12 } : Room)) (fun a U => a = #[(.ref a0), (.long q1), (.long q2)] ∧ Z.Warmed39 U.vm ∧ U.heap = h0) (fun _ _ _ _ _ => True) (fun _ U o U' => ∃ v L, o = .returned v ∧ Q1 Z a0 q1 q2 u_required u_allowedFalse u_trues u_falses h0 n0 v U'.heap L ∧ FrameEnd U o U' L ({ frames := 1, cells := 0, slots := 0, locals := 12 } : Room).cells ({ frames := 1, cells := 0, slots := 0, locals := 12 } : Room).slots) := by
  refine MetFree.of_bodySF (plainFor_of_name pn47812426) hisR ?_
  intro p e s m args below meth c s₁ Bd hml0 hP hK
  obtain ⟨rfl, hZ, hh⟩ := hP
  have hx := Bd.exec
  have hby := Bd.bytes
  have hml : c.maxLocals = 5 := hml0
  have hown : s.vm.findClass "com/example/strict_pdp/strictpdp/expression/ThreeValued$Count" = some m.cls := findClass_of_methodNamed Bd.named
  have hnm := (name_of_methodNamed Bd.named Bd.method).1
  have X0 : Stand p l e ({ frames := 1, cells := 0, slots := 0, locals := 12 } : Room) s m #[(.ref a0), (.long q1), (.long q2)] below meth c s₁ [] 0 0 := Stand.of_body Bd
  have e0 : s₁.heap = h0 := by rw [← hh, Bd.state]; rfl
  have N0 := Fr.nil n0
  have K0 : Keep h0 h0 [a0] := Keep.refl _ _
  have pre0 : ∀ t, Steps p.tables e below (s₁.setTop (mkF m 0 #[.val (.ref a0), .val (.long q1), .second, .val (.long q2), .second] [])) t → Steps p.tables e below (s₁.setTop (entryFrame m #[(.ref a0), (.long q1), (.long q2)] 5)) t := fun t k => castTop (ef_1 m a0 q1 q2) k
  obtain ⟨T22, X22, e22, st22⟩ := initO X0 hx hZ hown (hw _ (List.mem_of_getElem? (i := 6) rfl)) (hw _ (List.mem_of_getElem? (i := 7) rfl)) (hw _ (List.mem_of_getElem? (i := 8) rfl)) e0 (g := (mkF m 1 #[.val (.ref a0), .val (.long q1), .second, .val (.long q2), .second] [(.ref a0)])) rfl (by rw [hml]; rfl) rfl (hb hby d1_1) (by decide) (W := 0) (by show 2 * 0 + _ ≤ _; exact Nat.le_of_eq rfl) (by decide)
  obtain ⟨T23, h23, X23, e23, W23, st23⟩ := putF X22 hx hZ hown (host := "") (Or.inl (hw _ (List.mem_of_getElem? (i := 9) rfl))) Via.refl e22 F_required E_a0 (Or.inr ⟨(hw _ (List.mem_of_getElem? (i := 10) rfl)), rfl, hnm⟩) (hw _ (List.mem_of_getElem? (i := 1) rfl)) (ty := .long) (by decide) rfl rfl (g := (mkF m 6 #[.val (.ref a0), .val (.long q1), .second, .val (.long q2), .second] [(.long q1), (.ref a0)])) rfl rfl (hb hby d1_6)
  have E24 := E_a0.wr W23
  have F25 : Fld Z h23 a0 "com/example/strict_pdp/strictpdp/expression/ThreeValued$Count" "required" "J" (.long q1) := F_required.same W23
  have F26 := F_allowedFalse.other W23 (Or.inr (slot_ne (Or.inr (hw _ (List.mem_of_getElem? (i := 12) rfl))) (Or.inr (hw _ (List.mem_of_getElem? (i := 10) rfl))) (by decide) (t := .long) (t' := .long) (by decide) (by decide)))
  have F27 := F_trues.other W23 (Or.inr (slot_ne (Or.inl (hw _ (List.mem_of_getElem? (i := 19) rfl))) (Or.inr (hw _ (List.mem_of_getElem? (i := 10) rfl))) (by decide) (t := .long) (t' := .long) (by decide) (by decide)))
  have F28 := F_falses.other W23 (Or.inr (slot_ne (Or.inl (hw _ (List.mem_of_getElem? (i := 21) rfl))) (Or.inr (hw _ (List.mem_of_getElem? (i := 10) rfl))) (by decide) (t := .long) (t' := .long) (by decide) (by decide)))
  have F29 := F_indeterminate.other W23 (Or.inr (slot_ne (Or.inl (hw _ (List.mem_of_getElem? (i := 28) rfl))) (Or.inr (hw _ (List.mem_of_getElem? (i := 10) rfl))) (by decide) (t := (.object "com/example/strict_pdp/strictpdp/Status")) (t' := .long) (by decide) (by decide)))
  have N30 := Fr.snoc X23 N0 g_a0
  have K31 : Keep h0 h23 [a0] := K0.wr W23 (Or.inl (List.mem_of_getElem? (i := 0) rfl))
  have Z32 : n0 ≤ h23.size := Nat.le_trans Z0 (Keep.of_wr W23).1
  obtain ⟨T33, h33, X33, e33, W33, st33⟩ := putF X23 hx hZ hown (host := "") (Or.inl (hw _ (List.mem_of_getElem? (i := 11) rfl))) Via.refl e23 F26 E24 (Or.inr ⟨(hw _ (List.mem_of_getElem? (i := 12) rfl)), rfl, hnm⟩) (hw _ (List.mem_of_getElem? (i := 1) rfl)) (ty := .long) (by decide) rfl rfl (g := (mkF m 11 #[.val (.ref a0), .val (.long q1), .second, .val (.long q2), .second] [(.long q2), (.ref a0)])) rfl rfl (hb hby d1_11)
  have E34 := E24.wr W33
  have F35 := F25.other W33 (Or.inr (slot_ne (Or.inr (hw _ (List.mem_of_getElem? (i := 10) rfl))) (Or.inr (hw _ (List.mem_of_getElem? (i := 12) rfl))) (by decide) (t := .long) (t' := .long) (by decide) (by decide)))
  have F36 : Fld Z h33 a0 "com/example/strict_pdp/strictpdp/expression/ThreeValued$Count" "allowedFalse" "J" (.long q2) := F26.same W33
  have F37 := F27.other W33 (Or.inr (slot_ne (Or.inl (hw _ (List.mem_of_getElem? (i := 19) rfl))) (Or.inr (hw _ (List.mem_of_getElem? (i := 12) rfl))) (by decide) (t := .long) (t' := .long) (by decide) (by decide)))
  have F38 := F28.other W33 (Or.inr (slot_ne (Or.inl (hw _ (List.mem_of_getElem? (i := 21) rfl))) (Or.inr (hw _ (List.mem_of_getElem? (i := 12) rfl))) (by decide) (t := .long) (t' := .long) (by decide) (by decide)))
  have F39 := F29.other W33 (Or.inr (slot_ne (Or.inl (hw _ (List.mem_of_getElem? (i := 28) rfl))) (Or.inr (hw _ (List.mem_of_getElem? (i := 12) rfl))) (by decide) (t := (.object "com/example/strict_pdp/strictpdp/Status")) (t' := .long) (by decide) (by decide)))
  have N40 := Fr.snoc X33 N30 g_a0
  have K41 : Keep h0 h33 [a0] := K31.wr W33 (Or.inl (List.mem_of_getElem? (i := 0) rfl))
  have Z42 : n0 ≤ h33.size := Nat.le_trans Z32 (Keep.of_wr W33).1
  have pre43 : ∀ t, Steps p.tables e below (T33.setTop (mkF m 14 #[.val (.ref a0), .val (.long q1), .second, .val (.long q2), .second] [])) t → Steps p.tables e below (s₁.setTop (entryFrame m #[(.ref a0), (.long q1), (.long q2)] 5)) t := fun t kt => by
    refine pre0 _ ?_
    show Steps p.tables e below (s₁.setTop (mkF m 0 #[.val (.ref a0), .val (.long q1), .second, .val (.long q2), .second] [])) _
    refine XS.aloadN X0.here hx rfl (hb hby d1_0) rfl rfl ?_
    show Steps p.tables e below (s₁.setTop (mkF m 1 #[.val (.ref a0), .val (.long q1), .second, .val (.long q2), .second] [(.ref a0)])) _
    refine st22 _ ?_
    show Steps p.tables e below (T22.setTop (mkF m 4 #[.val (.ref a0), .val (.long q1), .second, .val (.long q2), .second] [])) _
    refine XS.aloadN X22.here hx rfl (hb hby d1_4) rfl rfl ?_
    show Steps p.tables e below (T22.setTop (mkF m 5 #[.val (.ref a0), .val (.long q1), .second, .val (.long q2), .second] [(.ref a0)])) _
    refine XS.lloadN X22.here hx rfl (hb hby d1_5) rfl ?_
    show Steps p.tables e below (T22.setTop (mkF m 6 #[.val (.ref a0), .val (.long q1), .second, .val (.long q2), .second] [(.long q1), (.ref a0)])) _
    refine st23 _ ?_
    show Steps p.tables e below (T23.setTop (mkF m 9 #[.val (.ref a0), .val (.long q1), .second, .val (.long q2), .second] [])) _
    refine XS.aloadN X23.here hx rfl (hb hby d1_9) rfl rfl ?_
    show Steps p.tables e below (T23.setTop (mkF m 10 #[.val (.ref a0), .val (.long q1), .second, .val (.long q2), .second] [(.ref a0)])) _
    refine XS.lloadN X23.here hx rfl (hb hby d1_10) rfl ?_
    show Steps p.tables e below (T23.setTop (mkF m 11 #[.val (.ref a0), .val (.long q1), .second, .val (.long q2), .second] [(.long q2), (.ref a0)])) _
    refine st33 _ ?_
    show Steps p.tables e below (T33.setTop (mkF m 14 #[.val (.ref a0), .val (.long q1), .second, .val (.long q2), .second] [])) _
    exact kt
  obtain ⟨fs, hr, hrun, hended, hW, hsame⟩ := X33.leave (v := none) (fun _ => rfl)
  refine ⟨_, _, pre43 _ ?_, hrun, hended, _, _, rfl, ?_, ⟨_, rfl⟩, hW, hsame.mono (by decide) (by decide)⟩
  · exact X33.returnOut hx Bd.returns (hb hby d1_14) hr
  · show Q1 Z a0 q1 q2 u_required u_allowedFalse u_trues u_falses h0 n0 _ T33.heap _
    rw [e33]
    exact ⟨rfl, N40, K41, E34, F35, F36, F37, F38, F39⟩
theorem d5_0 : decode prog_75_method_3_code 0 = .ok (.iload_n 1, 1) := by decide +kernel
theorem d5_1 : decode prog_75_method_3_code 1 = .ok (.ifCond .eq 16, 3) := by decide +kernel
theorem d5_4 : decode prog_75_method_3_code 4 = .ok (.aload_n 0, 1) := by decide +kernel
theorem d5_5 : decode prog_75_method_3_code 5 = .ok (.dup, 1) := by decide +kernel
theorem d5_6 : decode prog_75_method_3_code 6 = .ok (.getfield 16, 3) := by decide +kernel
theorem d5_9 : decode prog_75_method_3_code 9 = .ok (.lconst 1, 1) := by decide +kernel
theorem d5_10 : decode prog_75_method_3_code 10 = .ok (.ladd, 1) := by decide +kernel
theorem d5_11 : decode prog_75_method_3_code 11 = .ok (.putfield 16, 3) := by decide +kernel
theorem d5_14 : decode prog_75_method_3_code 14 = .ok (.goto 13, 3) := by decide +kernel
theorem d5_17 : decode prog_75_method_3_code 17 = .ok (.aload_n 0, 1) := by decide +kernel
theorem d5_18 : decode prog_75_method_3_code 18 = .ok (.dup, 1) := by decide +kernel
theorem d5_19 : decode prog_75_method_3_code 19 = .ok (.getfield 19, 3) := by decide +kernel
theorem d5_22 : decode prog_75_method_3_code 22 = .ok (.lconst 1, 1) := by decide +kernel
theorem d5_23 : decode prog_75_method_3_code 23 = .ok (.ladd, 1) := by decide +kernel
theorem d5_24 : decode prog_75_method_3_code 24 = .ok (.putfield 19, 3) := by decide +kernel
theorem d5_27 : decode prog_75_method_3_code 27 = .ok (.return_, 1) := by decide +kernel
theorem ef_5 (m : MethodId) (a0 : Addr) (p1 : Int32) : entryFrame m #[(.ref a0), (.int p1)] 2 = mkF m 0 #[.val (.ref a0), .val (.int p1)] [] := by first | (simp [entryFrame, mkF, argsToLocals, Value.category]; done) | rfl
def Q5 (Z : State) (a0 : Addr) (p1 : Int32) (u_required : Int64) (u_allowedFalse : Int64) (u_trues : Int64) (u_falses : Int64) (h0 : Heap) (n0 : Nat) (v : Option Value) (h : Heap) (L : List Loc) : Prop := v = none ∧ Fr n0 L ∧ Keep h0 h [a0] ∧ Exa Z h a0 "com/example/strict_pdp/strictpdp/expression/ThreeValued$Count" ∧ Fld Z h a0 "com/example/strict_pdp/strictpdp/expression/ThreeValued$Count" "required" "J" (.long u_required) ∧ Fld Z h a0 "com/example/strict_pdp/strictpdp/expression/ThreeValued$Count" "allowedFalse" "J" (.long u_allowedFalse) ∧ Fld Z h a0 "com/example/strict_pdp/strictpdp/expression/ThreeValued$Count" "trues" "J" (.long (if p1 = (0 : Int32) then u_trues else (u_trues + (1 : Int64)))) ∧ Fld Z h a0 "com/example/strict_pdp/strictpdp/expression/ThreeValued$Count" "falses" "J" (.long (if p1 = (0 : Int32) then (u_falses + (1 : Int64)) else u_falses)) ∧ Fld Z h a0 "com/example/strict_pdp/strictpdp/expression/ThreeValued$Count" "indeterminate" "Lcom/example/strict_pdp/strictpdp/Status;" .null
set_option maxRecDepth 65536 in
set_option maxHeartbeats 40000000 in
theorem rm5 (l : Launch) (Z : State) (aq : Array Value) (hw : ∀ d ∈ tables_1, d.before aq Z = true) (ws : List Jvm.Cond) (a0 : Addr) (p1 : Int32) (u_required : Int64) (u_allowedFalse : Int64) (u_trues : Int64) (u_falses : Int64) (h0 : Heap) (n0 : Nat) (Z0 : n0 ≤ h0.size) (E_a0 : Exa Z h0 a0 "com/example/strict_pdp/strictpdp/expression/ThreeValued$Count") (F_required : Fld Z h0 a0 "com/example/strict_pdp/strictpdp/expression/ThreeValued$Count" "required" "J" (.long u_required)) (F_allowedFalse : Fld Z h0 a0 "com/example/strict_pdp/strictpdp/expression/ThreeValued$Count" "allowedFalse" "J" (.long u_allowedFalse)) (F_trues : Fld Z h0 a0 "com/example/strict_pdp/strictpdp/expression/ThreeValued$Count" "trues" "J" (.long u_trues)) (F_falses : Fld Z h0 a0 "com/example/strict_pdp/strictpdp/expression/ThreeValued$Count" "falses" "J" (.long u_falses)) (F_indeterminate : Fld Z h0 a0 "com/example/strict_pdp/strictpdp/expression/ThreeValued$Count" "indeterminate" "Lcom/example/strict_pdp/strictpdp/Status;" .null) (g_a0 : n0 ≤ a0) :
    MetFree l (⟨"com/example/strict_pdp/strictpdp/expression/ThreeValued$Count", "add", "(Z)V"⟩ : MethodName) (head1 (Jvm.Cond.code (⟨"com/example/strict_pdp/strictpdp/expression/ThreeValued$Count", "add", "(Z)V"⟩ : MethodName) prog_75_method_3_code 2 none :: ws) ({ frames := 0, cells := 0, slots := 0, locals := 0 } : Room)) (fun a U => a = #[(.ref a0), (.int p1)] ∧ Z.Warmed39 U.vm ∧ U.heap = h0) (fun _ _ _ _ _ => True) (fun _ U o U' => ∃ v L, o = .returned v ∧ Q5 Z a0 p1 u_required u_allowedFalse u_trues u_falses h0 n0 v U'.heap L ∧ FrameEnd U o U' L ({ frames := 0, cells := 0, slots := 0, locals := 0 } : Room).cells ({ frames := 0, cells := 0, slots := 0, locals := 0 } : Room).slots) := by
  refine MetFree.of_bodySF (plainFor_of_name pn47812426) hisR ?_
  intro p e s m args below meth c s₁ Bd hml0 hP hK
  obtain ⟨rfl, hZ, hh⟩ := hP
  have hx := Bd.exec
  have hby := Bd.bytes
  have hml : c.maxLocals = 2 := hml0
  have hown : s.vm.findClass "com/example/strict_pdp/strictpdp/expression/ThreeValued$Count" = some m.cls := findClass_of_methodNamed Bd.named
  have hnm := (name_of_methodNamed Bd.named Bd.method).1
  have X0 : Stand p l e ({ frames := 0, cells := 0, slots := 0, locals := 0 } : Room) s m #[(.ref a0), (.int p1)] below meth c s₁ [] 0 0 := Stand.of_body Bd
  have e0 : s₁.heap = h0 := by rw [← hh, Bd.state]; rfl
  have N0 := Fr.nil n0
  have K0 : Keep h0 h0 [a0] := Keep.refl _ _
  have pre0 : ∀ t, Steps p.tables e below (s₁.setTop (mkF m 0 #[.val (.ref a0), .val (.int p1)] [])) t → Steps p.tables e below (s₁.setTop (entryFrame m #[(.ref a0), (.int p1)] 2)) t := fun t k => castTop (ef_5 m a0 p1) k
  have pre68 : ∀ t, Steps p.tables e below (s₁.setTop (mkF m 1 #[.val (.ref a0), .val (.int p1)] [(.int p1)])) t → Steps p.tables e below (s₁.setTop (entryFrame m #[(.ref a0), (.int p1)] 2)) t := fun t kt => by
    refine pre0 _ ?_
    show Steps p.tables e below (s₁.setTop (mkF m 0 #[.val (.ref a0), .val (.int p1)] [])) _
    refine XS.iloadN X0.here hx rfl (hb hby d5_0) rfl ?_
    show Steps p.tables e below (s₁.setTop (mkF m 1 #[.val (.ref a0), .val (.int p1)] [(.int p1)])) _
    exact kt
  by_cases hc69 : p1 = (0 : Int32)
  · skip
    obtain ⟨T70, X70, e70, st70⟩ := getF X0 hx hZ hown (host := "") (Or.inl (hw _ (List.mem_of_getElem? (i := 20) rfl))) Via.refl e0 F_falses (g := (mkF m 19 #[.val (.ref a0), .val (.int p1)] [(.ref a0), (.ref a0)])) rfl rfl (hb hby d5_19)
    obtain ⟨T71, h71, X71, e71, W71, st71⟩ := putF X70 hx hZ hown (host := "") (Or.inl (hw _ (List.mem_of_getElem? (i := 20) rfl))) Via.refl e70 F_falses E_a0 (Or.inl (hw _ (List.mem_of_getElem? (i := 21) rfl))) (hw _ (List.mem_of_getElem? (i := 1) rfl)) (ty := .long) (by decide) rfl rfl (g := (mkF m 24 #[.val (.ref a0), .val (.int p1)] [(.long (u_falses + (1 : Int64))), (.ref a0)])) rfl rfl (hb hby d5_24)
    have E72 := E_a0.wr W71
    have F73 := F_required.other W71 (Or.inr (slot_ne (Or.inr (hw _ (List.mem_of_getElem? (i := 10) rfl))) (Or.inl (hw _ (List.mem_of_getElem? (i := 21) rfl))) (by decide) (t := .long) (t' := .long) (by decide) (by decide)))
    have F74 := F_allowedFalse.other W71 (Or.inr (slot_ne (Or.inr (hw _ (List.mem_of_getElem? (i := 12) rfl))) (Or.inl (hw _ (List.mem_of_getElem? (i := 21) rfl))) (by decide) (t := .long) (t' := .long) (by decide) (by decide)))
    have F75 := F_trues.other W71 (Or.inr (slot_ne (Or.inl (hw _ (List.mem_of_getElem? (i := 19) rfl))) (Or.inl (hw _ (List.mem_of_getElem? (i := 21) rfl))) (by decide) (t := .long) (t' := .long) (by decide) (by decide)))
    have F76 : Fld Z h71 a0 "com/example/strict_pdp/strictpdp/expression/ThreeValued$Count" "falses" "J" (.long (u_falses + (1 : Int64))) := F_falses.same W71
    have F77 := F_indeterminate.other W71 (Or.inr (slot_ne (Or.inl (hw _ (List.mem_of_getElem? (i := 28) rfl))) (Or.inl (hw _ (List.mem_of_getElem? (i := 21) rfl))) (by decide) (t := (.object "com/example/strict_pdp/strictpdp/Status")) (t' := .long) (by decide) (by decide)))
    have N78 := Fr.snoc X71 N0 g_a0
    have K79 : Keep h0 h71 [a0] := K0.wr W71 (Or.inl (List.mem_of_getElem? (i := 0) rfl))
    have Z80 : n0 ≤ h71.size := Nat.le_trans Z0 (Keep.of_wr W71).1
    have pre81 : ∀ t, Steps p.tables e below (T71.setTop (mkF m 27 #[.val (.ref a0), .val (.int p1)] [])) t → Steps p.tables e below (s₁.setTop (entryFrame m #[(.ref a0), (.int p1)] 2)) t := fun t kt => by
      refine pre68 _ ?_
      show Steps p.tables e below (s₁.setTop (mkF m 1 #[.val (.ref a0), .val (.int p1)] [(.int p1)])) _
      refine XS.ifYes X0.here hx rfl (pc0 := 1) (pc' := 17) rfl (hb hby d5_1) rfl ((if0 _ _).trans (teq hc69).1) (by decide) (by decide) ?_
      show Steps p.tables e below (s₁.setTop (mkF m 17 #[.val (.ref a0), .val (.int p1)] [])) _
      refine XS.aloadN X0.here hx rfl (hb hby d5_17) rfl rfl ?_
      show Steps p.tables e below (s₁.setTop (mkF m 18 #[.val (.ref a0), .val (.int p1)] [(.ref a0)])) _
      refine XS.dup X0.here hx rfl (hb hby d5_18) rfl rfl ?_
      show Steps p.tables e below (s₁.setTop (mkF m 19 #[.val (.ref a0), .val (.int p1)] [(.ref a0), (.ref a0)])) _
      refine st70 _ ?_
      show Steps p.tables e below (T70.setTop (mkF m 22 #[.val (.ref a0), .val (.int p1)] [(.long u_falses), (.ref a0)])) _
      refine XS.lconst X70.here hx rfl (hb hby d5_22) ?_
      show Steps p.tables e below (T70.setTop (mkF m 23 #[.val (.ref a0), .val (.int p1)] [(.long (1 : Int64)), (.long u_falses), (.ref a0)])) _
      refine XS.ladd X70.here hx rfl (hb hby d5_23) rfl ?_
      show Steps p.tables e below (T70.setTop (mkF m 24 #[.val (.ref a0), .val (.int p1)] [(.long (u_falses + (1 : Int64))), (.ref a0)])) _
      refine st71 _ ?_
      show Steps p.tables e below (T71.setTop (mkF m 27 #[.val (.ref a0), .val (.int p1)] [])) _
      exact kt
    obtain ⟨fs, hr, hrun, hended, hW, hsame⟩ := X71.leave (v := none) (fun _ => rfl)
    refine ⟨_, _, pre81 _ ?_, hrun, hended, _, _, rfl, ?_, ⟨_, rfl⟩, hW, hsame.mono (by decide) (by decide)⟩
    · exact X71.returnOut hx Bd.returns (hb hby d5_27) hr
    · show Q5 Z a0 p1 u_required u_allowedFalse u_trues u_falses h0 n0 _ T71.heap _
      rw [e71]
      exact ⟨rfl, N78, K79, E72, F73, F74, (own_F (congrArg Value.long (by rw [if_pos hc69] : u_trues = (if p1 = (0 : Int32) then u_trues else (u_trues + (1 : Int64))))) F75), (own_F (congrArg Value.long (by rw [if_pos hc69] : (u_falses + (1 : Int64)) = (if p1 = (0 : Int32) then (u_falses + (1 : Int64)) else u_falses))) F76), F77⟩
  · skip
    obtain ⟨T82, X82, e82, st82⟩ := getF X0 hx hZ hown (host := "") (Or.inl (hw _ (List.mem_of_getElem? (i := 18) rfl))) Via.refl e0 F_trues (g := (mkF m 6 #[.val (.ref a0), .val (.int p1)] [(.ref a0), (.ref a0)])) rfl rfl (hb hby d5_6)
    obtain ⟨T83, h83, X83, e83, W83, st83⟩ := putF X82 hx hZ hown (host := "") (Or.inl (hw _ (List.mem_of_getElem? (i := 18) rfl))) Via.refl e82 F_trues E_a0 (Or.inl (hw _ (List.mem_of_getElem? (i := 19) rfl))) (hw _ (List.mem_of_getElem? (i := 1) rfl)) (ty := .long) (by decide) rfl rfl (g := (mkF m 11 #[.val (.ref a0), .val (.int p1)] [(.long (u_trues + (1 : Int64))), (.ref a0)])) rfl rfl (hb hby d5_11)
    have E84 := E_a0.wr W83
    have F85 := F_required.other W83 (Or.inr (slot_ne (Or.inr (hw _ (List.mem_of_getElem? (i := 10) rfl))) (Or.inl (hw _ (List.mem_of_getElem? (i := 19) rfl))) (by decide) (t := .long) (t' := .long) (by decide) (by decide)))
    have F86 := F_allowedFalse.other W83 (Or.inr (slot_ne (Or.inr (hw _ (List.mem_of_getElem? (i := 12) rfl))) (Or.inl (hw _ (List.mem_of_getElem? (i := 19) rfl))) (by decide) (t := .long) (t' := .long) (by decide) (by decide)))
    have F87 : Fld Z h83 a0 "com/example/strict_pdp/strictpdp/expression/ThreeValued$Count" "trues" "J" (.long (u_trues + (1 : Int64))) := F_trues.same W83
    have F88 := F_falses.other W83 (Or.inr (slot_ne (Or.inl (hw _ (List.mem_of_getElem? (i := 21) rfl))) (Or.inl (hw _ (List.mem_of_getElem? (i := 19) rfl))) (by decide) (t := .long) (t' := .long) (by decide) (by decide)))
    have F89 := F_indeterminate.other W83 (Or.inr (slot_ne (Or.inl (hw _ (List.mem_of_getElem? (i := 28) rfl))) (Or.inl (hw _ (List.mem_of_getElem? (i := 19) rfl))) (by decide) (t := (.object "com/example/strict_pdp/strictpdp/Status")) (t' := .long) (by decide) (by decide)))
    have N90 := Fr.snoc X83 N0 g_a0
    have K91 : Keep h0 h83 [a0] := K0.wr W83 (Or.inl (List.mem_of_getElem? (i := 0) rfl))
    have Z92 : n0 ≤ h83.size := Nat.le_trans Z0 (Keep.of_wr W83).1
    have pre93 : ∀ t, Steps p.tables e below (T83.setTop (mkF m 27 #[.val (.ref a0), .val (.int p1)] [])) t → Steps p.tables e below (s₁.setTop (entryFrame m #[(.ref a0), (.int p1)] 2)) t := fun t kt => by
      refine pre68 _ ?_
      show Steps p.tables e below (s₁.setTop (mkF m 1 #[.val (.ref a0), .val (.int p1)] [(.int p1)])) _
      refine XS.ifNo X0.here hx rfl (hb hby d5_1) rfl ((if0 _ _).trans (feq hc69).1) ?_
      show Steps p.tables e below (s₁.setTop (mkF m 4 #[.val (.ref a0), .val (.int p1)] [])) _
      refine XS.aloadN X0.here hx rfl (hb hby d5_4) rfl rfl ?_
      show Steps p.tables e below (s₁.setTop (mkF m 5 #[.val (.ref a0), .val (.int p1)] [(.ref a0)])) _
      refine XS.dup X0.here hx rfl (hb hby d5_5) rfl rfl ?_
      show Steps p.tables e below (s₁.setTop (mkF m 6 #[.val (.ref a0), .val (.int p1)] [(.ref a0), (.ref a0)])) _
      refine st82 _ ?_
      show Steps p.tables e below (T82.setTop (mkF m 9 #[.val (.ref a0), .val (.int p1)] [(.long u_trues), (.ref a0)])) _
      refine XS.lconst X82.here hx rfl (hb hby d5_9) ?_
      show Steps p.tables e below (T82.setTop (mkF m 10 #[.val (.ref a0), .val (.int p1)] [(.long (1 : Int64)), (.long u_trues), (.ref a0)])) _
      refine XS.ladd X82.here hx rfl (hb hby d5_10) rfl ?_
      show Steps p.tables e below (T82.setTop (mkF m 11 #[.val (.ref a0), .val (.int p1)] [(.long (u_trues + (1 : Int64))), (.ref a0)])) _
      refine st83 _ ?_
      show Steps p.tables e below (T83.setTop (mkF m 14 #[.val (.ref a0), .val (.int p1)] [])) _
      refine XS.goto X83.here hx rfl (pc0 := 14) (pc' := 27) rfl (hb hby d5_14) (by decide) (by decide) ?_
      show Steps p.tables e below (T83.setTop (mkF m 27 #[.val (.ref a0), .val (.int p1)] [])) _
      exact kt
    obtain ⟨fs, hr, hrun, hended, hW, hsame⟩ := X83.leave (v := none) (fun _ => rfl)
    refine ⟨_, _, pre93 _ ?_, hrun, hended, _, _, rfl, ?_, ⟨_, rfl⟩, hW, hsame.mono (by decide) (by decide)⟩
    · exact X83.returnOut hx Bd.returns (hb hby d5_27) hr
    · show Q5 Z a0 p1 u_required u_allowedFalse u_trues u_falses h0 n0 _ T83.heap _
      rw [e83]
      exact ⟨rfl, N90, K91, E84, F85, F86, (own_F (congrArg Value.long (by rw [if_neg hc69] : (u_trues + (1 : Int64)) = (if p1 = (0 : Int32) then u_trues else (u_trues + (1 : Int64))))) F87), (own_F (congrArg Value.long (by rw [if_neg hc69] : u_falses = (if p1 = (0 : Int32) then (u_falses + (1 : Int64)) else u_falses))) F88), F89⟩
theorem d3_0 : decode prog_75_method_2_code 0 = .ok (.aload_n 0, 1) := by decide +kernel
theorem d3_1 : decode prog_75_method_2_code 1 = .ok (.getfield 16, 3) := by decide +kernel
theorem d3_4 : decode prog_75_method_2_code 4 = .ok (.aload_n 0, 1) := by decide +kernel
theorem d3_5 : decode prog_75_method_2_code 5 = .ok (.getfield 7, 3) := by decide +kernel
theorem d3_8 : decode prog_75_method_2_code 8 = .ok (.lcmp, 1) := by decide +kernel
theorem d3_9 : decode prog_75_method_2_code 9 = .ok (.ifCond .ge 15, 3) := by decide +kernel
theorem d3_12 : decode prog_75_method_2_code 12 = .ok (.aload_n 0, 1) := by decide +kernel
theorem d3_13 : decode prog_75_method_2_code 13 = .ok (.getfield 19, 3) := by decide +kernel
theorem d3_16 : decode prog_75_method_2_code 16 = .ok (.aload_n 0, 1) := by decide +kernel
theorem d3_17 : decode prog_75_method_2_code 17 = .ok (.getfield 13, 3) := by decide +kernel
theorem d3_20 : decode prog_75_method_2_code 20 = .ok (.lcmp, 1) := by decide +kernel
theorem d3_21 : decode prog_75_method_2_code 21 = .ok (.ifCond .le 7, 3) := by decide +kernel
theorem d3_24 : decode prog_75_method_2_code 24 = .ok (.iconst 1, 1) := by decide +kernel
theorem d3_25 : decode prog_75_method_2_code 25 = .ok (.goto 4, 3) := by decide +kernel
theorem d3_28 : decode prog_75_method_2_code 28 = .ok (.iconst 0, 1) := by decide +kernel
theorem d3_29 : decode prog_75_method_2_code 29 = .ok (.ireturn, 1) := by decide +kernel
theorem ef_3 (m : MethodId) (a0 : Addr) : entryFrame m #[(.ref a0)] 1 = mkF m 0 #[.val (.ref a0)] [] := by first | (simp [entryFrame, mkF, argsToLocals, Value.category]; done) | rfl
def Q3 (Z : State) (a0 : Addr) (u_required : Int64) (u_allowedFalse : Int64) (u_trues : Int64) (u_falses : Int64) (h0 : Heap) (n0 : Nat) (v : Option Value) (h : Heap) (L : List Loc) : Prop := v = some (.int (if u_trues < u_required then (if u_allowedFalse < u_falses then (1 : Int32) else (0 : Int32)) else (1 : Int32))) ∧ Fr n0 L ∧ h = h0
set_option maxRecDepth 65536 in
set_option maxHeartbeats 40000000 in
theorem rm3 (l : Launch) (Z : State) (aq : Array Value) (hw : ∀ d ∈ tables_1, d.before aq Z = true) (ws : List Jvm.Cond) (a0 : Addr) (u_required : Int64) (u_allowedFalse : Int64) (u_trues : Int64) (u_falses : Int64) (h0 : Heap) (n0 : Nat) (Z0 : n0 ≤ h0.size) (E_a0 : Exa Z h0 a0 "com/example/strict_pdp/strictpdp/expression/ThreeValued$Count") (F_required : Fld Z h0 a0 "com/example/strict_pdp/strictpdp/expression/ThreeValued$Count" "required" "J" (.long u_required)) (F_allowedFalse : Fld Z h0 a0 "com/example/strict_pdp/strictpdp/expression/ThreeValued$Count" "allowedFalse" "J" (.long u_allowedFalse)) (F_trues : Fld Z h0 a0 "com/example/strict_pdp/strictpdp/expression/ThreeValued$Count" "trues" "J" (.long u_trues)) (F_falses : Fld Z h0 a0 "com/example/strict_pdp/strictpdp/expression/ThreeValued$Count" "falses" "J" (.long u_falses)) (F_indeterminate : Fld Z h0 a0 "com/example/strict_pdp/strictpdp/expression/ThreeValued$Count" "indeterminate" "Lcom/example/strict_pdp/strictpdp/Status;" .null) :
    MetFree l (⟨"com/example/strict_pdp/strictpdp/expression/ThreeValued$Count", "known", "()Z"⟩ : MethodName) (head1 (Jvm.Cond.code (⟨"com/example/strict_pdp/strictpdp/expression/ThreeValued$Count", "known", "()Z"⟩ : MethodName) prog_75_method_2_code 1 (some .boolean) :: ws) ({ frames := 0, cells := 0, slots := 0, locals := 0 } : Room)) (fun a U => a = #[(.ref a0)] ∧ Z.Warmed39 U.vm ∧ U.heap = h0) (fun _ _ _ _ _ => True) (fun _ U o U' => ∃ v L, o = .returned v ∧ Q3 Z a0 u_required u_allowedFalse u_trues u_falses h0 n0 v U'.heap L ∧ FrameEnd U o U' L ({ frames := 0, cells := 0, slots := 0, locals := 0 } : Room).cells ({ frames := 0, cells := 0, slots := 0, locals := 0 } : Room).slots) := by
  refine MetFree.of_bodySF (plainFor_of_name pn47812426) hisR ?_
  intro p e s m args below meth c s₁ Bd hml0 hP hK
  obtain ⟨rfl, hZ, hh⟩ := hP
  have hx := Bd.exec
  have hby := Bd.bytes
  have hml : c.maxLocals = 1 := hml0
  have hown : s.vm.findClass "com/example/strict_pdp/strictpdp/expression/ThreeValued$Count" = some m.cls := findClass_of_methodNamed Bd.named
  have hnm := (name_of_methodNamed Bd.named Bd.method).1
  have X0 : Stand p l e ({ frames := 0, cells := 0, slots := 0, locals := 0 } : Room) s m #[(.ref a0)] below meth c s₁ [] 0 0 := Stand.of_body Bd
  have e0 : s₁.heap = h0 := by rw [← hh, Bd.state]; rfl
  have N0 := Fr.nil n0
  have pre0 : ∀ t, Steps p.tables e below (s₁.setTop (mkF m 0 #[.val (.ref a0)] [])) t → Steps p.tables e below (s₁.setTop (entryFrame m #[(.ref a0)] 1)) t := fun t k => castTop (ef_3 m a0) k
  obtain ⟨T102, X102, e102, st102⟩ := getF X0 hx hZ hown (host := "") (Or.inl (hw _ (List.mem_of_getElem? (i := 18) rfl))) Via.refl e0 F_trues (g := (mkF m 1 #[.val (.ref a0)] [(.ref a0)])) rfl rfl (hb hby d3_1)
  obtain ⟨T103, X103, e103, st103⟩ := getF X102 hx hZ hown (host := "") (Or.inl (hw _ (List.mem_of_getElem? (i := 9) rfl))) Via.refl e102 F_required (g := (mkF m 5 #[.val (.ref a0)] [(.ref a0), (.long u_trues)])) rfl rfl (hb hby d3_5)
  have pre104 : ∀ t, Steps p.tables e below (T103.setTop (mkF m 9 #[.val (.ref a0)] [(.int (lcmpW u_trues u_required))])) t → Steps p.tables e below (s₁.setTop (entryFrame m #[(.ref a0)] 1)) t := fun t kt => by
    refine pre0 _ ?_
    show Steps p.tables e below (s₁.setTop (mkF m 0 #[.val (.ref a0)] [])) _
    refine XS.aloadN X0.here hx rfl (hb hby d3_0) rfl rfl ?_
    show Steps p.tables e below (s₁.setTop (mkF m 1 #[.val (.ref a0)] [(.ref a0)])) _
    refine st102 _ ?_
    show Steps p.tables e below (T102.setTop (mkF m 4 #[.val (.ref a0)] [(.long u_trues)])) _
    refine XS.aloadN X102.here hx rfl (hb hby d3_4) rfl rfl ?_
    show Steps p.tables e below (T102.setTop (mkF m 5 #[.val (.ref a0)] [(.ref a0), (.long u_trues)])) _
    refine st103 _ ?_
    show Steps p.tables e below (T103.setTop (mkF m 8 #[.val (.ref a0)] [(.long u_required), (.long u_trues)])) _
    refine XS.lcmp X103.here hx rfl (hb hby d3_8) rfl ?_
    show Steps p.tables e below (T103.setTop (mkF m 9 #[.val (.ref a0)] [(.int (lcmpW u_trues u_required))])) _
    exact kt
  by_cases hc105 : u_trues < u_required
  · skip
    obtain ⟨T106, X106, e106, st106⟩ := getF X103 hx hZ hown (host := "") (Or.inl (hw _ (List.mem_of_getElem? (i := 20) rfl))) Via.refl e103 F_falses (g := (mkF m 13 #[.val (.ref a0)] [(.ref a0)])) rfl rfl (hb hby d3_13)
    obtain ⟨T107, X107, e107, st107⟩ := getF X106 hx hZ hown (host := "") (Or.inl (hw _ (List.mem_of_getElem? (i := 11) rfl))) Via.refl e106 F_allowedFalse (g := (mkF m 17 #[.val (.ref a0)] [(.ref a0), (.long u_falses)])) rfl rfl (hb hby d3_17)
    have pre108 : ∀ t, Steps p.tables e below (T107.setTop (mkF m 21 #[.val (.ref a0)] [(.int (lcmpW u_falses u_allowedFalse))])) t → Steps p.tables e below (s₁.setTop (entryFrame m #[(.ref a0)] 1)) t := fun t kt => by
      refine pre104 _ ?_
      show Steps p.tables e below (T103.setTop (mkF m 9 #[.val (.ref a0)] [(.int (lcmpW u_trues u_required))])) _
      refine XS.ifNo X103.here hx rfl (hb hby d3_9) rfl ((if0 _ _).trans (tlt (own_lwL hc105)).2.1) ?_
      show Steps p.tables e below (T103.setTop (mkF m 12 #[.val (.ref a0)] [])) _
      refine XS.aloadN X103.here hx rfl (hb hby d3_12) rfl rfl ?_
      show Steps p.tables e below (T103.setTop (mkF m 13 #[.val (.ref a0)] [(.ref a0)])) _
      refine st106 _ ?_
      show Steps p.tables e below (T106.setTop (mkF m 16 #[.val (.ref a0)] [(.long u_falses)])) _
      refine XS.aloadN X106.here hx rfl (hb hby d3_16) rfl rfl ?_
      show Steps p.tables e below (T106.setTop (mkF m 17 #[.val (.ref a0)] [(.ref a0), (.long u_falses)])) _
      refine st107 _ ?_
      show Steps p.tables e below (T107.setTop (mkF m 20 #[.val (.ref a0)] [(.long u_allowedFalse), (.long u_falses)])) _
      refine XS.lcmp X107.here hx rfl (hb hby d3_20) rfl ?_
      show Steps p.tables e below (T107.setTop (mkF m 21 #[.val (.ref a0)] [(.int (lcmpW u_falses u_allowedFalse))])) _
      exact kt
    by_cases hc109 : u_allowedFalse < u_falses
    · skip
      have pre110 : ∀ t, Steps p.tables e below (T107.setTop (mkF m 29 #[.val (.ref a0)] [(.int (1 : Int32))])) t → Steps p.tables e below (s₁.setTop (entryFrame m #[(.ref a0)] 1)) t := fun t kt => by
        refine pre108 _ ?_
        show Steps p.tables e below (T107.setTop (mkF m 21 #[.val (.ref a0)] [(.int (lcmpW u_falses u_allowedFalse))])) _
        refine XS.ifNo X107.here hx rfl (hb hby d3_21) rfl ((if0 _ _).trans (tlt (own_lwG hc109)).2.2.2) ?_
        show Steps p.tables e below (T107.setTop (mkF m 24 #[.val (.ref a0)] [])) _
        refine XS.iconst X107.here hx rfl (hb hby d3_24) ?_
        show Steps p.tables e below (T107.setTop (mkF m 25 #[.val (.ref a0)] [(.int (1 : Int32))])) _
        refine XS.goto X107.here hx rfl (pc0 := 25) (pc' := 29) rfl (hb hby d3_25) (by decide) (by decide) ?_
        show Steps p.tables e below (T107.setTop (mkF m 29 #[.val (.ref a0)] [(.int (1 : Int32))])) _
        exact kt
      obtain ⟨fs, hr, hrun, hended, hW, hsame⟩ := X107.leave (v := some (.int (1 : Int32))) (fun h => by rw [Bd.returns] at h; cases h)
      refine ⟨_, _, pre110 _ ?_, hrun, hended, _, _, rfl, ?_, ⟨_, rfl⟩, hW, hsame.mono (by decide) (by decide)⟩
      · exact retN X107 hx (t := .boolean) Bd.returns (by simp) (hb hby d3_29) hr
      · show Q3 Z a0 u_required u_allowedFalse u_trues u_falses h0 n0 _ T107.heap _
        rw [e107]
        exact ⟨(own_rI (by rw [if_pos hc105, if_pos hc109] : (1 : Int32) = (if u_trues < u_required then (if u_allowedFalse < u_falses then (1 : Int32) else (0 : Int32)) else (1 : Int32)))), N0, rfl⟩
    · skip
      have pre111 : ∀ t, Steps p.tables e below (T107.setTop (mkF m 29 #[.val (.ref a0)] [(.int (0 : Int32))])) t → Steps p.tables e below (s₁.setTop (entryFrame m #[(.ref a0)] 1)) t := fun t kt => by
        refine pre108 _ ?_
        show Steps p.tables e below (T107.setTop (mkF m 21 #[.val (.ref a0)] [(.int (lcmpW u_falses u_allowedFalse))])) _
        refine XS.ifYes X107.here hx rfl (pc0 := 21) (pc' := 28) rfl (hb hby d3_21) rfl ((if0 _ _).trans (flt (own_lwH hc109)).2.2.2) (by decide) (by decide) ?_
        show Steps p.tables e below (T107.setTop (mkF m 28 #[.val (.ref a0)] [])) _
        refine XS.iconst X107.here hx rfl (hb hby d3_28) ?_
        show Steps p.tables e below (T107.setTop (mkF m 29 #[.val (.ref a0)] [(.int (0 : Int32))])) _
        exact kt
      obtain ⟨fs, hr, hrun, hended, hW, hsame⟩ := X107.leave (v := some (.int (0 : Int32))) (fun h => by rw [Bd.returns] at h; cases h)
      refine ⟨_, _, pre111 _ ?_, hrun, hended, _, _, rfl, ?_, ⟨_, rfl⟩, hW, hsame.mono (by decide) (by decide)⟩
      · exact retN X107 hx (t := .boolean) Bd.returns (by simp) (hb hby d3_29) hr
      · show Q3 Z a0 u_required u_allowedFalse u_trues u_falses h0 n0 _ T107.heap _
        rw [e107]
        exact ⟨(own_rI (by rw [if_pos hc105, if_neg hc109] : (0 : Int32) = (if u_trues < u_required then (if u_allowedFalse < u_falses then (1 : Int32) else (0 : Int32)) else (1 : Int32)))), N0, rfl⟩
  · skip
    have pre112 : ∀ t, Steps p.tables e below (T103.setTop (mkF m 29 #[.val (.ref a0)] [(.int (1 : Int32))])) t → Steps p.tables e below (s₁.setTop (entryFrame m #[(.ref a0)] 1)) t := fun t kt => by
      refine pre104 _ ?_
      show Steps p.tables e below (T103.setTop (mkF m 9 #[.val (.ref a0)] [(.int (lcmpW u_trues u_required))])) _
      refine XS.ifYes X103.here hx rfl (pc0 := 9) (pc' := 24) rfl (hb hby d3_9) rfl ((if0 _ _).trans (flt (own_lwM hc105)).2.1) (by decide) (by decide) ?_
      show Steps p.tables e below (T103.setTop (mkF m 24 #[.val (.ref a0)] [])) _
      refine XS.iconst X103.here hx rfl (hb hby d3_24) ?_
      show Steps p.tables e below (T103.setTop (mkF m 25 #[.val (.ref a0)] [(.int (1 : Int32))])) _
      refine XS.goto X103.here hx rfl (pc0 := 25) (pc' := 29) rfl (hb hby d3_25) (by decide) (by decide) ?_
      show Steps p.tables e below (T103.setTop (mkF m 29 #[.val (.ref a0)] [(.int (1 : Int32))])) _
      exact kt
    obtain ⟨fs, hr, hrun, hended, hW, hsame⟩ := X103.leave (v := some (.int (1 : Int32))) (fun h => by rw [Bd.returns] at h; cases h)
    refine ⟨_, _, pre112 _ ?_, hrun, hended, _, _, rfl, ?_, ⟨_, rfl⟩, hW, hsame.mono (by decide) (by decide)⟩
    · exact retN X103 hx (t := .boolean) Bd.returns (by simp) (hb hby d3_29) hr
    · show Q3 Z a0 u_required u_allowedFalse u_trues u_falses h0 n0 _ T103.heap _
      rw [e103]
      exact ⟨(own_rI (by rw [if_neg hc105] : (1 : Int32) = (if u_trues < u_required then (if u_allowedFalse < u_falses then (1 : Int32) else (0 : Int32)) else (1 : Int32)))), N0, rfl⟩
theorem d4_0 : decode prog_75_method_5_code 0 = .ok (.aload_n 0, 1) := by decide +kernel
theorem d4_1 : decode prog_75_method_5_code 1 = .ok (.getfield 16, 3) := by decide +kernel
theorem d4_4 : decode prog_75_method_5_code 4 = .ok (.aload_n 0, 1) := by decide +kernel
theorem d4_5 : decode prog_75_method_5_code 5 = .ok (.getfield 7, 3) := by decide +kernel
theorem d4_8 : decode prog_75_method_5_code 8 = .ok (.lcmp, 1) := by decide +kernel
theorem d4_9 : decode prog_75_method_5_code 9 = .ok (.ifCond .lt 7, 3) := by decide +kernel
theorem d4_12 : decode prog_75_method_5_code 12 = .ok (.iconst 1, 1) := by decide +kernel
theorem d4_13 : decode prog_75_method_5_code 13 = .ok (.goto 4, 3) := by decide +kernel
theorem d4_16 : decode prog_75_method_5_code 16 = .ok (.iconst 0, 1) := by decide +kernel
theorem d4_17 : decode prog_75_method_5_code 17 = .ok (.istore_n 1, 1) := by decide +kernel
theorem d4_18 : decode prog_75_method_5_code 18 = .ok (.iload_n 1, 1) := by decide +kernel
theorem d4_19 : decode prog_75_method_5_code 19 = .ok (.ifCond .ne 34, 3) := by decide +kernel
theorem d4_22 : decode prog_75_method_5_code 22 = .ok (.aload_n 0, 1) := by decide +kernel
theorem d4_23 : decode prog_75_method_5_code 23 = .ok (.getfield 19, 3) := by decide +kernel
theorem d4_26 : decode prog_75_method_5_code 26 = .ok (.aload_n 0, 1) := by decide +kernel
theorem d4_27 : decode prog_75_method_5_code 27 = .ok (.getfield 13, 3) := by decide +kernel
theorem d4_30 : decode prog_75_method_5_code 30 = .ok (.lcmp, 1) := by decide +kernel
theorem d4_31 : decode prog_75_method_5_code 31 = .ok (.ifCond .gt 22, 3) := by decide +kernel
theorem d4_34 : decode prog_75_method_5_code 34 = .ok (.aload_n 0, 1) := by decide +kernel
theorem d4_35 : decode prog_75_method_5_code 35 = .ok (.getfield 22, 3) := by decide +kernel
theorem d4_38 : decode prog_75_method_5_code 38 = .ok (.ifnull 15, 3) := by decide +kernel
theorem d4_41 : decode prog_75_method_5_code 41 = .ok (.new 32, 3) := by decide +kernel
theorem d4_44 : decode prog_75_method_5_code 44 = .ok (.dup, 1) := by decide +kernel
theorem d4_45 : decode prog_75_method_5_code 45 = .ok (.aload_n 0, 1) := by decide +kernel
theorem d4_46 : decode prog_75_method_5_code 46 = .ok (.getfield 22, 3) := by decide +kernel
theorem d4_49 : decode prog_75_method_5_code 49 = .ok (.invokespecial 34, 3) := by decide +kernel
theorem d4_52 : decode prog_75_method_5_code 52 = .ok (.athrow, 1) := by decide +kernel
theorem d4_53 : decode prog_75_method_5_code 53 = .ok (.iload_n 1, 1) := by decide +kernel
theorem d4_54 : decode prog_75_method_5_code 54 = .ok (.ireturn, 1) := by decide +kernel
theorem ef_4 (m : MethodId) (a0 : Addr) : entryFrame m #[(.ref a0)] 2 = mkF m 0 #[.val (.ref a0), .unset] [] := by first | (simp [entryFrame, mkF, argsToLocals, Value.category]; done) | rfl
def Q4 (Z : State) (a0 : Addr) (u_required : Int64) (u_allowedFalse : Int64) (u_trues : Int64) (u_falses : Int64) (h0 : Heap) (n0 : Nat) (v : Option Value) (h : Heap) (L : List Loc) : Prop := v = some (.int (if u_trues < u_required then (if u_allowedFalse < u_falses then (0 : Int32) else (0 : Int32)) else (1 : Int32))) ∧ Fr n0 L ∧ h = h0
set_option maxRecDepth 65536 in
set_option maxHeartbeats 40000000 in
theorem rm4 (l : Launch) (Z : State) (aq : Array Value) (hw : ∀ d ∈ tables_1, d.before aq Z = true) (ws : List Jvm.Cond) (a0 : Addr) (u_required : Int64) (u_allowedFalse : Int64) (u_trues : Int64) (u_falses : Int64) (h0 : Heap) (n0 : Nat) (Z0 : n0 ≤ h0.size) (E_a0 : Exa Z h0 a0 "com/example/strict_pdp/strictpdp/expression/ThreeValued$Count") (F_required : Fld Z h0 a0 "com/example/strict_pdp/strictpdp/expression/ThreeValued$Count" "required" "J" (.long u_required)) (F_allowedFalse : Fld Z h0 a0 "com/example/strict_pdp/strictpdp/expression/ThreeValued$Count" "allowedFalse" "J" (.long u_allowedFalse)) (F_trues : Fld Z h0 a0 "com/example/strict_pdp/strictpdp/expression/ThreeValued$Count" "trues" "J" (.long u_trues)) (F_falses : Fld Z h0 a0 "com/example/strict_pdp/strictpdp/expression/ThreeValued$Count" "falses" "J" (.long u_falses)) (F_indeterminate : Fld Z h0 a0 "com/example/strict_pdp/strictpdp/expression/ThreeValued$Count" "indeterminate" "Lcom/example/strict_pdp/strictpdp/Status;" .null) :
    MetFree l (⟨"com/example/strict_pdp/strictpdp/expression/ThreeValued$Count", "answer", "()Z"⟩ : MethodName) (head1 (Jvm.Cond.code (⟨"com/example/strict_pdp/strictpdp/expression/ThreeValued$Count", "answer", "()Z"⟩ : MethodName) prog_75_method_5_code 2 (some .boolean) :: ws) ({ frames := 0, cells := 0, slots := 0, locals := 0 } : Room)) (fun a U => a = #[(.ref a0)] ∧ Z.Warmed39 U.vm ∧ U.heap = h0) (fun _ _ _ _ _ => True) (fun _ U o U' => ∃ v L, o = .returned v ∧ Q4 Z a0 u_required u_allowedFalse u_trues u_falses h0 n0 v U'.heap L ∧ FrameEnd U o U' L ({ frames := 0, cells := 0, slots := 0, locals := 0 } : Room).cells ({ frames := 0, cells := 0, slots := 0, locals := 0 } : Room).slots) := by
  refine MetFree.of_bodySF (plainFor_of_name pn47812426) hisR ?_
  intro p e s m args below meth c s₁ Bd hml0 hP hK
  obtain ⟨rfl, hZ, hh⟩ := hP
  have hx := Bd.exec
  have hby := Bd.bytes
  have hml : c.maxLocals = 2 := hml0
  have hown : s.vm.findClass "com/example/strict_pdp/strictpdp/expression/ThreeValued$Count" = some m.cls := findClass_of_methodNamed Bd.named
  have hnm := (name_of_methodNamed Bd.named Bd.method).1
  have X0 : Stand p l e ({ frames := 0, cells := 0, slots := 0, locals := 0 } : Room) s m #[(.ref a0)] below meth c s₁ [] 0 0 := Stand.of_body Bd
  have e0 : s₁.heap = h0 := by rw [← hh, Bd.state]; rfl
  have N0 := Fr.nil n0
  have pre0 : ∀ t, Steps p.tables e below (s₁.setTop (mkF m 0 #[.val (.ref a0), .unset] [])) t → Steps p.tables e below (s₁.setTop (entryFrame m #[(.ref a0)] 2)) t := fun t k => castTop (ef_4 m a0) k
  obtain ⟨T122, X122, e122, st122⟩ := getF X0 hx hZ hown (host := "") (Or.inl (hw _ (List.mem_of_getElem? (i := 18) rfl))) Via.refl e0 F_trues (g := (mkF m 1 #[.val (.ref a0), .unset] [(.ref a0)])) rfl rfl (hb hby d4_1)
  obtain ⟨T123, X123, e123, st123⟩ := getF X122 hx hZ hown (host := "") (Or.inl (hw _ (List.mem_of_getElem? (i := 9) rfl))) Via.refl e122 F_required (g := (mkF m 5 #[.val (.ref a0), .unset] [(.ref a0), (.long u_trues)])) rfl rfl (hb hby d4_5)
  have pre124 : ∀ t, Steps p.tables e below (T123.setTop (mkF m 9 #[.val (.ref a0), .unset] [(.int (lcmpW u_trues u_required))])) t → Steps p.tables e below (s₁.setTop (entryFrame m #[(.ref a0)] 2)) t := fun t kt => by
    refine pre0 _ ?_
    show Steps p.tables e below (s₁.setTop (mkF m 0 #[.val (.ref a0), .unset] [])) _
    refine XS.aloadN X0.here hx rfl (hb hby d4_0) rfl rfl ?_
    show Steps p.tables e below (s₁.setTop (mkF m 1 #[.val (.ref a0), .unset] [(.ref a0)])) _
    refine st122 _ ?_
    show Steps p.tables e below (T122.setTop (mkF m 4 #[.val (.ref a0), .unset] [(.long u_trues)])) _
    refine XS.aloadN X122.here hx rfl (hb hby d4_4) rfl rfl ?_
    show Steps p.tables e below (T122.setTop (mkF m 5 #[.val (.ref a0), .unset] [(.ref a0), (.long u_trues)])) _
    refine st123 _ ?_
    show Steps p.tables e below (T123.setTop (mkF m 8 #[.val (.ref a0), .unset] [(.long u_required), (.long u_trues)])) _
    refine XS.lcmp X123.here hx rfl (hb hby d4_8) rfl ?_
    show Steps p.tables e below (T123.setTop (mkF m 9 #[.val (.ref a0), .unset] [(.int (lcmpW u_trues u_required))])) _
    exact kt
  by_cases hc125 : u_trues < u_required
  · skip
    obtain ⟨T126, X126, e126, st126⟩ := getF X123 hx hZ hown (host := "") (Or.inl (hw _ (List.mem_of_getElem? (i := 20) rfl))) Via.refl e123 F_falses (g := (mkF m 23 #[.val (.ref a0), .val (.int (0 : Int32))] [(.ref a0)])) rfl rfl (hb hby d4_23)
    obtain ⟨T127, X127, e127, st127⟩ := getF X126 hx hZ hown (host := "") (Or.inl (hw _ (List.mem_of_getElem? (i := 11) rfl))) Via.refl e126 F_allowedFalse (g := (mkF m 27 #[.val (.ref a0), .val (.int (0 : Int32))] [(.ref a0), (.long u_falses)])) rfl rfl (hb hby d4_27)
    have pre128 : ∀ t, Steps p.tables e below (T127.setTop (mkF m 31 #[.val (.ref a0), .val (.int (0 : Int32))] [(.int (lcmpW u_falses u_allowedFalse))])) t → Steps p.tables e below (s₁.setTop (entryFrame m #[(.ref a0)] 2)) t := fun t kt => by
      refine pre124 _ ?_
      show Steps p.tables e below (T123.setTop (mkF m 9 #[.val (.ref a0), .unset] [(.int (lcmpW u_trues u_required))])) _
      refine XS.ifYes X123.here hx rfl (pc0 := 9) (pc' := 16) rfl (hb hby d4_9) rfl ((if0 _ _).trans (tlt (own_lwL hc125)).1) (by decide) (by decide) ?_
      show Steps p.tables e below (T123.setTop (mkF m 16 #[.val (.ref a0), .unset] [])) _
      refine XS.iconst X123.here hx rfl (hb hby d4_16) ?_
      show Steps p.tables e below (T123.setTop (mkF m 17 #[.val (.ref a0), .unset] [(.int (0 : Int32))])) _
      refine XS.istoreN X123.here hx rfl (hb hby d4_17) rfl (l' := #[.val (.ref a0), .val (.int (0 : Int32))]) rfl ?_
      show Steps p.tables e below (T123.setTop (mkF m 18 #[.val (.ref a0), .val (.int (0 : Int32))] [])) _
      refine XS.iloadN X123.here hx rfl (hb hby d4_18) rfl ?_
      show Steps p.tables e below (T123.setTop (mkF m 19 #[.val (.ref a0), .val (.int (0 : Int32))] [(.int (0 : Int32))])) _
      refine XS.ifNo X123.here hx rfl (hb hby d4_19) rfl ((if0 _ _).trans (teq (by decide : (0 : Int32) = (0 : Int32))).2) ?_
      show Steps p.tables e below (T123.setTop (mkF m 22 #[.val (.ref a0), .val (.int (0 : Int32))] [])) _
      refine XS.aloadN X123.here hx rfl (hb hby d4_22) rfl rfl ?_
      show Steps p.tables e below (T123.setTop (mkF m 23 #[.val (.ref a0), .val (.int (0 : Int32))] [(.ref a0)])) _
      refine st126 _ ?_
      show Steps p.tables e below (T126.setTop (mkF m 26 #[.val (.ref a0), .val (.int (0 : Int32))] [(.long u_falses)])) _
      refine XS.aloadN X126.here hx rfl (hb hby d4_26) rfl rfl ?_
      show Steps p.tables e below (T126.setTop (mkF m 27 #[.val (.ref a0), .val (.int (0 : Int32))] [(.ref a0), (.long u_falses)])) _
      refine st127 _ ?_
      show Steps p.tables e below (T127.setTop (mkF m 30 #[.val (.ref a0), .val (.int (0 : Int32))] [(.long u_allowedFalse), (.long u_falses)])) _
      refine XS.lcmp X127.here hx rfl (hb hby d4_30) rfl ?_
      show Steps p.tables e below (T127.setTop (mkF m 31 #[.val (.ref a0), .val (.int (0 : Int32))] [(.int (lcmpW u_falses u_allowedFalse))])) _
      exact kt
    by_cases hc129 : u_allowedFalse < u_falses
    · skip
      have pre130 : ∀ t, Steps p.tables e below (T127.setTop (mkF m 54 #[.val (.ref a0), .val (.int (0 : Int32))] [(.int (0 : Int32))])) t → Steps p.tables e below (s₁.setTop (entryFrame m #[(.ref a0)] 2)) t := fun t kt => by
        refine pre128 _ ?_
        show Steps p.tables e below (T127.setTop (mkF m 31 #[.val (.ref a0), .val (.int (0 : Int32))] [(.int (lcmpW u_falses u_allowedFalse))])) _
        refine XS.ifYes X127.here hx rfl (pc0 := 31) (pc' := 53) rfl (hb hby d4_31) rfl ((if0 _ _).trans (tlt (own_lwG hc129)).2.2.1) (by decide) (by decide) ?_
        show Steps p.tables e below (T127.setTop (mkF m 53 #[.val (.ref a0), .val (.int (0 : Int32))] [])) _
        refine XS.iloadN X127.here hx rfl (hb hby d4_53) rfl ?_
        show Steps p.tables e below (T127.setTop (mkF m 54 #[.val (.ref a0), .val (.int (0 : Int32))] [(.int (0 : Int32))])) _
        exact kt
      obtain ⟨fs, hr, hrun, hended, hW, hsame⟩ := X127.leave (v := some (.int (0 : Int32))) (fun h => by rw [Bd.returns] at h; cases h)
      refine ⟨_, _, pre130 _ ?_, hrun, hended, _, _, rfl, ?_, ⟨_, rfl⟩, hW, hsame.mono (by decide) (by decide)⟩
      · exact retN X127 hx (t := .boolean) Bd.returns (by simp) (hb hby d4_54) hr
      · show Q4 Z a0 u_required u_allowedFalse u_trues u_falses h0 n0 _ T127.heap _
        rw [e127]
        exact ⟨(own_rI (by rw [if_pos hc125, if_pos hc129] : (0 : Int32) = (if u_trues < u_required then (if u_allowedFalse < u_falses then (0 : Int32) else (0 : Int32)) else (1 : Int32)))), N0, rfl⟩
    · skip
      obtain ⟨T131, X131, e131, st131⟩ := getF X127 hx hZ hown (host := "") (Or.inl (hw _ (List.mem_of_getElem? (i := 27) rfl))) Via.refl e127 F_indeterminate (g := (mkF m 35 #[.val (.ref a0), .val (.int (0 : Int32))] [(.ref a0)])) rfl rfl (hb hby d4_35)
      have pre132 : ∀ t, Steps p.tables e below (T131.setTop (mkF m 54 #[.val (.ref a0), .val (.int (0 : Int32))] [(.int (0 : Int32))])) t → Steps p.tables e below (s₁.setTop (entryFrame m #[(.ref a0)] 2)) t := fun t kt => by
        refine pre128 _ ?_
        show Steps p.tables e below (T127.setTop (mkF m 31 #[.val (.ref a0), .val (.int (0 : Int32))] [(.int (lcmpW u_falses u_allowedFalse))])) _
        refine XS.ifNo X127.here hx rfl (hb hby d4_31) rfl ((if0 _ _).trans (flt (own_lwH hc129)).2.2.1) ?_
        show Steps p.tables e below (T127.setTop (mkF m 34 #[.val (.ref a0), .val (.int (0 : Int32))] [])) _
        refine XS.aloadN X127.here hx rfl (hb hby d4_34) rfl rfl ?_
        show Steps p.tables e below (T127.setTop (mkF m 35 #[.val (.ref a0), .val (.int (0 : Int32))] [(.ref a0)])) _
        refine st131 _ ?_
        show Steps p.tables e below (T131.setTop (mkF m 38 #[.val (.ref a0), .val (.int (0 : Int32))] [.null])) _
        refine XS.ifnullYes X131.here hx rfl (pc0 := 38) (pc' := 53) rfl (hb hby d4_38) rfl (by decide) (by decide) ?_
        show Steps p.tables e below (T131.setTop (mkF m 53 #[.val (.ref a0), .val (.int (0 : Int32))] [])) _
        refine XS.iloadN X131.here hx rfl (hb hby d4_53) rfl ?_
        show Steps p.tables e below (T131.setTop (mkF m 54 #[.val (.ref a0), .val (.int (0 : Int32))] [(.int (0 : Int32))])) _
        exact kt
      obtain ⟨fs, hr, hrun, hended, hW, hsame⟩ := X131.leave (v := some (.int (0 : Int32))) (fun h => by rw [Bd.returns] at h; cases h)
      refine ⟨_, _, pre132 _ ?_, hrun, hended, _, _, rfl, ?_, ⟨_, rfl⟩, hW, hsame.mono (by decide) (by decide)⟩
      · exact retN X131 hx (t := .boolean) Bd.returns (by simp) (hb hby d4_54) hr
      · show Q4 Z a0 u_required u_allowedFalse u_trues u_falses h0 n0 _ T131.heap _
        rw [e131]
        exact ⟨(own_rI (by rw [if_pos hc125, if_neg hc129] : (0 : Int32) = (if u_trues < u_required then (if u_allowedFalse < u_falses then (0 : Int32) else (0 : Int32)) else (1 : Int32)))), N0, rfl⟩
  · skip
    have pre133 : ∀ t, Steps p.tables e below (T123.setTop (mkF m 54 #[.val (.ref a0), .val (.int (1 : Int32))] [(.int (1 : Int32))])) t → Steps p.tables e below (s₁.setTop (entryFrame m #[(.ref a0)] 2)) t := fun t kt => by
      refine pre124 _ ?_
      show Steps p.tables e below (T123.setTop (mkF m 9 #[.val (.ref a0), .unset] [(.int (lcmpW u_trues u_required))])) _
      refine XS.ifNo X123.here hx rfl (hb hby d4_9) rfl ((if0 _ _).trans (flt (own_lwM hc125)).1) ?_
      show Steps p.tables e below (T123.setTop (mkF m 12 #[.val (.ref a0), .unset] [])) _
      refine XS.iconst X123.here hx rfl (hb hby d4_12) ?_
      show Steps p.tables e below (T123.setTop (mkF m 13 #[.val (.ref a0), .unset] [(.int (1 : Int32))])) _
      refine XS.goto X123.here hx rfl (pc0 := 13) (pc' := 17) rfl (hb hby d4_13) (by decide) (by decide) ?_
      show Steps p.tables e below (T123.setTop (mkF m 17 #[.val (.ref a0), .unset] [(.int (1 : Int32))])) _
      refine XS.istoreN X123.here hx rfl (hb hby d4_17) rfl (l' := #[.val (.ref a0), .val (.int (1 : Int32))]) rfl ?_
      show Steps p.tables e below (T123.setTop (mkF m 18 #[.val (.ref a0), .val (.int (1 : Int32))] [])) _
      refine XS.iloadN X123.here hx rfl (hb hby d4_18) rfl ?_
      show Steps p.tables e below (T123.setTop (mkF m 19 #[.val (.ref a0), .val (.int (1 : Int32))] [(.int (1 : Int32))])) _
      refine XS.ifYes X123.here hx rfl (pc0 := 19) (pc' := 53) rfl (hb hby d4_19) rfl ((if0 _ _).trans (feq (by decide : ¬ ((1 : Int32) = (0 : Int32)))).2) (by decide) (by decide) ?_
      show Steps p.tables e below (T123.setTop (mkF m 53 #[.val (.ref a0), .val (.int (1 : Int32))] [])) _
      refine XS.iloadN X123.here hx rfl (hb hby d4_53) rfl ?_
      show Steps p.tables e below (T123.setTop (mkF m 54 #[.val (.ref a0), .val (.int (1 : Int32))] [(.int (1 : Int32))])) _
      exact kt
    obtain ⟨fs, hr, hrun, hended, hW, hsame⟩ := X123.leave (v := some (.int (1 : Int32))) (fun h => by rw [Bd.returns] at h; cases h)
    refine ⟨_, _, pre133 _ ?_, hrun, hended, _, _, rfl, ?_, ⟨_, rfl⟩, hW, hsame.mono (by decide) (by decide)⟩
    · exact retN X123 hx (t := .boolean) Bd.returns (by simp) (hb hby d4_54) hr
    · show Q4 Z a0 u_required u_allowedFalse u_trues u_falses h0 n0 _ T123.heap _
      rw [e123]
      exact ⟨(own_rI (by rw [if_neg hc125] : (1 : Int32) = (if u_trues < u_required then (if u_allowedFalse < u_falses then (0 : Int32) else (0 : Int32)) else (1 : Int32)))), N0, rfl⟩
theorem pd84330432 : parseMethodDescriptor "(JJ)V" = some ⟨[.long, .long], none⟩ := by decide +kernel
theorem pd88010534 : parseMethodDescriptor "(Z)V" = some ⟨[.boolean], none⟩ := by decide +kernel
theorem pd93422000 : parseMethodDescriptor "()Z" = some ⟨[], some .boolean⟩ := by decide +kernel
theorem pn39921953 : plainName "com/example/strict_pdp/strictpdp/expression/CountAddPinLaw" = true := by first | (simp [plainName, overriddenIn]; done) | decide +kernel

theorem own_plain0 (q0 : Int64) (q1 : Int64) (p2 : Int32)
    (v1 : Int32) (hv1 : v1 = (if (((p2.toUInt32 >>> ((2 : Int32) &&& 31).toUInt32).toInt32) &&& (1 : Int32)) = (0 : Int32) then (0 : Int32) else (1 : Int32)))
    (v2 : Int32) (hv2 : v2 = (if (((p2.toUInt32 >>> ((3 : Int32) &&& 31).toUInt32).toInt32) &&& (1 : Int32)) = (0 : Int32) then (0 : Int32) else (1 : Int32)))
    (v3 : Int32) (hv3 : v3 = (if (((p2.toUInt32 >>> ((4 : Int32) &&& 31).toUInt32).toInt32) &&& (1 : Int32)) = (0 : Int32) then (0 : Int32) else (1 : Int32)))
    (v4 : Int64) (hv4 : v4 = (if (p2 &&& (3 : Int32)) < (1 : Int32) then (0 : Int64) else (if v1 = (0 : Int32) then (0 : Int64) else ((0 : Int64) + (1 : Int64)))))
    (v5 : Int64) (hv5 : v5 = (if (p2 &&& (3 : Int32)) < (1 : Int32) then (0 : Int64) else (if v1 = (0 : Int32) then ((0 : Int64) + (1 : Int64)) else (0 : Int64))))
    (v6 : Int64) (hv6 : v6 = (if (p2 &&& (3 : Int32)) < (1 : Int32) then (0 : Int64) else (if v1 = (0 : Int32) then (0 : Int64) else ((0 : Int64) + (1 : Int64)))))
    (v7 : Int64) (hv7 : v7 = (if (p2 &&& (3 : Int32)) < (1 : Int32) then (0 : Int64) else (if v1 = (0 : Int32) then ((0 : Int64) + (1 : Int64)) else (0 : Int64))))
    (v8 : Int64) (hv8 : v8 = (if (p2 &&& (3 : Int32)) < (2 : Int32) then v4 else (if v2 = (0 : Int32) then v4 else (v4 + (1 : Int64)))))
    (v9 : Int64) (hv9 : v9 = (if (p2 &&& (3 : Int32)) < (2 : Int32) then v5 else (if v2 = (0 : Int32) then (v5 + (1 : Int64)) else v5)))
    (v10 : Int64) (hv10 : v10 = (if (p2 &&& (3 : Int32)) < (2 : Int32) then v6 else (if v2 = (0 : Int32) then v6 else (v6 + (1 : Int64)))))
    (v11 : Int64) (hv11 : v11 = (if (p2 &&& (3 : Int32)) < (2 : Int32) then v7 else (if v2 = (0 : Int32) then (v7 + (1 : Int64)) else v7)))
    (v12 : Int64) (hv12 : v12 = (if (p2 &&& (3 : Int32)) < (3 : Int32) then v8 else (if v3 = (0 : Int32) then v8 else (v8 + (1 : Int64)))))
    (v13 : Int64) (hv13 : v13 = (if (p2 &&& (3 : Int32)) < (3 : Int32) then v9 else (if v3 = (0 : Int32) then (v9 + (1 : Int64)) else v9)))
    (v14 : Int64) (hv14 : v14 = (if (p2 &&& (3 : Int32)) < (3 : Int32) then v10 else (if v3 = (0 : Int32) then v10 else (v10 + (1 : Int64)))))
    (v15 : Int64) (hv15 : v15 = (if (p2 &&& (3 : Int32)) < (3 : Int32) then v11 else (if v3 = (0 : Int32) then (v11 + (1 : Int64)) else v11)))
    (v16 : Int32) (hv16 : v16 = (if v12 < q0 then (0 : Int32) else (1 : Int32)))
    (v17 : Int32) (hv17 : v17 = (if v16 = (0 : Int32) then (if q1 < v13 then (1 : Int32) else (0 : Int32)) else (1 : Int32)))
    (v18 : Int32) (hv18 : v18 = (if (if v14 < q0 then (if q1 < v15 then (1 : Int32) else (0 : Int32)) else (1 : Int32)) = v17 then (if (if v14 < q0 then (if q1 < v15 then (0 : Int32) else (0 : Int32)) else (1 : Int32)) = v16 then (1 : Int32) else (0 : Int32)) else (0 : Int32))) : v18 = 1 := by
  have e1 : v6 = v4 := by rw [hv4, hv6]
  have e2 : v7 = v5 := by rw [hv5, hv7]
  have e3 : v10 = v8 := by rw [hv8, hv10, e1]
  have e4 : v11 = v9 := by rw [hv9, hv11, e2]
  have e5 : v14 = v12 := by rw [hv12, hv14, e3]
  have e6 : v15 = v13 := by rw [hv13, hv15, e4]
  rw [hv18, hv17, hv16, e5, e6]
  clear hv1 hv2 hv3 hv4 hv5 hv6 hv7 hv8 hv9 hv10 hv11 hv12 hv13 hv14 hv15 hv16 hv17 hv18 e1 e2 e3 e4 e5 e6
  by_cases a : v12 < q0 <;> by_cases b : q1 < v13 <;> simp [a, b]
theorem ef_0 (m : MethodId) (q0 : Int64) (q1 : Int64) (p2 : Int32) : entryFrame m #[(.long q0), (.long q1), (.int p2)] maxLocals = mkF m 0 #[.val (.long q0), .second, .val (.long q1), .second, .val (.int p2), .unset, .unset, .unset, .unset, .unset, .unset, .unset, .unset, .unset, .unset, .unset, .unset, .unset] [] := by first | (simp [entryFrame, mkF, argsToLocals, Value.category, maxLocals]; done) | rfl
def Q0 (n0 : Nat) (v : Option Value) (L : List Loc) : Prop := v = some (.int (1 : Int32)) ∧ Fr n0 L
set_option maxRecDepth 65536 in
set_option maxHeartbeats 40000000 in
theorem rm0 (l : Launch) (Z : State) (aq : Array Value) (hw : ∀ d ∈ tables_1, d.before aq Z = true) (ws : List Jvm.Cond) (q0 : Int64) (q1 : Int64) (p2 : Int32) (h0 : Heap) (n0 : Nat) (Z0 : n0 ≤ h0.size) :
    MetFree l x (head1 (Jvm.Cond.code x code maxLocals ret :: ws) room_1) (fun a U => a = #[(.long q0), (.long q1), (.int p2)] ∧ Z.Warmed39 U.vm ∧ U.heap = h0) (fun _ _ _ _ _ => True) (fun _ U o U' => ∃ v L, o = .returned v ∧ Q0 n0 v L ∧ FrameEnd U o U' L room_1.cells room_1.slots) := by
  refine MetFree.of_bodySF (plainFor_of_name pn39921953) hisR ?_
  intro p e s m args below meth c s₁ Bd hml0 hP hK
  obtain ⟨rfl, hZ, hh⟩ := hP
  have hx := Bd.exec
  have hby := Bd.bytes
  have hml : c.maxLocals = 18 := hml0
  have hown : s.vm.findClass "com/example/strict_pdp/strictpdp/expression/CountAddPinLaw" = some m.cls := findClass_of_methodNamed Bd.named
  have X0 : Stand p l e room_1 s m #[(.long q0), (.long q1), (.int p2)] below meth c s₁ [] 0 0 := Stand.of_body Bd
  have e0 : s₁.heap = h0 := by rw [← hh, Bd.state]; rfl
  have N0 := Fr.nil n0
  have pre0 : ∀ t, Steps p.tables e below (s₁.setTop (mkF m 0 #[.val (.long q0), .second, .val (.long q1), .second, .val (.int p2), .unset, .unset, .unset, .unset, .unset, .unset, .unset, .unset, .unset, .unset, .unset, .unset, .unset] [])) t → Steps p.tables e below (s₁.setTop (entryFrame m #[(.long q0), (.long q1), (.int p2)] maxLocals)) t := fun t k => castTop (ef_0 m q0 q1 p2) k
  have pre134 : ∀ t, Steps p.tables e below (s₁.setTop (mkF m 12 #[.val (.long q0), .second, .val (.long q1), .second, .val (.int p2), .val (.int (p2 &&& (3 : Int32))), .unset, .unset, .unset, .unset, .unset, .unset, .unset, .unset, .unset, .unset, .unset, .unset] [(.int (((p2.toUInt32 >>> ((2 : Int32) &&& 31).toUInt32).toInt32) &&& (1 : Int32)))])) t → Steps p.tables e below (s₁.setTop (entryFrame m #[(.long q0), (.long q1), (.int p2)] maxLocals)) t := fun t kt => by
    refine pre0 _ ?_
    show Steps p.tables e below (s₁.setTop (mkF m 0 #[.val (.long q0), .second, .val (.long q1), .second, .val (.int p2), .unset, .unset, .unset, .unset, .unset, .unset, .unset, .unset, .unset, .unset, .unset, .unset, .unset] [])) _
    refine XS.iload X0.here hx rfl (hb hby at_0) rfl ?_
    show Steps p.tables e below (s₁.setTop (mkF m 2 #[.val (.long q0), .second, .val (.long q1), .second, .val (.int p2), .unset, .unset, .unset, .unset, .unset, .unset, .unset, .unset, .unset, .unset, .unset, .unset, .unset] [(.int p2)])) _
    refine XS.iconst X0.here hx rfl (hb hby at_2) ?_
    show Steps p.tables e below (s₁.setTop (mkF m 3 #[.val (.long q0), .second, .val (.long q1), .second, .val (.int p2), .unset, .unset, .unset, .unset, .unset, .unset, .unset, .unset, .unset, .unset, .unset, .unset, .unset] [(.int (3 : Int32)), (.int p2)])) _
    refine XS.iand X0.here hx rfl (hb hby at_3) rfl ?_
    show Steps p.tables e below (s₁.setTop (mkF m 4 #[.val (.long q0), .second, .val (.long q1), .second, .val (.int p2), .unset, .unset, .unset, .unset, .unset, .unset, .unset, .unset, .unset, .unset, .unset, .unset, .unset] [(.int (p2 &&& (3 : Int32)))])) _
    refine XS.istore X0.here hx rfl (hb hby at_4) rfl (l' := #[.val (.long q0), .second, .val (.long q1), .second, .val (.int p2), .val (.int (p2 &&& (3 : Int32))), .unset, .unset, .unset, .unset, .unset, .unset, .unset, .unset, .unset, .unset, .unset, .unset]) rfl ?_
    show Steps p.tables e below (s₁.setTop (mkF m 6 #[.val (.long q0), .second, .val (.long q1), .second, .val (.int p2), .val (.int (p2 &&& (3 : Int32))), .unset, .unset, .unset, .unset, .unset, .unset, .unset, .unset, .unset, .unset, .unset, .unset] [])) _
    refine XS.iload X0.here hx rfl (hb hby at_6) rfl ?_
    show Steps p.tables e below (s₁.setTop (mkF m 8 #[.val (.long q0), .second, .val (.long q1), .second, .val (.int p2), .val (.int (p2 &&& (3 : Int32))), .unset, .unset, .unset, .unset, .unset, .unset, .unset, .unset, .unset, .unset, .unset, .unset] [(.int p2)])) _
    refine XS.iconst X0.here hx rfl (hb hby at_8) ?_
    show Steps p.tables e below (s₁.setTop (mkF m 9 #[.val (.long q0), .second, .val (.long q1), .second, .val (.int p2), .val (.int (p2 &&& (3 : Int32))), .unset, .unset, .unset, .unset, .unset, .unset, .unset, .unset, .unset, .unset, .unset, .unset] [(.int (2 : Int32)), (.int p2)])) _
    refine XS.iushr X0.here hx rfl (hb hby at_9) rfl ?_
    show Steps p.tables e below (s₁.setTop (mkF m 10 #[.val (.long q0), .second, .val (.long q1), .second, .val (.int p2), .val (.int (p2 &&& (3 : Int32))), .unset, .unset, .unset, .unset, .unset, .unset, .unset, .unset, .unset, .unset, .unset, .unset] [(.int ((p2.toUInt32 >>> ((2 : Int32) &&& 31).toUInt32).toInt32))])) _
    refine XS.iconst X0.here hx rfl (hb hby at_10) ?_
    show Steps p.tables e below (s₁.setTop (mkF m 11 #[.val (.long q0), .second, .val (.long q1), .second, .val (.int p2), .val (.int (p2 &&& (3 : Int32))), .unset, .unset, .unset, .unset, .unset, .unset, .unset, .unset, .unset, .unset, .unset, .unset] [(.int (1 : Int32)), (.int ((p2.toUInt32 >>> ((2 : Int32) &&& 31).toUInt32).toInt32))])) _
    refine XS.iand X0.here hx rfl (hb hby at_11) rfl ?_
    show Steps p.tables e below (s₁.setTop (mkF m 12 #[.val (.long q0), .second, .val (.long q1), .second, .val (.int p2), .val (.int (p2 &&& (3 : Int32))), .unset, .unset, .unset, .unset, .unset, .unset, .unset, .unset, .unset, .unset, .unset, .unset] [(.int (((p2.toUInt32 >>> ((2 : Int32) &&& 31).toUInt32).toInt32) &&& (1 : Int32)))])) _
    exact kt
  obtain ⟨v1, hv1⟩ : ∃ z : Int32, z = (if (((p2.toUInt32 >>> ((2 : Int32) &&& 31).toUInt32).toInt32) &&& (1 : Int32)) = (0 : Int32) then (0 : Int32) else (1 : Int32)) := ⟨_, rfl⟩
  have pre136 : ∀ t, Steps p.tables e below (s₁.setTop (mkF m 20 #[.val (.long q0), .second, .val (.long q1), .second, .val (.int p2), .val (.int (p2 &&& (3 : Int32))), .unset, .unset, .unset, .unset, .unset, .unset, .unset, .unset, .unset, .unset, .unset, .unset] [(.int v1)])) t → Steps p.tables e below (s₁.setTop (entryFrame m #[(.long q0), (.long q1), (.int p2)] maxLocals)) t := fun t kt => by
    refine pre134 _ ?_
    show Steps p.tables e below (s₁.setTop (mkF m 12 #[.val (.long q0), .second, .val (.long q1), .second, .val (.int p2), .val (.int (p2 &&& (3 : Int32))), .unset, .unset, .unset, .unset, .unset, .unset, .unset, .unset, .unset, .unset, .unset, .unset] [(.int (((p2.toUInt32 >>> ((2 : Int32) &&& 31).toUInt32).toInt32) &&& (1 : Int32)))])) _
    by_cases hc135 : (((p2.toUInt32 >>> ((2 : Int32) &&& 31).toUInt32).toInt32) &&& (1 : Int32)) = (0 : Int32)
    · rw [if_pos hc135] at hv1
      refine XS.ifYes X0.here hx rfl (pc0 := 12) (pc' := 19) rfl (hb hby at_12) rfl ((if0 _ _).trans (teq hc135).1) (by decide) (by decide) ?_
      show Steps p.tables e below (s₁.setTop (mkF m 19 #[.val (.long q0), .second, .val (.long q1), .second, .val (.int p2), .val (.int (p2 &&& (3 : Int32))), .unset, .unset, .unset, .unset, .unset, .unset, .unset, .unset, .unset, .unset, .unset, .unset] [])) _
      refine XS.iconst X0.here hx rfl (hb hby at_19) ?_
      subst hv1
      exact kt
    · rw [if_neg hc135] at hv1
      refine XS.ifNo X0.here hx rfl (hb hby at_12) rfl ((if0 _ _).trans (feq hc135).1) ?_
      show Steps p.tables e below (s₁.setTop (mkF m 15 #[.val (.long q0), .second, .val (.long q1), .second, .val (.int p2), .val (.int (p2 &&& (3 : Int32))), .unset, .unset, .unset, .unset, .unset, .unset, .unset, .unset, .unset, .unset, .unset, .unset] [])) _
      refine XS.iconst X0.here hx rfl (hb hby at_15) ?_
      show Steps p.tables e below (s₁.setTop (mkF m 16 #[.val (.long q0), .second, .val (.long q1), .second, .val (.int p2), .val (.int (p2 &&& (3 : Int32))), .unset, .unset, .unset, .unset, .unset, .unset, .unset, .unset, .unset, .unset, .unset, .unset] [(.int (1 : Int32))])) _
      refine XS.goto X0.here hx rfl (pc0 := 16) (pc' := 20) rfl (hb hby at_16) (by decide) (by decide) ?_
      subst hv1
      exact kt
  have pre137 : ∀ t, Steps p.tables e below (s₁.setTop (mkF m 28 #[.val (.long q0), .second, .val (.long q1), .second, .val (.int p2), .val (.int (p2 &&& (3 : Int32))), .val (.int v1), .unset, .unset, .unset, .unset, .unset, .unset, .unset, .unset, .unset, .unset, .unset] [(.int (((p2.toUInt32 >>> ((3 : Int32) &&& 31).toUInt32).toInt32) &&& (1 : Int32)))])) t → Steps p.tables e below (s₁.setTop (entryFrame m #[(.long q0), (.long q1), (.int p2)] maxLocals)) t := fun t kt => by
    refine pre136 _ ?_
    show Steps p.tables e below (s₁.setTop (mkF m 20 #[.val (.long q0), .second, .val (.long q1), .second, .val (.int p2), .val (.int (p2 &&& (3 : Int32))), .unset, .unset, .unset, .unset, .unset, .unset, .unset, .unset, .unset, .unset, .unset, .unset] [(.int v1)])) _
    refine XS.istore X0.here hx rfl (hb hby at_20) rfl (l' := #[.val (.long q0), .second, .val (.long q1), .second, .val (.int p2), .val (.int (p2 &&& (3 : Int32))), .val (.int v1), .unset, .unset, .unset, .unset, .unset, .unset, .unset, .unset, .unset, .unset, .unset]) rfl ?_
    show Steps p.tables e below (s₁.setTop (mkF m 22 #[.val (.long q0), .second, .val (.long q1), .second, .val (.int p2), .val (.int (p2 &&& (3 : Int32))), .val (.int v1), .unset, .unset, .unset, .unset, .unset, .unset, .unset, .unset, .unset, .unset, .unset] [])) _
    refine XS.iload X0.here hx rfl (hb hby at_22) rfl ?_
    show Steps p.tables e below (s₁.setTop (mkF m 24 #[.val (.long q0), .second, .val (.long q1), .second, .val (.int p2), .val (.int (p2 &&& (3 : Int32))), .val (.int v1), .unset, .unset, .unset, .unset, .unset, .unset, .unset, .unset, .unset, .unset, .unset] [(.int p2)])) _
    refine XS.iconst X0.here hx rfl (hb hby at_24) ?_
    show Steps p.tables e below (s₁.setTop (mkF m 25 #[.val (.long q0), .second, .val (.long q1), .second, .val (.int p2), .val (.int (p2 &&& (3 : Int32))), .val (.int v1), .unset, .unset, .unset, .unset, .unset, .unset, .unset, .unset, .unset, .unset, .unset] [(.int (3 : Int32)), (.int p2)])) _
    refine XS.iushr X0.here hx rfl (hb hby at_25) rfl ?_
    show Steps p.tables e below (s₁.setTop (mkF m 26 #[.val (.long q0), .second, .val (.long q1), .second, .val (.int p2), .val (.int (p2 &&& (3 : Int32))), .val (.int v1), .unset, .unset, .unset, .unset, .unset, .unset, .unset, .unset, .unset, .unset, .unset] [(.int ((p2.toUInt32 >>> ((3 : Int32) &&& 31).toUInt32).toInt32))])) _
    refine XS.iconst X0.here hx rfl (hb hby at_26) ?_
    show Steps p.tables e below (s₁.setTop (mkF m 27 #[.val (.long q0), .second, .val (.long q1), .second, .val (.int p2), .val (.int (p2 &&& (3 : Int32))), .val (.int v1), .unset, .unset, .unset, .unset, .unset, .unset, .unset, .unset, .unset, .unset, .unset] [(.int (1 : Int32)), (.int ((p2.toUInt32 >>> ((3 : Int32) &&& 31).toUInt32).toInt32))])) _
    refine XS.iand X0.here hx rfl (hb hby at_27) rfl ?_
    show Steps p.tables e below (s₁.setTop (mkF m 28 #[.val (.long q0), .second, .val (.long q1), .second, .val (.int p2), .val (.int (p2 &&& (3 : Int32))), .val (.int v1), .unset, .unset, .unset, .unset, .unset, .unset, .unset, .unset, .unset, .unset, .unset] [(.int (((p2.toUInt32 >>> ((3 : Int32) &&& 31).toUInt32).toInt32) &&& (1 : Int32)))])) _
    exact kt
  obtain ⟨v2, hv2⟩ : ∃ z : Int32, z = (if (((p2.toUInt32 >>> ((3 : Int32) &&& 31).toUInt32).toInt32) &&& (1 : Int32)) = (0 : Int32) then (0 : Int32) else (1 : Int32)) := ⟨_, rfl⟩
  have pre139 : ∀ t, Steps p.tables e below (s₁.setTop (mkF m 36 #[.val (.long q0), .second, .val (.long q1), .second, .val (.int p2), .val (.int (p2 &&& (3 : Int32))), .val (.int v1), .unset, .unset, .unset, .unset, .unset, .unset, .unset, .unset, .unset, .unset, .unset] [(.int v2)])) t → Steps p.tables e below (s₁.setTop (entryFrame m #[(.long q0), (.long q1), (.int p2)] maxLocals)) t := fun t kt => by
    refine pre137 _ ?_
    show Steps p.tables e below (s₁.setTop (mkF m 28 #[.val (.long q0), .second, .val (.long q1), .second, .val (.int p2), .val (.int (p2 &&& (3 : Int32))), .val (.int v1), .unset, .unset, .unset, .unset, .unset, .unset, .unset, .unset, .unset, .unset, .unset] [(.int (((p2.toUInt32 >>> ((3 : Int32) &&& 31).toUInt32).toInt32) &&& (1 : Int32)))])) _
    by_cases hc138 : (((p2.toUInt32 >>> ((3 : Int32) &&& 31).toUInt32).toInt32) &&& (1 : Int32)) = (0 : Int32)
    · rw [if_pos hc138] at hv2
      refine XS.ifYes X0.here hx rfl (pc0 := 28) (pc' := 35) rfl (hb hby at_28) rfl ((if0 _ _).trans (teq hc138).1) (by decide) (by decide) ?_
      show Steps p.tables e below (s₁.setTop (mkF m 35 #[.val (.long q0), .second, .val (.long q1), .second, .val (.int p2), .val (.int (p2 &&& (3 : Int32))), .val (.int v1), .unset, .unset, .unset, .unset, .unset, .unset, .unset, .unset, .unset, .unset, .unset] [])) _
      refine XS.iconst X0.here hx rfl (hb hby at_35) ?_
      subst hv2
      exact kt
    · rw [if_neg hc138] at hv2
      refine XS.ifNo X0.here hx rfl (hb hby at_28) rfl ((if0 _ _).trans (feq hc138).1) ?_
      show Steps p.tables e below (s₁.setTop (mkF m 31 #[.val (.long q0), .second, .val (.long q1), .second, .val (.int p2), .val (.int (p2 &&& (3 : Int32))), .val (.int v1), .unset, .unset, .unset, .unset, .unset, .unset, .unset, .unset, .unset, .unset, .unset] [])) _
      refine XS.iconst X0.here hx rfl (hb hby at_31) ?_
      show Steps p.tables e below (s₁.setTop (mkF m 32 #[.val (.long q0), .second, .val (.long q1), .second, .val (.int p2), .val (.int (p2 &&& (3 : Int32))), .val (.int v1), .unset, .unset, .unset, .unset, .unset, .unset, .unset, .unset, .unset, .unset, .unset] [(.int (1 : Int32))])) _
      refine XS.goto X0.here hx rfl (pc0 := 32) (pc' := 36) rfl (hb hby at_32) (by decide) (by decide) ?_
      subst hv2
      exact kt
  have pre140 : ∀ t, Steps p.tables e below (s₁.setTop (mkF m 44 #[.val (.long q0), .second, .val (.long q1), .second, .val (.int p2), .val (.int (p2 &&& (3 : Int32))), .val (.int v1), .val (.int v2), .unset, .unset, .unset, .unset, .unset, .unset, .unset, .unset, .unset, .unset] [(.int (((p2.toUInt32 >>> ((4 : Int32) &&& 31).toUInt32).toInt32) &&& (1 : Int32)))])) t → Steps p.tables e below (s₁.setTop (entryFrame m #[(.long q0), (.long q1), (.int p2)] maxLocals)) t := fun t kt => by
    refine pre139 _ ?_
    show Steps p.tables e below (s₁.setTop (mkF m 36 #[.val (.long q0), .second, .val (.long q1), .second, .val (.int p2), .val (.int (p2 &&& (3 : Int32))), .val (.int v1), .unset, .unset, .unset, .unset, .unset, .unset, .unset, .unset, .unset, .unset, .unset] [(.int v2)])) _
    refine XS.istore X0.here hx rfl (hb hby at_36) rfl (l' := #[.val (.long q0), .second, .val (.long q1), .second, .val (.int p2), .val (.int (p2 &&& (3 : Int32))), .val (.int v1), .val (.int v2), .unset, .unset, .unset, .unset, .unset, .unset, .unset, .unset, .unset, .unset]) rfl ?_
    show Steps p.tables e below (s₁.setTop (mkF m 38 #[.val (.long q0), .second, .val (.long q1), .second, .val (.int p2), .val (.int (p2 &&& (3 : Int32))), .val (.int v1), .val (.int v2), .unset, .unset, .unset, .unset, .unset, .unset, .unset, .unset, .unset, .unset] [])) _
    refine XS.iload X0.here hx rfl (hb hby at_38) rfl ?_
    show Steps p.tables e below (s₁.setTop (mkF m 40 #[.val (.long q0), .second, .val (.long q1), .second, .val (.int p2), .val (.int (p2 &&& (3 : Int32))), .val (.int v1), .val (.int v2), .unset, .unset, .unset, .unset, .unset, .unset, .unset, .unset, .unset, .unset] [(.int p2)])) _
    refine XS.iconst X0.here hx rfl (hb hby at_40) ?_
    show Steps p.tables e below (s₁.setTop (mkF m 41 #[.val (.long q0), .second, .val (.long q1), .second, .val (.int p2), .val (.int (p2 &&& (3 : Int32))), .val (.int v1), .val (.int v2), .unset, .unset, .unset, .unset, .unset, .unset, .unset, .unset, .unset, .unset] [(.int (4 : Int32)), (.int p2)])) _
    refine XS.iushr X0.here hx rfl (hb hby at_41) rfl ?_
    show Steps p.tables e below (s₁.setTop (mkF m 42 #[.val (.long q0), .second, .val (.long q1), .second, .val (.int p2), .val (.int (p2 &&& (3 : Int32))), .val (.int v1), .val (.int v2), .unset, .unset, .unset, .unset, .unset, .unset, .unset, .unset, .unset, .unset] [(.int ((p2.toUInt32 >>> ((4 : Int32) &&& 31).toUInt32).toInt32))])) _
    refine XS.iconst X0.here hx rfl (hb hby at_42) ?_
    show Steps p.tables e below (s₁.setTop (mkF m 43 #[.val (.long q0), .second, .val (.long q1), .second, .val (.int p2), .val (.int (p2 &&& (3 : Int32))), .val (.int v1), .val (.int v2), .unset, .unset, .unset, .unset, .unset, .unset, .unset, .unset, .unset, .unset] [(.int (1 : Int32)), (.int ((p2.toUInt32 >>> ((4 : Int32) &&& 31).toUInt32).toInt32))])) _
    refine XS.iand X0.here hx rfl (hb hby at_43) rfl ?_
    show Steps p.tables e below (s₁.setTop (mkF m 44 #[.val (.long q0), .second, .val (.long q1), .second, .val (.int p2), .val (.int (p2 &&& (3 : Int32))), .val (.int v1), .val (.int v2), .unset, .unset, .unset, .unset, .unset, .unset, .unset, .unset, .unset, .unset] [(.int (((p2.toUInt32 >>> ((4 : Int32) &&& 31).toUInt32).toInt32) &&& (1 : Int32)))])) _
    exact kt
  obtain ⟨v3, hv3⟩ : ∃ z : Int32, z = (if (((p2.toUInt32 >>> ((4 : Int32) &&& 31).toUInt32).toInt32) &&& (1 : Int32)) = (0 : Int32) then (0 : Int32) else (1 : Int32)) := ⟨_, rfl⟩
  have pre142 : ∀ t, Steps p.tables e below (s₁.setTop (mkF m 52 #[.val (.long q0), .second, .val (.long q1), .second, .val (.int p2), .val (.int (p2 &&& (3 : Int32))), .val (.int v1), .val (.int v2), .unset, .unset, .unset, .unset, .unset, .unset, .unset, .unset, .unset, .unset] [(.int v3)])) t → Steps p.tables e below (s₁.setTop (entryFrame m #[(.long q0), (.long q1), (.int p2)] maxLocals)) t := fun t kt => by
    refine pre140 _ ?_
    show Steps p.tables e below (s₁.setTop (mkF m 44 #[.val (.long q0), .second, .val (.long q1), .second, .val (.int p2), .val (.int (p2 &&& (3 : Int32))), .val (.int v1), .val (.int v2), .unset, .unset, .unset, .unset, .unset, .unset, .unset, .unset, .unset, .unset] [(.int (((p2.toUInt32 >>> ((4 : Int32) &&& 31).toUInt32).toInt32) &&& (1 : Int32)))])) _
    by_cases hc141 : (((p2.toUInt32 >>> ((4 : Int32) &&& 31).toUInt32).toInt32) &&& (1 : Int32)) = (0 : Int32)
    · rw [if_pos hc141] at hv3
      refine XS.ifYes X0.here hx rfl (pc0 := 44) (pc' := 51) rfl (hb hby at_44) rfl ((if0 _ _).trans (teq hc141).1) (by decide) (by decide) ?_
      show Steps p.tables e below (s₁.setTop (mkF m 51 #[.val (.long q0), .second, .val (.long q1), .second, .val (.int p2), .val (.int (p2 &&& (3 : Int32))), .val (.int v1), .val (.int v2), .unset, .unset, .unset, .unset, .unset, .unset, .unset, .unset, .unset, .unset] [])) _
      refine XS.iconst X0.here hx rfl (hb hby at_51) ?_
      subst hv3
      exact kt
    · rw [if_neg hc141] at hv3
      refine XS.ifNo X0.here hx rfl (hb hby at_44) rfl ((if0 _ _).trans (feq hc141).1) ?_
      show Steps p.tables e below (s₁.setTop (mkF m 47 #[.val (.long q0), .second, .val (.long q1), .second, .val (.int p2), .val (.int (p2 &&& (3 : Int32))), .val (.int v1), .val (.int v2), .unset, .unset, .unset, .unset, .unset, .unset, .unset, .unset, .unset, .unset] [])) _
      refine XS.iconst X0.here hx rfl (hb hby at_47) ?_
      show Steps p.tables e below (s₁.setTop (mkF m 48 #[.val (.long q0), .second, .val (.long q1), .second, .val (.int p2), .val (.int (p2 &&& (3 : Int32))), .val (.int v1), .val (.int v2), .unset, .unset, .unset, .unset, .unset, .unset, .unset, .unset, .unset, .unset] [(.int (1 : Int32))])) _
      refine XS.goto X0.here hx rfl (pc0 := 48) (pc' := 52) rfl (hb hby at_48) (by decide) (by decide) ?_
      subst hv3
      exact kt
  obtain ⟨T143, h143, X143, e143, E143, A143, D143, -, st143⟩ := newO X0 hx hZ hown (hw _ (List.mem_of_getElem? (i := 0) rfl)) (hw _ (List.mem_of_getElem? (i := 1) rfl)) (hw _ (List.mem_of_getElem? (i := 2) rfl)) e0 (g := (mkF m 54 #[.val (.long q0), .second, .val (.long q1), .second, .val (.int p2), .val (.int (p2 &&& (3 : Int32))), .val (.int v1), .val (.int v2), .val (.int v3), .unset, .unset, .unset, .unset, .unset, .unset, .unset, .unset, .unset] [])) rfl (hb hby at_54) (by decide) (by decide)
  obtain ⟨b143, g143⟩ : ∃ z, z = h0.size := ⟨_, rfl⟩
  rw [← g143] at A143 D143 st143
  have g_b143 : n0 ≤ b143 := Nat.le_trans Z0 (Nat.le_of_eq g143.symm)
  have Z144 : n0 ≤ h143.size := Nat.le_trans Z0 E143.1
  have F143_required : Fld Z h143 b143 "com/example/strict_pdp/strictpdp/expression/ThreeValued$Count" "required" "J" (.long (0 : Int64)) := D143 (Or.inr (hw _ (List.mem_of_getElem? (i := 10) rfl))) (ty := .long) (by decide)
  have F143_allowedFalse : Fld Z h143 b143 "com/example/strict_pdp/strictpdp/expression/ThreeValued$Count" "allowedFalse" "J" (.long (0 : Int64)) := D143 (Or.inr (hw _ (List.mem_of_getElem? (i := 12) rfl))) (ty := .long) (by decide)
  have F143_trues : Fld Z h143 b143 "com/example/strict_pdp/strictpdp/expression/ThreeValued$Count" "trues" "J" (.long (0 : Int64)) := D143 (Or.inl (hw _ (List.mem_of_getElem? (i := 19) rfl))) (ty := .long) (by decide)
  have F143_falses : Fld Z h143 b143 "com/example/strict_pdp/strictpdp/expression/ThreeValued$Count" "falses" "J" (.long (0 : Int64)) := D143 (Or.inl (hw _ (List.mem_of_getElem? (i := 21) rfl))) (ty := .long) (by decide)
  have F143_indeterminate : Fld Z h143 b143 "com/example/strict_pdp/strictpdp/expression/ThreeValued$Count" "indeterminate" "Lcom/example/strict_pdp/strictpdp/Status;" .null := D143 (Or.inl (hw _ (List.mem_of_getElem? (i := 28) rfl))) (ty := (.object "com/example/strict_pdp/strictpdp/Status")) (by decide)
  obtain ⟨_, _, ⟨T145, L145, k145, n145⟩, -, X145, ⟨Lc145, hQ145, l145, y145, z145⟩, st145⟩ := X143.specialBack hx (y := (⟨"com/example/strict_pdp/strictpdp/expression/ThreeValued$Count", "<init>", "(JJ)V"⟩ : MethodName)) rfl hown (mvT hZ (hw _ (List.mem_of_getElem? (i := 3) rfl))) (mvT hZ (hw _ (List.mem_of_getElem? (i := 4) rfl))) (mvT hZ (hw _ (List.mem_of_getElem? (i := 5) rfl))) (by decide) (backOf (W := 1) (rm1 l Z aq hw [] b143 q0 q1 (0 : Int64) (0 : Int64) (0 : Int64) (0 : Int64) h143 n0 Z144 A143 F143_required F143_allowedFalse F143_trues F143_falses F143_indeterminate g_b143) hZ (hw _ (List.mem_of_getElem? (i := 5) rfl)) (hw _ (List.mem_of_getElem? (i := 2) rfl)) (by decide) (by decide)) (g := (mkF m 60 #[.val (.long q0), .second, .val (.long q1), .second, .val (.int p2), .val (.int (p2 &&& (3 : Int32))), .val (.int v1), .val (.int v2), .val (.int v3), .unset, .unset, .unset, .unset, .unset, .unset, .unset, .unset, .unset] [(.long q1), (.long q0), (.ref b143), (.ref b143)])) rfl (by rw [hml]; rfl) (Steps.refl _) (a := b143) (argsL := [(.long q0), (.long q1)]) (rest := [(.ref b143)]) (lenOf pd84330432 rfl) rfl (by show 2 * 0 + _ ≤ _; exact Nat.le_of_eq rfl) (hb hby at_60) (fun _ _ => ⟨rfl, e143, (by decide : 1 + 0 ≤ _), (by decide : 5 + 0 ≤ _)⟩)
  dsimp only [Pt.U, Pt.locs, Pt.cells, Pt.slots] at X145 l145 y145 z145 st145 hQ145
  subst l145 y145 z145
  obtain ⟨rfl, N145q, K145, E145_0, F145_0, F145_1, F145_2, F145_3, F145_4⟩ := hQ145
  have Z146 : n0 ≤ T145.heap.size := Nat.le_trans Z144 K145.1
  have N147 := Fr.app N0 N145q
  have pre148 : ∀ t, Steps p.tables e below (T145.setTop (mkF m 74 #[.val (.long q0), .second, .val (.long q1), .second, .val (.int p2), .val (.int (p2 &&& (3 : Int32))), .val (.int v1), .val (.int v2), .val (.int v3), .val (.ref b143), .val (.long (0 : Int64)), .second, .val (.long (0 : Int64)), .second, .unset, .unset, .unset, .unset] [(.int (1 : Int32)), (.int (p2 &&& (3 : Int32)))])) t → Steps p.tables e below (s₁.setTop (entryFrame m #[(.long q0), (.long q1), (.int p2)] maxLocals)) t := fun t kt => by
    refine pre142 _ ?_
    show Steps p.tables e below (s₁.setTop (mkF m 52 #[.val (.long q0), .second, .val (.long q1), .second, .val (.int p2), .val (.int (p2 &&& (3 : Int32))), .val (.int v1), .val (.int v2), .unset, .unset, .unset, .unset, .unset, .unset, .unset, .unset, .unset, .unset] [(.int v3)])) _
    refine XS.istore X0.here hx rfl (hb hby at_52) rfl (l' := #[.val (.long q0), .second, .val (.long q1), .second, .val (.int p2), .val (.int (p2 &&& (3 : Int32))), .val (.int v1), .val (.int v2), .val (.int v3), .unset, .unset, .unset, .unset, .unset, .unset, .unset, .unset, .unset]) rfl ?_
    show Steps p.tables e below (s₁.setTop (mkF m 54 #[.val (.long q0), .second, .val (.long q1), .second, .val (.int p2), .val (.int (p2 &&& (3 : Int32))), .val (.int v1), .val (.int v2), .val (.int v3), .unset, .unset, .unset, .unset, .unset, .unset, .unset, .unset, .unset] [])) _
    refine st143 _ ?_
    show Steps p.tables e below (T143.setTop (mkF m 57 #[.val (.long q0), .second, .val (.long q1), .second, .val (.int p2), .val (.int (p2 &&& (3 : Int32))), .val (.int v1), .val (.int v2), .val (.int v3), .unset, .unset, .unset, .unset, .unset, .unset, .unset, .unset, .unset] [(.ref b143)])) _
    refine XS.dup X143.here hx rfl (hb hby at_57) rfl rfl ?_
    show Steps p.tables e below (T143.setTop (mkF m 58 #[.val (.long q0), .second, .val (.long q1), .second, .val (.int p2), .val (.int (p2 &&& (3 : Int32))), .val (.int v1), .val (.int v2), .val (.int v3), .unset, .unset, .unset, .unset, .unset, .unset, .unset, .unset, .unset] [(.ref b143), (.ref b143)])) _
    refine XS.lloadN X143.here hx rfl (hb hby at_58) rfl ?_
    show Steps p.tables e below (T143.setTop (mkF m 59 #[.val (.long q0), .second, .val (.long q1), .second, .val (.int p2), .val (.int (p2 &&& (3 : Int32))), .val (.int v1), .val (.int v2), .val (.int v3), .unset, .unset, .unset, .unset, .unset, .unset, .unset, .unset, .unset] [(.long q0), (.ref b143), (.ref b143)])) _
    refine XS.lloadN X143.here hx rfl (hb hby at_59) rfl ?_
    show Steps p.tables e below (T143.setTop (mkF m 60 #[.val (.long q0), .second, .val (.long q1), .second, .val (.int p2), .val (.int (p2 &&& (3 : Int32))), .val (.int v1), .val (.int v2), .val (.int v3), .unset, .unset, .unset, .unset, .unset, .unset, .unset, .unset, .unset] [(.long q1), (.long q0), (.ref b143), (.ref b143)])) _
    refine st145.trans ?_
    show Steps p.tables e below (T145.setTop (mkF m 63 #[.val (.long q0), .second, .val (.long q1), .second, .val (.int p2), .val (.int (p2 &&& (3 : Int32))), .val (.int v1), .val (.int v2), .val (.int v3), .unset, .unset, .unset, .unset, .unset, .unset, .unset, .unset, .unset] [(.ref b143)])) _
    refine XS.astore X145.here hx rfl (hb hby at_63) rfl rfl (l' := #[.val (.long q0), .second, .val (.long q1), .second, .val (.int p2), .val (.int (p2 &&& (3 : Int32))), .val (.int v1), .val (.int v2), .val (.int v3), .val (.ref b143), .unset, .unset, .unset, .unset, .unset, .unset, .unset, .unset]) rfl ?_
    show Steps p.tables e below (T145.setTop (mkF m 65 #[.val (.long q0), .second, .val (.long q1), .second, .val (.int p2), .val (.int (p2 &&& (3 : Int32))), .val (.int v1), .val (.int v2), .val (.int v3), .val (.ref b143), .unset, .unset, .unset, .unset, .unset, .unset, .unset, .unset] [])) _
    refine XS.lconst X145.here hx rfl (hb hby at_65) ?_
    show Steps p.tables e below (T145.setTop (mkF m 66 #[.val (.long q0), .second, .val (.long q1), .second, .val (.int p2), .val (.int (p2 &&& (3 : Int32))), .val (.int v1), .val (.int v2), .val (.int v3), .val (.ref b143), .unset, .unset, .unset, .unset, .unset, .unset, .unset, .unset] [(.long (0 : Int64))])) _
    refine XS.lstore X145.here hx rfl (hb hby at_66) rfl (l' := #[.val (.long q0), .second, .val (.long q1), .second, .val (.int p2), .val (.int (p2 &&& (3 : Int32))), .val (.int v1), .val (.int v2), .val (.int v3), .val (.ref b143), .val (.long (0 : Int64)), .second, .unset, .unset, .unset, .unset, .unset, .unset]) rfl ?_
    show Steps p.tables e below (T145.setTop (mkF m 68 #[.val (.long q0), .second, .val (.long q1), .second, .val (.int p2), .val (.int (p2 &&& (3 : Int32))), .val (.int v1), .val (.int v2), .val (.int v3), .val (.ref b143), .val (.long (0 : Int64)), .second, .unset, .unset, .unset, .unset, .unset, .unset] [])) _
    refine XS.lconst X145.here hx rfl (hb hby at_68) ?_
    show Steps p.tables e below (T145.setTop (mkF m 69 #[.val (.long q0), .second, .val (.long q1), .second, .val (.int p2), .val (.int (p2 &&& (3 : Int32))), .val (.int v1), .val (.int v2), .val (.int v3), .val (.ref b143), .val (.long (0 : Int64)), .second, .unset, .unset, .unset, .unset, .unset, .unset] [(.long (0 : Int64))])) _
    refine XS.lstore X145.here hx rfl (hb hby at_69) rfl (l' := #[.val (.long q0), .second, .val (.long q1), .second, .val (.int p2), .val (.int (p2 &&& (3 : Int32))), .val (.int v1), .val (.int v2), .val (.int v3), .val (.ref b143), .val (.long (0 : Int64)), .second, .val (.long (0 : Int64)), .second, .unset, .unset, .unset, .unset]) rfl ?_
    show Steps p.tables e below (T145.setTop (mkF m 71 #[.val (.long q0), .second, .val (.long q1), .second, .val (.int p2), .val (.int (p2 &&& (3 : Int32))), .val (.int v1), .val (.int v2), .val (.int v3), .val (.ref b143), .val (.long (0 : Int64)), .second, .val (.long (0 : Int64)), .second, .unset, .unset, .unset, .unset] [])) _
    refine XS.iload X145.here hx rfl (hb hby at_71) rfl ?_
    show Steps p.tables e below (T145.setTop (mkF m 73 #[.val (.long q0), .second, .val (.long q1), .second, .val (.int p2), .val (.int (p2 &&& (3 : Int32))), .val (.int v1), .val (.int v2), .val (.int v3), .val (.ref b143), .val (.long (0 : Int64)), .second, .val (.long (0 : Int64)), .second, .unset, .unset, .unset, .unset] [(.int (p2 &&& (3 : Int32)))])) _
    refine XS.iconst X145.here hx rfl (hb hby at_73) ?_
    show Steps p.tables e below (T145.setTop (mkF m 74 #[.val (.long q0), .second, .val (.long q1), .second, .val (.int p2), .val (.int (p2 &&& (3 : Int32))), .val (.int v1), .val (.int v2), .val (.int v3), .val (.ref b143), .val (.long (0 : Int64)), .second, .val (.long (0 : Int64)), .second, .unset, .unset, .unset, .unset] [(.int (1 : Int32)), (.int (p2 &&& (3 : Int32)))])) _
    exact kt
  obtain ⟨v4, hv4⟩ : ∃ z : Int64, z = (if (p2 &&& (3 : Int32)) < (1 : Int32) then (0 : Int64) else (if v1 = (0 : Int32) then (0 : Int64) else ((0 : Int64) + (1 : Int64)))) := ⟨_, rfl⟩
  obtain ⟨v5, hv5⟩ : ∃ z : Int64, z = (if (p2 &&& (3 : Int32)) < (1 : Int32) then (0 : Int64) else (if v1 = (0 : Int32) then ((0 : Int64) + (1 : Int64)) else (0 : Int64))) := ⟨_, rfl⟩
  obtain ⟨v6, hv6⟩ : ∃ z : Int64, z = (if (p2 &&& (3 : Int32)) < (1 : Int32) then (0 : Int64) else (if v1 = (0 : Int32) then (0 : Int64) else ((0 : Int64) + (1 : Int64)))) := ⟨_, rfl⟩
  obtain ⟨v7, hv7⟩ : ∃ z : Int64, z = (if (p2 &&& (3 : Int32)) < (1 : Int32) then (0 : Int64) else (if v1 = (0 : Int32) then ((0 : Int64) + (1 : Int64)) else (0 : Int64))) := ⟨_, rfl⟩
  obtain ⟨T155, L155, X155, N155, Z155, E156, F157, F158, F159, F160, F161, pre155⟩ : ∃ (T' : State) (L' : List Loc), Stand p l e room_1 s m #[(.long q0), (.long q1), (.int p2)] below meth c T' L' 1 5 ∧ Fr n0 L' ∧ n0 ≤ T'.heap.size ∧ Exa Z T'.heap b143 "com/example/strict_pdp/strictpdp/expression/ThreeValued$Count" ∧ Fld Z T'.heap b143 "com/example/strict_pdp/strictpdp/expression/ThreeValued$Count" "required" "J" (.long q0) ∧ Fld Z T'.heap b143 "com/example/strict_pdp/strictpdp/expression/ThreeValued$Count" "allowedFalse" "J" (.long q1) ∧ Fld Z T'.heap b143 "com/example/strict_pdp/strictpdp/expression/ThreeValued$Count" "trues" "J" (.long v6) ∧ Fld Z T'.heap b143 "com/example/strict_pdp/strictpdp/expression/ThreeValued$Count" "falses" "J" (.long v7) ∧ Fld Z T'.heap b143 "com/example/strict_pdp/strictpdp/expression/ThreeValued$Count" "indeterminate" "Lcom/example/strict_pdp/strictpdp/Status;" .null ∧ ∀ t, Steps p.tables e below (T'.setTop (mkF m 104 #[.val (.long q0), .second, .val (.long q1), .second, .val (.int p2), .val (.int (p2 &&& (3 : Int32))), .val (.int v1), .val (.int v2), .val (.int v3), .val (.ref b143), .val (.long v4), .second, .val (.long v5), .second, .unset, .unset, .unset, .unset] [])) t → Steps p.tables e below (s₁.setTop (entryFrame m #[(.long q0), (.long q1), (.int p2)] maxLocals)) t := by
    by_cases hc162 : (p2 &&& (3 : Int32)) < (1 : Int32)
    · skip
      have pre163 : ∀ t, Steps p.tables e below (T145.setTop (mkF m 104 #[.val (.long q0), .second, .val (.long q1), .second, .val (.int p2), .val (.int (p2 &&& (3 : Int32))), .val (.int v1), .val (.int v2), .val (.int v3), .val (.ref b143), .val (.long (0 : Int64)), .second, .val (.long (0 : Int64)), .second, .unset, .unset, .unset, .unset] [])) t → Steps p.tables e below (s₁.setTop (entryFrame m #[(.long q0), (.long q1), (.int p2)] maxLocals)) t := fun t kt => by
        refine pre148 _ ?_
        show Steps p.tables e below (T145.setTop (mkF m 74 #[.val (.long q0), .second, .val (.long q1), .second, .val (.int p2), .val (.int (p2 &&& (3 : Int32))), .val (.int v1), .val (.int v2), .val (.int v3), .val (.ref b143), .val (.long (0 : Int64)), .second, .val (.long (0 : Int64)), .second, .unset, .unset, .unset, .unset] [(.int (1 : Int32)), (.int (p2 &&& (3 : Int32)))])) _
        refine XS.icmpYes X145.here hx rfl (pc0 := 74) (pc' := 104) rfl (hb hby at_74) rfl (tlt hc162).1 (by decide) (by decide) ?_
        show Steps p.tables e below (T145.setTop (mkF m 104 #[.val (.long q0), .second, .val (.long q1), .second, .val (.int p2), .val (.int (p2 &&& (3 : Int32))), .val (.int v1), .val (.int v2), .val (.int v3), .val (.ref b143), .val (.long (0 : Int64)), .second, .val (.long (0 : Int64)), .second, .unset, .unset, .unset, .unset] [])) _
        exact kt
      rw [if_pos hc162] at hv4 hv5 hv6 hv7
      subst hv4
      subst hv5
      subst hv6
      subst hv7
      exact ⟨_, _, X145, N147, Z146, E145_0, F145_0, F145_1, F145_2, F145_3, F145_4, pre163⟩
    · skip
      obtain ⟨cq164, kq164, q164a, q164b, q164c⟩ := isOf hZ rfl E145_0
      obtain ⟨_, _, ⟨T164, L164, k164, n164⟩, -, X164, ⟨Lc164, hQ164, l164, y164, z164⟩, st164⟩ := X145.virtualBack hx (y := (⟨"com/example/strict_pdp/strictpdp/expression/ThreeValued$Count", "add", "(Z)V"⟩ : MethodName)) (z := (⟨"com/example/strict_pdp/strictpdp/expression/ThreeValued$Count", "add", "(Z)V"⟩ : MethodName)) hown (mvT hZ (hw _ (List.mem_of_getElem? (i := 29) rfl))) (mvT hZ (hw _ (List.mem_of_getElem? (i := 30) rfl))) (notFace_of_selects (args := #[]) (mvT hZ (hw _ (List.mem_of_getElem? (i := 32) rfl)))) (mvT hZ (hw _ (List.mem_of_getElem? (i := 32) rfl))) (mvT hZ (hw _ (List.mem_of_getElem? (i := 31) rfl))) (by decide) (backOf (W := 0) (rm5 l Z aq hw [] b143 v1 q0 q1 (0 : Int64) (0 : Int64) T145.heap n0 Z146 E145_0 F145_0 F145_1 F145_2 F145_3 F145_4 g_b143) hZ (hw _ (List.mem_of_getElem? (i := 33) rfl)) (hw _ (List.mem_of_getElem? (i := 2) rfl)) (by decide) (by decide)) q164a q164c (g := (mkF m 81 #[.val (.long q0), .second, .val (.long q1), .second, .val (.int p2), .val (.int (p2 &&& (3 : Int32))), .val (.int v1), .val (.int v2), .val (.int v3), .val (.ref b143), .val (.long (0 : Int64)), .second, .val (.long (0 : Int64)), .second, .unset, .unset, .unset, .unset] [(.int v1), (.ref b143)])) rfl (by rw [hml]; rfl) (Steps.refl _) (argsL := [(.int v1)]) (rest := []) (lenOf pd88010534 rfl) rfl (by show 2 * 0 + _ ≤ _; exact Nat.le_of_eq rfl) (hb hby at_81) (fun _ _ => ⟨rfl, rfl, (by decide : 1 + 0 ≤ _), (by decide : 5 + 0 ≤ _)⟩)
      dsimp only [Pt.U, Pt.locs, Pt.cells, Pt.slots] at X164 l164 y164 z164 st164 hQ164
      subst l164 y164 z164
      obtain ⟨rfl, N164q, K164, E164_0, F164_0, F164_1, F164_2, F164_3, F164_4⟩ := hQ164
      have Z165 : n0 ≤ T164.heap.size := Nat.le_trans Z146 K164.1
      have N166 := Fr.app N147 N164q
      have pre167 : ∀ t, Steps p.tables e below (T164.setTop (mkF m 86 #[.val (.long q0), .second, .val (.long q1), .second, .val (.int p2), .val (.int (p2 &&& (3 : Int32))), .val (.int v1), .val (.int v2), .val (.int v3), .val (.ref b143), .val (.long (0 : Int64)), .second, .val (.long (0 : Int64)), .second, .unset, .unset, .unset, .unset] [(.int v1)])) t → Steps p.tables e below (s₁.setTop (entryFrame m #[(.long q0), (.long q1), (.int p2)] maxLocals)) t := fun t kt => by
        refine pre148 _ ?_
        show Steps p.tables e below (T145.setTop (mkF m 74 #[.val (.long q0), .second, .val (.long q1), .second, .val (.int p2), .val (.int (p2 &&& (3 : Int32))), .val (.int v1), .val (.int v2), .val (.int v3), .val (.ref b143), .val (.long (0 : Int64)), .second, .val (.long (0 : Int64)), .second, .unset, .unset, .unset, .unset] [(.int (1 : Int32)), (.int (p2 &&& (3 : Int32)))])) _
        refine XS.icmpNo X145.here hx rfl (hb hby at_74) rfl (flt hc162).1 ?_
        show Steps p.tables e below (T145.setTop (mkF m 77 #[.val (.long q0), .second, .val (.long q1), .second, .val (.int p2), .val (.int (p2 &&& (3 : Int32))), .val (.int v1), .val (.int v2), .val (.int v3), .val (.ref b143), .val (.long (0 : Int64)), .second, .val (.long (0 : Int64)), .second, .unset, .unset, .unset, .unset] [])) _
        refine XS.aload X145.here hx rfl (hb hby at_77) rfl rfl ?_
        show Steps p.tables e below (T145.setTop (mkF m 79 #[.val (.long q0), .second, .val (.long q1), .second, .val (.int p2), .val (.int (p2 &&& (3 : Int32))), .val (.int v1), .val (.int v2), .val (.int v3), .val (.ref b143), .val (.long (0 : Int64)), .second, .val (.long (0 : Int64)), .second, .unset, .unset, .unset, .unset] [(.ref b143)])) _
        refine XS.iload X145.here hx rfl (hb hby at_79) rfl ?_
        show Steps p.tables e below (T145.setTop (mkF m 81 #[.val (.long q0), .second, .val (.long q1), .second, .val (.int p2), .val (.int (p2 &&& (3 : Int32))), .val (.int v1), .val (.int v2), .val (.int v3), .val (.ref b143), .val (.long (0 : Int64)), .second, .val (.long (0 : Int64)), .second, .unset, .unset, .unset, .unset] [(.int v1), (.ref b143)])) _
        refine st164.trans ?_
        show Steps p.tables e below (T164.setTop (mkF m 84 #[.val (.long q0), .second, .val (.long q1), .second, .val (.int p2), .val (.int (p2 &&& (3 : Int32))), .val (.int v1), .val (.int v2), .val (.int v3), .val (.ref b143), .val (.long (0 : Int64)), .second, .val (.long (0 : Int64)), .second, .unset, .unset, .unset, .unset] [])) _
        refine XS.iload X164.here hx rfl (hb hby at_84) rfl ?_
        show Steps p.tables e below (T164.setTop (mkF m 86 #[.val (.long q0), .second, .val (.long q1), .second, .val (.int p2), .val (.int (p2 &&& (3 : Int32))), .val (.int v1), .val (.int v2), .val (.int v3), .val (.ref b143), .val (.long (0 : Int64)), .second, .val (.long (0 : Int64)), .second, .unset, .unset, .unset, .unset] [(.int v1)])) _
        exact kt
      by_cases hc168 : v1 = (0 : Int32)
      · skip
        have pre169 : ∀ t, Steps p.tables e below (T164.setTop (mkF m 104 #[.val (.long q0), .second, .val (.long q1), .second, .val (.int p2), .val (.int (p2 &&& (3 : Int32))), .val (.int v1), .val (.int v2), .val (.int v3), .val (.ref b143), .val (.long (0 : Int64)), .second, .val (.long ((0 : Int64) + (1 : Int64))), .second, .unset, .unset, .unset, .unset] [])) t → Steps p.tables e below (s₁.setTop (entryFrame m #[(.long q0), (.long q1), (.int p2)] maxLocals)) t := fun t kt => by
          refine pre167 _ ?_
          show Steps p.tables e below (T164.setTop (mkF m 86 #[.val (.long q0), .second, .val (.long q1), .second, .val (.int p2), .val (.int (p2 &&& (3 : Int32))), .val (.int v1), .val (.int v2), .val (.int v3), .val (.ref b143), .val (.long (0 : Int64)), .second, .val (.long (0 : Int64)), .second, .unset, .unset, .unset, .unset] [(.int v1)])) _
          refine XS.ifYes X164.here hx rfl (pc0 := 86) (pc' := 98) rfl (hb hby at_86) rfl ((if0 _ _).trans (teq hc168).1) (by decide) (by decide) ?_
          show Steps p.tables e below (T164.setTop (mkF m 98 #[.val (.long q0), .second, .val (.long q1), .second, .val (.int p2), .val (.int (p2 &&& (3 : Int32))), .val (.int v1), .val (.int v2), .val (.int v3), .val (.ref b143), .val (.long (0 : Int64)), .second, .val (.long (0 : Int64)), .second, .unset, .unset, .unset, .unset] [])) _
          refine XS.lload X164.here hx rfl (hb hby at_98) rfl ?_
          show Steps p.tables e below (T164.setTop (mkF m 100 #[.val (.long q0), .second, .val (.long q1), .second, .val (.int p2), .val (.int (p2 &&& (3 : Int32))), .val (.int v1), .val (.int v2), .val (.int v3), .val (.ref b143), .val (.long (0 : Int64)), .second, .val (.long (0 : Int64)), .second, .unset, .unset, .unset, .unset] [(.long (0 : Int64))])) _
          refine XS.lconst X164.here hx rfl (hb hby at_100) ?_
          show Steps p.tables e below (T164.setTop (mkF m 101 #[.val (.long q0), .second, .val (.long q1), .second, .val (.int p2), .val (.int (p2 &&& (3 : Int32))), .val (.int v1), .val (.int v2), .val (.int v3), .val (.ref b143), .val (.long (0 : Int64)), .second, .val (.long (0 : Int64)), .second, .unset, .unset, .unset, .unset] [(.long (1 : Int64)), (.long (0 : Int64))])) _
          refine XS.ladd X164.here hx rfl (hb hby at_101) rfl ?_
          show Steps p.tables e below (T164.setTop (mkF m 102 #[.val (.long q0), .second, .val (.long q1), .second, .val (.int p2), .val (.int (p2 &&& (3 : Int32))), .val (.int v1), .val (.int v2), .val (.int v3), .val (.ref b143), .val (.long (0 : Int64)), .second, .val (.long (0 : Int64)), .second, .unset, .unset, .unset, .unset] [(.long ((0 : Int64) + (1 : Int64)))])) _
          refine XS.lstore X164.here hx rfl (hb hby at_102) rfl (l' := #[.val (.long q0), .second, .val (.long q1), .second, .val (.int p2), .val (.int (p2 &&& (3 : Int32))), .val (.int v1), .val (.int v2), .val (.int v3), .val (.ref b143), .val (.long (0 : Int64)), .second, .val (.long ((0 : Int64) + (1 : Int64))), .second, .unset, .unset, .unset, .unset]) rfl ?_
          show Steps p.tables e below (T164.setTop (mkF m 104 #[.val (.long q0), .second, .val (.long q1), .second, .val (.int p2), .val (.int (p2 &&& (3 : Int32))), .val (.int v1), .val (.int v2), .val (.int v3), .val (.ref b143), .val (.long (0 : Int64)), .second, .val (.long ((0 : Int64) + (1 : Int64))), .second, .unset, .unset, .unset, .unset] [])) _
          exact kt
        rw [if_neg hc162] at hv4 hv5 hv6 hv7
        rw [if_pos hc168] at hv4 hv5
        subst hv4
        subst hv5
        subst hv6
        subst hv7
        exact ⟨_, _, X164, N166, Z165, E164_0, F164_0, F164_1, F164_2, F164_3, F164_4, pre169⟩
      · skip
        have pre170 : ∀ t, Steps p.tables e below (T164.setTop (mkF m 104 #[.val (.long q0), .second, .val (.long q1), .second, .val (.int p2), .val (.int (p2 &&& (3 : Int32))), .val (.int v1), .val (.int v2), .val (.int v3), .val (.ref b143), .val (.long ((0 : Int64) + (1 : Int64))), .second, .val (.long (0 : Int64)), .second, .unset, .unset, .unset, .unset] [])) t → Steps p.tables e below (s₁.setTop (entryFrame m #[(.long q0), (.long q1), (.int p2)] maxLocals)) t := fun t kt => by
          refine pre167 _ ?_
          show Steps p.tables e below (T164.setTop (mkF m 86 #[.val (.long q0), .second, .val (.long q1), .second, .val (.int p2), .val (.int (p2 &&& (3 : Int32))), .val (.int v1), .val (.int v2), .val (.int v3), .val (.ref b143), .val (.long (0 : Int64)), .second, .val (.long (0 : Int64)), .second, .unset, .unset, .unset, .unset] [(.int v1)])) _
          refine XS.ifNo X164.here hx rfl (hb hby at_86) rfl ((if0 _ _).trans (feq hc168).1) ?_
          show Steps p.tables e below (T164.setTop (mkF m 89 #[.val (.long q0), .second, .val (.long q1), .second, .val (.int p2), .val (.int (p2 &&& (3 : Int32))), .val (.int v1), .val (.int v2), .val (.int v3), .val (.ref b143), .val (.long (0 : Int64)), .second, .val (.long (0 : Int64)), .second, .unset, .unset, .unset, .unset] [])) _
          refine XS.lload X164.here hx rfl (hb hby at_89) rfl ?_
          show Steps p.tables e below (T164.setTop (mkF m 91 #[.val (.long q0), .second, .val (.long q1), .second, .val (.int p2), .val (.int (p2 &&& (3 : Int32))), .val (.int v1), .val (.int v2), .val (.int v3), .val (.ref b143), .val (.long (0 : Int64)), .second, .val (.long (0 : Int64)), .second, .unset, .unset, .unset, .unset] [(.long (0 : Int64))])) _
          refine XS.lconst X164.here hx rfl (hb hby at_91) ?_
          show Steps p.tables e below (T164.setTop (mkF m 92 #[.val (.long q0), .second, .val (.long q1), .second, .val (.int p2), .val (.int (p2 &&& (3 : Int32))), .val (.int v1), .val (.int v2), .val (.int v3), .val (.ref b143), .val (.long (0 : Int64)), .second, .val (.long (0 : Int64)), .second, .unset, .unset, .unset, .unset] [(.long (1 : Int64)), (.long (0 : Int64))])) _
          refine XS.ladd X164.here hx rfl (hb hby at_92) rfl ?_
          show Steps p.tables e below (T164.setTop (mkF m 93 #[.val (.long q0), .second, .val (.long q1), .second, .val (.int p2), .val (.int (p2 &&& (3 : Int32))), .val (.int v1), .val (.int v2), .val (.int v3), .val (.ref b143), .val (.long (0 : Int64)), .second, .val (.long (0 : Int64)), .second, .unset, .unset, .unset, .unset] [(.long ((0 : Int64) + (1 : Int64)))])) _
          refine XS.lstore X164.here hx rfl (hb hby at_93) rfl (l' := #[.val (.long q0), .second, .val (.long q1), .second, .val (.int p2), .val (.int (p2 &&& (3 : Int32))), .val (.int v1), .val (.int v2), .val (.int v3), .val (.ref b143), .val (.long ((0 : Int64) + (1 : Int64))), .second, .val (.long (0 : Int64)), .second, .unset, .unset, .unset, .unset]) rfl ?_
          show Steps p.tables e below (T164.setTop (mkF m 95 #[.val (.long q0), .second, .val (.long q1), .second, .val (.int p2), .val (.int (p2 &&& (3 : Int32))), .val (.int v1), .val (.int v2), .val (.int v3), .val (.ref b143), .val (.long ((0 : Int64) + (1 : Int64))), .second, .val (.long (0 : Int64)), .second, .unset, .unset, .unset, .unset] [])) _
          refine XS.goto X164.here hx rfl (pc0 := 95) (pc' := 104) rfl (hb hby at_95) (by decide) (by decide) ?_
          show Steps p.tables e below (T164.setTop (mkF m 104 #[.val (.long q0), .second, .val (.long q1), .second, .val (.int p2), .val (.int (p2 &&& (3 : Int32))), .val (.int v1), .val (.int v2), .val (.int v3), .val (.ref b143), .val (.long ((0 : Int64) + (1 : Int64))), .second, .val (.long (0 : Int64)), .second, .unset, .unset, .unset, .unset] [])) _
          exact kt
        rw [if_neg hc162] at hv4 hv5 hv6 hv7
        rw [if_neg hc168] at hv4 hv5
        subst hv4
        subst hv5
        subst hv6
        subst hv7
        exact ⟨_, _, X164, N166, Z165, E164_0, F164_0, F164_1, F164_2, F164_3, F164_4, pre170⟩
  have pre171 : ∀ t, Steps p.tables e below (T155.setTop (mkF m 107 #[.val (.long q0), .second, .val (.long q1), .second, .val (.int p2), .val (.int (p2 &&& (3 : Int32))), .val (.int v1), .val (.int v2), .val (.int v3), .val (.ref b143), .val (.long v4), .second, .val (.long v5), .second, .unset, .unset, .unset, .unset] [(.int (2 : Int32)), (.int (p2 &&& (3 : Int32)))])) t → Steps p.tables e below (s₁.setTop (entryFrame m #[(.long q0), (.long q1), (.int p2)] maxLocals)) t := fun t kt => by
    refine pre155 _ ?_
    show Steps p.tables e below (T155.setTop (mkF m 104 #[.val (.long q0), .second, .val (.long q1), .second, .val (.int p2), .val (.int (p2 &&& (3 : Int32))), .val (.int v1), .val (.int v2), .val (.int v3), .val (.ref b143), .val (.long v4), .second, .val (.long v5), .second, .unset, .unset, .unset, .unset] [])) _
    refine XS.iload X155.here hx rfl (hb hby at_104) rfl ?_
    show Steps p.tables e below (T155.setTop (mkF m 106 #[.val (.long q0), .second, .val (.long q1), .second, .val (.int p2), .val (.int (p2 &&& (3 : Int32))), .val (.int v1), .val (.int v2), .val (.int v3), .val (.ref b143), .val (.long v4), .second, .val (.long v5), .second, .unset, .unset, .unset, .unset] [(.int (p2 &&& (3 : Int32)))])) _
    refine XS.iconst X155.here hx rfl (hb hby at_106) ?_
    show Steps p.tables e below (T155.setTop (mkF m 107 #[.val (.long q0), .second, .val (.long q1), .second, .val (.int p2), .val (.int (p2 &&& (3 : Int32))), .val (.int v1), .val (.int v2), .val (.int v3), .val (.ref b143), .val (.long v4), .second, .val (.long v5), .second, .unset, .unset, .unset, .unset] [(.int (2 : Int32)), (.int (p2 &&& (3 : Int32)))])) _
    exact kt
  obtain ⟨v8, hv8⟩ : ∃ z : Int64, z = (if (p2 &&& (3 : Int32)) < (2 : Int32) then v4 else (if v2 = (0 : Int32) then v4 else (v4 + (1 : Int64)))) := ⟨_, rfl⟩
  obtain ⟨v9, hv9⟩ : ∃ z : Int64, z = (if (p2 &&& (3 : Int32)) < (2 : Int32) then v5 else (if v2 = (0 : Int32) then (v5 + (1 : Int64)) else v5)) := ⟨_, rfl⟩
  obtain ⟨v10, hv10⟩ : ∃ z : Int64, z = (if (p2 &&& (3 : Int32)) < (2 : Int32) then v6 else (if v2 = (0 : Int32) then v6 else (v6 + (1 : Int64)))) := ⟨_, rfl⟩
  obtain ⟨v11, hv11⟩ : ∃ z : Int64, z = (if (p2 &&& (3 : Int32)) < (2 : Int32) then v7 else (if v2 = (0 : Int32) then (v7 + (1 : Int64)) else v7)) := ⟨_, rfl⟩
  obtain ⟨T178, L178, X178, N178, Z178, E179, F180, F181, F182, F183, F184, pre178⟩ : ∃ (T' : State) (L' : List Loc), Stand p l e room_1 s m #[(.long q0), (.long q1), (.int p2)] below meth c T' L' 1 5 ∧ Fr n0 L' ∧ n0 ≤ T'.heap.size ∧ Exa Z T'.heap b143 "com/example/strict_pdp/strictpdp/expression/ThreeValued$Count" ∧ Fld Z T'.heap b143 "com/example/strict_pdp/strictpdp/expression/ThreeValued$Count" "required" "J" (.long q0) ∧ Fld Z T'.heap b143 "com/example/strict_pdp/strictpdp/expression/ThreeValued$Count" "allowedFalse" "J" (.long q1) ∧ Fld Z T'.heap b143 "com/example/strict_pdp/strictpdp/expression/ThreeValued$Count" "trues" "J" (.long v10) ∧ Fld Z T'.heap b143 "com/example/strict_pdp/strictpdp/expression/ThreeValued$Count" "falses" "J" (.long v11) ∧ Fld Z T'.heap b143 "com/example/strict_pdp/strictpdp/expression/ThreeValued$Count" "indeterminate" "Lcom/example/strict_pdp/strictpdp/Status;" .null ∧ ∀ t, Steps p.tables e below (T'.setTop (mkF m 137 #[.val (.long q0), .second, .val (.long q1), .second, .val (.int p2), .val (.int (p2 &&& (3 : Int32))), .val (.int v1), .val (.int v2), .val (.int v3), .val (.ref b143), .val (.long v8), .second, .val (.long v9), .second, .unset, .unset, .unset, .unset] [])) t → Steps p.tables e below (s₁.setTop (entryFrame m #[(.long q0), (.long q1), (.int p2)] maxLocals)) t := by
    by_cases hc185 : (p2 &&& (3 : Int32)) < (2 : Int32)
    · skip
      have pre186 : ∀ t, Steps p.tables e below (T155.setTop (mkF m 137 #[.val (.long q0), .second, .val (.long q1), .second, .val (.int p2), .val (.int (p2 &&& (3 : Int32))), .val (.int v1), .val (.int v2), .val (.int v3), .val (.ref b143), .val (.long v4), .second, .val (.long v5), .second, .unset, .unset, .unset, .unset] [])) t → Steps p.tables e below (s₁.setTop (entryFrame m #[(.long q0), (.long q1), (.int p2)] maxLocals)) t := fun t kt => by
        refine pre171 _ ?_
        show Steps p.tables e below (T155.setTop (mkF m 107 #[.val (.long q0), .second, .val (.long q1), .second, .val (.int p2), .val (.int (p2 &&& (3 : Int32))), .val (.int v1), .val (.int v2), .val (.int v3), .val (.ref b143), .val (.long v4), .second, .val (.long v5), .second, .unset, .unset, .unset, .unset] [(.int (2 : Int32)), (.int (p2 &&& (3 : Int32)))])) _
        refine XS.icmpYes X155.here hx rfl (pc0 := 107) (pc' := 137) rfl (hb hby at_107) rfl (tlt hc185).1 (by decide) (by decide) ?_
        show Steps p.tables e below (T155.setTop (mkF m 137 #[.val (.long q0), .second, .val (.long q1), .second, .val (.int p2), .val (.int (p2 &&& (3 : Int32))), .val (.int v1), .val (.int v2), .val (.int v3), .val (.ref b143), .val (.long v4), .second, .val (.long v5), .second, .unset, .unset, .unset, .unset] [])) _
        exact kt
      rw [if_pos hc185] at hv8 hv9 hv10 hv11
      subst hv8
      subst hv9
      subst hv10
      subst hv11
      exact ⟨_, _, X155, N155, Z155, E156, F157, F158, F159, F160, F161, pre186⟩
    · skip
      obtain ⟨cq187, kq187, q187a, q187b, q187c⟩ := isOf hZ rfl E156
      obtain ⟨_, _, ⟨T187, L187, k187, n187⟩, -, X187, ⟨Lc187, hQ187, l187, y187, z187⟩, st187⟩ := X155.virtualBack hx (y := (⟨"com/example/strict_pdp/strictpdp/expression/ThreeValued$Count", "add", "(Z)V"⟩ : MethodName)) (z := (⟨"com/example/strict_pdp/strictpdp/expression/ThreeValued$Count", "add", "(Z)V"⟩ : MethodName)) hown (mvT hZ (hw _ (List.mem_of_getElem? (i := 29) rfl))) (mvT hZ (hw _ (List.mem_of_getElem? (i := 30) rfl))) (notFace_of_selects (args := #[]) (mvT hZ (hw _ (List.mem_of_getElem? (i := 32) rfl)))) (mvT hZ (hw _ (List.mem_of_getElem? (i := 32) rfl))) (mvT hZ (hw _ (List.mem_of_getElem? (i := 31) rfl))) (by decide) (backOf (W := 0) (rm5 l Z aq hw [] b143 v2 q0 q1 v6 v7 T155.heap n0 Z155 E156 F157 F158 F159 F160 F161 g_b143) hZ (hw _ (List.mem_of_getElem? (i := 33) rfl)) (hw _ (List.mem_of_getElem? (i := 2) rfl)) (by decide) (by decide)) q187a q187c (g := (mkF m 114 #[.val (.long q0), .second, .val (.long q1), .second, .val (.int p2), .val (.int (p2 &&& (3 : Int32))), .val (.int v1), .val (.int v2), .val (.int v3), .val (.ref b143), .val (.long v4), .second, .val (.long v5), .second, .unset, .unset, .unset, .unset] [(.int v2), (.ref b143)])) rfl (by rw [hml]; rfl) (Steps.refl _) (argsL := [(.int v2)]) (rest := []) (lenOf pd88010534 rfl) rfl (by show 2 * 0 + _ ≤ _; exact Nat.le_of_eq rfl) (hb hby at_114) (fun _ _ => ⟨rfl, rfl, (by decide : 1 + 0 ≤ _), (by decide : 5 + 0 ≤ _)⟩)
      dsimp only [Pt.U, Pt.locs, Pt.cells, Pt.slots] at X187 l187 y187 z187 st187 hQ187
      subst l187 y187 z187
      obtain ⟨rfl, N187q, K187, E187_0, F187_0, F187_1, F187_2, F187_3, F187_4⟩ := hQ187
      have Z188 : n0 ≤ T187.heap.size := Nat.le_trans Z155 K187.1
      have N189 := Fr.app N155 N187q
      have pre190 : ∀ t, Steps p.tables e below (T187.setTop (mkF m 119 #[.val (.long q0), .second, .val (.long q1), .second, .val (.int p2), .val (.int (p2 &&& (3 : Int32))), .val (.int v1), .val (.int v2), .val (.int v3), .val (.ref b143), .val (.long v4), .second, .val (.long v5), .second, .unset, .unset, .unset, .unset] [(.int v2)])) t → Steps p.tables e below (s₁.setTop (entryFrame m #[(.long q0), (.long q1), (.int p2)] maxLocals)) t := fun t kt => by
        refine pre171 _ ?_
        show Steps p.tables e below (T155.setTop (mkF m 107 #[.val (.long q0), .second, .val (.long q1), .second, .val (.int p2), .val (.int (p2 &&& (3 : Int32))), .val (.int v1), .val (.int v2), .val (.int v3), .val (.ref b143), .val (.long v4), .second, .val (.long v5), .second, .unset, .unset, .unset, .unset] [(.int (2 : Int32)), (.int (p2 &&& (3 : Int32)))])) _
        refine XS.icmpNo X155.here hx rfl (hb hby at_107) rfl (flt hc185).1 ?_
        show Steps p.tables e below (T155.setTop (mkF m 110 #[.val (.long q0), .second, .val (.long q1), .second, .val (.int p2), .val (.int (p2 &&& (3 : Int32))), .val (.int v1), .val (.int v2), .val (.int v3), .val (.ref b143), .val (.long v4), .second, .val (.long v5), .second, .unset, .unset, .unset, .unset] [])) _
        refine XS.aload X155.here hx rfl (hb hby at_110) rfl rfl ?_
        show Steps p.tables e below (T155.setTop (mkF m 112 #[.val (.long q0), .second, .val (.long q1), .second, .val (.int p2), .val (.int (p2 &&& (3 : Int32))), .val (.int v1), .val (.int v2), .val (.int v3), .val (.ref b143), .val (.long v4), .second, .val (.long v5), .second, .unset, .unset, .unset, .unset] [(.ref b143)])) _
        refine XS.iload X155.here hx rfl (hb hby at_112) rfl ?_
        show Steps p.tables e below (T155.setTop (mkF m 114 #[.val (.long q0), .second, .val (.long q1), .second, .val (.int p2), .val (.int (p2 &&& (3 : Int32))), .val (.int v1), .val (.int v2), .val (.int v3), .val (.ref b143), .val (.long v4), .second, .val (.long v5), .second, .unset, .unset, .unset, .unset] [(.int v2), (.ref b143)])) _
        refine st187.trans ?_
        show Steps p.tables e below (T187.setTop (mkF m 117 #[.val (.long q0), .second, .val (.long q1), .second, .val (.int p2), .val (.int (p2 &&& (3 : Int32))), .val (.int v1), .val (.int v2), .val (.int v3), .val (.ref b143), .val (.long v4), .second, .val (.long v5), .second, .unset, .unset, .unset, .unset] [])) _
        refine XS.iload X187.here hx rfl (hb hby at_117) rfl ?_
        show Steps p.tables e below (T187.setTop (mkF m 119 #[.val (.long q0), .second, .val (.long q1), .second, .val (.int p2), .val (.int (p2 &&& (3 : Int32))), .val (.int v1), .val (.int v2), .val (.int v3), .val (.ref b143), .val (.long v4), .second, .val (.long v5), .second, .unset, .unset, .unset, .unset] [(.int v2)])) _
        exact kt
      by_cases hc191 : v2 = (0 : Int32)
      · skip
        have pre192 : ∀ t, Steps p.tables e below (T187.setTop (mkF m 137 #[.val (.long q0), .second, .val (.long q1), .second, .val (.int p2), .val (.int (p2 &&& (3 : Int32))), .val (.int v1), .val (.int v2), .val (.int v3), .val (.ref b143), .val (.long v4), .second, .val (.long (v5 + (1 : Int64))), .second, .unset, .unset, .unset, .unset] [])) t → Steps p.tables e below (s₁.setTop (entryFrame m #[(.long q0), (.long q1), (.int p2)] maxLocals)) t := fun t kt => by
          refine pre190 _ ?_
          show Steps p.tables e below (T187.setTop (mkF m 119 #[.val (.long q0), .second, .val (.long q1), .second, .val (.int p2), .val (.int (p2 &&& (3 : Int32))), .val (.int v1), .val (.int v2), .val (.int v3), .val (.ref b143), .val (.long v4), .second, .val (.long v5), .second, .unset, .unset, .unset, .unset] [(.int v2)])) _
          refine XS.ifYes X187.here hx rfl (pc0 := 119) (pc' := 131) rfl (hb hby at_119) rfl ((if0 _ _).trans (teq hc191).1) (by decide) (by decide) ?_
          show Steps p.tables e below (T187.setTop (mkF m 131 #[.val (.long q0), .second, .val (.long q1), .second, .val (.int p2), .val (.int (p2 &&& (3 : Int32))), .val (.int v1), .val (.int v2), .val (.int v3), .val (.ref b143), .val (.long v4), .second, .val (.long v5), .second, .unset, .unset, .unset, .unset] [])) _
          refine XS.lload X187.here hx rfl (hb hby at_131) rfl ?_
          show Steps p.tables e below (T187.setTop (mkF m 133 #[.val (.long q0), .second, .val (.long q1), .second, .val (.int p2), .val (.int (p2 &&& (3 : Int32))), .val (.int v1), .val (.int v2), .val (.int v3), .val (.ref b143), .val (.long v4), .second, .val (.long v5), .second, .unset, .unset, .unset, .unset] [(.long v5)])) _
          refine XS.lconst X187.here hx rfl (hb hby at_133) ?_
          show Steps p.tables e below (T187.setTop (mkF m 134 #[.val (.long q0), .second, .val (.long q1), .second, .val (.int p2), .val (.int (p2 &&& (3 : Int32))), .val (.int v1), .val (.int v2), .val (.int v3), .val (.ref b143), .val (.long v4), .second, .val (.long v5), .second, .unset, .unset, .unset, .unset] [(.long (1 : Int64)), (.long v5)])) _
          refine XS.ladd X187.here hx rfl (hb hby at_134) rfl ?_
          show Steps p.tables e below (T187.setTop (mkF m 135 #[.val (.long q0), .second, .val (.long q1), .second, .val (.int p2), .val (.int (p2 &&& (3 : Int32))), .val (.int v1), .val (.int v2), .val (.int v3), .val (.ref b143), .val (.long v4), .second, .val (.long v5), .second, .unset, .unset, .unset, .unset] [(.long (v5 + (1 : Int64)))])) _
          refine XS.lstore X187.here hx rfl (hb hby at_135) rfl (l' := #[.val (.long q0), .second, .val (.long q1), .second, .val (.int p2), .val (.int (p2 &&& (3 : Int32))), .val (.int v1), .val (.int v2), .val (.int v3), .val (.ref b143), .val (.long v4), .second, .val (.long (v5 + (1 : Int64))), .second, .unset, .unset, .unset, .unset]) rfl ?_
          show Steps p.tables e below (T187.setTop (mkF m 137 #[.val (.long q0), .second, .val (.long q1), .second, .val (.int p2), .val (.int (p2 &&& (3 : Int32))), .val (.int v1), .val (.int v2), .val (.int v3), .val (.ref b143), .val (.long v4), .second, .val (.long (v5 + (1 : Int64))), .second, .unset, .unset, .unset, .unset] [])) _
          exact kt
        rw [if_neg hc185] at hv8 hv9 hv10 hv11
        rw [if_pos hc191] at hv8 hv9
        subst hv8
        subst hv9
        subst hv10
        subst hv11
        exact ⟨_, _, X187, N189, Z188, E187_0, F187_0, F187_1, F187_2, F187_3, F187_4, pre192⟩
      · skip
        have pre193 : ∀ t, Steps p.tables e below (T187.setTop (mkF m 137 #[.val (.long q0), .second, .val (.long q1), .second, .val (.int p2), .val (.int (p2 &&& (3 : Int32))), .val (.int v1), .val (.int v2), .val (.int v3), .val (.ref b143), .val (.long (v4 + (1 : Int64))), .second, .val (.long v5), .second, .unset, .unset, .unset, .unset] [])) t → Steps p.tables e below (s₁.setTop (entryFrame m #[(.long q0), (.long q1), (.int p2)] maxLocals)) t := fun t kt => by
          refine pre190 _ ?_
          show Steps p.tables e below (T187.setTop (mkF m 119 #[.val (.long q0), .second, .val (.long q1), .second, .val (.int p2), .val (.int (p2 &&& (3 : Int32))), .val (.int v1), .val (.int v2), .val (.int v3), .val (.ref b143), .val (.long v4), .second, .val (.long v5), .second, .unset, .unset, .unset, .unset] [(.int v2)])) _
          refine XS.ifNo X187.here hx rfl (hb hby at_119) rfl ((if0 _ _).trans (feq hc191).1) ?_
          show Steps p.tables e below (T187.setTop (mkF m 122 #[.val (.long q0), .second, .val (.long q1), .second, .val (.int p2), .val (.int (p2 &&& (3 : Int32))), .val (.int v1), .val (.int v2), .val (.int v3), .val (.ref b143), .val (.long v4), .second, .val (.long v5), .second, .unset, .unset, .unset, .unset] [])) _
          refine XS.lload X187.here hx rfl (hb hby at_122) rfl ?_
          show Steps p.tables e below (T187.setTop (mkF m 124 #[.val (.long q0), .second, .val (.long q1), .second, .val (.int p2), .val (.int (p2 &&& (3 : Int32))), .val (.int v1), .val (.int v2), .val (.int v3), .val (.ref b143), .val (.long v4), .second, .val (.long v5), .second, .unset, .unset, .unset, .unset] [(.long v4)])) _
          refine XS.lconst X187.here hx rfl (hb hby at_124) ?_
          show Steps p.tables e below (T187.setTop (mkF m 125 #[.val (.long q0), .second, .val (.long q1), .second, .val (.int p2), .val (.int (p2 &&& (3 : Int32))), .val (.int v1), .val (.int v2), .val (.int v3), .val (.ref b143), .val (.long v4), .second, .val (.long v5), .second, .unset, .unset, .unset, .unset] [(.long (1 : Int64)), (.long v4)])) _
          refine XS.ladd X187.here hx rfl (hb hby at_125) rfl ?_
          show Steps p.tables e below (T187.setTop (mkF m 126 #[.val (.long q0), .second, .val (.long q1), .second, .val (.int p2), .val (.int (p2 &&& (3 : Int32))), .val (.int v1), .val (.int v2), .val (.int v3), .val (.ref b143), .val (.long v4), .second, .val (.long v5), .second, .unset, .unset, .unset, .unset] [(.long (v4 + (1 : Int64)))])) _
          refine XS.lstore X187.here hx rfl (hb hby at_126) rfl (l' := #[.val (.long q0), .second, .val (.long q1), .second, .val (.int p2), .val (.int (p2 &&& (3 : Int32))), .val (.int v1), .val (.int v2), .val (.int v3), .val (.ref b143), .val (.long (v4 + (1 : Int64))), .second, .val (.long v5), .second, .unset, .unset, .unset, .unset]) rfl ?_
          show Steps p.tables e below (T187.setTop (mkF m 128 #[.val (.long q0), .second, .val (.long q1), .second, .val (.int p2), .val (.int (p2 &&& (3 : Int32))), .val (.int v1), .val (.int v2), .val (.int v3), .val (.ref b143), .val (.long (v4 + (1 : Int64))), .second, .val (.long v5), .second, .unset, .unset, .unset, .unset] [])) _
          refine XS.goto X187.here hx rfl (pc0 := 128) (pc' := 137) rfl (hb hby at_128) (by decide) (by decide) ?_
          show Steps p.tables e below (T187.setTop (mkF m 137 #[.val (.long q0), .second, .val (.long q1), .second, .val (.int p2), .val (.int (p2 &&& (3 : Int32))), .val (.int v1), .val (.int v2), .val (.int v3), .val (.ref b143), .val (.long (v4 + (1 : Int64))), .second, .val (.long v5), .second, .unset, .unset, .unset, .unset] [])) _
          exact kt
        rw [if_neg hc185] at hv8 hv9 hv10 hv11
        rw [if_neg hc191] at hv8 hv9
        subst hv8
        subst hv9
        subst hv10
        subst hv11
        exact ⟨_, _, X187, N189, Z188, E187_0, F187_0, F187_1, F187_2, F187_3, F187_4, pre193⟩
  have pre194 : ∀ t, Steps p.tables e below (T178.setTop (mkF m 140 #[.val (.long q0), .second, .val (.long q1), .second, .val (.int p2), .val (.int (p2 &&& (3 : Int32))), .val (.int v1), .val (.int v2), .val (.int v3), .val (.ref b143), .val (.long v8), .second, .val (.long v9), .second, .unset, .unset, .unset, .unset] [(.int (3 : Int32)), (.int (p2 &&& (3 : Int32)))])) t → Steps p.tables e below (s₁.setTop (entryFrame m #[(.long q0), (.long q1), (.int p2)] maxLocals)) t := fun t kt => by
    refine pre178 _ ?_
    show Steps p.tables e below (T178.setTop (mkF m 137 #[.val (.long q0), .second, .val (.long q1), .second, .val (.int p2), .val (.int (p2 &&& (3 : Int32))), .val (.int v1), .val (.int v2), .val (.int v3), .val (.ref b143), .val (.long v8), .second, .val (.long v9), .second, .unset, .unset, .unset, .unset] [])) _
    refine XS.iload X178.here hx rfl (hb hby at_137) rfl ?_
    show Steps p.tables e below (T178.setTop (mkF m 139 #[.val (.long q0), .second, .val (.long q1), .second, .val (.int p2), .val (.int (p2 &&& (3 : Int32))), .val (.int v1), .val (.int v2), .val (.int v3), .val (.ref b143), .val (.long v8), .second, .val (.long v9), .second, .unset, .unset, .unset, .unset] [(.int (p2 &&& (3 : Int32)))])) _
    refine XS.iconst X178.here hx rfl (hb hby at_139) ?_
    show Steps p.tables e below (T178.setTop (mkF m 140 #[.val (.long q0), .second, .val (.long q1), .second, .val (.int p2), .val (.int (p2 &&& (3 : Int32))), .val (.int v1), .val (.int v2), .val (.int v3), .val (.ref b143), .val (.long v8), .second, .val (.long v9), .second, .unset, .unset, .unset, .unset] [(.int (3 : Int32)), (.int (p2 &&& (3 : Int32)))])) _
    exact kt
  obtain ⟨v12, hv12⟩ : ∃ z : Int64, z = (if (p2 &&& (3 : Int32)) < (3 : Int32) then v8 else (if v3 = (0 : Int32) then v8 else (v8 + (1 : Int64)))) := ⟨_, rfl⟩
  obtain ⟨v13, hv13⟩ : ∃ z : Int64, z = (if (p2 &&& (3 : Int32)) < (3 : Int32) then v9 else (if v3 = (0 : Int32) then (v9 + (1 : Int64)) else v9)) := ⟨_, rfl⟩
  obtain ⟨v14, hv14⟩ : ∃ z : Int64, z = (if (p2 &&& (3 : Int32)) < (3 : Int32) then v10 else (if v3 = (0 : Int32) then v10 else (v10 + (1 : Int64)))) := ⟨_, rfl⟩
  obtain ⟨v15, hv15⟩ : ∃ z : Int64, z = (if (p2 &&& (3 : Int32)) < (3 : Int32) then v11 else (if v3 = (0 : Int32) then (v11 + (1 : Int64)) else v11)) := ⟨_, rfl⟩
  obtain ⟨T201, L201, X201, N201, Z201, E202, F203, F204, F205, F206, F207, pre201⟩ : ∃ (T' : State) (L' : List Loc), Stand p l e room_1 s m #[(.long q0), (.long q1), (.int p2)] below meth c T' L' 1 5 ∧ Fr n0 L' ∧ n0 ≤ T'.heap.size ∧ Exa Z T'.heap b143 "com/example/strict_pdp/strictpdp/expression/ThreeValued$Count" ∧ Fld Z T'.heap b143 "com/example/strict_pdp/strictpdp/expression/ThreeValued$Count" "required" "J" (.long q0) ∧ Fld Z T'.heap b143 "com/example/strict_pdp/strictpdp/expression/ThreeValued$Count" "allowedFalse" "J" (.long q1) ∧ Fld Z T'.heap b143 "com/example/strict_pdp/strictpdp/expression/ThreeValued$Count" "trues" "J" (.long v14) ∧ Fld Z T'.heap b143 "com/example/strict_pdp/strictpdp/expression/ThreeValued$Count" "falses" "J" (.long v15) ∧ Fld Z T'.heap b143 "com/example/strict_pdp/strictpdp/expression/ThreeValued$Count" "indeterminate" "Lcom/example/strict_pdp/strictpdp/Status;" .null ∧ ∀ t, Steps p.tables e below (T'.setTop (mkF m 170 #[.val (.long q0), .second, .val (.long q1), .second, .val (.int p2), .val (.int (p2 &&& (3 : Int32))), .val (.int v1), .val (.int v2), .val (.int v3), .val (.ref b143), .val (.long v12), .second, .val (.long v13), .second, .unset, .unset, .unset, .unset] [])) t → Steps p.tables e below (s₁.setTop (entryFrame m #[(.long q0), (.long q1), (.int p2)] maxLocals)) t := by
    by_cases hc208 : (p2 &&& (3 : Int32)) < (3 : Int32)
    · skip
      have pre209 : ∀ t, Steps p.tables e below (T178.setTop (mkF m 170 #[.val (.long q0), .second, .val (.long q1), .second, .val (.int p2), .val (.int (p2 &&& (3 : Int32))), .val (.int v1), .val (.int v2), .val (.int v3), .val (.ref b143), .val (.long v8), .second, .val (.long v9), .second, .unset, .unset, .unset, .unset] [])) t → Steps p.tables e below (s₁.setTop (entryFrame m #[(.long q0), (.long q1), (.int p2)] maxLocals)) t := fun t kt => by
        refine pre194 _ ?_
        show Steps p.tables e below (T178.setTop (mkF m 140 #[.val (.long q0), .second, .val (.long q1), .second, .val (.int p2), .val (.int (p2 &&& (3 : Int32))), .val (.int v1), .val (.int v2), .val (.int v3), .val (.ref b143), .val (.long v8), .second, .val (.long v9), .second, .unset, .unset, .unset, .unset] [(.int (3 : Int32)), (.int (p2 &&& (3 : Int32)))])) _
        refine XS.icmpYes X178.here hx rfl (pc0 := 140) (pc' := 170) rfl (hb hby at_140) rfl (tlt hc208).1 (by decide) (by decide) ?_
        show Steps p.tables e below (T178.setTop (mkF m 170 #[.val (.long q0), .second, .val (.long q1), .second, .val (.int p2), .val (.int (p2 &&& (3 : Int32))), .val (.int v1), .val (.int v2), .val (.int v3), .val (.ref b143), .val (.long v8), .second, .val (.long v9), .second, .unset, .unset, .unset, .unset] [])) _
        exact kt
      rw [if_pos hc208] at hv12 hv13 hv14 hv15
      subst hv12
      subst hv13
      subst hv14
      subst hv15
      exact ⟨_, _, X178, N178, Z178, E179, F180, F181, F182, F183, F184, pre209⟩
    · skip
      obtain ⟨cq210, kq210, q210a, q210b, q210c⟩ := isOf hZ rfl E179
      obtain ⟨_, _, ⟨T210, L210, k210, n210⟩, -, X210, ⟨Lc210, hQ210, l210, y210, z210⟩, st210⟩ := X178.virtualBack hx (y := (⟨"com/example/strict_pdp/strictpdp/expression/ThreeValued$Count", "add", "(Z)V"⟩ : MethodName)) (z := (⟨"com/example/strict_pdp/strictpdp/expression/ThreeValued$Count", "add", "(Z)V"⟩ : MethodName)) hown (mvT hZ (hw _ (List.mem_of_getElem? (i := 29) rfl))) (mvT hZ (hw _ (List.mem_of_getElem? (i := 30) rfl))) (notFace_of_selects (args := #[]) (mvT hZ (hw _ (List.mem_of_getElem? (i := 32) rfl)))) (mvT hZ (hw _ (List.mem_of_getElem? (i := 32) rfl))) (mvT hZ (hw _ (List.mem_of_getElem? (i := 31) rfl))) (by decide) (backOf (W := 0) (rm5 l Z aq hw [] b143 v3 q0 q1 v10 v11 T178.heap n0 Z178 E179 F180 F181 F182 F183 F184 g_b143) hZ (hw _ (List.mem_of_getElem? (i := 33) rfl)) (hw _ (List.mem_of_getElem? (i := 2) rfl)) (by decide) (by decide)) q210a q210c (g := (mkF m 147 #[.val (.long q0), .second, .val (.long q1), .second, .val (.int p2), .val (.int (p2 &&& (3 : Int32))), .val (.int v1), .val (.int v2), .val (.int v3), .val (.ref b143), .val (.long v8), .second, .val (.long v9), .second, .unset, .unset, .unset, .unset] [(.int v3), (.ref b143)])) rfl (by rw [hml]; rfl) (Steps.refl _) (argsL := [(.int v3)]) (rest := []) (lenOf pd88010534 rfl) rfl (by show 2 * 0 + _ ≤ _; exact Nat.le_of_eq rfl) (hb hby at_147) (fun _ _ => ⟨rfl, rfl, (by decide : 1 + 0 ≤ _), (by decide : 5 + 0 ≤ _)⟩)
      dsimp only [Pt.U, Pt.locs, Pt.cells, Pt.slots] at X210 l210 y210 z210 st210 hQ210
      subst l210 y210 z210
      obtain ⟨rfl, N210q, K210, E210_0, F210_0, F210_1, F210_2, F210_3, F210_4⟩ := hQ210
      have Z211 : n0 ≤ T210.heap.size := Nat.le_trans Z178 K210.1
      have N212 := Fr.app N178 N210q
      have pre213 : ∀ t, Steps p.tables e below (T210.setTop (mkF m 152 #[.val (.long q0), .second, .val (.long q1), .second, .val (.int p2), .val (.int (p2 &&& (3 : Int32))), .val (.int v1), .val (.int v2), .val (.int v3), .val (.ref b143), .val (.long v8), .second, .val (.long v9), .second, .unset, .unset, .unset, .unset] [(.int v3)])) t → Steps p.tables e below (s₁.setTop (entryFrame m #[(.long q0), (.long q1), (.int p2)] maxLocals)) t := fun t kt => by
        refine pre194 _ ?_
        show Steps p.tables e below (T178.setTop (mkF m 140 #[.val (.long q0), .second, .val (.long q1), .second, .val (.int p2), .val (.int (p2 &&& (3 : Int32))), .val (.int v1), .val (.int v2), .val (.int v3), .val (.ref b143), .val (.long v8), .second, .val (.long v9), .second, .unset, .unset, .unset, .unset] [(.int (3 : Int32)), (.int (p2 &&& (3 : Int32)))])) _
        refine XS.icmpNo X178.here hx rfl (hb hby at_140) rfl (flt hc208).1 ?_
        show Steps p.tables e below (T178.setTop (mkF m 143 #[.val (.long q0), .second, .val (.long q1), .second, .val (.int p2), .val (.int (p2 &&& (3 : Int32))), .val (.int v1), .val (.int v2), .val (.int v3), .val (.ref b143), .val (.long v8), .second, .val (.long v9), .second, .unset, .unset, .unset, .unset] [])) _
        refine XS.aload X178.here hx rfl (hb hby at_143) rfl rfl ?_
        show Steps p.tables e below (T178.setTop (mkF m 145 #[.val (.long q0), .second, .val (.long q1), .second, .val (.int p2), .val (.int (p2 &&& (3 : Int32))), .val (.int v1), .val (.int v2), .val (.int v3), .val (.ref b143), .val (.long v8), .second, .val (.long v9), .second, .unset, .unset, .unset, .unset] [(.ref b143)])) _
        refine XS.iload X178.here hx rfl (hb hby at_145) rfl ?_
        show Steps p.tables e below (T178.setTop (mkF m 147 #[.val (.long q0), .second, .val (.long q1), .second, .val (.int p2), .val (.int (p2 &&& (3 : Int32))), .val (.int v1), .val (.int v2), .val (.int v3), .val (.ref b143), .val (.long v8), .second, .val (.long v9), .second, .unset, .unset, .unset, .unset] [(.int v3), (.ref b143)])) _
        refine st210.trans ?_
        show Steps p.tables e below (T210.setTop (mkF m 150 #[.val (.long q0), .second, .val (.long q1), .second, .val (.int p2), .val (.int (p2 &&& (3 : Int32))), .val (.int v1), .val (.int v2), .val (.int v3), .val (.ref b143), .val (.long v8), .second, .val (.long v9), .second, .unset, .unset, .unset, .unset] [])) _
        refine XS.iload X210.here hx rfl (hb hby at_150) rfl ?_
        show Steps p.tables e below (T210.setTop (mkF m 152 #[.val (.long q0), .second, .val (.long q1), .second, .val (.int p2), .val (.int (p2 &&& (3 : Int32))), .val (.int v1), .val (.int v2), .val (.int v3), .val (.ref b143), .val (.long v8), .second, .val (.long v9), .second, .unset, .unset, .unset, .unset] [(.int v3)])) _
        exact kt
      by_cases hc214 : v3 = (0 : Int32)
      · skip
        have pre215 : ∀ t, Steps p.tables e below (T210.setTop (mkF m 170 #[.val (.long q0), .second, .val (.long q1), .second, .val (.int p2), .val (.int (p2 &&& (3 : Int32))), .val (.int v1), .val (.int v2), .val (.int v3), .val (.ref b143), .val (.long v8), .second, .val (.long (v9 + (1 : Int64))), .second, .unset, .unset, .unset, .unset] [])) t → Steps p.tables e below (s₁.setTop (entryFrame m #[(.long q0), (.long q1), (.int p2)] maxLocals)) t := fun t kt => by
          refine pre213 _ ?_
          show Steps p.tables e below (T210.setTop (mkF m 152 #[.val (.long q0), .second, .val (.long q1), .second, .val (.int p2), .val (.int (p2 &&& (3 : Int32))), .val (.int v1), .val (.int v2), .val (.int v3), .val (.ref b143), .val (.long v8), .second, .val (.long v9), .second, .unset, .unset, .unset, .unset] [(.int v3)])) _
          refine XS.ifYes X210.here hx rfl (pc0 := 152) (pc' := 164) rfl (hb hby at_152) rfl ((if0 _ _).trans (teq hc214).1) (by decide) (by decide) ?_
          show Steps p.tables e below (T210.setTop (mkF m 164 #[.val (.long q0), .second, .val (.long q1), .second, .val (.int p2), .val (.int (p2 &&& (3 : Int32))), .val (.int v1), .val (.int v2), .val (.int v3), .val (.ref b143), .val (.long v8), .second, .val (.long v9), .second, .unset, .unset, .unset, .unset] [])) _
          refine XS.lload X210.here hx rfl (hb hby at_164) rfl ?_
          show Steps p.tables e below (T210.setTop (mkF m 166 #[.val (.long q0), .second, .val (.long q1), .second, .val (.int p2), .val (.int (p2 &&& (3 : Int32))), .val (.int v1), .val (.int v2), .val (.int v3), .val (.ref b143), .val (.long v8), .second, .val (.long v9), .second, .unset, .unset, .unset, .unset] [(.long v9)])) _
          refine XS.lconst X210.here hx rfl (hb hby at_166) ?_
          show Steps p.tables e below (T210.setTop (mkF m 167 #[.val (.long q0), .second, .val (.long q1), .second, .val (.int p2), .val (.int (p2 &&& (3 : Int32))), .val (.int v1), .val (.int v2), .val (.int v3), .val (.ref b143), .val (.long v8), .second, .val (.long v9), .second, .unset, .unset, .unset, .unset] [(.long (1 : Int64)), (.long v9)])) _
          refine XS.ladd X210.here hx rfl (hb hby at_167) rfl ?_
          show Steps p.tables e below (T210.setTop (mkF m 168 #[.val (.long q0), .second, .val (.long q1), .second, .val (.int p2), .val (.int (p2 &&& (3 : Int32))), .val (.int v1), .val (.int v2), .val (.int v3), .val (.ref b143), .val (.long v8), .second, .val (.long v9), .second, .unset, .unset, .unset, .unset] [(.long (v9 + (1 : Int64)))])) _
          refine XS.lstore X210.here hx rfl (hb hby at_168) rfl (l' := #[.val (.long q0), .second, .val (.long q1), .second, .val (.int p2), .val (.int (p2 &&& (3 : Int32))), .val (.int v1), .val (.int v2), .val (.int v3), .val (.ref b143), .val (.long v8), .second, .val (.long (v9 + (1 : Int64))), .second, .unset, .unset, .unset, .unset]) rfl ?_
          show Steps p.tables e below (T210.setTop (mkF m 170 #[.val (.long q0), .second, .val (.long q1), .second, .val (.int p2), .val (.int (p2 &&& (3 : Int32))), .val (.int v1), .val (.int v2), .val (.int v3), .val (.ref b143), .val (.long v8), .second, .val (.long (v9 + (1 : Int64))), .second, .unset, .unset, .unset, .unset] [])) _
          exact kt
        rw [if_neg hc208] at hv12 hv13 hv14 hv15
        rw [if_pos hc214] at hv12 hv13
        subst hv12
        subst hv13
        subst hv14
        subst hv15
        exact ⟨_, _, X210, N212, Z211, E210_0, F210_0, F210_1, F210_2, F210_3, F210_4, pre215⟩
      · skip
        have pre216 : ∀ t, Steps p.tables e below (T210.setTop (mkF m 170 #[.val (.long q0), .second, .val (.long q1), .second, .val (.int p2), .val (.int (p2 &&& (3 : Int32))), .val (.int v1), .val (.int v2), .val (.int v3), .val (.ref b143), .val (.long (v8 + (1 : Int64))), .second, .val (.long v9), .second, .unset, .unset, .unset, .unset] [])) t → Steps p.tables e below (s₁.setTop (entryFrame m #[(.long q0), (.long q1), (.int p2)] maxLocals)) t := fun t kt => by
          refine pre213 _ ?_
          show Steps p.tables e below (T210.setTop (mkF m 152 #[.val (.long q0), .second, .val (.long q1), .second, .val (.int p2), .val (.int (p2 &&& (3 : Int32))), .val (.int v1), .val (.int v2), .val (.int v3), .val (.ref b143), .val (.long v8), .second, .val (.long v9), .second, .unset, .unset, .unset, .unset] [(.int v3)])) _
          refine XS.ifNo X210.here hx rfl (hb hby at_152) rfl ((if0 _ _).trans (feq hc214).1) ?_
          show Steps p.tables e below (T210.setTop (mkF m 155 #[.val (.long q0), .second, .val (.long q1), .second, .val (.int p2), .val (.int (p2 &&& (3 : Int32))), .val (.int v1), .val (.int v2), .val (.int v3), .val (.ref b143), .val (.long v8), .second, .val (.long v9), .second, .unset, .unset, .unset, .unset] [])) _
          refine XS.lload X210.here hx rfl (hb hby at_155) rfl ?_
          show Steps p.tables e below (T210.setTop (mkF m 157 #[.val (.long q0), .second, .val (.long q1), .second, .val (.int p2), .val (.int (p2 &&& (3 : Int32))), .val (.int v1), .val (.int v2), .val (.int v3), .val (.ref b143), .val (.long v8), .second, .val (.long v9), .second, .unset, .unset, .unset, .unset] [(.long v8)])) _
          refine XS.lconst X210.here hx rfl (hb hby at_157) ?_
          show Steps p.tables e below (T210.setTop (mkF m 158 #[.val (.long q0), .second, .val (.long q1), .second, .val (.int p2), .val (.int (p2 &&& (3 : Int32))), .val (.int v1), .val (.int v2), .val (.int v3), .val (.ref b143), .val (.long v8), .second, .val (.long v9), .second, .unset, .unset, .unset, .unset] [(.long (1 : Int64)), (.long v8)])) _
          refine XS.ladd X210.here hx rfl (hb hby at_158) rfl ?_
          show Steps p.tables e below (T210.setTop (mkF m 159 #[.val (.long q0), .second, .val (.long q1), .second, .val (.int p2), .val (.int (p2 &&& (3 : Int32))), .val (.int v1), .val (.int v2), .val (.int v3), .val (.ref b143), .val (.long v8), .second, .val (.long v9), .second, .unset, .unset, .unset, .unset] [(.long (v8 + (1 : Int64)))])) _
          refine XS.lstore X210.here hx rfl (hb hby at_159) rfl (l' := #[.val (.long q0), .second, .val (.long q1), .second, .val (.int p2), .val (.int (p2 &&& (3 : Int32))), .val (.int v1), .val (.int v2), .val (.int v3), .val (.ref b143), .val (.long (v8 + (1 : Int64))), .second, .val (.long v9), .second, .unset, .unset, .unset, .unset]) rfl ?_
          show Steps p.tables e below (T210.setTop (mkF m 161 #[.val (.long q0), .second, .val (.long q1), .second, .val (.int p2), .val (.int (p2 &&& (3 : Int32))), .val (.int v1), .val (.int v2), .val (.int v3), .val (.ref b143), .val (.long (v8 + (1 : Int64))), .second, .val (.long v9), .second, .unset, .unset, .unset, .unset] [])) _
          refine XS.goto X210.here hx rfl (pc0 := 161) (pc' := 170) rfl (hb hby at_161) (by decide) (by decide) ?_
          show Steps p.tables e below (T210.setTop (mkF m 170 #[.val (.long q0), .second, .val (.long q1), .second, .val (.int p2), .val (.int (p2 &&& (3 : Int32))), .val (.int v1), .val (.int v2), .val (.int v3), .val (.ref b143), .val (.long (v8 + (1 : Int64))), .second, .val (.long v9), .second, .unset, .unset, .unset, .unset] [])) _
          exact kt
        rw [if_neg hc208] at hv12 hv13 hv14 hv15
        rw [if_neg hc214] at hv12 hv13
        subst hv12
        subst hv13
        subst hv14
        subst hv15
        exact ⟨_, _, X210, N212, Z211, E210_0, F210_0, F210_1, F210_2, F210_3, F210_4, pre216⟩
  have pre217 : ∀ t, Steps p.tables e below (T201.setTop (mkF m 174 #[.val (.long q0), .second, .val (.long q1), .second, .val (.int p2), .val (.int (p2 &&& (3 : Int32))), .val (.int v1), .val (.int v2), .val (.int v3), .val (.ref b143), .val (.long v12), .second, .val (.long v13), .second, .unset, .unset, .unset, .unset] [(.int (lcmpW v12 q0))])) t → Steps p.tables e below (s₁.setTop (entryFrame m #[(.long q0), (.long q1), (.int p2)] maxLocals)) t := fun t kt => by
    refine pre201 _ ?_
    show Steps p.tables e below (T201.setTop (mkF m 170 #[.val (.long q0), .second, .val (.long q1), .second, .val (.int p2), .val (.int (p2 &&& (3 : Int32))), .val (.int v1), .val (.int v2), .val (.int v3), .val (.ref b143), .val (.long v12), .second, .val (.long v13), .second, .unset, .unset, .unset, .unset] [])) _
    refine XS.lload X201.here hx rfl (hb hby at_170) rfl ?_
    show Steps p.tables e below (T201.setTop (mkF m 172 #[.val (.long q0), .second, .val (.long q1), .second, .val (.int p2), .val (.int (p2 &&& (3 : Int32))), .val (.int v1), .val (.int v2), .val (.int v3), .val (.ref b143), .val (.long v12), .second, .val (.long v13), .second, .unset, .unset, .unset, .unset] [(.long v12)])) _
    refine XS.lloadN X201.here hx rfl (hb hby at_172) rfl ?_
    show Steps p.tables e below (T201.setTop (mkF m 173 #[.val (.long q0), .second, .val (.long q1), .second, .val (.int p2), .val (.int (p2 &&& (3 : Int32))), .val (.int v1), .val (.int v2), .val (.int v3), .val (.ref b143), .val (.long v12), .second, .val (.long v13), .second, .unset, .unset, .unset, .unset] [(.long q0), (.long v12)])) _
    refine XS.lcmp X201.here hx rfl (hb hby at_173) rfl ?_
    show Steps p.tables e below (T201.setTop (mkF m 174 #[.val (.long q0), .second, .val (.long q1), .second, .val (.int p2), .val (.int (p2 &&& (3 : Int32))), .val (.int v1), .val (.int v2), .val (.int v3), .val (.ref b143), .val (.long v12), .second, .val (.long v13), .second, .unset, .unset, .unset, .unset] [(.int (lcmpW v12 q0))])) _
    exact kt
  obtain ⟨v16, hv16⟩ : ∃ z : Int32, z = (if v12 < q0 then (0 : Int32) else (1 : Int32)) := ⟨_, rfl⟩
  have pre219 : ∀ t, Steps p.tables e below (T201.setTop (mkF m 182 #[.val (.long q0), .second, .val (.long q1), .second, .val (.int p2), .val (.int (p2 &&& (3 : Int32))), .val (.int v1), .val (.int v2), .val (.int v3), .val (.ref b143), .val (.long v12), .second, .val (.long v13), .second, .unset, .unset, .unset, .unset] [(.int v16)])) t → Steps p.tables e below (s₁.setTop (entryFrame m #[(.long q0), (.long q1), (.int p2)] maxLocals)) t := fun t kt => by
    refine pre217 _ ?_
    show Steps p.tables e below (T201.setTop (mkF m 174 #[.val (.long q0), .second, .val (.long q1), .second, .val (.int p2), .val (.int (p2 &&& (3 : Int32))), .val (.int v1), .val (.int v2), .val (.int v3), .val (.ref b143), .val (.long v12), .second, .val (.long v13), .second, .unset, .unset, .unset, .unset] [(.int (lcmpW v12 q0))])) _
    by_cases hc218 : v12 < q0
    · rw [if_pos hc218] at hv16
      refine XS.ifYes X201.here hx rfl (pc0 := 174) (pc' := 181) rfl (hb hby at_174) rfl ((if0 _ _).trans (tlt (own_lwL hc218)).1) (by decide) (by decide) ?_
      show Steps p.tables e below (T201.setTop (mkF m 181 #[.val (.long q0), .second, .val (.long q1), .second, .val (.int p2), .val (.int (p2 &&& (3 : Int32))), .val (.int v1), .val (.int v2), .val (.int v3), .val (.ref b143), .val (.long v12), .second, .val (.long v13), .second, .unset, .unset, .unset, .unset] [])) _
      refine XS.iconst X201.here hx rfl (hb hby at_181) ?_
      subst hv16
      exact kt
    · rw [if_neg hc218] at hv16
      refine XS.ifNo X201.here hx rfl (hb hby at_174) rfl ((if0 _ _).trans (flt (own_lwM hc218)).1) ?_
      show Steps p.tables e below (T201.setTop (mkF m 177 #[.val (.long q0), .second, .val (.long q1), .second, .val (.int p2), .val (.int (p2 &&& (3 : Int32))), .val (.int v1), .val (.int v2), .val (.int v3), .val (.ref b143), .val (.long v12), .second, .val (.long v13), .second, .unset, .unset, .unset, .unset] [])) _
      refine XS.iconst X201.here hx rfl (hb hby at_177) ?_
      show Steps p.tables e below (T201.setTop (mkF m 178 #[.val (.long q0), .second, .val (.long q1), .second, .val (.int p2), .val (.int (p2 &&& (3 : Int32))), .val (.int v1), .val (.int v2), .val (.int v3), .val (.ref b143), .val (.long v12), .second, .val (.long v13), .second, .unset, .unset, .unset, .unset] [(.int (1 : Int32))])) _
      refine XS.goto X201.here hx rfl (pc0 := 178) (pc' := 182) rfl (hb hby at_178) (by decide) (by decide) ?_
      subst hv16
      exact kt
  have pre220 : ∀ t, Steps p.tables e below (T201.setTop (mkF m 186 #[.val (.long q0), .second, .val (.long q1), .second, .val (.int p2), .val (.int (p2 &&& (3 : Int32))), .val (.int v1), .val (.int v2), .val (.int v3), .val (.ref b143), .val (.long v12), .second, .val (.long v13), .second, .val (.int v16), .unset, .unset, .unset] [(.int v16)])) t → Steps p.tables e below (s₁.setTop (entryFrame m #[(.long q0), (.long q1), (.int p2)] maxLocals)) t := fun t kt => by
    refine pre219 _ ?_
    show Steps p.tables e below (T201.setTop (mkF m 182 #[.val (.long q0), .second, .val (.long q1), .second, .val (.int p2), .val (.int (p2 &&& (3 : Int32))), .val (.int v1), .val (.int v2), .val (.int v3), .val (.ref b143), .val (.long v12), .second, .val (.long v13), .second, .unset, .unset, .unset, .unset] [(.int v16)])) _
    refine XS.istore X201.here hx rfl (hb hby at_182) rfl (l' := #[.val (.long q0), .second, .val (.long q1), .second, .val (.int p2), .val (.int (p2 &&& (3 : Int32))), .val (.int v1), .val (.int v2), .val (.int v3), .val (.ref b143), .val (.long v12), .second, .val (.long v13), .second, .val (.int v16), .unset, .unset, .unset]) rfl ?_
    show Steps p.tables e below (T201.setTop (mkF m 184 #[.val (.long q0), .second, .val (.long q1), .second, .val (.int p2), .val (.int (p2 &&& (3 : Int32))), .val (.int v1), .val (.int v2), .val (.int v3), .val (.ref b143), .val (.long v12), .second, .val (.long v13), .second, .val (.int v16), .unset, .unset, .unset] [])) _
    refine XS.iload X201.here hx rfl (hb hby at_184) rfl ?_
    show Steps p.tables e below (T201.setTop (mkF m 186 #[.val (.long q0), .second, .val (.long q1), .second, .val (.int p2), .val (.int (p2 &&& (3 : Int32))), .val (.int v1), .val (.int v2), .val (.int v3), .val (.ref b143), .val (.long v12), .second, .val (.long v13), .second, .val (.int v16), .unset, .unset, .unset] [(.int v16)])) _
    exact kt
  obtain ⟨v17, hv17⟩ : ∃ z : Int32, z = (if v16 = (0 : Int32) then (if q1 < v13 then (1 : Int32) else (0 : Int32)) else (1 : Int32)) := ⟨_, rfl⟩
  have pre223 : ∀ t, Steps p.tables e below (T201.setTop (mkF m 201 #[.val (.long q0), .second, .val (.long q1), .second, .val (.int p2), .val (.int (p2 &&& (3 : Int32))), .val (.int v1), .val (.int v2), .val (.int v3), .val (.ref b143), .val (.long v12), .second, .val (.long v13), .second, .val (.int v16), .unset, .unset, .unset] [(.int v17)])) t → Steps p.tables e below (s₁.setTop (entryFrame m #[(.long q0), (.long q1), (.int p2)] maxLocals)) t := fun t kt => by
    refine pre220 _ ?_
    show Steps p.tables e below (T201.setTop (mkF m 186 #[.val (.long q0), .second, .val (.long q1), .second, .val (.int p2), .val (.int (p2 &&& (3 : Int32))), .val (.int v1), .val (.int v2), .val (.int v3), .val (.ref b143), .val (.long v12), .second, .val (.long v13), .second, .val (.int v16), .unset, .unset, .unset] [(.int v16)])) _
    by_cases hc221 : v16 = (0 : Int32)
    · rw [if_pos hc221] at hv17
      refine XS.ifNo X201.here hx rfl (hb hby at_186) rfl ((if0 _ _).trans (teq hc221).2) ?_
      show Steps p.tables e below (T201.setTop (mkF m 189 #[.val (.long q0), .second, .val (.long q1), .second, .val (.int p2), .val (.int (p2 &&& (3 : Int32))), .val (.int v1), .val (.int v2), .val (.int v3), .val (.ref b143), .val (.long v12), .second, .val (.long v13), .second, .val (.int v16), .unset, .unset, .unset] [])) _
      refine XS.lload X201.here hx rfl (hb hby at_189) rfl ?_
      show Steps p.tables e below (T201.setTop (mkF m 191 #[.val (.long q0), .second, .val (.long q1), .second, .val (.int p2), .val (.int (p2 &&& (3 : Int32))), .val (.int v1), .val (.int v2), .val (.int v3), .val (.ref b143), .val (.long v12), .second, .val (.long v13), .second, .val (.int v16), .unset, .unset, .unset] [(.long v13)])) _
      refine XS.lloadN X201.here hx rfl (hb hby at_191) rfl ?_
      show Steps p.tables e below (T201.setTop (mkF m 192 #[.val (.long q0), .second, .val (.long q1), .second, .val (.int p2), .val (.int (p2 &&& (3 : Int32))), .val (.int v1), .val (.int v2), .val (.int v3), .val (.ref b143), .val (.long v12), .second, .val (.long v13), .second, .val (.int v16), .unset, .unset, .unset] [(.long q1), (.long v13)])) _
      refine XS.lcmp X201.here hx rfl (hb hby at_192) rfl ?_
      show Steps p.tables e below (T201.setTop (mkF m 193 #[.val (.long q0), .second, .val (.long q1), .second, .val (.int p2), .val (.int (p2 &&& (3 : Int32))), .val (.int v1), .val (.int v2), .val (.int v3), .val (.ref b143), .val (.long v12), .second, .val (.long v13), .second, .val (.int v16), .unset, .unset, .unset] [(.int (lcmpW v13 q1))])) _
      by_cases hc222 : q1 < v13
      · rw [if_pos hc222] at hv17
        refine XS.ifNo X201.here hx rfl (hb hby at_193) rfl ((if0 _ _).trans (tlt (own_lwG hc222)).2.2.2) ?_
        show Steps p.tables e below (T201.setTop (mkF m 196 #[.val (.long q0), .second, .val (.long q1), .second, .val (.int p2), .val (.int (p2 &&& (3 : Int32))), .val (.int v1), .val (.int v2), .val (.int v3), .val (.ref b143), .val (.long v12), .second, .val (.long v13), .second, .val (.int v16), .unset, .unset, .unset] [])) _
        refine XS.iconst X201.here hx rfl (hb hby at_196) ?_
        show Steps p.tables e below (T201.setTop (mkF m 197 #[.val (.long q0), .second, .val (.long q1), .second, .val (.int p2), .val (.int (p2 &&& (3 : Int32))), .val (.int v1), .val (.int v2), .val (.int v3), .val (.ref b143), .val (.long v12), .second, .val (.long v13), .second, .val (.int v16), .unset, .unset, .unset] [(.int (1 : Int32))])) _
        refine XS.goto X201.here hx rfl (pc0 := 197) (pc' := 201) rfl (hb hby at_197) (by decide) (by decide) ?_
        subst hv17
        exact kt
      · rw [if_neg hc222] at hv17
        refine XS.ifYes X201.here hx rfl (pc0 := 193) (pc' := 200) rfl (hb hby at_193) rfl ((if0 _ _).trans (flt (own_lwH hc222)).2.2.2) (by decide) (by decide) ?_
        show Steps p.tables e below (T201.setTop (mkF m 200 #[.val (.long q0), .second, .val (.long q1), .second, .val (.int p2), .val (.int (p2 &&& (3 : Int32))), .val (.int v1), .val (.int v2), .val (.int v3), .val (.ref b143), .val (.long v12), .second, .val (.long v13), .second, .val (.int v16), .unset, .unset, .unset] [])) _
        refine XS.iconst X201.here hx rfl (hb hby at_200) ?_
        subst hv17
        exact kt
    · rw [if_neg hc221] at hv17
      refine XS.ifYes X201.here hx rfl (pc0 := 186) (pc' := 196) rfl (hb hby at_186) rfl ((if0 _ _).trans (feq hc221).2) (by decide) (by decide) ?_
      show Steps p.tables e below (T201.setTop (mkF m 196 #[.val (.long q0), .second, .val (.long q1), .second, .val (.int p2), .val (.int (p2 &&& (3 : Int32))), .val (.int v1), .val (.int v2), .val (.int v3), .val (.ref b143), .val (.long v12), .second, .val (.long v13), .second, .val (.int v16), .unset, .unset, .unset] [])) _
      refine XS.iconst X201.here hx rfl (hb hby at_196) ?_
      show Steps p.tables e below (T201.setTop (mkF m 197 #[.val (.long q0), .second, .val (.long q1), .second, .val (.int p2), .val (.int (p2 &&& (3 : Int32))), .val (.int v1), .val (.int v2), .val (.int v3), .val (.ref b143), .val (.long v12), .second, .val (.long v13), .second, .val (.int v16), .unset, .unset, .unset] [(.int (1 : Int32))])) _
      refine XS.goto X201.here hx rfl (pc0 := 197) (pc' := 201) rfl (hb hby at_197) (by decide) (by decide) ?_
      subst hv17
      exact kt
  obtain ⟨cq224, kq224, q224a, q224b, q224c⟩ := isOf hZ rfl E202
  obtain ⟨_, _, ⟨T224, L224, k224, n224⟩, -, X224, ⟨Lc224, hQ224, l224, y224, z224⟩, st224⟩ := X201.virtualBack hx (y := (⟨"com/example/strict_pdp/strictpdp/expression/ThreeValued$Count", "known", "()Z"⟩ : MethodName)) (z := (⟨"com/example/strict_pdp/strictpdp/expression/ThreeValued$Count", "known", "()Z"⟩ : MethodName)) hown (mvT hZ (hw _ (List.mem_of_getElem? (i := 13) rfl))) (mvT hZ (hw _ (List.mem_of_getElem? (i := 14) rfl))) (notFace_of_selects (args := #[]) (mvT hZ (hw _ (List.mem_of_getElem? (i := 16) rfl)))) (mvT hZ (hw _ (List.mem_of_getElem? (i := 16) rfl))) (mvT hZ (hw _ (List.mem_of_getElem? (i := 15) rfl))) (by decide) (backOf (W := 0) (rm3 l Z aq hw [] b143 q0 q1 v14 v15 T201.heap n0 Z201 E202 F203 F204 F205 F206 F207) hZ (hw _ (List.mem_of_getElem? (i := 17) rfl)) (hw _ (List.mem_of_getElem? (i := 2) rfl)) (by decide) (by decide)) q224a q224c (g := (mkF m 205 #[.val (.long q0), .second, .val (.long q1), .second, .val (.int p2), .val (.int (p2 &&& (3 : Int32))), .val (.int v1), .val (.int v2), .val (.int v3), .val (.ref b143), .val (.long v12), .second, .val (.long v13), .second, .val (.int v16), .val (.int v17), .unset, .unset] [(.ref b143)])) rfl (by rw [hml]; rfl) (Steps.refl _) (argsL := []) (rest := []) (lenOf pd93422000 rfl) rfl (by show 2 * 0 + _ ≤ _; exact Nat.le_of_eq rfl) (hb hby at_205) (fun _ _ => ⟨rfl, rfl, (by decide : 1 + 0 ≤ _), (by decide : 5 + 0 ≤ _)⟩)
  dsimp only [Pt.U, Pt.locs, Pt.cells, Pt.slots] at X224 l224 y224 z224 st224 hQ224
  subst l224 y224 z224
  obtain ⟨rfl, N224q, e224⟩ := hQ224
  have N225 := Fr.app N201 N224q
  obtain ⟨cq226, kq226, q226a, q226b, q226c⟩ := isOf hZ e224 E202
  obtain ⟨_, _, ⟨T226, L226, k226, n226⟩, -, X226, ⟨Lc226, hQ226, l226, y226, z226⟩, st226⟩ := X224.virtualBack hx (y := (⟨"com/example/strict_pdp/strictpdp/expression/ThreeValued$Count", "answer", "()Z"⟩ : MethodName)) (z := (⟨"com/example/strict_pdp/strictpdp/expression/ThreeValued$Count", "answer", "()Z"⟩ : MethodName)) hown (mvT hZ (hw _ (List.mem_of_getElem? (i := 22) rfl))) (mvT hZ (hw _ (List.mem_of_getElem? (i := 23) rfl))) (notFace_of_selects (args := #[]) (mvT hZ (hw _ (List.mem_of_getElem? (i := 25) rfl)))) (mvT hZ (hw _ (List.mem_of_getElem? (i := 25) rfl))) (mvT hZ (hw _ (List.mem_of_getElem? (i := 24) rfl))) (by decide) (backOf (W := 0) (rm4 l Z aq hw [] b143 q0 q1 v14 v15 T201.heap n0 Z201 E202 F203 F204 F205 F206 F207) hZ (hw _ (List.mem_of_getElem? (i := 26) rfl)) (hw _ (List.mem_of_getElem? (i := 2) rfl)) (by decide) (by decide)) q226a q226c (g := (mkF m 212 #[.val (.long q0), .second, .val (.long q1), .second, .val (.int p2), .val (.int (p2 &&& (3 : Int32))), .val (.int v1), .val (.int v2), .val (.int v3), .val (.ref b143), .val (.long v12), .second, .val (.long v13), .second, .val (.int v16), .val (.int v17), .val (.int (if v14 < q0 then (if q1 < v15 then (1 : Int32) else (0 : Int32)) else (1 : Int32))), .unset] [(.ref b143)])) rfl (by rw [hml]; rfl) (Steps.refl _) (argsL := []) (rest := []) (lenOf pd93422000 rfl) rfl (by show 2 * 0 + _ ≤ _; exact Nat.le_of_eq rfl) (hb hby at_212) (fun _ _ => ⟨rfl, e224, (by decide : 1 + 0 ≤ _), (by decide : 5 + 0 ≤ _)⟩)
  dsimp only [Pt.U, Pt.locs, Pt.cells, Pt.slots] at X226 l226 y226 z226 st226 hQ226
  subst l226 y226 z226
  obtain ⟨rfl, N226q, e226⟩ := hQ226
  have N227 := Fr.app N225 N226q
  have pre228 : ∀ t, Steps p.tables e below (T226.setTop (mkF m 221 #[.val (.long q0), .second, .val (.long q1), .second, .val (.int p2), .val (.int (p2 &&& (3 : Int32))), .val (.int v1), .val (.int v2), .val (.int v3), .val (.ref b143), .val (.long v12), .second, .val (.long v13), .second, .val (.int v16), .val (.int v17), .val (.int (if v14 < q0 then (if q1 < v15 then (1 : Int32) else (0 : Int32)) else (1 : Int32))), .val (.int (if v14 < q0 then (if q1 < v15 then (0 : Int32) else (0 : Int32)) else (1 : Int32)))] [(.int v17), (.int (if v14 < q0 then (if q1 < v15 then (1 : Int32) else (0 : Int32)) else (1 : Int32)))])) t → Steps p.tables e below (s₁.setTop (entryFrame m #[(.long q0), (.long q1), (.int p2)] maxLocals)) t := fun t kt => by
    refine pre223 _ ?_
    show Steps p.tables e below (T201.setTop (mkF m 201 #[.val (.long q0), .second, .val (.long q1), .second, .val (.int p2), .val (.int (p2 &&& (3 : Int32))), .val (.int v1), .val (.int v2), .val (.int v3), .val (.ref b143), .val (.long v12), .second, .val (.long v13), .second, .val (.int v16), .unset, .unset, .unset] [(.int v17)])) _
    refine XS.istore X201.here hx rfl (hb hby at_201) rfl (l' := #[.val (.long q0), .second, .val (.long q1), .second, .val (.int p2), .val (.int (p2 &&& (3 : Int32))), .val (.int v1), .val (.int v2), .val (.int v3), .val (.ref b143), .val (.long v12), .second, .val (.long v13), .second, .val (.int v16), .val (.int v17), .unset, .unset]) rfl ?_
    show Steps p.tables e below (T201.setTop (mkF m 203 #[.val (.long q0), .second, .val (.long q1), .second, .val (.int p2), .val (.int (p2 &&& (3 : Int32))), .val (.int v1), .val (.int v2), .val (.int v3), .val (.ref b143), .val (.long v12), .second, .val (.long v13), .second, .val (.int v16), .val (.int v17), .unset, .unset] [])) _
    refine XS.aload X201.here hx rfl (hb hby at_203) rfl rfl ?_
    show Steps p.tables e below (T201.setTop (mkF m 205 #[.val (.long q0), .second, .val (.long q1), .second, .val (.int p2), .val (.int (p2 &&& (3 : Int32))), .val (.int v1), .val (.int v2), .val (.int v3), .val (.ref b143), .val (.long v12), .second, .val (.long v13), .second, .val (.int v16), .val (.int v17), .unset, .unset] [(.ref b143)])) _
    refine st224.trans ?_
    show Steps p.tables e below (T224.setTop (mkF m 208 #[.val (.long q0), .second, .val (.long q1), .second, .val (.int p2), .val (.int (p2 &&& (3 : Int32))), .val (.int v1), .val (.int v2), .val (.int v3), .val (.ref b143), .val (.long v12), .second, .val (.long v13), .second, .val (.int v16), .val (.int v17), .unset, .unset] [(.int (if v14 < q0 then (if q1 < v15 then (1 : Int32) else (0 : Int32)) else (1 : Int32)))])) _
    refine XS.istore X224.here hx rfl (hb hby at_208) rfl (l' := #[.val (.long q0), .second, .val (.long q1), .second, .val (.int p2), .val (.int (p2 &&& (3 : Int32))), .val (.int v1), .val (.int v2), .val (.int v3), .val (.ref b143), .val (.long v12), .second, .val (.long v13), .second, .val (.int v16), .val (.int v17), .val (.int (if v14 < q0 then (if q1 < v15 then (1 : Int32) else (0 : Int32)) else (1 : Int32))), .unset]) rfl ?_
    show Steps p.tables e below (T224.setTop (mkF m 210 #[.val (.long q0), .second, .val (.long q1), .second, .val (.int p2), .val (.int (p2 &&& (3 : Int32))), .val (.int v1), .val (.int v2), .val (.int v3), .val (.ref b143), .val (.long v12), .second, .val (.long v13), .second, .val (.int v16), .val (.int v17), .val (.int (if v14 < q0 then (if q1 < v15 then (1 : Int32) else (0 : Int32)) else (1 : Int32))), .unset] [])) _
    refine XS.aload X224.here hx rfl (hb hby at_210) rfl rfl ?_
    show Steps p.tables e below (T224.setTop (mkF m 212 #[.val (.long q0), .second, .val (.long q1), .second, .val (.int p2), .val (.int (p2 &&& (3 : Int32))), .val (.int v1), .val (.int v2), .val (.int v3), .val (.ref b143), .val (.long v12), .second, .val (.long v13), .second, .val (.int v16), .val (.int v17), .val (.int (if v14 < q0 then (if q1 < v15 then (1 : Int32) else (0 : Int32)) else (1 : Int32))), .unset] [(.ref b143)])) _
    refine st226.trans ?_
    show Steps p.tables e below (T226.setTop (mkF m 215 #[.val (.long q0), .second, .val (.long q1), .second, .val (.int p2), .val (.int (p2 &&& (3 : Int32))), .val (.int v1), .val (.int v2), .val (.int v3), .val (.ref b143), .val (.long v12), .second, .val (.long v13), .second, .val (.int v16), .val (.int v17), .val (.int (if v14 < q0 then (if q1 < v15 then (1 : Int32) else (0 : Int32)) else (1 : Int32))), .unset] [(.int (if v14 < q0 then (if q1 < v15 then (0 : Int32) else (0 : Int32)) else (1 : Int32)))])) _
    refine XS.istore X226.here hx rfl (hb hby at_215) rfl (l' := #[.val (.long q0), .second, .val (.long q1), .second, .val (.int p2), .val (.int (p2 &&& (3 : Int32))), .val (.int v1), .val (.int v2), .val (.int v3), .val (.ref b143), .val (.long v12), .second, .val (.long v13), .second, .val (.int v16), .val (.int v17), .val (.int (if v14 < q0 then (if q1 < v15 then (1 : Int32) else (0 : Int32)) else (1 : Int32))), .val (.int (if v14 < q0 then (if q1 < v15 then (0 : Int32) else (0 : Int32)) else (1 : Int32)))]) rfl ?_
    show Steps p.tables e below (T226.setTop (mkF m 217 #[.val (.long q0), .second, .val (.long q1), .second, .val (.int p2), .val (.int (p2 &&& (3 : Int32))), .val (.int v1), .val (.int v2), .val (.int v3), .val (.ref b143), .val (.long v12), .second, .val (.long v13), .second, .val (.int v16), .val (.int v17), .val (.int (if v14 < q0 then (if q1 < v15 then (1 : Int32) else (0 : Int32)) else (1 : Int32))), .val (.int (if v14 < q0 then (if q1 < v15 then (0 : Int32) else (0 : Int32)) else (1 : Int32)))] [])) _
    refine XS.iload X226.here hx rfl (hb hby at_217) rfl ?_
    show Steps p.tables e below (T226.setTop (mkF m 219 #[.val (.long q0), .second, .val (.long q1), .second, .val (.int p2), .val (.int (p2 &&& (3 : Int32))), .val (.int v1), .val (.int v2), .val (.int v3), .val (.ref b143), .val (.long v12), .second, .val (.long v13), .second, .val (.int v16), .val (.int v17), .val (.int (if v14 < q0 then (if q1 < v15 then (1 : Int32) else (0 : Int32)) else (1 : Int32))), .val (.int (if v14 < q0 then (if q1 < v15 then (0 : Int32) else (0 : Int32)) else (1 : Int32)))] [(.int (if v14 < q0 then (if q1 < v15 then (1 : Int32) else (0 : Int32)) else (1 : Int32)))])) _
    refine XS.iload X226.here hx rfl (hb hby at_219) rfl ?_
    show Steps p.tables e below (T226.setTop (mkF m 221 #[.val (.long q0), .second, .val (.long q1), .second, .val (.int p2), .val (.int (p2 &&& (3 : Int32))), .val (.int v1), .val (.int v2), .val (.int v3), .val (.ref b143), .val (.long v12), .second, .val (.long v13), .second, .val (.int v16), .val (.int v17), .val (.int (if v14 < q0 then (if q1 < v15 then (1 : Int32) else (0 : Int32)) else (1 : Int32))), .val (.int (if v14 < q0 then (if q1 < v15 then (0 : Int32) else (0 : Int32)) else (1 : Int32)))] [(.int v17), (.int (if v14 < q0 then (if q1 < v15 then (1 : Int32) else (0 : Int32)) else (1 : Int32)))])) _
    exact kt
  obtain ⟨v18, hv18⟩ : ∃ z : Int32, z = (if (if v14 < q0 then (if q1 < v15 then (1 : Int32) else (0 : Int32)) else (1 : Int32)) = v17 then (if (if v14 < q0 then (if q1 < v15 then (0 : Int32) else (0 : Int32)) else (1 : Int32)) = v16 then (1 : Int32) else (0 : Int32)) else (0 : Int32)) := ⟨_, rfl⟩
  have pre231 : ∀ t, Steps p.tables e below (T226.setTop (mkF m 236 #[.val (.long q0), .second, .val (.long q1), .second, .val (.int p2), .val (.int (p2 &&& (3 : Int32))), .val (.int v1), .val (.int v2), .val (.int v3), .val (.ref b143), .val (.long v12), .second, .val (.long v13), .second, .val (.int v16), .val (.int v17), .val (.int (if v14 < q0 then (if q1 < v15 then (1 : Int32) else (0 : Int32)) else (1 : Int32))), .val (.int (if v14 < q0 then (if q1 < v15 then (0 : Int32) else (0 : Int32)) else (1 : Int32)))] [(.int v18)])) t → Steps p.tables e below (s₁.setTop (entryFrame m #[(.long q0), (.long q1), (.int p2)] maxLocals)) t := fun t kt => by
    refine pre228 _ ?_
    show Steps p.tables e below (T226.setTop (mkF m 221 #[.val (.long q0), .second, .val (.long q1), .second, .val (.int p2), .val (.int (p2 &&& (3 : Int32))), .val (.int v1), .val (.int v2), .val (.int v3), .val (.ref b143), .val (.long v12), .second, .val (.long v13), .second, .val (.int v16), .val (.int v17), .val (.int (if v14 < q0 then (if q1 < v15 then (1 : Int32) else (0 : Int32)) else (1 : Int32))), .val (.int (if v14 < q0 then (if q1 < v15 then (0 : Int32) else (0 : Int32)) else (1 : Int32)))] [(.int v17), (.int (if v14 < q0 then (if q1 < v15 then (1 : Int32) else (0 : Int32)) else (1 : Int32)))])) _
    by_cases hc229 : (if v14 < q0 then (if q1 < v15 then (1 : Int32) else (0 : Int32)) else (1 : Int32)) = v17
    · rw [if_pos hc229] at hv18
      refine XS.icmpNo X226.here hx rfl (hb hby at_221) rfl (teq hc229).2 ?_
      show Steps p.tables e below (T226.setTop (mkF m 224 #[.val (.long q0), .second, .val (.long q1), .second, .val (.int p2), .val (.int (p2 &&& (3 : Int32))), .val (.int v1), .val (.int v2), .val (.int v3), .val (.ref b143), .val (.long v12), .second, .val (.long v13), .second, .val (.int v16), .val (.int v17), .val (.int (if v14 < q0 then (if q1 < v15 then (1 : Int32) else (0 : Int32)) else (1 : Int32))), .val (.int (if v14 < q0 then (if q1 < v15 then (0 : Int32) else (0 : Int32)) else (1 : Int32)))] [])) _
      refine XS.iload X226.here hx rfl (hb hby at_224) rfl ?_
      show Steps p.tables e below (T226.setTop (mkF m 226 #[.val (.long q0), .second, .val (.long q1), .second, .val (.int p2), .val (.int (p2 &&& (3 : Int32))), .val (.int v1), .val (.int v2), .val (.int v3), .val (.ref b143), .val (.long v12), .second, .val (.long v13), .second, .val (.int v16), .val (.int v17), .val (.int (if v14 < q0 then (if q1 < v15 then (1 : Int32) else (0 : Int32)) else (1 : Int32))), .val (.int (if v14 < q0 then (if q1 < v15 then (0 : Int32) else (0 : Int32)) else (1 : Int32)))] [(.int (if v14 < q0 then (if q1 < v15 then (0 : Int32) else (0 : Int32)) else (1 : Int32)))])) _
      refine XS.iload X226.here hx rfl (hb hby at_226) rfl ?_
      show Steps p.tables e below (T226.setTop (mkF m 228 #[.val (.long q0), .second, .val (.long q1), .second, .val (.int p2), .val (.int (p2 &&& (3 : Int32))), .val (.int v1), .val (.int v2), .val (.int v3), .val (.ref b143), .val (.long v12), .second, .val (.long v13), .second, .val (.int v16), .val (.int v17), .val (.int (if v14 < q0 then (if q1 < v15 then (1 : Int32) else (0 : Int32)) else (1 : Int32))), .val (.int (if v14 < q0 then (if q1 < v15 then (0 : Int32) else (0 : Int32)) else (1 : Int32)))] [(.int v16), (.int (if v14 < q0 then (if q1 < v15 then (0 : Int32) else (0 : Int32)) else (1 : Int32)))])) _
      by_cases hc230 : (if v14 < q0 then (if q1 < v15 then (0 : Int32) else (0 : Int32)) else (1 : Int32)) = v16
      · rw [if_pos hc230] at hv18
        refine XS.icmpNo X226.here hx rfl (hb hby at_228) rfl (teq hc230).2 ?_
        show Steps p.tables e below (T226.setTop (mkF m 231 #[.val (.long q0), .second, .val (.long q1), .second, .val (.int p2), .val (.int (p2 &&& (3 : Int32))), .val (.int v1), .val (.int v2), .val (.int v3), .val (.ref b143), .val (.long v12), .second, .val (.long v13), .second, .val (.int v16), .val (.int v17), .val (.int (if v14 < q0 then (if q1 < v15 then (1 : Int32) else (0 : Int32)) else (1 : Int32))), .val (.int (if v14 < q0 then (if q1 < v15 then (0 : Int32) else (0 : Int32)) else (1 : Int32)))] [])) _
        refine XS.iconst X226.here hx rfl (hb hby at_231) ?_
        show Steps p.tables e below (T226.setTop (mkF m 232 #[.val (.long q0), .second, .val (.long q1), .second, .val (.int p2), .val (.int (p2 &&& (3 : Int32))), .val (.int v1), .val (.int v2), .val (.int v3), .val (.ref b143), .val (.long v12), .second, .val (.long v13), .second, .val (.int v16), .val (.int v17), .val (.int (if v14 < q0 then (if q1 < v15 then (1 : Int32) else (0 : Int32)) else (1 : Int32))), .val (.int (if v14 < q0 then (if q1 < v15 then (0 : Int32) else (0 : Int32)) else (1 : Int32)))] [(.int (1 : Int32))])) _
        refine XS.goto X226.here hx rfl (pc0 := 232) (pc' := 236) rfl (hb hby at_232) (by decide) (by decide) ?_
        subst hv18
        exact kt
      · rw [if_neg hc230] at hv18
        refine XS.icmpYes X226.here hx rfl (pc0 := 228) (pc' := 235) rfl (hb hby at_228) rfl (feq hc230).2 (by decide) (by decide) ?_
        show Steps p.tables e below (T226.setTop (mkF m 235 #[.val (.long q0), .second, .val (.long q1), .second, .val (.int p2), .val (.int (p2 &&& (3 : Int32))), .val (.int v1), .val (.int v2), .val (.int v3), .val (.ref b143), .val (.long v12), .second, .val (.long v13), .second, .val (.int v16), .val (.int v17), .val (.int (if v14 < q0 then (if q1 < v15 then (1 : Int32) else (0 : Int32)) else (1 : Int32))), .val (.int (if v14 < q0 then (if q1 < v15 then (0 : Int32) else (0 : Int32)) else (1 : Int32)))] [])) _
        refine XS.iconst X226.here hx rfl (hb hby at_235) ?_
        subst hv18
        exact kt
    · rw [if_neg hc229] at hv18
      refine XS.icmpYes X226.here hx rfl (pc0 := 221) (pc' := 235) rfl (hb hby at_221) rfl (feq hc229).2 (by decide) (by decide) ?_
      show Steps p.tables e below (T226.setTop (mkF m 235 #[.val (.long q0), .second, .val (.long q1), .second, .val (.int p2), .val (.int (p2 &&& (3 : Int32))), .val (.int v1), .val (.int v2), .val (.int v3), .val (.ref b143), .val (.long v12), .second, .val (.long v13), .second, .val (.int v16), .val (.int v17), .val (.int (if v14 < q0 then (if q1 < v15 then (1 : Int32) else (0 : Int32)) else (1 : Int32))), .val (.int (if v14 < q0 then (if q1 < v15 then (0 : Int32) else (0 : Int32)) else (1 : Int32)))] [])) _
      refine XS.iconst X226.here hx rfl (hb hby at_235) ?_
      subst hv18
      exact kt
  have hfin : v18 = 1 := (own_plain0 q0 q1 p2 v1 hv1 v2 hv2 v3 hv3 v4 hv4 v5 hv5 v6 hv6 v7 hv7 v8 hv8 v9 hv9 v10 hv10 v11 hv11 v12 hv12 v13 hv13 v14 hv14 v15 hv15 v16 hv16 v17 hv17 v18 hv18)
  obtain ⟨fs, hr, hrun, hended, hW, hsame⟩ := X226.leave (v := some (.int (v18 &&& 1))) (fun h => by rw [Bd.returns] at h; cases h)
  refine ⟨_, _, pre231 _ ?_, hrun, hended, _, _, rfl, ?_, ⟨_, rfl⟩, hW, hsame.mono (by decide) (by decide)⟩
  · exact retN X226 hx (t := .boolean) Bd.returns (by simp) (hb hby at_236) hr
  · exact ⟨by rw [hfin]; rfl, N227⟩
set_option maxRecDepth 65536 in
set_option maxHeartbeats 40000000 in
theorem comes_1 {Post : Tables → Env → Array Value → State → Outcome → State → Prop} (hpost : ∀ tb e args s v u, (limb_1_1.after args s (.returned v) u = true ∧ limb_1_2.after args s (.returned v) u = true ∧ True) → FrameEnd s (.returned v) u (Jvm.fieldLocs frame_1_writes args s ++ Jvm.arrayLocs frame_1_arrays args s ++ Jvm.staticLocs frame_1_statics s) 16 128 → Post tb e args s (.returned v) u) :
    ArmFor flags0 classFile x code maxLocals ret World_1 tables_1 room_1 Calls_1 rest_1 Pre_1 Post := by
  intro l hfl _ _ p e ha hc hk s m args below hf hA hF happ hP
  obtain ⟨hcalls, hrest, hpre⟩ := hP
  obtain ⟨-, -, -, hnamed, -, -, -, hat⟩ := (Spec.applies_iff hf).mp happ
  obtain ⟨hg, hn⟩ := and_e (Cond.before_iff.mp (show (Jvm.Cond.and given_1 narrow_1).before args s = true from hpre))
  obtain ⟨hcount, hg0⟩ := and_e hg
  obtain ⟨ha0, hg1⟩ := and_e hg0
  obtain ⟨ha1, hg2⟩ := and_e hg1
  have ha2 := hg2
  obtain ⟨w0, w1, w2, rfl⟩ : ∃ w0 w1 w2 : Value, args = #[w0, w1, w2] := by
    have hs : args.size = 3 := by simpa [Cond.value, given_1] using hcount
    obtain ⟨L⟩ := args
    match L, hs with
    | [w0, w1, w2], _ => exact ⟨w0, w1, w2, rfl⟩
  have hw := fun d (hd : d ∈ tables_1) => atoms_spec (ws := Jvm.Cond.code x code maxLocals ret :: tables_1) hat d (List.mem_cons_of_mem _ hd)
  obtain ⟨i0, ei0⟩ := isL_v ha0
  obtain rfl : w0 = (.long i0) := Option.some.inj ei0
  obtain ⟨i1, ei1⟩ := isL_v ha1
  obtain rfl : w1 = (.long i1) := Option.some.inj ei1
  obtain ⟨i2, ei2⟩ := is_v ha2
  obtain rfl : w2 = (.int i2) := Option.some.inj ei2
  obtain ⟨n, o, h1, h2, h3, _, L, rfl, ⟨rfl, N⟩, hq⟩ := rm0 l s _ hw tables_1 i0 i1 i2 s.heap s.heap.size (Nat.le_refl _) p e ha hc hk s m _ below hf ((Spec.applies_iff_loose hf).mp happ).1 ⟨rfl, State.Warmed39.refl s, rfl⟩ trivial
  refine ⟨n, _, h1, h2, h3, hpost _ _ _ _ _ _ ⟨Cond.after_iff.mpr rfl, Cond.after_iff.mpr (eq_i res_at (Term.int_eval (1)) rfl), trivial⟩ ⟨hq.1, hq.2.1, (hq.2.2.sift fun y hy => Or.inr (N y hy)).mono (by decide) (by decide)⟩⟩
theorem main_1_1 : Claimed_1_1 := comes_1 fun _ _ _ _ _ _ h hF => ⟨h.1, hF⟩
theorem main_1_2 : Claimed_1_2 := comes_1 fun _ _ _ _ _ _ h hF => ⟨h.2.1, hF⟩
end Jvm.Pilot.@@N@@
namespace Jvm.Pilot.@@N@@
open Jvm Jvm.ClassFile Sem Op Lib Jvm.Free Jvm.Stand Jvm.Pilot.@@N@@.Jvm.D
/-! MADE BY PROGRAM (witnessworld.py) out of the Statement's table words and the real class files: 9 classes; the members and pool entries that the words name. The judged class is class 1, her method 1. -/
namespace start1
open Jvm.ClassFile
def u (s : String) : CpInfo := .utf8 (stringToUtf16 s)
/-- a pool by its gaps: so many unusable entries, then the entry; so many at the end -/
def gap : Nat → List CpInfo → List CpInfo
  | 0, r => r
  | n + 1, r => .unusable :: gap n r
def poolList (es : List (Nat × CpInfo)) (last : Nat) : List CpInfo := es.foldr (fun e r => gap e.1 (e.2 :: r)) (gap last [])
def pool (es : List (Nat × CpInfo)) (last : Nat) : Array CpInfo := ⟨poolList es last⟩
def fileOf (pool : Array CpInfo) (this : Nat) (attrs : Array Attribute := #[]) (ms : Array MethodInfo := #[]) (fl : Nat := 33) (sup : Nat := 0) (ifs : Array Nat := #[]) (fds : Array FieldInfo := #[]) : ClassFile where
  minorVersion := 0
  majorVersion := 65
  constantPool := pool
  accessFlags := fl
  thisClass := this
  superClass := sup
  interfaces := ifs
  fields := fds
  methods := ms
  attributes := attrs
def plain (name : String) (sup : Option ClassId) : Class where
  name := name
  kind := .ordinary
  loader := none
  accessFlags := 33
  super := sup
  interfaces := #[]
  cf := none
  fields := #[]
  methods := #[]
  instanceTypes := #[]
  staticTypes := #[]
  resolved := #[]
  callSites := []
  init := .initialized
  statics := none
  mirror := none

def pool0 : Array CpInfo := pool [(5, u "<init>"), (0, u "()V"), (1, .class_ 10), (1, u "java/lang/Object")] 113

def k0c0 : Code := { maxStack := 0, maxLocals := 1, code := object_method_1_code, exceptionTable := #[], attributes := #[] }
def k0m0 : Method := { name := "<init>", desc := "()V", sig := { parameters := [], returnType := none }, accessFlags := 1, code := some k0c0 }
/-- java/lang/Object -/
def k0 : Class := { plain "java/lang/Object" none with
  accessFlags := 33
  interfaces := #[]
  cf := some (fileOf pool0 8 #[] #[{ accessFlags := 1, nameIndex := 5, descriptorIndex := 6, attributes := #[] }] 33 0 #[] #[])
  fields := #[]
  methods := #[k0m0]
  instanceTypes := #[]
  staticTypes := #[]
  resolved := Array.replicate 124 none
  statics := none }

def pool1 : Array CpInfo := pool [(2, .class_ 4), (1, u "java/lang/Object"), (0, u "<init>"), (0, u "()V"), (0, .class_ 8), (0, u "com/example/strict_pdp/strictpdp/expression/ThreeValued$Count"), (0, .methodref 7 10), (0, .nameAndType 5 11), (0, u "(JJ)V"), (0, .methodref 7 13), (0, .nameAndType 14 15), (0, u "add"), (0, u "(Z)V"), (0, .methodref 7 17), (0, .nameAndType 18 19), (0, u "known"), (0, u "()Z"), (0, .methodref 7 21), (0, .nameAndType 22 19), (0, u "answer"), (0, .class_ 24), (0, u "com/example/strict_pdp/strictpdp/expression/CountAddPinLaw"), (2, u "law"), (0, u "(JJI)Z")] 10

def k1m0 : Method := { name := "<init>", desc := "()V", sig := { parameters := [], returnType := none }, accessFlags := 2, code := none }
def k1c1 : Code := { maxStack := 6, maxLocals := 18, code := code, exceptionTable := #[], attributes := #[] }
def k1m1 : Method := { name := "law", desc := "(JJI)Z", sig := { parameters := [.long, .long, .int], returnType := some .boolean }, accessFlags := 9, code := some k1c1 }
/-- com/example/strict_pdp/strictpdp/expression/CountAddPinLaw -/
def k1 : Class := { plain "com/example/strict_pdp/strictpdp/expression/CountAddPinLaw" (some 0) with
  accessFlags := 49
  interfaces := #[]
  cf := some (fileOf pool1 23 #[] #[{ accessFlags := 2, nameIndex := 5, descriptorIndex := 6, attributes := #[] }, { accessFlags := 9, nameIndex := 27, descriptorIndex := 28, attributes := #[] }] 49 2 #[] #[])
  fields := #[]
  methods := #[k1m0, k1m1]
  instanceTypes := #[]
  staticTypes := #[]
  resolved := Array.replicate 39 none
  statics := none }

def pool2 : Array CpInfo := pool [(1, .methodref 2 3), (0, .class_ 4), (0, .nameAndType 5 6), (0, u "java/lang/Object"), (0, u "<init>"), (0, u "()V"), (0, .fieldref 8 9), (0, .class_ 10), (0, .nameAndType 11 12), (0, u "com/example/strict_pdp/strictpdp/expression/ThreeValued$Count"), (0, u "required"), (0, u "J"), (0, .fieldref 8 14), (0, .nameAndType 15 12), (0, u "allowedFalse"), (0, .fieldref 8 17), (0, .nameAndType 18 12), (0, u "trues"), (0, .fieldref 8 20), (0, .nameAndType 21 12), (0, u "falses"), (0, .fieldref 8 23), (0, .nameAndType 24 25), (0, u "indeterminate"), (0, u "Lcom/example/strict_pdp/strictpdp/Status;"), (11, u "(JJ)V"), (2, u "known"), (0, u "()Z"), (1, u "add"), (0, u "(Z)V"), (1, u "answer"), (4, .class_ 52), (0, u "com/example/strict_pdp/strictpdp/expression/ThreeValued")] 2

def k2c0 : Code := { maxStack := 3, maxLocals := 5, code := prog_75_method_1_code, exceptionTable := #[], attributes := #[] }
def k2m0 : Method := { name := "<init>", desc := "(JJ)V", sig := { parameters := [.long, .long], returnType := none }, accessFlags := 1, code := some k2c0 }
def k2c1 : Code := { maxStack := 4, maxLocals := 1, code := prog_75_method_2_code, exceptionTable := #[], attributes := #[] }
def k2m1 : Method := { name := "known", desc := "()Z", sig := { parameters := [], returnType := some .boolean }, accessFlags := 1, code := some k2c1 }
def k2c2 : Code := { maxStack := 5, maxLocals := 2, code := prog_75_method_3_code, exceptionTable := #[], attributes := #[] }
def k2m2 : Method := { name := "add", desc := "(Z)V", sig := { parameters := [.boolean], returnType := none }, accessFlags := 1, code := some k2c2 }
def k2c3 : Code := { maxStack := 4, maxLocals := 2, code := prog_75_method_5_code, exceptionTable := #[], attributes := #[] }
def k2m3 : Method := { name := "answer", desc := "()Z", sig := { parameters := [], returnType := some .boolean }, accessFlags := 1, code := some k2c3 }
/-- com/example/strict_pdp/strictpdp/expression/ThreeValued$Count -/
def k2 : Class := { plain "com/example/strict_pdp/strictpdp/expression/ThreeValued$Count" (some 0) with
  accessFlags := 49
  interfaces := #[]
  cf := some (fileOf pool2 8 #[.nestHost 51] #[{ accessFlags := 1, nameIndex := 5, descriptorIndex := 37, attributes := #[] }, { accessFlags := 1, nameIndex := 40, descriptorIndex := 41, attributes := #[] }, { accessFlags := 1, nameIndex := 43, descriptorIndex := 44, attributes := #[] }, { accessFlags := 1, nameIndex := 46, descriptorIndex := 41, attributes := #[] }] 49 2 #[] #[{ accessFlags := 18, nameIndex := 11, descriptorIndex := 12, attributes := #[] }, { accessFlags := 18, nameIndex := 15, descriptorIndex := 12, attributes := #[] }, { accessFlags := 2, nameIndex := 18, descriptorIndex := 12, attributes := #[] }, { accessFlags := 2, nameIndex := 21, descriptorIndex := 12, attributes := #[] }, { accessFlags := 2, nameIndex := 24, descriptorIndex := 25, attributes := #[] }])
  fields := #[{ name := "required", type := .long, accessFlags := 18, slot := 0, constantValue := 0 }, { name := "allowedFalse", type := .long, accessFlags := 18, slot := 1, constantValue := 0 }, { name := "trues", type := .long, accessFlags := 2, slot := 2, constantValue := 0 }, { name := "falses", type := .long, accessFlags := 2, slot := 3, constantValue := 0 }, { name := "indeterminate", type := (.object "com/example/strict_pdp/strictpdp/Status"), accessFlags := 2, slot := 4, constantValue := 0 }]
  methods := #[k2m0, k2m1, k2m2, k2m3]
  instanceTypes := #[.long, .long, .long, .long, (.object "com/example/strict_pdp/strictpdp/Status")]
  staticTypes := #[]
  resolved := Array.replicate 55 none
  statics := none }

def pool3 : Array CpInfo := pool [(1, u "java/lang/Cloneable"), (0, .class_ 1), (0, u "java/lang/Object"), (0, .class_ 3)] 3

/-- java/lang/Cloneable -/
def k3 : Class := { plain "java/lang/Cloneable" (some 0) with
  accessFlags := 1537
  interfaces := #[]
  cf := some (fileOf pool3 2 #[] #[] 1537 4 #[] #[])
  fields := #[]
  methods := #[]
  instanceTypes := #[]
  staticTypes := #[]
  resolved := Array.replicate 8 none
  statics := none }

def pool4 : Array CpInfo := pool [(1, u "java/io/Serializable"), (0, .class_ 1), (0, u "java/lang/Object"), (0, .class_ 3)] 3

/-- java/io/Serializable -/
def k4 : Class := { plain "java/io/Serializable" (some 0) with
  accessFlags := 1537
  interfaces := #[]
  cf := some (fileOf pool4 2 #[] #[] 1537 4 #[] #[])
  fields := #[]
  methods := #[]
  instanceTypes := #[]
  staticTypes := #[]
  resolved := Array.replicate 8 none
  statics := none }

/-- the primitive byte -/
def k5 : Class := { plain "byte" none with kind := .primitive 'B', accessFlags := 0x411 }
/-- [B -/
def k6 : Class := { plain "[B" (some 0) with kind := .array 5 .byte, interfaces := #[3, 4], accessFlags := 1041 }

/-- the primitive int -/
def k7 : Class := { plain "int" none with kind := .primitive 'I', accessFlags := 0x411 }
/-- [I -/
def k8 : Class := { plain "[I" (some 0) with kind := .array 7 .int, interfaces := #[3, 4], accessFlags := 1041 }

def heap : Heap := #[]
def classes : Array Class := #[k0, k1, k2, k3, k4, k5, k6, k7, k8]
def interned : List (Array UInt16 × Addr) := []
def slotsUsed : Nat := 0
def theMethod : MethodId := ⟨1, 1⟩
def args0 : Array Value := #[.long 5, .long 5, .int 5]
def aboutOver (below : List Frame) : State where
  vm := { classes := classes, interned := interned.toArray }
  heap := heap
  slotsUsed := slotsUsed
  threads := #[{ frames := .invoking theMethod args0 :: below }]
def below0 : List Frame := [.native { method := ⟨0, 0⟩, args := #[] }]
def about1 : State := aboutOver below0
def p0 : Program := .bare "" "" ""
def e0 : Env := launch0.env 0 0 0
theorem w_frames : about1.frames = Frame.invoking theMethod args0 :: below0 := rfl
set_option maxRecDepth 65536 in
theorem w_args : argsFit about1.vm theMethod args0 = true := by decide +kernel
set_option maxRecDepth 65536 in
theorem w_heap : heapFits about1 = true := by decide +kernel
set_option maxRecDepth 65536 in
theorem w_runnable : about1.curStatus? = some .runnable := by decide +kernel
set_option maxRecDepth 65536 in
theorem w_alone : about1.alone = true := by decide +kernel
set_option maxRecDepth 65536 in
theorem w_named : about1.methodNamed? x = some theMethod := by decide +kernel
set_option maxRecDepth 65536 in
theorem w_hears : about1.hears theMethod below0 = true := by decide +kernel
set_option maxRecDepth 65536 in
theorem w_ripe : about1.ripe theMethod args0 below0 = true := by decide +kernel
theorem w_running : about1.status = .running := rfl
set_option maxRecDepth 65536 in
theorem w_room : about1.hasRoom e0.platform room_1 = true :=
  launch0.hasRoom_least _ room_1 (by decide +kernel) (by decide +kernel) (by decide +kernel) (by decide +kernel) (by decide +kernel) (by decide +kernel)
theorem allAtoms_all (ts : List Jvm.Cond) (a : Array Jvm.Value) (st : Jvm.State) : (allAtoms ts).before a st = ts.all (fun c => c.before a st) := by
  induction ts with
  | nil => rfl
  | cons c t ih =>
    show (Jvm.Cond.and c (allAtoms t)).before a st = _
    rw [Jvm.Cond.before_and, ih, List.all_cons]
def words1 : List Jvm.Cond := Jvm.Cond.code x code maxLocals ret :: tables_1
/-- a 'code' word, met by the world's own term for the bytes: nothing is compared byte by byte -/
theorem code_word {y : MethodName} {bytes : ByteArray} {mx : Nat} {rt : Option FieldType} {a : Array Value} {s : State} {m : MethodId} {meth : Method} {c : Code} (h1 : s.methodNamed? y = some m) (h2 : s.vm.method? m = some meth) (h3 : meth.code = some c) (h4 : c.code = bytes)
    (h5 : (c.maxLocals == mx && c.exceptionTable.isEmpty && decide (c.maxStack ≤ mostOperands) && decide (meth.sig.returnType = rt) && !meth.locks && decide (parseMethodDescriptor y.desc = some meth.sig)) = true) : (Jvm.Cond.code y bytes mx rt).before a s = true := by
  simp only [Bool.and_eq_true, beq_iff_eq, Bool.not_eq_true', decide_eq_true_eq] at h5
  obtain ⟨⟨⟨⟨⟨g1, g2⟩, g3⟩, g4⟩, g5⟩, g6⟩ := h5
  simp [Cond.before, Cond.holds, Cond.value, h1, h2, h3, h4, g1, g2, g3, g4, g5, g6]
def isCode : Jvm.Cond → Bool
  | .code _ _ _ _ => true
  | _ => false
theorem all_split {L : List Jvm.Cond} {P : Jvm.Cond → Bool} (h1 : L.all (fun c => isCode c || P c) = true) (h2 : ∀ c ∈ L.filter isCode, P c = true) : L.all P = true := by
  refine List.all_eq_true.mpr fun c hc => ?_
  have h := List.all_eq_true.mp h1 c hc
  rcases Bool.eq_false_or_eq_true (isCode c) with hi | hi
  · exact h2 c (List.mem_filter.mpr ⟨hc, hi⟩)
  · simpa [hi] using h
set_option maxRecDepth 65536 in
theorem w_c0 : (Jvm.Cond.code x code maxLocals ret).before args0 about1 = true := code_word (m := ⟨1, 1⟩) (meth := k1m1) (c := k1c1) (by decide +kernel) rfl rfl rfl (by decide +kernel)
set_option maxRecDepth 65536 in
theorem w_c1 : (Jvm.Cond.code ({ cls := "com/example/strict_pdp/strictpdp/expression/ThreeValued$Count", name := "<init>", desc := "(JJ)V" } : Jvm.MethodName) prog_75_method_1_code (5 : Nat) (Option.none : Option Jvm.ClassFile.FieldType)).before args0 about1 = true := code_word (m := ⟨2, 0⟩) (meth := k2m0) (c := k2c0) (by decide +kernel) rfl rfl rfl (by decide +kernel)
set_option maxRecDepth 65536 in
theorem w_c2 : (Jvm.Cond.code ({ cls := "java/lang/Object", name := "<init>", desc := "()V" } : Jvm.MethodName) object_method_1_code (1 : Nat) (Option.none : Option Jvm.ClassFile.FieldType)).before args0 about1 = true := code_word (m := ⟨0, 0⟩) (meth := k0m0) (c := k0c0) (by decide +kernel) rfl rfl rfl (by decide +kernel)
set_option maxRecDepth 65536 in
theorem w_c3 : (Jvm.Cond.code ({ cls := "com/example/strict_pdp/strictpdp/expression/ThreeValued$Count", name := "known", desc := "()Z" } : Jvm.MethodName) prog_75_method_2_code (1 : Nat) (Option.some Jvm.ClassFile.FieldType.boolean)).before args0 about1 = true := code_word (m := ⟨2, 1⟩) (meth := k2m1) (c := k2c1) (by decide +kernel) rfl rfl rfl (by decide +kernel)
set_option maxRecDepth 65536 in
theorem w_c4 : (Jvm.Cond.code ({ cls := "com/example/strict_pdp/strictpdp/expression/ThreeValued$Count", name := "answer", desc := "()Z" } : Jvm.MethodName) prog_75_method_5_code (2 : Nat) (Option.some Jvm.ClassFile.FieldType.boolean)).before args0 about1 = true := code_word (m := ⟨2, 3⟩) (meth := k2m3) (c := k2c3) (by decide +kernel) rfl rfl rfl (by decide +kernel)
set_option maxRecDepth 65536 in
theorem w_c5 : (Jvm.Cond.code ({ cls := "com/example/strict_pdp/strictpdp/expression/ThreeValued$Count", name := "add", desc := "(Z)V" } : Jvm.MethodName) prog_75_method_3_code (2 : Nat) (Option.none : Option Jvm.ClassFile.FieldType)).before args0 about1 = true := code_word (m := ⟨2, 2⟩) (meth := k2m2) (c := k2c2) (by decide +kernel) rfl rfl rfl (by decide +kernel)
def codes1 : List Jvm.Cond := [Jvm.Cond.code x code maxLocals ret, Jvm.Cond.code ({ cls := "com/example/strict_pdp/strictpdp/expression/ThreeValued$Count", name := "<init>", desc := "(JJ)V" } : Jvm.MethodName) prog_75_method_1_code (5 : Nat) (Option.none : Option Jvm.ClassFile.FieldType), Jvm.Cond.code ({ cls := "java/lang/Object", name := "<init>", desc := "()V" } : Jvm.MethodName) object_method_1_code (1 : Nat) (Option.none : Option Jvm.ClassFile.FieldType), Jvm.Cond.code ({ cls := "com/example/strict_pdp/strictpdp/expression/ThreeValued$Count", name := "known", desc := "()Z" } : Jvm.MethodName) prog_75_method_2_code (1 : Nat) (Option.some Jvm.ClassFile.FieldType.boolean), Jvm.Cond.code ({ cls := "com/example/strict_pdp/strictpdp/expression/ThreeValued$Count", name := "answer", desc := "()Z" } : Jvm.MethodName) prog_75_method_5_code (2 : Nat) (Option.some Jvm.ClassFile.FieldType.boolean), Jvm.Cond.code ({ cls := "com/example/strict_pdp/strictpdp/expression/ThreeValued$Count", name := "add", desc := "(Z)V" } : Jvm.MethodName) prog_75_method_3_code (2 : Nat) (Option.none : Option Jvm.ClassFile.FieldType)]
set_option maxRecDepth 65536 in
theorem codes_eq : words1.filter isCode = codes1 := rfl
theorem w_codes : ∀ c ∈ words1.filter isCode, c.before args0 about1 = true := by
  rw [codes_eq]
  intro c hc
  simp only [codes1, List.mem_cons, List.not_mem_nil, or_false] at hc
  rcases hc with rfl | rfl | rfl | rfl | rfl | rfl
  · exact w_c0
  · exact w_c1
  · exact w_c2
  · exact w_c3
  · exact w_c4
  · exact w_c5
set_option maxRecDepth 65536 in
theorem w_t1 : (words1.take 24).all (fun c => isCode c || c.before args0 about1) = true := by decide +kernel
set_option maxRecDepth 65536 in
theorem w_t2 : (words1.drop 24).all (fun c => isCode c || c.before args0 about1) = true := by decide +kernel
theorem w_tables : (allAtoms (Jvm.Cond.code x code maxLocals ret :: tables_1)).before args0 about1 = true := by
  rw [allAtoms_all]
  show words1.all (fun c => c.before args0 about1) = true
  refine all_split ?_ w_codes
  rw [← List.take_append_drop 24 words1, List.all_append, w_t1, w_t2]
  rfl
set_option maxRecDepth 65536 in
theorem w_case : (Jvm.Cond.and given_1 narrow_1).before args0 about1 = true := by decide +kernel
theorem w_applies : (headSpec (Jvm.Cond.code x code maxLocals ret :: tables_1) room_1).applies x e0.platform about1 = true :=
  (Spec.applies_iff w_frames).mpr ⟨w_running, w_runnable, w_alone, w_named, w_hears, w_ripe, w_room, w_tables⟩
theorem atStart : AtStart classFile x code maxLocals ret World_1 tables_1 room_1 Calls_1 rest_1 Pre_1 launch0 p0 e0 about1 theMethod args0 below0 :=
  ⟨lists_1, trivial, launch0.admits_env _ _ _, launch0.least_env, fairChoices_fair.cas, fairChoices_fair.clock, w_frames, w_args, w_heap, w_applies, trivial, trivial, w_case⟩
end start1
theorem witness_1 : WitnessClaimed_1 := ⟨start1.p0, start1.e0, start1.about1, start1.theMethod, start1.args0, start1.below0, start1.atStart⟩
end Jvm.Pilot.@@N@@
