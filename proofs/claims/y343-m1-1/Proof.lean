import JvmDerived
import JvmDerived.Pilot.@@N@@Statement
import JvmDerived.Pilot.@@N@@Code
set_option linter.unusedVariables false
set_option linter.unusedSimpArgs false
@@BLOCK:NumsL.lean.txt@@
namespace Jvm.RoadKit
open Sem ClassFile Op Lib Jvm.Stand Jvm.Free Jvm.LawKit
section New
variable {p : Program} {l : Launch} {e : Env} {R : Room} {s : State} {m : MethodId} {args : Array Value} {below : List Frame} {meth : Method} {c : Code} {T : State} {locs : List Loc} {cells slots : Nat}
theorem retI (X : Stand p l e R s m args below meth c T locs cells slots) (hx : p.tables.exec = Jvm.exec) {pc : Nat} {Ls : Array Slot} {z : Int32} {rest : List Value} (hret : meth.sig.returnType = some .int) (hd : decode c.code pc = .ok (.ireturn, 1)) {fs : List Frame}
    (hl : ∀ (f : JFrame) (acts : List Action), f.method = m → f.locked = none → f.entered = [] → (doReturn e (T.setTop f) acts (some (.int z))).1 = T.setFrames fs) : Steps p.tables e below (T.setTop (mkF m pc Ls (.int z :: rest))) (T.setFrames fs) := by
  have hm' : T.vm.method? m = some meth := X.method'
  have hn : narrow .int (.int z) = .int z := rfl
  show Steps p.tables e below (T.setTop { method := m, pc := pc, locals := Ls, stack := _ :: rest, locked := none }) _
  jvm_step X.here [X.here.top, hx, hd, hm', hret, hn]
  first | (intro acts; rw [hl _ acts rfl rfl rfl]) | rw [hl _ _ rfl rfl rfl]
  exact Steps.refl _
end New
end Jvm.RoadKit
namespace Jvm.Pilot.@@N@@
open Jvm Jvm.ClassFile Sem Op Lib Jvm.Free Jvm.Stand Jvm.LawKit Jvm.RoadKit Bundle Jvm.Pilot.@@N@@.Jvm.D
theorem own_lwN {x y : Int64} (h : ¬ x = y) : ¬ lcmpW x y = 0 := fun q => h ((lw_eq x y).mp q)
theorem own_lwE {x y : Int64} (h : x = y) : lcmpW x y = 0 := (lw_eq x y).mpr h
theorem own_lwL {x y : Int64} (h : x < y) : lcmpW x y < 0 := (lw_lt x y).mpr h
theorem own_lwM {x y : Int64} (h : ¬ x < y) : ¬ lcmpW x y < 0 := fun q => h ((lw_lt x y).mp q)
theorem own_lwG {x y : Int64} (h : y < x) : 0 < lcmpW x y := (lw_gt x y).mpr h
theorem own_lwH {x y : Int64} (h : ¬ y < x) : ¬ 0 < lcmpW x y := fun q => h ((lw_gt x y).mp q)
theorem own_F {Z : State} {h : Heap} {a : Addr} {C n d : String} {v w : Value} (q : v = w) (F : Fld Z h a C n d v) : Fld Z h a C n d w := q ▸ F
theorem own_rI {x y : Int32} (q : x = y) : (some (Value.int x)) = some (.int y) := by rw [q]
theorem own_rJ {x y : Int64} (q : x = y) : (some (Value.long x)) = some (.long y) := by rw [q]
theorem d1_0 : decode prog_61_method_7_code 0 = .ok (.iconst 1, 1) := by decide +kernel
theorem d1_1 : decode prog_61_method_7_code 1 = .ok (.istore_n 1, 1) := by decide +kernel
theorem d1_2 : decode prog_61_method_7_code 2 = .ok (.iload_n 0, 1) := by decide +kernel
theorem d1_3 : decode prog_61_method_7_code 3 = .ok (.bipush 8, 2) := by decide +kernel
theorem d1_5 : decode prog_61_method_7_code 5 = .ok (.if_icmp .lt 9, 3) := by decide +kernel
theorem d1_8 : decode prog_61_method_7_code 8 = .ok (.iload_n 0, 1) := by decide +kernel
theorem d1_9 : decode prog_61_method_7_code 9 = .ok (.bipush 12, 2) := by decide +kernel
theorem d1_11 : decode prog_61_method_7_code 11 = .ok (.if_icmp .le 9, 3) := by decide +kernel
theorem d1_14 : decode prog_61_method_7_code 14 = .ok (.iload_n 0, 1) := by decide +kernel
theorem d1_15 : decode prog_61_method_7_code 15 = .ok (.bipush 29, 2) := by decide +kernel
theorem d1_17 : decode prog_61_method_7_code 17 = .ok (.if_icmp .ne 8, 3) := by decide +kernel
theorem d1_20 : decode prog_61_method_7_code 20 = .ok (.iconst 3, 1) := by decide +kernel
theorem d1_21 : decode prog_61_method_7_code 21 = .ok (.istore_n 1, 1) := by decide +kernel
theorem d1_22 : decode prog_61_method_7_code 22 = .ok (.goto 25, 3) := by decide +kernel
theorem d1_25 : decode prog_61_method_7_code 25 = .ok (.iload_n 0, 1) := by decide +kernel
theorem d1_26 : decode prog_61_method_7_code 26 = .ok (.bipush 7, 2) := by decide +kernel
theorem d1_28 : decode prog_61_method_7_code 28 = .ok (.if_icmp .ne 8, 3) := by decide +kernel
theorem d1_31 : decode prog_61_method_7_code 31 = .ok (.iconst 2, 1) := by decide +kernel
theorem d1_32 : decode prog_61_method_7_code 32 = .ok (.istore_n 1, 1) := by decide +kernel
theorem d1_33 : decode prog_61_method_7_code 33 = .ok (.goto 14, 3) := by decide +kernel
theorem d1_36 : decode prog_61_method_7_code 36 = .ok (.iload_n 0, 1) := by decide +kernel
theorem d1_37 : decode prog_61_method_7_code 37 = .ok (.ifCond .eq 8, 3) := by decide +kernel
theorem d1_40 : decode prog_61_method_7_code 40 = .ok (.iload_n 0, 1) := by decide +kernel
theorem d1_41 : decode prog_61_method_7_code 41 = .ok (.iconst 1, 1) := by decide +kernel
theorem d1_42 : decode prog_61_method_7_code 42 = .ok (.if_icmp .ne 5, 3) := by decide +kernel
theorem d1_45 : decode prog_61_method_7_code 45 = .ok (.iconst 0, 1) := by decide +kernel
theorem d1_46 : decode prog_61_method_7_code 46 = .ok (.istore_n 1, 1) := by decide +kernel
theorem d1_47 : decode prog_61_method_7_code 47 = .ok (.iload_n 1, 1) := by decide +kernel
theorem d1_48 : decode prog_61_method_7_code 48 = .ok (.ireturn, 1) := by decide +kernel
theorem pn40048781 : plainName "com/example/xcu/xcu/UcaTable" = true := by first | (simp [plainName, overriddenIn]; done) | decide +kernel
theorem ef_1 (m : MethodId) (p0 : Int32) : entryFrame m #[(.int p0)] 2 = mkF m 0 #[.val (.int p0), .unset] [] := by first | (simp [entryFrame, mkF, argsToLocals, Value.category]; done) | rfl
def Q1 (Z : State) (p0 : Int32) (h0 : Heap) (n0 : Nat) (v : Option Value) (h : Heap) (L : List Loc) : Prop := v = some (.int (if p0 < (8 : Int32) then (if p0 = (29 : Int32) then (3 : Int32) else (if p0 = (7 : Int32) then (2 : Int32) else (if p0 = (0 : Int32) then (0 : Int32) else (if p0 = (1 : Int32) then (0 : Int32) else (1 : Int32))))) else (if (12 : Int32) < p0 then (if p0 = (29 : Int32) then (3 : Int32) else (if p0 = (7 : Int32) then (2 : Int32) else (if p0 = (0 : Int32) then (0 : Int32) else (if p0 = (1 : Int32) then (0 : Int32) else (1 : Int32))))) else (3 : Int32)))) ∧ Fr n0 L ∧ h = h0
set_option maxRecDepth 65536 in
set_option maxHeartbeats 40000000 in
theorem rm1 (l : Launch) (Z : State) (aq : Array Value) (hw : ∀ d ∈ tables_1, d.before aq Z = true) (ws : List Jvm.Cond) (p0 : Int32) (h0 : Heap) (n0 : Nat) (Z0 : n0 ≤ h0.size) :
    MetFree l (⟨"com/example/xcu/xcu/UcaTable", "caseOf", "(I)I"⟩ : MethodName) (head1 (Jvm.Cond.code (⟨"com/example/xcu/xcu/UcaTable", "caseOf", "(I)I"⟩ : MethodName) prog_61_method_7_code 2 (some .int) :: ws) ({ frames := 0, cells := 0, slots := 0, locals := 0 } : Room)) (fun a U => a = #[(.int p0)] ∧ Z.Warmed39 U.vm ∧ U.heap = h0) (fun _ _ _ _ _ => True) (fun _ U o U' => ∃ v L, o = .returned v ∧ Q1 Z p0 h0 n0 v U'.heap L ∧ FrameEnd U o U' L ({ frames := 0, cells := 0, slots := 0, locals := 0 } : Room).cells ({ frames := 0, cells := 0, slots := 0, locals := 0 } : Room).slots) := by
  refine MetFree.of_bodySF (plainFor_of_name pn40048781) hisR ?_
  intro p e s m args below meth c s₁ Bd hml0 hP hK
  obtain ⟨rfl, hZ, hh⟩ := hP
  have hx := Bd.exec
  have hby := Bd.bytes
  have hml : c.maxLocals = 2 := hml0
  have hown : s.vm.findClass "com/example/xcu/xcu/UcaTable" = some m.cls := findClass_of_methodNamed Bd.named
  have hnm := (name_of_methodNamed Bd.named Bd.method).1
  have X0 : Stand p l e ({ frames := 0, cells := 0, slots := 0, locals := 0 } : Room) s m #[(.int p0)] below meth c s₁ [] 0 0 := Stand.of_body Bd
  have e0 : s₁.heap = h0 := by rw [← hh, Bd.state]; rfl
  have N0 := Fr.nil n0
  have pre0 : ∀ t, Steps p.tables e below (s₁.setTop (mkF m 0 #[.val (.int p0), .unset] [])) t → Steps p.tables e below (s₁.setTop (entryFrame m #[(.int p0)] 2)) t := fun t k => castTop (ef_1 m p0) k
  have pre21 : ∀ t, Steps p.tables e below (s₁.setTop (mkF m 5 #[.val (.int p0), .val (.int (1 : Int32))] [(.int (8 : Int32)), (.int p0)])) t → Steps p.tables e below (s₁.setTop (entryFrame m #[(.int p0)] 2)) t := fun t kt => by
    refine pre0 _ ?_
    show Steps p.tables e below (s₁.setTop (mkF m 0 #[.val (.int p0), .unset] [])) _
    refine XS.iconst X0.here hx rfl (hb hby d1_0) ?_
    show Steps p.tables e below (s₁.setTop (mkF m 1 #[.val (.int p0), .unset] [(.int (1 : Int32))])) _
    refine XS.istoreN X0.here hx rfl (hb hby d1_1) rfl (l' := #[.val (.int p0), .val (.int (1 : Int32))]) rfl ?_
    show Steps p.tables e below (s₁.setTop (mkF m 2 #[.val (.int p0), .val (.int (1 : Int32))] [])) _
    refine XS.iloadN X0.here hx rfl (hb hby d1_2) rfl ?_
    show Steps p.tables e below (s₁.setTop (mkF m 3 #[.val (.int p0), .val (.int (1 : Int32))] [(.int p0)])) _
    refine XS.bipush X0.here hx rfl (hb hby d1_3) ?_
    show Steps p.tables e below (s₁.setTop (mkF m 5 #[.val (.int p0), .val (.int (1 : Int32))] [(.int (8 : Int32)), (.int p0)])) _
    exact kt
  by_cases hc22 : p0 < (8 : Int32)
  · skip
    have pre23 : ∀ t, Steps p.tables e below (s₁.setTop (mkF m 17 #[.val (.int p0), .val (.int (1 : Int32))] [(.int (29 : Int32)), (.int p0)])) t → Steps p.tables e below (s₁.setTop (entryFrame m #[(.int p0)] 2)) t := fun t kt => by
      refine pre21 _ ?_
      show Steps p.tables e below (s₁.setTop (mkF m 5 #[.val (.int p0), .val (.int (1 : Int32))] [(.int (8 : Int32)), (.int p0)])) _
      refine XS.icmpYes X0.here hx rfl (pc0 := 5) (pc' := 14) rfl (hb hby d1_5) rfl (tlt hc22).1 (by decide) (by decide) ?_
      show Steps p.tables e below (s₁.setTop (mkF m 14 #[.val (.int p0), .val (.int (1 : Int32))] [])) _
      refine XS.iloadN X0.here hx rfl (hb hby d1_14) rfl ?_
      show Steps p.tables e below (s₁.setTop (mkF m 15 #[.val (.int p0), .val (.int (1 : Int32))] [(.int p0)])) _
      refine XS.bipush X0.here hx rfl (hb hby d1_15) ?_
      show Steps p.tables e below (s₁.setTop (mkF m 17 #[.val (.int p0), .val (.int (1 : Int32))] [(.int (29 : Int32)), (.int p0)])) _
      exact kt
    by_cases hc24 : p0 = (29 : Int32)
    · skip
      have pre25 : ∀ t, Steps p.tables e below (s₁.setTop (mkF m 48 #[.val (.int p0), .val (.int (3 : Int32))] [(.int (3 : Int32))])) t → Steps p.tables e below (s₁.setTop (entryFrame m #[(.int p0)] 2)) t := fun t kt => by
        refine pre23 _ ?_
        show Steps p.tables e below (s₁.setTop (mkF m 17 #[.val (.int p0), .val (.int (1 : Int32))] [(.int (29 : Int32)), (.int p0)])) _
        refine XS.icmpNo X0.here hx rfl (hb hby d1_17) rfl (teq hc24).2 ?_
        show Steps p.tables e below (s₁.setTop (mkF m 20 #[.val (.int p0), .val (.int (1 : Int32))] [])) _
        refine XS.iconst X0.here hx rfl (hb hby d1_20) ?_
        show Steps p.tables e below (s₁.setTop (mkF m 21 #[.val (.int p0), .val (.int (1 : Int32))] [(.int (3 : Int32))])) _
        refine XS.istoreN X0.here hx rfl (hb hby d1_21) rfl (l' := #[.val (.int p0), .val (.int (3 : Int32))]) rfl ?_
        show Steps p.tables e below (s₁.setTop (mkF m 22 #[.val (.int p0), .val (.int (3 : Int32))] [])) _
        refine XS.goto X0.here hx rfl (pc0 := 22) (pc' := 47) rfl (hb hby d1_22) (by decide) (by decide) ?_
        show Steps p.tables e below (s₁.setTop (mkF m 47 #[.val (.int p0), .val (.int (3 : Int32))] [])) _
        refine XS.iloadN X0.here hx rfl (hb hby d1_47) rfl ?_
        show Steps p.tables e below (s₁.setTop (mkF m 48 #[.val (.int p0), .val (.int (3 : Int32))] [(.int (3 : Int32))])) _
        exact kt
      obtain ⟨fs, hr, hrun, hended, hW, hsame⟩ := X0.leave (v := some (.int (3 : Int32))) (fun h => by rw [Bd.returns] at h; cases h)
      refine ⟨_, _, pre25 _ ?_, hrun, hended, _, _, rfl, ?_, ⟨_, rfl⟩, hW, hsame.mono (by decide) (by decide)⟩
      · exact retI X0 hx Bd.returns (hb hby d1_48) hr
      · show Q1 Z p0 h0 n0 _ s₁.heap _
        rw [e0]
        exact ⟨(own_rI (by rw [if_pos hc22, if_pos hc24] : (3 : Int32) = (if p0 < (8 : Int32) then (if p0 = (29 : Int32) then (3 : Int32) else (if p0 = (7 : Int32) then (2 : Int32) else (if p0 = (0 : Int32) then (0 : Int32) else (if p0 = (1 : Int32) then (0 : Int32) else (1 : Int32))))) else (if (12 : Int32) < p0 then (if p0 = (29 : Int32) then (3 : Int32) else (if p0 = (7 : Int32) then (2 : Int32) else (if p0 = (0 : Int32) then (0 : Int32) else (if p0 = (1 : Int32) then (0 : Int32) else (1 : Int32))))) else (3 : Int32))))), N0, rfl⟩
    · skip
      have pre26 : ∀ t, Steps p.tables e below (s₁.setTop (mkF m 28 #[.val (.int p0), .val (.int (1 : Int32))] [(.int (7 : Int32)), (.int p0)])) t → Steps p.tables e below (s₁.setTop (entryFrame m #[(.int p0)] 2)) t := fun t kt => by
        refine pre23 _ ?_
        show Steps p.tables e below (s₁.setTop (mkF m 17 #[.val (.int p0), .val (.int (1 : Int32))] [(.int (29 : Int32)), (.int p0)])) _
        refine XS.icmpYes X0.here hx rfl (pc0 := 17) (pc' := 25) rfl (hb hby d1_17) rfl (feq hc24).2 (by decide) (by decide) ?_
        show Steps p.tables e below (s₁.setTop (mkF m 25 #[.val (.int p0), .val (.int (1 : Int32))] [])) _
        refine XS.iloadN X0.here hx rfl (hb hby d1_25) rfl ?_
        show Steps p.tables e below (s₁.setTop (mkF m 26 #[.val (.int p0), .val (.int (1 : Int32))] [(.int p0)])) _
        refine XS.bipush X0.here hx rfl (hb hby d1_26) ?_
        show Steps p.tables e below (s₁.setTop (mkF m 28 #[.val (.int p0), .val (.int (1 : Int32))] [(.int (7 : Int32)), (.int p0)])) _
        exact kt
      by_cases hc27 : p0 = (7 : Int32)
      · skip
        have pre28 : ∀ t, Steps p.tables e below (s₁.setTop (mkF m 48 #[.val (.int p0), .val (.int (2 : Int32))] [(.int (2 : Int32))])) t → Steps p.tables e below (s₁.setTop (entryFrame m #[(.int p0)] 2)) t := fun t kt => by
          refine pre26 _ ?_
          show Steps p.tables e below (s₁.setTop (mkF m 28 #[.val (.int p0), .val (.int (1 : Int32))] [(.int (7 : Int32)), (.int p0)])) _
          refine XS.icmpNo X0.here hx rfl (hb hby d1_28) rfl (teq hc27).2 ?_
          show Steps p.tables e below (s₁.setTop (mkF m 31 #[.val (.int p0), .val (.int (1 : Int32))] [])) _
          refine XS.iconst X0.here hx rfl (hb hby d1_31) ?_
          show Steps p.tables e below (s₁.setTop (mkF m 32 #[.val (.int p0), .val (.int (1 : Int32))] [(.int (2 : Int32))])) _
          refine XS.istoreN X0.here hx rfl (hb hby d1_32) rfl (l' := #[.val (.int p0), .val (.int (2 : Int32))]) rfl ?_
          show Steps p.tables e below (s₁.setTop (mkF m 33 #[.val (.int p0), .val (.int (2 : Int32))] [])) _
          refine XS.goto X0.here hx rfl (pc0 := 33) (pc' := 47) rfl (hb hby d1_33) (by decide) (by decide) ?_
          show Steps p.tables e below (s₁.setTop (mkF m 47 #[.val (.int p0), .val (.int (2 : Int32))] [])) _
          refine XS.iloadN X0.here hx rfl (hb hby d1_47) rfl ?_
          show Steps p.tables e below (s₁.setTop (mkF m 48 #[.val (.int p0), .val (.int (2 : Int32))] [(.int (2 : Int32))])) _
          exact kt
        obtain ⟨fs, hr, hrun, hended, hW, hsame⟩ := X0.leave (v := some (.int (2 : Int32))) (fun h => by rw [Bd.returns] at h; cases h)
        refine ⟨_, _, pre28 _ ?_, hrun, hended, _, _, rfl, ?_, ⟨_, rfl⟩, hW, hsame.mono (by decide) (by decide)⟩
        · exact retI X0 hx Bd.returns (hb hby d1_48) hr
        · show Q1 Z p0 h0 n0 _ s₁.heap _
          rw [e0]
          exact ⟨(own_rI (by rw [if_pos hc22, if_neg hc24, if_pos hc27] : (2 : Int32) = (if p0 < (8 : Int32) then (if p0 = (29 : Int32) then (3 : Int32) else (if p0 = (7 : Int32) then (2 : Int32) else (if p0 = (0 : Int32) then (0 : Int32) else (if p0 = (1 : Int32) then (0 : Int32) else (1 : Int32))))) else (if (12 : Int32) < p0 then (if p0 = (29 : Int32) then (3 : Int32) else (if p0 = (7 : Int32) then (2 : Int32) else (if p0 = (0 : Int32) then (0 : Int32) else (if p0 = (1 : Int32) then (0 : Int32) else (1 : Int32))))) else (3 : Int32))))), N0, rfl⟩
      · skip
        have pre29 : ∀ t, Steps p.tables e below (s₁.setTop (mkF m 37 #[.val (.int p0), .val (.int (1 : Int32))] [(.int p0)])) t → Steps p.tables e below (s₁.setTop (entryFrame m #[(.int p0)] 2)) t := fun t kt => by
          refine pre26 _ ?_
          show Steps p.tables e below (s₁.setTop (mkF m 28 #[.val (.int p0), .val (.int (1 : Int32))] [(.int (7 : Int32)), (.int p0)])) _
          refine XS.icmpYes X0.here hx rfl (pc0 := 28) (pc' := 36) rfl (hb hby d1_28) rfl (feq hc27).2 (by decide) (by decide) ?_
          show Steps p.tables e below (s₁.setTop (mkF m 36 #[.val (.int p0), .val (.int (1 : Int32))] [])) _
          refine XS.iloadN X0.here hx rfl (hb hby d1_36) rfl ?_
          show Steps p.tables e below (s₁.setTop (mkF m 37 #[.val (.int p0), .val (.int (1 : Int32))] [(.int p0)])) _
          exact kt
        by_cases hc30 : p0 = (0 : Int32)
        · skip
          have pre31 : ∀ t, Steps p.tables e below (s₁.setTop (mkF m 48 #[.val (.int p0), .val (.int (0 : Int32))] [(.int (0 : Int32))])) t → Steps p.tables e below (s₁.setTop (entryFrame m #[(.int p0)] 2)) t := fun t kt => by
            refine pre29 _ ?_
            show Steps p.tables e below (s₁.setTop (mkF m 37 #[.val (.int p0), .val (.int (1 : Int32))] [(.int p0)])) _
            refine XS.ifYes X0.here hx rfl (pc0 := 37) (pc' := 45) rfl (hb hby d1_37) rfl ((if0 _ _).trans (teq hc30).1) (by decide) (by decide) ?_
            show Steps p.tables e below (s₁.setTop (mkF m 45 #[.val (.int p0), .val (.int (1 : Int32))] [])) _
            refine XS.iconst X0.here hx rfl (hb hby d1_45) ?_
            show Steps p.tables e below (s₁.setTop (mkF m 46 #[.val (.int p0), .val (.int (1 : Int32))] [(.int (0 : Int32))])) _
            refine XS.istoreN X0.here hx rfl (hb hby d1_46) rfl (l' := #[.val (.int p0), .val (.int (0 : Int32))]) rfl ?_
            show Steps p.tables e below (s₁.setTop (mkF m 47 #[.val (.int p0), .val (.int (0 : Int32))] [])) _
            refine XS.iloadN X0.here hx rfl (hb hby d1_47) rfl ?_
            show Steps p.tables e below (s₁.setTop (mkF m 48 #[.val (.int p0), .val (.int (0 : Int32))] [(.int (0 : Int32))])) _
            exact kt
          obtain ⟨fs, hr, hrun, hended, hW, hsame⟩ := X0.leave (v := some (.int (0 : Int32))) (fun h => by rw [Bd.returns] at h; cases h)
          refine ⟨_, _, pre31 _ ?_, hrun, hended, _, _, rfl, ?_, ⟨_, rfl⟩, hW, hsame.mono (by decide) (by decide)⟩
          · exact retI X0 hx Bd.returns (hb hby d1_48) hr
          · show Q1 Z p0 h0 n0 _ s₁.heap _
            rw [e0]
            exact ⟨(own_rI (by rw [if_pos hc22, if_neg hc24, if_neg hc27, if_pos hc30] : (0 : Int32) = (if p0 < (8 : Int32) then (if p0 = (29 : Int32) then (3 : Int32) else (if p0 = (7 : Int32) then (2 : Int32) else (if p0 = (0 : Int32) then (0 : Int32) else (if p0 = (1 : Int32) then (0 : Int32) else (1 : Int32))))) else (if (12 : Int32) < p0 then (if p0 = (29 : Int32) then (3 : Int32) else (if p0 = (7 : Int32) then (2 : Int32) else (if p0 = (0 : Int32) then (0 : Int32) else (if p0 = (1 : Int32) then (0 : Int32) else (1 : Int32))))) else (3 : Int32))))), N0, rfl⟩
        · skip
          have pre32 : ∀ t, Steps p.tables e below (s₁.setTop (mkF m 42 #[.val (.int p0), .val (.int (1 : Int32))] [(.int (1 : Int32)), (.int p0)])) t → Steps p.tables e below (s₁.setTop (entryFrame m #[(.int p0)] 2)) t := fun t kt => by
            refine pre29 _ ?_
            show Steps p.tables e below (s₁.setTop (mkF m 37 #[.val (.int p0), .val (.int (1 : Int32))] [(.int p0)])) _
            refine XS.ifNo X0.here hx rfl (hb hby d1_37) rfl ((if0 _ _).trans (feq hc30).1) ?_
            show Steps p.tables e below (s₁.setTop (mkF m 40 #[.val (.int p0), .val (.int (1 : Int32))] [])) _
            refine XS.iloadN X0.here hx rfl (hb hby d1_40) rfl ?_
            show Steps p.tables e below (s₁.setTop (mkF m 41 #[.val (.int p0), .val (.int (1 : Int32))] [(.int p0)])) _
            refine XS.iconst X0.here hx rfl (hb hby d1_41) ?_
            show Steps p.tables e below (s₁.setTop (mkF m 42 #[.val (.int p0), .val (.int (1 : Int32))] [(.int (1 : Int32)), (.int p0)])) _
            exact kt
          by_cases hc33 : p0 = (1 : Int32)
          · skip
            have pre34 : ∀ t, Steps p.tables e below (s₁.setTop (mkF m 48 #[.val (.int p0), .val (.int (0 : Int32))] [(.int (0 : Int32))])) t → Steps p.tables e below (s₁.setTop (entryFrame m #[(.int p0)] 2)) t := fun t kt => by
              refine pre32 _ ?_
              show Steps p.tables e below (s₁.setTop (mkF m 42 #[.val (.int p0), .val (.int (1 : Int32))] [(.int (1 : Int32)), (.int p0)])) _
              refine XS.icmpNo X0.here hx rfl (hb hby d1_42) rfl (teq hc33).2 ?_
              show Steps p.tables e below (s₁.setTop (mkF m 45 #[.val (.int p0), .val (.int (1 : Int32))] [])) _
              refine XS.iconst X0.here hx rfl (hb hby d1_45) ?_
              show Steps p.tables e below (s₁.setTop (mkF m 46 #[.val (.int p0), .val (.int (1 : Int32))] [(.int (0 : Int32))])) _
              refine XS.istoreN X0.here hx rfl (hb hby d1_46) rfl (l' := #[.val (.int p0), .val (.int (0 : Int32))]) rfl ?_
              show Steps p.tables e below (s₁.setTop (mkF m 47 #[.val (.int p0), .val (.int (0 : Int32))] [])) _
              refine XS.iloadN X0.here hx rfl (hb hby d1_47) rfl ?_
              show Steps p.tables e below (s₁.setTop (mkF m 48 #[.val (.int p0), .val (.int (0 : Int32))] [(.int (0 : Int32))])) _
              exact kt
            obtain ⟨fs, hr, hrun, hended, hW, hsame⟩ := X0.leave (v := some (.int (0 : Int32))) (fun h => by rw [Bd.returns] at h; cases h)
            refine ⟨_, _, pre34 _ ?_, hrun, hended, _, _, rfl, ?_, ⟨_, rfl⟩, hW, hsame.mono (by decide) (by decide)⟩
            · exact retI X0 hx Bd.returns (hb hby d1_48) hr
            · show Q1 Z p0 h0 n0 _ s₁.heap _
              rw [e0]
              exact ⟨(own_rI (by rw [if_pos hc22, if_neg hc24, if_neg hc27, if_neg hc30, if_pos hc33] : (0 : Int32) = (if p0 < (8 : Int32) then (if p0 = (29 : Int32) then (3 : Int32) else (if p0 = (7 : Int32) then (2 : Int32) else (if p0 = (0 : Int32) then (0 : Int32) else (if p0 = (1 : Int32) then (0 : Int32) else (1 : Int32))))) else (if (12 : Int32) < p0 then (if p0 = (29 : Int32) then (3 : Int32) else (if p0 = (7 : Int32) then (2 : Int32) else (if p0 = (0 : Int32) then (0 : Int32) else (if p0 = (1 : Int32) then (0 : Int32) else (1 : Int32))))) else (3 : Int32))))), N0, rfl⟩
          · skip
            have pre35 : ∀ t, Steps p.tables e below (s₁.setTop (mkF m 48 #[.val (.int p0), .val (.int (1 : Int32))] [(.int (1 : Int32))])) t → Steps p.tables e below (s₁.setTop (entryFrame m #[(.int p0)] 2)) t := fun t kt => by
              refine pre32 _ ?_
              show Steps p.tables e below (s₁.setTop (mkF m 42 #[.val (.int p0), .val (.int (1 : Int32))] [(.int (1 : Int32)), (.int p0)])) _
              refine XS.icmpYes X0.here hx rfl (pc0 := 42) (pc' := 47) rfl (hb hby d1_42) rfl (feq hc33).2 (by decide) (by decide) ?_
              show Steps p.tables e below (s₁.setTop (mkF m 47 #[.val (.int p0), .val (.int (1 : Int32))] [])) _
              refine XS.iloadN X0.here hx rfl (hb hby d1_47) rfl ?_
              show Steps p.tables e below (s₁.setTop (mkF m 48 #[.val (.int p0), .val (.int (1 : Int32))] [(.int (1 : Int32))])) _
              exact kt
            obtain ⟨fs, hr, hrun, hended, hW, hsame⟩ := X0.leave (v := some (.int (1 : Int32))) (fun h => by rw [Bd.returns] at h; cases h)
            refine ⟨_, _, pre35 _ ?_, hrun, hended, _, _, rfl, ?_, ⟨_, rfl⟩, hW, hsame.mono (by decide) (by decide)⟩
            · exact retI X0 hx Bd.returns (hb hby d1_48) hr
            · show Q1 Z p0 h0 n0 _ s₁.heap _
              rw [e0]
              exact ⟨(own_rI (by rw [if_pos hc22, if_neg hc24, if_neg hc27, if_neg hc30, if_neg hc33] : (1 : Int32) = (if p0 < (8 : Int32) then (if p0 = (29 : Int32) then (3 : Int32) else (if p0 = (7 : Int32) then (2 : Int32) else (if p0 = (0 : Int32) then (0 : Int32) else (if p0 = (1 : Int32) then (0 : Int32) else (1 : Int32))))) else (if (12 : Int32) < p0 then (if p0 = (29 : Int32) then (3 : Int32) else (if p0 = (7 : Int32) then (2 : Int32) else (if p0 = (0 : Int32) then (0 : Int32) else (if p0 = (1 : Int32) then (0 : Int32) else (1 : Int32))))) else (3 : Int32))))), N0, rfl⟩
  · skip
    have pre36 : ∀ t, Steps p.tables e below (s₁.setTop (mkF m 11 #[.val (.int p0), .val (.int (1 : Int32))] [(.int (12 : Int32)), (.int p0)])) t → Steps p.tables e below (s₁.setTop (entryFrame m #[(.int p0)] 2)) t := fun t kt => by
      refine pre21 _ ?_
      show Steps p.tables e below (s₁.setTop (mkF m 5 #[.val (.int p0), .val (.int (1 : Int32))] [(.int (8 : Int32)), (.int p0)])) _
      refine XS.icmpNo X0.here hx rfl (hb hby d1_5) rfl (flt hc22).1 ?_
      show Steps p.tables e below (s₁.setTop (mkF m 8 #[.val (.int p0), .val (.int (1 : Int32))] [])) _
      refine XS.iloadN X0.here hx rfl (hb hby d1_8) rfl ?_
      show Steps p.tables e below (s₁.setTop (mkF m 9 #[.val (.int p0), .val (.int (1 : Int32))] [(.int p0)])) _
      refine XS.bipush X0.here hx rfl (hb hby d1_9) ?_
      show Steps p.tables e below (s₁.setTop (mkF m 11 #[.val (.int p0), .val (.int (1 : Int32))] [(.int (12 : Int32)), (.int p0)])) _
      exact kt
    by_cases hc37 : (12 : Int32) < p0
    · skip
      have pre38 : ∀ t, Steps p.tables e below (s₁.setTop (mkF m 17 #[.val (.int p0), .val (.int (1 : Int32))] [(.int (29 : Int32)), (.int p0)])) t → Steps p.tables e below (s₁.setTop (entryFrame m #[(.int p0)] 2)) t := fun t kt => by
        refine pre36 _ ?_
        show Steps p.tables e below (s₁.setTop (mkF m 11 #[.val (.int p0), .val (.int (1 : Int32))] [(.int (12 : Int32)), (.int p0)])) _
        refine XS.icmpNo X0.here hx rfl (hb hby d1_11) rfl (tlt hc37).2.2.2 ?_
        show Steps p.tables e below (s₁.setTop (mkF m 14 #[.val (.int p0), .val (.int (1 : Int32))] [])) _
        refine XS.iloadN X0.here hx rfl (hb hby d1_14) rfl ?_
        show Steps p.tables e below (s₁.setTop (mkF m 15 #[.val (.int p0), .val (.int (1 : Int32))] [(.int p0)])) _
        refine XS.bipush X0.here hx rfl (hb hby d1_15) ?_
        show Steps p.tables e below (s₁.setTop (mkF m 17 #[.val (.int p0), .val (.int (1 : Int32))] [(.int (29 : Int32)), (.int p0)])) _
        exact kt
      by_cases hc39 : p0 = (29 : Int32)
      · skip
        have pre40 : ∀ t, Steps p.tables e below (s₁.setTop (mkF m 48 #[.val (.int p0), .val (.int (3 : Int32))] [(.int (3 : Int32))])) t → Steps p.tables e below (s₁.setTop (entryFrame m #[(.int p0)] 2)) t := fun t kt => by
          refine pre38 _ ?_
          show Steps p.tables e below (s₁.setTop (mkF m 17 #[.val (.int p0), .val (.int (1 : Int32))] [(.int (29 : Int32)), (.int p0)])) _
          refine XS.icmpNo X0.here hx rfl (hb hby d1_17) rfl (teq hc39).2 ?_
          show Steps p.tables e below (s₁.setTop (mkF m 20 #[.val (.int p0), .val (.int (1 : Int32))] [])) _
          refine XS.iconst X0.here hx rfl (hb hby d1_20) ?_
          show Steps p.tables e below (s₁.setTop (mkF m 21 #[.val (.int p0), .val (.int (1 : Int32))] [(.int (3 : Int32))])) _
          refine XS.istoreN X0.here hx rfl (hb hby d1_21) rfl (l' := #[.val (.int p0), .val (.int (3 : Int32))]) rfl ?_
          show Steps p.tables e below (s₁.setTop (mkF m 22 #[.val (.int p0), .val (.int (3 : Int32))] [])) _
          refine XS.goto X0.here hx rfl (pc0 := 22) (pc' := 47) rfl (hb hby d1_22) (by decide) (by decide) ?_
          show Steps p.tables e below (s₁.setTop (mkF m 47 #[.val (.int p0), .val (.int (3 : Int32))] [])) _
          refine XS.iloadN X0.here hx rfl (hb hby d1_47) rfl ?_
          show Steps p.tables e below (s₁.setTop (mkF m 48 #[.val (.int p0), .val (.int (3 : Int32))] [(.int (3 : Int32))])) _
          exact kt
        obtain ⟨fs, hr, hrun, hended, hW, hsame⟩ := X0.leave (v := some (.int (3 : Int32))) (fun h => by rw [Bd.returns] at h; cases h)
        refine ⟨_, _, pre40 _ ?_, hrun, hended, _, _, rfl, ?_, ⟨_, rfl⟩, hW, hsame.mono (by decide) (by decide)⟩
        · exact retI X0 hx Bd.returns (hb hby d1_48) hr
        · show Q1 Z p0 h0 n0 _ s₁.heap _
          rw [e0]
          exact ⟨(own_rI (by rw [if_neg hc22, if_pos hc37, if_pos hc39] : (3 : Int32) = (if p0 < (8 : Int32) then (if p0 = (29 : Int32) then (3 : Int32) else (if p0 = (7 : Int32) then (2 : Int32) else (if p0 = (0 : Int32) then (0 : Int32) else (if p0 = (1 : Int32) then (0 : Int32) else (1 : Int32))))) else (if (12 : Int32) < p0 then (if p0 = (29 : Int32) then (3 : Int32) else (if p0 = (7 : Int32) then (2 : Int32) else (if p0 = (0 : Int32) then (0 : Int32) else (if p0 = (1 : Int32) then (0 : Int32) else (1 : Int32))))) else (3 : Int32))))), N0, rfl⟩
      · skip
        have pre41 : ∀ t, Steps p.tables e below (s₁.setTop (mkF m 28 #[.val (.int p0), .val (.int (1 : Int32))] [(.int (7 : Int32)), (.int p0)])) t → Steps p.tables e below (s₁.setTop (entryFrame m #[(.int p0)] 2)) t := fun t kt => by
          refine pre38 _ ?_
          show Steps p.tables e below (s₁.setTop (mkF m 17 #[.val (.int p0), .val (.int (1 : Int32))] [(.int (29 : Int32)), (.int p0)])) _
          refine XS.icmpYes X0.here hx rfl (pc0 := 17) (pc' := 25) rfl (hb hby d1_17) rfl (feq hc39).2 (by decide) (by decide) ?_
          show Steps p.tables e below (s₁.setTop (mkF m 25 #[.val (.int p0), .val (.int (1 : Int32))] [])) _
          refine XS.iloadN X0.here hx rfl (hb hby d1_25) rfl ?_
          show Steps p.tables e below (s₁.setTop (mkF m 26 #[.val (.int p0), .val (.int (1 : Int32))] [(.int p0)])) _
          refine XS.bipush X0.here hx rfl (hb hby d1_26) ?_
          show Steps p.tables e below (s₁.setTop (mkF m 28 #[.val (.int p0), .val (.int (1 : Int32))] [(.int (7 : Int32)), (.int p0)])) _
          exact kt
        by_cases hc42 : p0 = (7 : Int32)
        · skip
          have pre43 : ∀ t, Steps p.tables e below (s₁.setTop (mkF m 48 #[.val (.int p0), .val (.int (2 : Int32))] [(.int (2 : Int32))])) t → Steps p.tables e below (s₁.setTop (entryFrame m #[(.int p0)] 2)) t := fun t kt => by
            refine pre41 _ ?_
            show Steps p.tables e below (s₁.setTop (mkF m 28 #[.val (.int p0), .val (.int (1 : Int32))] [(.int (7 : Int32)), (.int p0)])) _
            refine XS.icmpNo X0.here hx rfl (hb hby d1_28) rfl (teq hc42).2 ?_
            show Steps p.tables e below (s₁.setTop (mkF m 31 #[.val (.int p0), .val (.int (1 : Int32))] [])) _
            refine XS.iconst X0.here hx rfl (hb hby d1_31) ?_
            show Steps p.tables e below (s₁.setTop (mkF m 32 #[.val (.int p0), .val (.int (1 : Int32))] [(.int (2 : Int32))])) _
            refine XS.istoreN X0.here hx rfl (hb hby d1_32) rfl (l' := #[.val (.int p0), .val (.int (2 : Int32))]) rfl ?_
            show Steps p.tables e below (s₁.setTop (mkF m 33 #[.val (.int p0), .val (.int (2 : Int32))] [])) _
            refine XS.goto X0.here hx rfl (pc0 := 33) (pc' := 47) rfl (hb hby d1_33) (by decide) (by decide) ?_
            show Steps p.tables e below (s₁.setTop (mkF m 47 #[.val (.int p0), .val (.int (2 : Int32))] [])) _
            refine XS.iloadN X0.here hx rfl (hb hby d1_47) rfl ?_
            show Steps p.tables e below (s₁.setTop (mkF m 48 #[.val (.int p0), .val (.int (2 : Int32))] [(.int (2 : Int32))])) _
            exact kt
          obtain ⟨fs, hr, hrun, hended, hW, hsame⟩ := X0.leave (v := some (.int (2 : Int32))) (fun h => by rw [Bd.returns] at h; cases h)
          refine ⟨_, _, pre43 _ ?_, hrun, hended, _, _, rfl, ?_, ⟨_, rfl⟩, hW, hsame.mono (by decide) (by decide)⟩
          · exact retI X0 hx Bd.returns (hb hby d1_48) hr
          · show Q1 Z p0 h0 n0 _ s₁.heap _
            rw [e0]
            exact ⟨(own_rI (by rw [if_neg hc22, if_pos hc37, if_neg hc39, if_pos hc42] : (2 : Int32) = (if p0 < (8 : Int32) then (if p0 = (29 : Int32) then (3 : Int32) else (if p0 = (7 : Int32) then (2 : Int32) else (if p0 = (0 : Int32) then (0 : Int32) else (if p0 = (1 : Int32) then (0 : Int32) else (1 : Int32))))) else (if (12 : Int32) < p0 then (if p0 = (29 : Int32) then (3 : Int32) else (if p0 = (7 : Int32) then (2 : Int32) else (if p0 = (0 : Int32) then (0 : Int32) else (if p0 = (1 : Int32) then (0 : Int32) else (1 : Int32))))) else (3 : Int32))))), N0, rfl⟩
        · skip
          have pre44 : ∀ t, Steps p.tables e below (s₁.setTop (mkF m 37 #[.val (.int p0), .val (.int (1 : Int32))] [(.int p0)])) t → Steps p.tables e below (s₁.setTop (entryFrame m #[(.int p0)] 2)) t := fun t kt => by
            refine pre41 _ ?_
            show Steps p.tables e below (s₁.setTop (mkF m 28 #[.val (.int p0), .val (.int (1 : Int32))] [(.int (7 : Int32)), (.int p0)])) _
            refine XS.icmpYes X0.here hx rfl (pc0 := 28) (pc' := 36) rfl (hb hby d1_28) rfl (feq hc42).2 (by decide) (by decide) ?_
            show Steps p.tables e below (s₁.setTop (mkF m 36 #[.val (.int p0), .val (.int (1 : Int32))] [])) _
            refine XS.iloadN X0.here hx rfl (hb hby d1_36) rfl ?_
            show Steps p.tables e below (s₁.setTop (mkF m 37 #[.val (.int p0), .val (.int (1 : Int32))] [(.int p0)])) _
            exact kt
          by_cases hc45 : p0 = (0 : Int32)
          · skip
            have pre46 : ∀ t, Steps p.tables e below (s₁.setTop (mkF m 48 #[.val (.int p0), .val (.int (0 : Int32))] [(.int (0 : Int32))])) t → Steps p.tables e below (s₁.setTop (entryFrame m #[(.int p0)] 2)) t := fun t kt => by
              refine pre44 _ ?_
              show Steps p.tables e below (s₁.setTop (mkF m 37 #[.val (.int p0), .val (.int (1 : Int32))] [(.int p0)])) _
              refine XS.ifYes X0.here hx rfl (pc0 := 37) (pc' := 45) rfl (hb hby d1_37) rfl ((if0 _ _).trans (teq hc45).1) (by decide) (by decide) ?_
              show Steps p.tables e below (s₁.setTop (mkF m 45 #[.val (.int p0), .val (.int (1 : Int32))] [])) _
              refine XS.iconst X0.here hx rfl (hb hby d1_45) ?_
              show Steps p.tables e below (s₁.setTop (mkF m 46 #[.val (.int p0), .val (.int (1 : Int32))] [(.int (0 : Int32))])) _
              refine XS.istoreN X0.here hx rfl (hb hby d1_46) rfl (l' := #[.val (.int p0), .val (.int (0 : Int32))]) rfl ?_
              show Steps p.tables e below (s₁.setTop (mkF m 47 #[.val (.int p0), .val (.int (0 : Int32))] [])) _
              refine XS.iloadN X0.here hx rfl (hb hby d1_47) rfl ?_
              show Steps p.tables e below (s₁.setTop (mkF m 48 #[.val (.int p0), .val (.int (0 : Int32))] [(.int (0 : Int32))])) _
              exact kt
            obtain ⟨fs, hr, hrun, hended, hW, hsame⟩ := X0.leave (v := some (.int (0 : Int32))) (fun h => by rw [Bd.returns] at h; cases h)
            refine ⟨_, _, pre46 _ ?_, hrun, hended, _, _, rfl, ?_, ⟨_, rfl⟩, hW, hsame.mono (by decide) (by decide)⟩
            · exact retI X0 hx Bd.returns (hb hby d1_48) hr
            · show Q1 Z p0 h0 n0 _ s₁.heap _
              rw [e0]
              exact ⟨(own_rI (by rw [if_neg hc22, if_pos hc37, if_neg hc39, if_neg hc42, if_pos hc45] : (0 : Int32) = (if p0 < (8 : Int32) then (if p0 = (29 : Int32) then (3 : Int32) else (if p0 = (7 : Int32) then (2 : Int32) else (if p0 = (0 : Int32) then (0 : Int32) else (if p0 = (1 : Int32) then (0 : Int32) else (1 : Int32))))) else (if (12 : Int32) < p0 then (if p0 = (29 : Int32) then (3 : Int32) else (if p0 = (7 : Int32) then (2 : Int32) else (if p0 = (0 : Int32) then (0 : Int32) else (if p0 = (1 : Int32) then (0 : Int32) else (1 : Int32))))) else (3 : Int32))))), N0, rfl⟩
          · skip
            have pre47 : ∀ t, Steps p.tables e below (s₁.setTop (mkF m 42 #[.val (.int p0), .val (.int (1 : Int32))] [(.int (1 : Int32)), (.int p0)])) t → Steps p.tables e below (s₁.setTop (entryFrame m #[(.int p0)] 2)) t := fun t kt => by
              refine pre44 _ ?_
              show Steps p.tables e below (s₁.setTop (mkF m 37 #[.val (.int p0), .val (.int (1 : Int32))] [(.int p0)])) _
              refine XS.ifNo X0.here hx rfl (hb hby d1_37) rfl ((if0 _ _).trans (feq hc45).1) ?_
              show Steps p.tables e below (s₁.setTop (mkF m 40 #[.val (.int p0), .val (.int (1 : Int32))] [])) _
              refine XS.iloadN X0.here hx rfl (hb hby d1_40) rfl ?_
              show Steps p.tables e below (s₁.setTop (mkF m 41 #[.val (.int p0), .val (.int (1 : Int32))] [(.int p0)])) _
              refine XS.iconst X0.here hx rfl (hb hby d1_41) ?_
              show Steps p.tables e below (s₁.setTop (mkF m 42 #[.val (.int p0), .val (.int (1 : Int32))] [(.int (1 : Int32)), (.int p0)])) _
              exact kt
            by_cases hc48 : p0 = (1 : Int32)
            · skip
              have pre49 : ∀ t, Steps p.tables e below (s₁.setTop (mkF m 48 #[.val (.int p0), .val (.int (0 : Int32))] [(.int (0 : Int32))])) t → Steps p.tables e below (s₁.setTop (entryFrame m #[(.int p0)] 2)) t := fun t kt => by
                refine pre47 _ ?_
                show Steps p.tables e below (s₁.setTop (mkF m 42 #[.val (.int p0), .val (.int (1 : Int32))] [(.int (1 : Int32)), (.int p0)])) _
                refine XS.icmpNo X0.here hx rfl (hb hby d1_42) rfl (teq hc48).2 ?_
                show Steps p.tables e below (s₁.setTop (mkF m 45 #[.val (.int p0), .val (.int (1 : Int32))] [])) _
                refine XS.iconst X0.here hx rfl (hb hby d1_45) ?_
                show Steps p.tables e below (s₁.setTop (mkF m 46 #[.val (.int p0), .val (.int (1 : Int32))] [(.int (0 : Int32))])) _
                refine XS.istoreN X0.here hx rfl (hb hby d1_46) rfl (l' := #[.val (.int p0), .val (.int (0 : Int32))]) rfl ?_
                show Steps p.tables e below (s₁.setTop (mkF m 47 #[.val (.int p0), .val (.int (0 : Int32))] [])) _
                refine XS.iloadN X0.here hx rfl (hb hby d1_47) rfl ?_
                show Steps p.tables e below (s₁.setTop (mkF m 48 #[.val (.int p0), .val (.int (0 : Int32))] [(.int (0 : Int32))])) _
                exact kt
              obtain ⟨fs, hr, hrun, hended, hW, hsame⟩ := X0.leave (v := some (.int (0 : Int32))) (fun h => by rw [Bd.returns] at h; cases h)
              refine ⟨_, _, pre49 _ ?_, hrun, hended, _, _, rfl, ?_, ⟨_, rfl⟩, hW, hsame.mono (by decide) (by decide)⟩
              · exact retI X0 hx Bd.returns (hb hby d1_48) hr
              · show Q1 Z p0 h0 n0 _ s₁.heap _
                rw [e0]
                exact ⟨(own_rI (by rw [if_neg hc22, if_pos hc37, if_neg hc39, if_neg hc42, if_neg hc45, if_pos hc48] : (0 : Int32) = (if p0 < (8 : Int32) then (if p0 = (29 : Int32) then (3 : Int32) else (if p0 = (7 : Int32) then (2 : Int32) else (if p0 = (0 : Int32) then (0 : Int32) else (if p0 = (1 : Int32) then (0 : Int32) else (1 : Int32))))) else (if (12 : Int32) < p0 then (if p0 = (29 : Int32) then (3 : Int32) else (if p0 = (7 : Int32) then (2 : Int32) else (if p0 = (0 : Int32) then (0 : Int32) else (if p0 = (1 : Int32) then (0 : Int32) else (1 : Int32))))) else (3 : Int32))))), N0, rfl⟩
            · skip
              have pre50 : ∀ t, Steps p.tables e below (s₁.setTop (mkF m 48 #[.val (.int p0), .val (.int (1 : Int32))] [(.int (1 : Int32))])) t → Steps p.tables e below (s₁.setTop (entryFrame m #[(.int p0)] 2)) t := fun t kt => by
                refine pre47 _ ?_
                show Steps p.tables e below (s₁.setTop (mkF m 42 #[.val (.int p0), .val (.int (1 : Int32))] [(.int (1 : Int32)), (.int p0)])) _
                refine XS.icmpYes X0.here hx rfl (pc0 := 42) (pc' := 47) rfl (hb hby d1_42) rfl (feq hc48).2 (by decide) (by decide) ?_
                show Steps p.tables e below (s₁.setTop (mkF m 47 #[.val (.int p0), .val (.int (1 : Int32))] [])) _
                refine XS.iloadN X0.here hx rfl (hb hby d1_47) rfl ?_
                show Steps p.tables e below (s₁.setTop (mkF m 48 #[.val (.int p0), .val (.int (1 : Int32))] [(.int (1 : Int32))])) _
                exact kt
              obtain ⟨fs, hr, hrun, hended, hW, hsame⟩ := X0.leave (v := some (.int (1 : Int32))) (fun h => by rw [Bd.returns] at h; cases h)
              refine ⟨_, _, pre50 _ ?_, hrun, hended, _, _, rfl, ?_, ⟨_, rfl⟩, hW, hsame.mono (by decide) (by decide)⟩
              · exact retI X0 hx Bd.returns (hb hby d1_48) hr
              · show Q1 Z p0 h0 n0 _ s₁.heap _
                rw [e0]
                exact ⟨(own_rI (by rw [if_neg hc22, if_pos hc37, if_neg hc39, if_neg hc42, if_neg hc45, if_neg hc48] : (1 : Int32) = (if p0 < (8 : Int32) then (if p0 = (29 : Int32) then (3 : Int32) else (if p0 = (7 : Int32) then (2 : Int32) else (if p0 = (0 : Int32) then (0 : Int32) else (if p0 = (1 : Int32) then (0 : Int32) else (1 : Int32))))) else (if (12 : Int32) < p0 then (if p0 = (29 : Int32) then (3 : Int32) else (if p0 = (7 : Int32) then (2 : Int32) else (if p0 = (0 : Int32) then (0 : Int32) else (if p0 = (1 : Int32) then (0 : Int32) else (1 : Int32))))) else (3 : Int32))))), N0, rfl⟩
    · skip
      have pre51 : ∀ t, Steps p.tables e below (s₁.setTop (mkF m 48 #[.val (.int p0), .val (.int (3 : Int32))] [(.int (3 : Int32))])) t → Steps p.tables e below (s₁.setTop (entryFrame m #[(.int p0)] 2)) t := fun t kt => by
        refine pre36 _ ?_
        show Steps p.tables e below (s₁.setTop (mkF m 11 #[.val (.int p0), .val (.int (1 : Int32))] [(.int (12 : Int32)), (.int p0)])) _
        refine XS.icmpYes X0.here hx rfl (pc0 := 11) (pc' := 20) rfl (hb hby d1_11) rfl (flt hc37).2.2.2 (by decide) (by decide) ?_
        show Steps p.tables e below (s₁.setTop (mkF m 20 #[.val (.int p0), .val (.int (1 : Int32))] [])) _
        refine XS.iconst X0.here hx rfl (hb hby d1_20) ?_
        show Steps p.tables e below (s₁.setTop (mkF m 21 #[.val (.int p0), .val (.int (1 : Int32))] [(.int (3 : Int32))])) _
        refine XS.istoreN X0.here hx rfl (hb hby d1_21) rfl (l' := #[.val (.int p0), .val (.int (3 : Int32))]) rfl ?_
        show Steps p.tables e below (s₁.setTop (mkF m 22 #[.val (.int p0), .val (.int (3 : Int32))] [])) _
        refine XS.goto X0.here hx rfl (pc0 := 22) (pc' := 47) rfl (hb hby d1_22) (by decide) (by decide) ?_
        show Steps p.tables e below (s₁.setTop (mkF m 47 #[.val (.int p0), .val (.int (3 : Int32))] [])) _
        refine XS.iloadN X0.here hx rfl (hb hby d1_47) rfl ?_
        show Steps p.tables e below (s₁.setTop (mkF m 48 #[.val (.int p0), .val (.int (3 : Int32))] [(.int (3 : Int32))])) _
        exact kt
      obtain ⟨fs, hr, hrun, hended, hW, hsame⟩ := X0.leave (v := some (.int (3 : Int32))) (fun h => by rw [Bd.returns] at h; cases h)
      refine ⟨_, _, pre51 _ ?_, hrun, hended, _, _, rfl, ?_, ⟨_, rfl⟩, hW, hsame.mono (by decide) (by decide)⟩
      · exact retI X0 hx Bd.returns (hb hby d1_48) hr
      · show Q1 Z p0 h0 n0 _ s₁.heap _
        rw [e0]
        exact ⟨(own_rI (by rw [if_neg hc22, if_neg hc37] : (3 : Int32) = (if p0 < (8 : Int32) then (if p0 = (29 : Int32) then (3 : Int32) else (if p0 = (7 : Int32) then (2 : Int32) else (if p0 = (0 : Int32) then (0 : Int32) else (if p0 = (1 : Int32) then (0 : Int32) else (1 : Int32))))) else (if (12 : Int32) < p0 then (if p0 = (29 : Int32) then (3 : Int32) else (if p0 = (7 : Int32) then (2 : Int32) else (if p0 = (0 : Int32) then (0 : Int32) else (if p0 = (1 : Int32) then (0 : Int32) else (1 : Int32))))) else (3 : Int32))))), N0, rfl⟩
theorem pd87992008 : parseMethodDescriptor "(I)I" = some ⟨[.int], some .int⟩ := by decide +kernel
theorem pn58671817 : plainName "com/example/xcu/xcu/UcaTableCaseOfPinLaw" = true := by first | (simp [plainName, overriddenIn]; done) | decide +kernel
theorem own_m63 (x : Int32) : ∃ n : Fin 64, x &&& (63 : Int32) = Int32.ofNat n.val := by
  have h := Jvm.Kit.i32_mask x 63 (k := 6) (by decide) (by decide)
  refine ⟨⟨(x.toInt % 64).toNat, by omega⟩, ?_⟩
  apply Int32.toInt_inj.mp
  rw [h, Int32.toInt_ofNat_small (by show (x.toInt % 64).toNat < 2 ^ 31; omega)]
  show x.toInt % 2 ^ 6 = ((x.toInt % 64).toNat : Int)
  omega

theorem own_plain0 (p0 : Int32)
    (v1 : Int32) (hv1 : v1 = (if ((536878848 : Int64) &&& ((1 : Int64) <<< ((p0 &&& (63 : Int32)) &&& 0x3f).toInt64)) = (0 : Int64) then (if ((128 : Int64) &&& ((1 : Int64) <<< ((p0 &&& (63 : Int32)) &&& 0x3f).toInt64)) = (0 : Int64) then (if ((3 : Int64) &&& ((1 : Int64) <<< ((p0 &&& (63 : Int32)) &&& 0x3f).toInt64)) = (0 : Int64) then (1 : Int32) else (0 : Int32)) else (2 : Int32)) else (3 : Int32)))
    (v2 : Int32) (hv2 : v2 = (if (if (p0 &&& (63 : Int32)) < (8 : Int32) then (if (p0 &&& (63 : Int32)) = (29 : Int32) then (3 : Int32) else (if (p0 &&& (63 : Int32)) = (7 : Int32) then (2 : Int32) else (if (p0 &&& (63 : Int32)) = (0 : Int32) then (0 : Int32) else (if (p0 &&& (63 : Int32)) = (1 : Int32) then (0 : Int32) else (1 : Int32))))) else (if (12 : Int32) < (p0 &&& (63 : Int32)) then (if (p0 &&& (63 : Int32)) = (29 : Int32) then (3 : Int32) else (if (p0 &&& (63 : Int32)) = (7 : Int32) then (2 : Int32) else (if (p0 &&& (63 : Int32)) = (0 : Int32) then (0 : Int32) else (if (p0 &&& (63 : Int32)) = (1 : Int32) then (0 : Int32) else (1 : Int32))))) else (3 : Int32))) = v1 then (1 : Int32) else (0 : Int32))) : v2 = 1 := by
  obtain ⟨n, hn⟩ := own_m63 p0
  rw [hn] at hv1 hv2
  subst hv1
  subst hv2
  clear hn
  revert n
  decide +kernel
theorem ef_0 (m : MethodId) (p0 : Int32) : entryFrame m #[(.int p0)] maxLocals = mkF m 0 #[.val (.int p0), .unset, .unset, .unset, .unset, .unset, .unset, .unset, .unset, .unset, .unset, .unset] [] := by first | (simp [entryFrame, mkF, argsToLocals, Value.category, maxLocals]; done) | rfl
def Q0 (n0 : Nat) (v : Option Value) (L : List Loc) : Prop := v = some (.int (1 : Int32)) ∧ Fr n0 L
set_option maxRecDepth 65536 in
set_option maxHeartbeats 40000000 in
theorem rm0 (l : Launch) (Z : State) (aq : Array Value) (hw : ∀ d ∈ tables_1, d.before aq Z = true) (ws : List Jvm.Cond) (p0 : Int32) (h0 : Heap) (n0 : Nat) (Z0 : n0 ≤ h0.size) :
    MetFree l x (head1 (Jvm.Cond.code x code maxLocals ret :: ws) room_1) (fun a U => a = #[(.int p0)] ∧ Z.Warmed39 U.vm ∧ U.heap = h0) (fun _ _ _ _ _ => True) (fun _ U o U' => ∃ v L, o = .returned v ∧ Q0 n0 v L ∧ FrameEnd U o U' L room_1.cells room_1.slots) := by
  refine MetFree.of_bodySF (plainFor_of_name pn58671817) hisR ?_
  intro p e s m args below meth c s₁ Bd hml0 hP hK
  obtain ⟨rfl, hZ, hh⟩ := hP
  have hx := Bd.exec
  have hby := Bd.bytes
  have hml : c.maxLocals = 12 := hml0
  have hown : s.vm.findClass "com/example/xcu/xcu/UcaTableCaseOfPinLaw" = some m.cls := findClass_of_methodNamed Bd.named
  have X0 : Stand p l e room_1 s m #[(.int p0)] below meth c s₁ [] 0 0 := Stand.of_body Bd
  have e0 : s₁.heap = h0 := by rw [← hh, Bd.state]; rfl
  have N0 := Fr.nil n0
  have pre0 : ∀ t, Steps p.tables e below (s₁.setTop (mkF m 0 #[.val (.int p0), .unset, .unset, .unset, .unset, .unset, .unset, .unset, .unset, .unset, .unset, .unset] [])) t → Steps p.tables e below (s₁.setTop (entryFrame m #[(.int p0)] maxLocals)) t := fun t k => castTop (ef_0 m p0) k
  have pre52 : ∀ t, Steps p.tables e below (s₁.setTop (mkF m 30 #[.val (.int p0), .val (.int (p0 &&& (63 : Int32))), .val (.long ((1 : Int64) <<< ((p0 &&& (63 : Int32)) &&& 0x3f).toInt64)), .second, .val (.long (536878848 : Int64)), .second, .val (.long (128 : Int64)), .second, .val (.long (3 : Int64)), .second, .unset, .unset] [(.int (lcmpW ((536878848 : Int64) &&& ((1 : Int64) <<< ((p0 &&& (63 : Int32)) &&& 0x3f).toInt64)) (0 : Int64)))])) t → Steps p.tables e below (s₁.setTop (entryFrame m #[(.int p0)] maxLocals)) t := fun t kt => by
    refine pre0 _ ?_
    show Steps p.tables e below (s₁.setTop (mkF m 0 #[.val (.int p0), .unset, .unset, .unset, .unset, .unset, .unset, .unset, .unset, .unset, .unset, .unset] [])) _
    refine XS.iloadN X0.here hx rfl (hb hby at_0) rfl ?_
    show Steps p.tables e below (s₁.setTop (mkF m 1 #[.val (.int p0), .unset, .unset, .unset, .unset, .unset, .unset, .unset, .unset, .unset, .unset, .unset] [(.int p0)])) _
    refine XS.bipush X0.here hx rfl (hb hby at_1) ?_
    show Steps p.tables e below (s₁.setTop (mkF m 3 #[.val (.int p0), .unset, .unset, .unset, .unset, .unset, .unset, .unset, .unset, .unset, .unset, .unset] [(.int (63 : Int32)), (.int p0)])) _
    refine XS.iand X0.here hx rfl (hb hby at_3) rfl ?_
    show Steps p.tables e below (s₁.setTop (mkF m 4 #[.val (.int p0), .unset, .unset, .unset, .unset, .unset, .unset, .unset, .unset, .unset, .unset, .unset] [(.int (p0 &&& (63 : Int32)))])) _
    refine XS.istoreN X0.here hx rfl (hb hby at_4) rfl (l' := #[.val (.int p0), .val (.int (p0 &&& (63 : Int32))), .unset, .unset, .unset, .unset, .unset, .unset, .unset, .unset, .unset, .unset]) rfl ?_
    show Steps p.tables e below (s₁.setTop (mkF m 5 #[.val (.int p0), .val (.int (p0 &&& (63 : Int32))), .unset, .unset, .unset, .unset, .unset, .unset, .unset, .unset, .unset, .unset] [])) _
    refine XS.lconst X0.here hx rfl (hb hby at_5) ?_
    show Steps p.tables e below (s₁.setTop (mkF m 6 #[.val (.int p0), .val (.int (p0 &&& (63 : Int32))), .unset, .unset, .unset, .unset, .unset, .unset, .unset, .unset, .unset, .unset] [(.long (1 : Int64))])) _
    refine XS.iloadN X0.here hx rfl (hb hby at_6) rfl ?_
    show Steps p.tables e below (s₁.setTop (mkF m 7 #[.val (.int p0), .val (.int (p0 &&& (63 : Int32))), .unset, .unset, .unset, .unset, .unset, .unset, .unset, .unset, .unset, .unset] [(.int (p0 &&& (63 : Int32))), (.long (1 : Int64))])) _
    refine XS.lshl X0.here hx rfl (hb hby at_7) rfl ?_
    show Steps p.tables e below (s₁.setTop (mkF m 8 #[.val (.int p0), .val (.int (p0 &&& (63 : Int32))), .unset, .unset, .unset, .unset, .unset, .unset, .unset, .unset, .unset, .unset] [(.long ((1 : Int64) <<< ((p0 &&& (63 : Int32)) &&& 0x3f).toInt64))])) _
    refine XS.lstoreN X0.here hx rfl (hb hby at_8) rfl (l' := #[.val (.int p0), .val (.int (p0 &&& (63 : Int32))), .val (.long ((1 : Int64) <<< ((p0 &&& (63 : Int32)) &&& 0x3f).toInt64)), .second, .unset, .unset, .unset, .unset, .unset, .unset, .unset, .unset]) rfl ?_
    show Steps p.tables e below (s₁.setTop (mkF m 9 #[.val (.int p0), .val (.int (p0 &&& (63 : Int32))), .val (.long ((1 : Int64) <<< ((p0 &&& (63 : Int32)) &&& 0x3f).toInt64)), .second, .unset, .unset, .unset, .unset, .unset, .unset, .unset, .unset] [])) _
    refine X0.ldc2Long hx hown (mvT hZ (hw _ (List.mem_of_getElem? (i := 0) rfl))) (g := (mkF m 9 #[.val (.int p0), .val (.int (p0 &&& (63 : Int32))), .val (.long ((1 : Int64) <<< ((p0 &&& (63 : Int32)) &&& 0x3f).toInt64)), .second, .unset, .unset, .unset, .unset, .unset, .unset, .unset, .unset] [])) rfl (hb hby at_9) _ ?_
    show Steps p.tables e below (s₁.setTop (mkF m 12 #[.val (.int p0), .val (.int (p0 &&& (63 : Int32))), .val (.long ((1 : Int64) <<< ((p0 &&& (63 : Int32)) &&& 0x3f).toInt64)), .second, .unset, .unset, .unset, .unset, .unset, .unset, .unset, .unset] [(.long (536878848 : Int64))])) _
    refine XS.lstore X0.here hx rfl (hb hby at_12) rfl (l' := #[.val (.int p0), .val (.int (p0 &&& (63 : Int32))), .val (.long ((1 : Int64) <<< ((p0 &&& (63 : Int32)) &&& 0x3f).toInt64)), .second, .val (.long (536878848 : Int64)), .second, .unset, .unset, .unset, .unset, .unset, .unset]) rfl ?_
    show Steps p.tables e below (s₁.setTop (mkF m 14 #[.val (.int p0), .val (.int (p0 &&& (63 : Int32))), .val (.long ((1 : Int64) <<< ((p0 &&& (63 : Int32)) &&& 0x3f).toInt64)), .second, .val (.long (536878848 : Int64)), .second, .unset, .unset, .unset, .unset, .unset, .unset] [])) _
    refine X0.ldc2Long hx hown (mvT hZ (hw _ (List.mem_of_getElem? (i := 1) rfl))) (g := (mkF m 14 #[.val (.int p0), .val (.int (p0 &&& (63 : Int32))), .val (.long ((1 : Int64) <<< ((p0 &&& (63 : Int32)) &&& 0x3f).toInt64)), .second, .val (.long (536878848 : Int64)), .second, .unset, .unset, .unset, .unset, .unset, .unset] [])) rfl (hb hby at_14) _ ?_
    show Steps p.tables e below (s₁.setTop (mkF m 17 #[.val (.int p0), .val (.int (p0 &&& (63 : Int32))), .val (.long ((1 : Int64) <<< ((p0 &&& (63 : Int32)) &&& 0x3f).toInt64)), .second, .val (.long (536878848 : Int64)), .second, .unset, .unset, .unset, .unset, .unset, .unset] [(.long (128 : Int64))])) _
    refine XS.lstore X0.here hx rfl (hb hby at_17) rfl (l' := #[.val (.int p0), .val (.int (p0 &&& (63 : Int32))), .val (.long ((1 : Int64) <<< ((p0 &&& (63 : Int32)) &&& 0x3f).toInt64)), .second, .val (.long (536878848 : Int64)), .second, .val (.long (128 : Int64)), .second, .unset, .unset, .unset, .unset]) rfl ?_
    show Steps p.tables e below (s₁.setTop (mkF m 19 #[.val (.int p0), .val (.int (p0 &&& (63 : Int32))), .val (.long ((1 : Int64) <<< ((p0 &&& (63 : Int32)) &&& 0x3f).toInt64)), .second, .val (.long (536878848 : Int64)), .second, .val (.long (128 : Int64)), .second, .unset, .unset, .unset, .unset] [])) _
    refine X0.ldc2Long hx hown (mvT hZ (hw _ (List.mem_of_getElem? (i := 2) rfl))) (g := (mkF m 19 #[.val (.int p0), .val (.int (p0 &&& (63 : Int32))), .val (.long ((1 : Int64) <<< ((p0 &&& (63 : Int32)) &&& 0x3f).toInt64)), .second, .val (.long (536878848 : Int64)), .second, .val (.long (128 : Int64)), .second, .unset, .unset, .unset, .unset] [])) rfl (hb hby at_19) _ ?_
    show Steps p.tables e below (s₁.setTop (mkF m 22 #[.val (.int p0), .val (.int (p0 &&& (63 : Int32))), .val (.long ((1 : Int64) <<< ((p0 &&& (63 : Int32)) &&& 0x3f).toInt64)), .second, .val (.long (536878848 : Int64)), .second, .val (.long (128 : Int64)), .second, .unset, .unset, .unset, .unset] [(.long (3 : Int64))])) _
    refine XS.lstore X0.here hx rfl (hb hby at_22) rfl (l' := #[.val (.int p0), .val (.int (p0 &&& (63 : Int32))), .val (.long ((1 : Int64) <<< ((p0 &&& (63 : Int32)) &&& 0x3f).toInt64)), .second, .val (.long (536878848 : Int64)), .second, .val (.long (128 : Int64)), .second, .val (.long (3 : Int64)), .second, .unset, .unset]) rfl ?_
    show Steps p.tables e below (s₁.setTop (mkF m 24 #[.val (.int p0), .val (.int (p0 &&& (63 : Int32))), .val (.long ((1 : Int64) <<< ((p0 &&& (63 : Int32)) &&& 0x3f).toInt64)), .second, .val (.long (536878848 : Int64)), .second, .val (.long (128 : Int64)), .second, .val (.long (3 : Int64)), .second, .unset, .unset] [])) _
    refine XS.lload X0.here hx rfl (hb hby at_24) rfl ?_
    show Steps p.tables e below (s₁.setTop (mkF m 26 #[.val (.int p0), .val (.int (p0 &&& (63 : Int32))), .val (.long ((1 : Int64) <<< ((p0 &&& (63 : Int32)) &&& 0x3f).toInt64)), .second, .val (.long (536878848 : Int64)), .second, .val (.long (128 : Int64)), .second, .val (.long (3 : Int64)), .second, .unset, .unset] [(.long (536878848 : Int64))])) _
    refine XS.lloadN X0.here hx rfl (hb hby at_26) rfl ?_
    show Steps p.tables e below (s₁.setTop (mkF m 27 #[.val (.int p0), .val (.int (p0 &&& (63 : Int32))), .val (.long ((1 : Int64) <<< ((p0 &&& (63 : Int32)) &&& 0x3f).toInt64)), .second, .val (.long (536878848 : Int64)), .second, .val (.long (128 : Int64)), .second, .val (.long (3 : Int64)), .second, .unset, .unset] [(.long ((1 : Int64) <<< ((p0 &&& (63 : Int32)) &&& 0x3f).toInt64)), (.long (536878848 : Int64))])) _
    refine XS.land X0.here hx rfl (hb hby at_27) rfl ?_
    show Steps p.tables e below (s₁.setTop (mkF m 28 #[.val (.int p0), .val (.int (p0 &&& (63 : Int32))), .val (.long ((1 : Int64) <<< ((p0 &&& (63 : Int32)) &&& 0x3f).toInt64)), .second, .val (.long (536878848 : Int64)), .second, .val (.long (128 : Int64)), .second, .val (.long (3 : Int64)), .second, .unset, .unset] [(.long ((536878848 : Int64) &&& ((1 : Int64) <<< ((p0 &&& (63 : Int32)) &&& 0x3f).toInt64)))])) _
    refine XS.lconst X0.here hx rfl (hb hby at_28) ?_
    show Steps p.tables e below (s₁.setTop (mkF m 29 #[.val (.int p0), .val (.int (p0 &&& (63 : Int32))), .val (.long ((1 : Int64) <<< ((p0 &&& (63 : Int32)) &&& 0x3f).toInt64)), .second, .val (.long (536878848 : Int64)), .second, .val (.long (128 : Int64)), .second, .val (.long (3 : Int64)), .second, .unset, .unset] [(.long (0 : Int64)), (.long ((536878848 : Int64) &&& ((1 : Int64) <<< ((p0 &&& (63 : Int32)) &&& 0x3f).toInt64)))])) _
    refine XS.lcmp X0.here hx rfl (hb hby at_29) rfl ?_
    show Steps p.tables e below (s₁.setTop (mkF m 30 #[.val (.int p0), .val (.int (p0 &&& (63 : Int32))), .val (.long ((1 : Int64) <<< ((p0 &&& (63 : Int32)) &&& 0x3f).toInt64)), .second, .val (.long (536878848 : Int64)), .second, .val (.long (128 : Int64)), .second, .val (.long (3 : Int64)), .second, .unset, .unset] [(.int (lcmpW ((536878848 : Int64) &&& ((1 : Int64) <<< ((p0 &&& (63 : Int32)) &&& 0x3f).toInt64)) (0 : Int64)))])) _
    exact kt
  obtain ⟨v1, hv1⟩ : ∃ z : Int32, z = (if ((536878848 : Int64) &&& ((1 : Int64) <<< ((p0 &&& (63 : Int32)) &&& 0x3f).toInt64)) = (0 : Int64) then (if ((128 : Int64) &&& ((1 : Int64) <<< ((p0 &&& (63 : Int32)) &&& 0x3f).toInt64)) = (0 : Int64) then (if ((3 : Int64) &&& ((1 : Int64) <<< ((p0 &&& (63 : Int32)) &&& 0x3f).toInt64)) = (0 : Int64) then (1 : Int32) else (0 : Int32)) else (2 : Int32)) else (3 : Int32)) := ⟨_, rfl⟩
  have pre56 : ∀ t, Steps p.tables e below (s₁.setTop (mkF m 72 #[.val (.int p0), .val (.int (p0 &&& (63 : Int32))), .val (.long ((1 : Int64) <<< ((p0 &&& (63 : Int32)) &&& 0x3f).toInt64)), .second, .val (.long (536878848 : Int64)), .second, .val (.long (128 : Int64)), .second, .val (.long (3 : Int64)), .second, .val (.int v1), .unset] [])) t → Steps p.tables e below (s₁.setTop (entryFrame m #[(.int p0)] maxLocals)) t := fun t kt => by
    refine pre52 _ ?_
    show Steps p.tables e below (s₁.setTop (mkF m 30 #[.val (.int p0), .val (.int (p0 &&& (63 : Int32))), .val (.long ((1 : Int64) <<< ((p0 &&& (63 : Int32)) &&& 0x3f).toInt64)), .second, .val (.long (536878848 : Int64)), .second, .val (.long (128 : Int64)), .second, .val (.long (3 : Int64)), .second, .unset, .unset] [(.int (lcmpW ((536878848 : Int64) &&& ((1 : Int64) <<< ((p0 &&& (63 : Int32)) &&& 0x3f).toInt64)) (0 : Int64)))])) _
    by_cases hc53 : ((536878848 : Int64) &&& ((1 : Int64) <<< ((p0 &&& (63 : Int32)) &&& 0x3f).toInt64)) = (0 : Int64)
    · rw [if_pos hc53] at hv1
      refine XS.ifYes X0.here hx rfl (pc0 := 30) (pc' := 39) rfl (hb hby at_30) rfl ((if0 _ _).trans (teq (own_lwE hc53)).1) (by decide) (by decide) ?_
      show Steps p.tables e below (s₁.setTop (mkF m 39 #[.val (.int p0), .val (.int (p0 &&& (63 : Int32))), .val (.long ((1 : Int64) <<< ((p0 &&& (63 : Int32)) &&& 0x3f).toInt64)), .second, .val (.long (536878848 : Int64)), .second, .val (.long (128 : Int64)), .second, .val (.long (3 : Int64)), .second, .unset, .unset] [])) _
      refine XS.lload X0.here hx rfl (hb hby at_39) rfl ?_
      show Steps p.tables e below (s₁.setTop (mkF m 41 #[.val (.int p0), .val (.int (p0 &&& (63 : Int32))), .val (.long ((1 : Int64) <<< ((p0 &&& (63 : Int32)) &&& 0x3f).toInt64)), .second, .val (.long (536878848 : Int64)), .second, .val (.long (128 : Int64)), .second, .val (.long (3 : Int64)), .second, .unset, .unset] [(.long (128 : Int64))])) _
      refine XS.lloadN X0.here hx rfl (hb hby at_41) rfl ?_
      show Steps p.tables e below (s₁.setTop (mkF m 42 #[.val (.int p0), .val (.int (p0 &&& (63 : Int32))), .val (.long ((1 : Int64) <<< ((p0 &&& (63 : Int32)) &&& 0x3f).toInt64)), .second, .val (.long (536878848 : Int64)), .second, .val (.long (128 : Int64)), .second, .val (.long (3 : Int64)), .second, .unset, .unset] [(.long ((1 : Int64) <<< ((p0 &&& (63 : Int32)) &&& 0x3f).toInt64)), (.long (128 : Int64))])) _
      refine XS.land X0.here hx rfl (hb hby at_42) rfl ?_
      show Steps p.tables e below (s₁.setTop (mkF m 43 #[.val (.int p0), .val (.int (p0 &&& (63 : Int32))), .val (.long ((1 : Int64) <<< ((p0 &&& (63 : Int32)) &&& 0x3f).toInt64)), .second, .val (.long (536878848 : Int64)), .second, .val (.long (128 : Int64)), .second, .val (.long (3 : Int64)), .second, .unset, .unset] [(.long ((128 : Int64) &&& ((1 : Int64) <<< ((p0 &&& (63 : Int32)) &&& 0x3f).toInt64)))])) _
      refine XS.lconst X0.here hx rfl (hb hby at_43) ?_
      show Steps p.tables e below (s₁.setTop (mkF m 44 #[.val (.int p0), .val (.int (p0 &&& (63 : Int32))), .val (.long ((1 : Int64) <<< ((p0 &&& (63 : Int32)) &&& 0x3f).toInt64)), .second, .val (.long (536878848 : Int64)), .second, .val (.long (128 : Int64)), .second, .val (.long (3 : Int64)), .second, .unset, .unset] [(.long (0 : Int64)), (.long ((128 : Int64) &&& ((1 : Int64) <<< ((p0 &&& (63 : Int32)) &&& 0x3f).toInt64)))])) _
      refine XS.lcmp X0.here hx rfl (hb hby at_44) rfl ?_
      show Steps p.tables e below (s₁.setTop (mkF m 45 #[.val (.int p0), .val (.int (p0 &&& (63 : Int32))), .val (.long ((1 : Int64) <<< ((p0 &&& (63 : Int32)) &&& 0x3f).toInt64)), .second, .val (.long (536878848 : Int64)), .second, .val (.long (128 : Int64)), .second, .val (.long (3 : Int64)), .second, .unset, .unset] [(.int (lcmpW ((128 : Int64) &&& ((1 : Int64) <<< ((p0 &&& (63 : Int32)) &&& 0x3f).toInt64)) (0 : Int64)))])) _
      by_cases hc54 : ((128 : Int64) &&& ((1 : Int64) <<< ((p0 &&& (63 : Int32)) &&& 0x3f).toInt64)) = (0 : Int64)
      · rw [if_pos hc54] at hv1
        refine XS.ifYes X0.here hx rfl (pc0 := 45) (pc' := 54) rfl (hb hby at_45) rfl ((if0 _ _).trans (teq (own_lwE hc54)).1) (by decide) (by decide) ?_
        show Steps p.tables e below (s₁.setTop (mkF m 54 #[.val (.int p0), .val (.int (p0 &&& (63 : Int32))), .val (.long ((1 : Int64) <<< ((p0 &&& (63 : Int32)) &&& 0x3f).toInt64)), .second, .val (.long (536878848 : Int64)), .second, .val (.long (128 : Int64)), .second, .val (.long (3 : Int64)), .second, .unset, .unset] [])) _
        refine XS.lload X0.here hx rfl (hb hby at_54) rfl ?_
        show Steps p.tables e below (s₁.setTop (mkF m 56 #[.val (.int p0), .val (.int (p0 &&& (63 : Int32))), .val (.long ((1 : Int64) <<< ((p0 &&& (63 : Int32)) &&& 0x3f).toInt64)), .second, .val (.long (536878848 : Int64)), .second, .val (.long (128 : Int64)), .second, .val (.long (3 : Int64)), .second, .unset, .unset] [(.long (3 : Int64))])) _
        refine XS.lloadN X0.here hx rfl (hb hby at_56) rfl ?_
        show Steps p.tables e below (s₁.setTop (mkF m 57 #[.val (.int p0), .val (.int (p0 &&& (63 : Int32))), .val (.long ((1 : Int64) <<< ((p0 &&& (63 : Int32)) &&& 0x3f).toInt64)), .second, .val (.long (536878848 : Int64)), .second, .val (.long (128 : Int64)), .second, .val (.long (3 : Int64)), .second, .unset, .unset] [(.long ((1 : Int64) <<< ((p0 &&& (63 : Int32)) &&& 0x3f).toInt64)), (.long (3 : Int64))])) _
        refine XS.land X0.here hx rfl (hb hby at_57) rfl ?_
        show Steps p.tables e below (s₁.setTop (mkF m 58 #[.val (.int p0), .val (.int (p0 &&& (63 : Int32))), .val (.long ((1 : Int64) <<< ((p0 &&& (63 : Int32)) &&& 0x3f).toInt64)), .second, .val (.long (536878848 : Int64)), .second, .val (.long (128 : Int64)), .second, .val (.long (3 : Int64)), .second, .unset, .unset] [(.long ((3 : Int64) &&& ((1 : Int64) <<< ((p0 &&& (63 : Int32)) &&& 0x3f).toInt64)))])) _
        refine XS.lconst X0.here hx rfl (hb hby at_58) ?_
        show Steps p.tables e below (s₁.setTop (mkF m 59 #[.val (.int p0), .val (.int (p0 &&& (63 : Int32))), .val (.long ((1 : Int64) <<< ((p0 &&& (63 : Int32)) &&& 0x3f).toInt64)), .second, .val (.long (536878848 : Int64)), .second, .val (.long (128 : Int64)), .second, .val (.long (3 : Int64)), .second, .unset, .unset] [(.long (0 : Int64)), (.long ((3 : Int64) &&& ((1 : Int64) <<< ((p0 &&& (63 : Int32)) &&& 0x3f).toInt64)))])) _
        refine XS.lcmp X0.here hx rfl (hb hby at_59) rfl ?_
        show Steps p.tables e below (s₁.setTop (mkF m 60 #[.val (.int p0), .val (.int (p0 &&& (63 : Int32))), .val (.long ((1 : Int64) <<< ((p0 &&& (63 : Int32)) &&& 0x3f).toInt64)), .second, .val (.long (536878848 : Int64)), .second, .val (.long (128 : Int64)), .second, .val (.long (3 : Int64)), .second, .unset, .unset] [(.int (lcmpW ((3 : Int64) &&& ((1 : Int64) <<< ((p0 &&& (63 : Int32)) &&& 0x3f).toInt64)) (0 : Int64)))])) _
        by_cases hc55 : ((3 : Int64) &&& ((1 : Int64) <<< ((p0 &&& (63 : Int32)) &&& 0x3f).toInt64)) = (0 : Int64)
        · rw [if_pos hc55] at hv1
          refine XS.ifYes X0.here hx rfl (pc0 := 60) (pc' := 69) rfl (hb hby at_60) rfl ((if0 _ _).trans (teq (own_lwE hc55)).1) (by decide) (by decide) ?_
          show Steps p.tables e below (s₁.setTop (mkF m 69 #[.val (.int p0), .val (.int (p0 &&& (63 : Int32))), .val (.long ((1 : Int64) <<< ((p0 &&& (63 : Int32)) &&& 0x3f).toInt64)), .second, .val (.long (536878848 : Int64)), .second, .val (.long (128 : Int64)), .second, .val (.long (3 : Int64)), .second, .unset, .unset] [])) _
          refine XS.iconst X0.here hx rfl (hb hby at_69) ?_
          show Steps p.tables e below (s₁.setTop (mkF m 70 #[.val (.int p0), .val (.int (p0 &&& (63 : Int32))), .val (.long ((1 : Int64) <<< ((p0 &&& (63 : Int32)) &&& 0x3f).toInt64)), .second, .val (.long (536878848 : Int64)), .second, .val (.long (128 : Int64)), .second, .val (.long (3 : Int64)), .second, .unset, .unset] [(.int (1 : Int32))])) _
          refine XS.istore X0.here hx rfl (hb hby at_70) rfl (l' := #[.val (.int p0), .val (.int (p0 &&& (63 : Int32))), .val (.long ((1 : Int64) <<< ((p0 &&& (63 : Int32)) &&& 0x3f).toInt64)), .second, .val (.long (536878848 : Int64)), .second, .val (.long (128 : Int64)), .second, .val (.long (3 : Int64)), .second, .val (.int (1 : Int32)), .unset]) rfl ?_
          subst hv1
          exact kt
        · rw [if_neg hc55] at hv1
          refine XS.ifNo X0.here hx rfl (hb hby at_60) rfl ((if0 _ _).trans (feq (own_lwN hc55)).1) ?_
          show Steps p.tables e below (s₁.setTop (mkF m 63 #[.val (.int p0), .val (.int (p0 &&& (63 : Int32))), .val (.long ((1 : Int64) <<< ((p0 &&& (63 : Int32)) &&& 0x3f).toInt64)), .second, .val (.long (536878848 : Int64)), .second, .val (.long (128 : Int64)), .second, .val (.long (3 : Int64)), .second, .unset, .unset] [])) _
          refine XS.iconst X0.here hx rfl (hb hby at_63) ?_
          show Steps p.tables e below (s₁.setTop (mkF m 64 #[.val (.int p0), .val (.int (p0 &&& (63 : Int32))), .val (.long ((1 : Int64) <<< ((p0 &&& (63 : Int32)) &&& 0x3f).toInt64)), .second, .val (.long (536878848 : Int64)), .second, .val (.long (128 : Int64)), .second, .val (.long (3 : Int64)), .second, .unset, .unset] [(.int (0 : Int32))])) _
          refine XS.istore X0.here hx rfl (hb hby at_64) rfl (l' := #[.val (.int p0), .val (.int (p0 &&& (63 : Int32))), .val (.long ((1 : Int64) <<< ((p0 &&& (63 : Int32)) &&& 0x3f).toInt64)), .second, .val (.long (536878848 : Int64)), .second, .val (.long (128 : Int64)), .second, .val (.long (3 : Int64)), .second, .val (.int (0 : Int32)), .unset]) rfl ?_
          show Steps p.tables e below (s₁.setTop (mkF m 66 #[.val (.int p0), .val (.int (p0 &&& (63 : Int32))), .val (.long ((1 : Int64) <<< ((p0 &&& (63 : Int32)) &&& 0x3f).toInt64)), .second, .val (.long (536878848 : Int64)), .second, .val (.long (128 : Int64)), .second, .val (.long (3 : Int64)), .second, .val (.int (0 : Int32)), .unset] [])) _
          refine XS.goto X0.here hx rfl (pc0 := 66) (pc' := 72) rfl (hb hby at_66) (by decide) (by decide) ?_
          subst hv1
          exact kt
      · rw [if_neg hc54] at hv1
        refine XS.ifNo X0.here hx rfl (hb hby at_45) rfl ((if0 _ _).trans (feq (own_lwN hc54)).1) ?_
        show Steps p.tables e below (s₁.setTop (mkF m 48 #[.val (.int p0), .val (.int (p0 &&& (63 : Int32))), .val (.long ((1 : Int64) <<< ((p0 &&& (63 : Int32)) &&& 0x3f).toInt64)), .second, .val (.long (536878848 : Int64)), .second, .val (.long (128 : Int64)), .second, .val (.long (3 : Int64)), .second, .unset, .unset] [])) _
        refine XS.iconst X0.here hx rfl (hb hby at_48) ?_
        show Steps p.tables e below (s₁.setTop (mkF m 49 #[.val (.int p0), .val (.int (p0 &&& (63 : Int32))), .val (.long ((1 : Int64) <<< ((p0 &&& (63 : Int32)) &&& 0x3f).toInt64)), .second, .val (.long (536878848 : Int64)), .second, .val (.long (128 : Int64)), .second, .val (.long (3 : Int64)), .second, .unset, .unset] [(.int (2 : Int32))])) _
        refine XS.istore X0.here hx rfl (hb hby at_49) rfl (l' := #[.val (.int p0), .val (.int (p0 &&& (63 : Int32))), .val (.long ((1 : Int64) <<< ((p0 &&& (63 : Int32)) &&& 0x3f).toInt64)), .second, .val (.long (536878848 : Int64)), .second, .val (.long (128 : Int64)), .second, .val (.long (3 : Int64)), .second, .val (.int (2 : Int32)), .unset]) rfl ?_
        show Steps p.tables e below (s₁.setTop (mkF m 51 #[.val (.int p0), .val (.int (p0 &&& (63 : Int32))), .val (.long ((1 : Int64) <<< ((p0 &&& (63 : Int32)) &&& 0x3f).toInt64)), .second, .val (.long (536878848 : Int64)), .second, .val (.long (128 : Int64)), .second, .val (.long (3 : Int64)), .second, .val (.int (2 : Int32)), .unset] [])) _
        refine XS.goto X0.here hx rfl (pc0 := 51) (pc' := 72) rfl (hb hby at_51) (by decide) (by decide) ?_
        subst hv1
        exact kt
    · rw [if_neg hc53] at hv1
      refine XS.ifNo X0.here hx rfl (hb hby at_30) rfl ((if0 _ _).trans (feq (own_lwN hc53)).1) ?_
      show Steps p.tables e below (s₁.setTop (mkF m 33 #[.val (.int p0), .val (.int (p0 &&& (63 : Int32))), .val (.long ((1 : Int64) <<< ((p0 &&& (63 : Int32)) &&& 0x3f).toInt64)), .second, .val (.long (536878848 : Int64)), .second, .val (.long (128 : Int64)), .second, .val (.long (3 : Int64)), .second, .unset, .unset] [])) _
      refine XS.iconst X0.here hx rfl (hb hby at_33) ?_
      show Steps p.tables e below (s₁.setTop (mkF m 34 #[.val (.int p0), .val (.int (p0 &&& (63 : Int32))), .val (.long ((1 : Int64) <<< ((p0 &&& (63 : Int32)) &&& 0x3f).toInt64)), .second, .val (.long (536878848 : Int64)), .second, .val (.long (128 : Int64)), .second, .val (.long (3 : Int64)), .second, .unset, .unset] [(.int (3 : Int32))])) _
      refine XS.istore X0.here hx rfl (hb hby at_34) rfl (l' := #[.val (.int p0), .val (.int (p0 &&& (63 : Int32))), .val (.long ((1 : Int64) <<< ((p0 &&& (63 : Int32)) &&& 0x3f).toInt64)), .second, .val (.long (536878848 : Int64)), .second, .val (.long (128 : Int64)), .second, .val (.long (3 : Int64)), .second, .val (.int (3 : Int32)), .unset]) rfl ?_
      show Steps p.tables e below (s₁.setTop (mkF m 36 #[.val (.int p0), .val (.int (p0 &&& (63 : Int32))), .val (.long ((1 : Int64) <<< ((p0 &&& (63 : Int32)) &&& 0x3f).toInt64)), .second, .val (.long (536878848 : Int64)), .second, .val (.long (128 : Int64)), .second, .val (.long (3 : Int64)), .second, .val (.int (3 : Int32)), .unset] [])) _
      refine XS.goto X0.here hx rfl (pc0 := 36) (pc' := 72) rfl (hb hby at_36) (by decide) (by decide) ?_
      subst hv1
      exact kt
  obtain ⟨_, _, ⟨T57, L57, k57, n57⟩, -, X57, ⟨Lc57, hQ57, l57, y57, z57⟩, st57⟩ := Jvm.LawKit.callS X0 hx (y := (⟨"com/example/xcu/xcu/UcaTable", "caseOf", "(I)I"⟩ : MethodName)) hown (mvT hZ (hw _ (List.mem_of_getElem? (i := 3) rfl))) (mvT hZ (hw _ (List.mem_of_getElem? (i := 4) rfl))) (mvT hZ (hw _ (List.mem_of_getElem? (i := 5) rfl))) (mvT hZ (hw _ (List.mem_of_getElem? (i := 6) rfl))) (by decide) (backOf (W := 0) (rm1 l Z aq hw [] (p0 &&& (63 : Int32)) h0 n0 Z0 ) hZ (hw _ (List.mem_of_getElem? (i := 6) rfl)) (hw _ (List.mem_of_getElem? (i := 5) rfl)) (by decide) (by decide)) (g := (mkF m 81 #[.val (.int p0), .val (.int (p0 &&& (63 : Int32))), .val (.long ((1 : Int64) <<< ((p0 &&& (63 : Int32)) &&& 0x3f).toInt64)), .second, .val (.long (536878848 : Int64)), .second, .val (.long (128 : Int64)), .second, .val (.long (3 : Int64)), .second, .val (.int v1), .val (.int (1 : Int32))] [(.int (p0 &&& (63 : Int32)))])) rfl (by rw [hml]; rfl) (argsL := [(.int (p0 &&& (63 : Int32)))]) (rest := []) (lenOf pd87992008 rfl) rfl (by show 2 * 0 + _ ≤ _; exact Nat.le_of_eq rfl) (hb hby at_81) (fun _ _ => ⟨rfl, e0, (by decide : 0 + 0 ≤ _), (by decide : 0 + 0 ≤ _)⟩)
  dsimp only [Pt.U, Pt.locs, Pt.cells, Pt.slots] at X57 l57 y57 z57 st57 hQ57
  subst l57 y57 z57
  obtain ⟨rfl, N57q, e57⟩ := hQ57
  have N58 := Fr.app N0 N57q
  have pre59 : ∀ t, Steps p.tables e below (T57.setTop (mkF m 86 #[.val (.int p0), .val (.int (p0 &&& (63 : Int32))), .val (.long ((1 : Int64) <<< ((p0 &&& (63 : Int32)) &&& 0x3f).toInt64)), .second, .val (.long (536878848 : Int64)), .second, .val (.long (128 : Int64)), .second, .val (.long (3 : Int64)), .second, .val (.int v1), .val (.int (1 : Int32))] [(.int v1), (.int (if (p0 &&& (63 : Int32)) < (8 : Int32) then (if (p0 &&& (63 : Int32)) = (29 : Int32) then (3 : Int32) else (if (p0 &&& (63 : Int32)) = (7 : Int32) then (2 : Int32) else (if (p0 &&& (63 : Int32)) = (0 : Int32) then (0 : Int32) else (if (p0 &&& (63 : Int32)) = (1 : Int32) then (0 : Int32) else (1 : Int32))))) else (if (12 : Int32) < (p0 &&& (63 : Int32)) then (if (p0 &&& (63 : Int32)) = (29 : Int32) then (3 : Int32) else (if (p0 &&& (63 : Int32)) = (7 : Int32) then (2 : Int32) else (if (p0 &&& (63 : Int32)) = (0 : Int32) then (0 : Int32) else (if (p0 &&& (63 : Int32)) = (1 : Int32) then (0 : Int32) else (1 : Int32))))) else (3 : Int32))))])) t → Steps p.tables e below (s₁.setTop (entryFrame m #[(.int p0)] maxLocals)) t := fun t kt => by
    refine pre56 _ ?_
    show Steps p.tables e below (s₁.setTop (mkF m 72 #[.val (.int p0), .val (.int (p0 &&& (63 : Int32))), .val (.long ((1 : Int64) <<< ((p0 &&& (63 : Int32)) &&& 0x3f).toInt64)), .second, .val (.long (536878848 : Int64)), .second, .val (.long (128 : Int64)), .second, .val (.long (3 : Int64)), .second, .val (.int v1), .unset] [])) _
    refine XS.iconst X0.here hx rfl (hb hby at_72) ?_
    show Steps p.tables e below (s₁.setTop (mkF m 73 #[.val (.int p0), .val (.int (p0 &&& (63 : Int32))), .val (.long ((1 : Int64) <<< ((p0 &&& (63 : Int32)) &&& 0x3f).toInt64)), .second, .val (.long (536878848 : Int64)), .second, .val (.long (128 : Int64)), .second, .val (.long (3 : Int64)), .second, .val (.int v1), .unset] [(.int (1 : Int32))])) _
    refine XS.istore X0.here hx rfl (hb hby at_73) rfl (l' := #[.val (.int p0), .val (.int (p0 &&& (63 : Int32))), .val (.long ((1 : Int64) <<< ((p0 &&& (63 : Int32)) &&& 0x3f).toInt64)), .second, .val (.long (536878848 : Int64)), .second, .val (.long (128 : Int64)), .second, .val (.long (3 : Int64)), .second, .val (.int v1), .val (.int (1 : Int32))]) rfl ?_
    show Steps p.tables e below (s₁.setTop (mkF m 75 #[.val (.int p0), .val (.int (p0 &&& (63 : Int32))), .val (.long ((1 : Int64) <<< ((p0 &&& (63 : Int32)) &&& 0x3f).toInt64)), .second, .val (.long (536878848 : Int64)), .second, .val (.long (128 : Int64)), .second, .val (.long (3 : Int64)), .second, .val (.int v1), .val (.int (1 : Int32))] [])) _
    refine XS.iload X0.here hx rfl (hb hby at_75) rfl ?_
    show Steps p.tables e below (s₁.setTop (mkF m 77 #[.val (.int p0), .val (.int (p0 &&& (63 : Int32))), .val (.long ((1 : Int64) <<< ((p0 &&& (63 : Int32)) &&& 0x3f).toInt64)), .second, .val (.long (536878848 : Int64)), .second, .val (.long (128 : Int64)), .second, .val (.long (3 : Int64)), .second, .val (.int v1), .val (.int (1 : Int32))] [(.int (1 : Int32))])) _
    refine XS.ifNo X0.here hx rfl (hb hby at_77) rfl ((if0 _ _).trans (feq (by decide : ¬ ((1 : Int32) = (0 : Int32)))).1) ?_
    show Steps p.tables e below (s₁.setTop (mkF m 80 #[.val (.int p0), .val (.int (p0 &&& (63 : Int32))), .val (.long ((1 : Int64) <<< ((p0 &&& (63 : Int32)) &&& 0x3f).toInt64)), .second, .val (.long (536878848 : Int64)), .second, .val (.long (128 : Int64)), .second, .val (.long (3 : Int64)), .second, .val (.int v1), .val (.int (1 : Int32))] [])) _
    refine XS.iloadN X0.here hx rfl (hb hby at_80) rfl ?_
    show Steps p.tables e below (s₁.setTop (mkF m 81 #[.val (.int p0), .val (.int (p0 &&& (63 : Int32))), .val (.long ((1 : Int64) <<< ((p0 &&& (63 : Int32)) &&& 0x3f).toInt64)), .second, .val (.long (536878848 : Int64)), .second, .val (.long (128 : Int64)), .second, .val (.long (3 : Int64)), .second, .val (.int v1), .val (.int (1 : Int32))] [(.int (p0 &&& (63 : Int32)))])) _
    refine st57 _ ?_
    show Steps p.tables e below (T57.setTop (mkF m 84 #[.val (.int p0), .val (.int (p0 &&& (63 : Int32))), .val (.long ((1 : Int64) <<< ((p0 &&& (63 : Int32)) &&& 0x3f).toInt64)), .second, .val (.long (536878848 : Int64)), .second, .val (.long (128 : Int64)), .second, .val (.long (3 : Int64)), .second, .val (.int v1), .val (.int (1 : Int32))] [(.int (if (p0 &&& (63 : Int32)) < (8 : Int32) then (if (p0 &&& (63 : Int32)) = (29 : Int32) then (3 : Int32) else (if (p0 &&& (63 : Int32)) = (7 : Int32) then (2 : Int32) else (if (p0 &&& (63 : Int32)) = (0 : Int32) then (0 : Int32) else (if (p0 &&& (63 : Int32)) = (1 : Int32) then (0 : Int32) else (1 : Int32))))) else (if (12 : Int32) < (p0 &&& (63 : Int32)) then (if (p0 &&& (63 : Int32)) = (29 : Int32) then (3 : Int32) else (if (p0 &&& (63 : Int32)) = (7 : Int32) then (2 : Int32) else (if (p0 &&& (63 : Int32)) = (0 : Int32) then (0 : Int32) else (if (p0 &&& (63 : Int32)) = (1 : Int32) then (0 : Int32) else (1 : Int32))))) else (3 : Int32))))])) _
    refine XS.iload X57.here hx rfl (hb hby at_84) rfl ?_
    show Steps p.tables e below (T57.setTop (mkF m 86 #[.val (.int p0), .val (.int (p0 &&& (63 : Int32))), .val (.long ((1 : Int64) <<< ((p0 &&& (63 : Int32)) &&& 0x3f).toInt64)), .second, .val (.long (536878848 : Int64)), .second, .val (.long (128 : Int64)), .second, .val (.long (3 : Int64)), .second, .val (.int v1), .val (.int (1 : Int32))] [(.int v1), (.int (if (p0 &&& (63 : Int32)) < (8 : Int32) then (if (p0 &&& (63 : Int32)) = (29 : Int32) then (3 : Int32) else (if (p0 &&& (63 : Int32)) = (7 : Int32) then (2 : Int32) else (if (p0 &&& (63 : Int32)) = (0 : Int32) then (0 : Int32) else (if (p0 &&& (63 : Int32)) = (1 : Int32) then (0 : Int32) else (1 : Int32))))) else (if (12 : Int32) < (p0 &&& (63 : Int32)) then (if (p0 &&& (63 : Int32)) = (29 : Int32) then (3 : Int32) else (if (p0 &&& (63 : Int32)) = (7 : Int32) then (2 : Int32) else (if (p0 &&& (63 : Int32)) = (0 : Int32) then (0 : Int32) else (if (p0 &&& (63 : Int32)) = (1 : Int32) then (0 : Int32) else (1 : Int32))))) else (3 : Int32))))])) _
    exact kt
  obtain ⟨v2, hv2⟩ : ∃ z : Int32, z = (if (if (p0 &&& (63 : Int32)) < (8 : Int32) then (if (p0 &&& (63 : Int32)) = (29 : Int32) then (3 : Int32) else (if (p0 &&& (63 : Int32)) = (7 : Int32) then (2 : Int32) else (if (p0 &&& (63 : Int32)) = (0 : Int32) then (0 : Int32) else (if (p0 &&& (63 : Int32)) = (1 : Int32) then (0 : Int32) else (1 : Int32))))) else (if (12 : Int32) < (p0 &&& (63 : Int32)) then (if (p0 &&& (63 : Int32)) = (29 : Int32) then (3 : Int32) else (if (p0 &&& (63 : Int32)) = (7 : Int32) then (2 : Int32) else (if (p0 &&& (63 : Int32)) = (0 : Int32) then (0 : Int32) else (if (p0 &&& (63 : Int32)) = (1 : Int32) then (0 : Int32) else (1 : Int32))))) else (3 : Int32))) = v1 then (1 : Int32) else (0 : Int32)) := ⟨_, rfl⟩
  have pre61 : ∀ t, Steps p.tables e below (T57.setTop (mkF m 94 #[.val (.int p0), .val (.int (p0 &&& (63 : Int32))), .val (.long ((1 : Int64) <<< ((p0 &&& (63 : Int32)) &&& 0x3f).toInt64)), .second, .val (.long (536878848 : Int64)), .second, .val (.long (128 : Int64)), .second, .val (.long (3 : Int64)), .second, .val (.int v1), .val (.int (1 : Int32))] [(.int v2)])) t → Steps p.tables e below (s₁.setTop (entryFrame m #[(.int p0)] maxLocals)) t := fun t kt => by
    refine pre59 _ ?_
    show Steps p.tables e below (T57.setTop (mkF m 86 #[.val (.int p0), .val (.int (p0 &&& (63 : Int32))), .val (.long ((1 : Int64) <<< ((p0 &&& (63 : Int32)) &&& 0x3f).toInt64)), .second, .val (.long (536878848 : Int64)), .second, .val (.long (128 : Int64)), .second, .val (.long (3 : Int64)), .second, .val (.int v1), .val (.int (1 : Int32))] [(.int v1), (.int (if (p0 &&& (63 : Int32)) < (8 : Int32) then (if (p0 &&& (63 : Int32)) = (29 : Int32) then (3 : Int32) else (if (p0 &&& (63 : Int32)) = (7 : Int32) then (2 : Int32) else (if (p0 &&& (63 : Int32)) = (0 : Int32) then (0 : Int32) else (if (p0 &&& (63 : Int32)) = (1 : Int32) then (0 : Int32) else (1 : Int32))))) else (if (12 : Int32) < (p0 &&& (63 : Int32)) then (if (p0 &&& (63 : Int32)) = (29 : Int32) then (3 : Int32) else (if (p0 &&& (63 : Int32)) = (7 : Int32) then (2 : Int32) else (if (p0 &&& (63 : Int32)) = (0 : Int32) then (0 : Int32) else (if (p0 &&& (63 : Int32)) = (1 : Int32) then (0 : Int32) else (1 : Int32))))) else (3 : Int32))))])) _
    by_cases hc60 : (if (p0 &&& (63 : Int32)) < (8 : Int32) then (if (p0 &&& (63 : Int32)) = (29 : Int32) then (3 : Int32) else (if (p0 &&& (63 : Int32)) = (7 : Int32) then (2 : Int32) else (if (p0 &&& (63 : Int32)) = (0 : Int32) then (0 : Int32) else (if (p0 &&& (63 : Int32)) = (1 : Int32) then (0 : Int32) else (1 : Int32))))) else (if (12 : Int32) < (p0 &&& (63 : Int32)) then (if (p0 &&& (63 : Int32)) = (29 : Int32) then (3 : Int32) else (if (p0 &&& (63 : Int32)) = (7 : Int32) then (2 : Int32) else (if (p0 &&& (63 : Int32)) = (0 : Int32) then (0 : Int32) else (if (p0 &&& (63 : Int32)) = (1 : Int32) then (0 : Int32) else (1 : Int32))))) else (3 : Int32))) = v1
    · rw [if_pos hc60] at hv2
      refine XS.icmpNo X57.here hx rfl (hb hby at_86) rfl (teq hc60).2 ?_
      show Steps p.tables e below (T57.setTop (mkF m 89 #[.val (.int p0), .val (.int (p0 &&& (63 : Int32))), .val (.long ((1 : Int64) <<< ((p0 &&& (63 : Int32)) &&& 0x3f).toInt64)), .second, .val (.long (536878848 : Int64)), .second, .val (.long (128 : Int64)), .second, .val (.long (3 : Int64)), .second, .val (.int v1), .val (.int (1 : Int32))] [])) _
      refine XS.iconst X57.here hx rfl (hb hby at_89) ?_
      show Steps p.tables e below (T57.setTop (mkF m 90 #[.val (.int p0), .val (.int (p0 &&& (63 : Int32))), .val (.long ((1 : Int64) <<< ((p0 &&& (63 : Int32)) &&& 0x3f).toInt64)), .second, .val (.long (536878848 : Int64)), .second, .val (.long (128 : Int64)), .second, .val (.long (3 : Int64)), .second, .val (.int v1), .val (.int (1 : Int32))] [(.int (1 : Int32))])) _
      refine XS.goto X57.here hx rfl (pc0 := 90) (pc' := 94) rfl (hb hby at_90) (by decide) (by decide) ?_
      subst hv2
      exact kt
    · rw [if_neg hc60] at hv2
      refine XS.icmpYes X57.here hx rfl (pc0 := 86) (pc' := 93) rfl (hb hby at_86) rfl (feq hc60).2 (by decide) (by decide) ?_
      show Steps p.tables e below (T57.setTop (mkF m 93 #[.val (.int p0), .val (.int (p0 &&& (63 : Int32))), .val (.long ((1 : Int64) <<< ((p0 &&& (63 : Int32)) &&& 0x3f).toInt64)), .second, .val (.long (536878848 : Int64)), .second, .val (.long (128 : Int64)), .second, .val (.long (3 : Int64)), .second, .val (.int v1), .val (.int (1 : Int32))] [])) _
      refine XS.iconst X57.here hx rfl (hb hby at_93) ?_
      subst hv2
      exact kt
  have hfin : v2 = 1 := (own_plain0 p0 v1 hv1 v2 hv2)
  obtain ⟨fs, hr, hrun, hended, hW, hsame⟩ := X57.leave (v := some (.int (v2 &&& 1))) (fun h => by rw [Bd.returns] at h; cases h)
  refine ⟨_, _, pre61 _ ?_, hrun, hended, _, _, rfl, ?_, ⟨_, rfl⟩, hW, hsame.mono (by decide) (by decide)⟩
  · exact retN X57 hx (t := .boolean) Bd.returns (by simp) (hb hby at_94) hr
  · exact ⟨by rw [hfin]; rfl, N58⟩
set_option maxRecDepth 65536 in
set_option maxHeartbeats 40000000 in
theorem comes_1 {Post : Tables → Env → Array Value → State → Outcome → State → Prop} (hpost : ∀ tb e args s v u, (limb_1_1.after args s (.returned v) u = true ∧ limb_1_2.after args s (.returned v) u = true ∧ True) → FrameEnd s (.returned v) u (Jvm.fieldLocs frame_1_writes args s ++ Jvm.arrayLocs frame_1_arrays args s ++ Jvm.staticLocs frame_1_statics s) 0 0 → Post tb e args s (.returned v) u) :
    ArmFor flags0 classFile x code maxLocals ret World_1 tables_1 room_1 Calls_1 rest_1 Pre_1 Post := by
  intro l hfl _ _ p e ha hc hk s m args below hf hA hF happ hP
  obtain ⟨hcalls, hrest, hpre⟩ := hP
  obtain ⟨-, -, -, hnamed, -, -, -, hat⟩ := (Spec.applies_iff hf).mp happ
  obtain ⟨hg, hn⟩ := and_e (Cond.before_iff.mp (show (Jvm.Cond.and given_1 narrow_1).before args s = true from hpre))
  obtain ⟨hcount, hg0⟩ := and_e hg
  have ha0 := hg0
  obtain ⟨w0, rfl⟩ : ∃ w0 : Value, args = #[w0] := by
    have hs : args.size = 1 := by simpa [Cond.value, given_1] using hcount
    obtain ⟨L⟩ := args
    match L, hs with
    | [w0], _ => exact ⟨w0, rfl⟩
  have hw := fun d (hd : d ∈ tables_1) => atoms_spec (ws := Jvm.Cond.code x code maxLocals ret :: tables_1) hat d (List.mem_cons_of_mem _ hd)
  obtain ⟨i0, ei0⟩ := is_v ha0
  obtain rfl : w0 = (.int i0) := Option.some.inj ei0
  obtain ⟨n, o, h1, h2, h3, _, L, rfl, ⟨rfl, N⟩, hq⟩ := rm0 l s _ hw tables_1 i0 s.heap s.heap.size (Nat.le_refl _) p e ha hc hk s m _ below hf ((Spec.applies_iff_loose hf).mp happ).1 ⟨rfl, State.Warmed39.refl s, rfl⟩ trivial
  refine ⟨n, _, h1, h2, h3, hpost _ _ _ _ _ _ ⟨Cond.after_iff.mpr rfl, Cond.after_iff.mpr (eq_i res_at (Term.int_eval (1)) rfl), trivial⟩ ⟨hq.1, hq.2.1, (hq.2.2.sift fun y hy => Or.inr (N y hy)).mono (by decide) (by decide)⟩⟩
theorem main_1_1 : Claimed_1_1 := comes_1 fun _ _ _ _ _ _ h hF => ⟨h.1, hF⟩
theorem main_1_2 : Claimed_1_2 := comes_1 fun _ _ _ _ _ _ h hF => ⟨h.2.1, hF⟩
end Jvm.Pilot.@@N@@
namespace Jvm.Pilot.@@N@@
open Jvm Jvm.ClassFile Sem Op Lib Jvm.Free Jvm.Stand Jvm.Pilot.@@N@@.Jvm.D
/-! MADE BY PROGRAM (witnessworld.py) out of the Statement's table words and the real class files: 9 classes; the members and pool entries that the words name. The judged class is class 1, her method 1. -/
namespace start1
open Jvm.ClassFile
def u (s : String) : CpInfo := .utf8 (stringToUtf16 s)
/-- a pool by its gaps: so many unusable entries, then the entry; so many at the end -/
def gap : Nat → List CpInfo → List CpInfo
  | 0, r => r
  | n + 1, r => .unusable :: gap n r
def poolList (es : List (Nat × CpInfo)) (last : Nat) : List CpInfo := es.foldr (fun e r => gap e.1 (e.2 :: r)) (gap last [])
def pool (es : List (Nat × CpInfo)) (last : Nat) : Array CpInfo := ⟨poolList es last⟩
def fileOf (pool : Array CpInfo) (this : Nat) (attrs : Array Attribute := #[]) (ms : Array MethodInfo := #[]) (fl : Nat := 33) (sup : Nat := 0) (ifs : Array Nat := #[]) (fds : Array FieldInfo := #[]) : ClassFile where
  minorVersion := 0
  majorVersion := 65
  constantPool := pool
  accessFlags := fl
  thisClass := this
  superClass := sup
  interfaces := ifs
  fields := fds
  methods := ms
  attributes := attrs
def plain (name : String) (sup : Option ClassId) : Class where
  name := name
  kind := .ordinary
  loader := none
  accessFlags := 33
  super := sup
  interfaces := #[]
  cf := none
  fields := #[]
  methods := #[]
  instanceTypes := #[]
  staticTypes := #[]
  resolved := #[]
  callSites := []
  init := .initialized
  statics := none
  mirror := none

def pool0 : Array CpInfo := pool [(5, u "<init>"), (0, u "()V"), (1, .class_ 10), (1, u "java/lang/Object")] 113

def k0m0 : Method := { name := "<init>", desc := "()V", sig := { parameters := [], returnType := none }, accessFlags := 1, code := none }
/-- java/lang/Object -/
def k0 : Class := { plain "java/lang/Object" none with
  accessFlags := 33
  interfaces := #[]
  cf := some (fileOf pool0 8 #[] #[{ accessFlags := 1, nameIndex := 5, descriptorIndex := 6, attributes := #[] }] 33 0 #[] #[])
  fields := #[]
  methods := #[k0m0]
  instanceTypes := #[]
  staticTypes := #[]
  resolved := Array.replicate 124 none
  statics := none }

def pool1 : Array CpInfo := pool [(2, .class_ 4), (1, u "java/lang/Object"), (0, u "<init>"), (0, u "()V"), (0, .long 536878848), (1, .long 128), (1, .long 3), (1, .class_ 14), (0, u "com/example/xcu/xcu/UcaTable"), (0, .methodref 13 16), (0, .nameAndType 17 18), (0, u "caseOf"), (0, u "(I)I"), (0, .class_ 20), (0, u "com/example/xcu/xcu/UcaTableCaseOfPinLaw"), (2, u "law"), (0, u "(I)Z")] 3

def k1m0 : Method := { name := "<init>", desc := "()V", sig := { parameters := [], returnType := none }, accessFlags := 2, code := none }
def k1c1 : Code := { maxStack := 4, maxLocals := 12, code := code, exceptionTable := #[], attributes := #[] }
def k1m1 : Method := { name := "law", desc := "(I)Z", sig := { parameters := [.int], returnType := some .boolean }, accessFlags := 9, code := some k1c1 }
/-- com/example/xcu/xcu/UcaTableCaseOfPinLaw -/
def k1 : Class := { plain "com/example/xcu/xcu/UcaTableCaseOfPinLaw" (some 0) with
  accessFlags := 49
  interfaces := #[]
  cf := some (fileOf pool1 19 #[] #[{ accessFlags := 2, nameIndex := 5, descriptorIndex := 6, attributes := #[] }, { accessFlags := 9, nameIndex := 23, descriptorIndex := 24, attributes := #[] }] 49 2 #[] #[])
  fields := #[]
  methods := #[k1m0, k1m1]
  instanceTypes := #[]
  staticTypes := #[]
  resolved := Array.replicate 28 none
  statics := none }

def pool2 : Array CpInfo := pool [(1, .class_ 2), (0, u "com/example/xcu/xcu/UcaTable"), (1, .class_ 6), (1, u "java/lang/Object"), (5, u "[I"), (2, u "pages"), (0, u "[[I"), (5, u "startsInPlane"), (0, u "Ljava/util/BitSet;"), (2, u "digits"), (2, u "digitElements"), (5, u "groupsByCode"), (0, u "Ljava/util/Map;"), (7, .class_ 46), (1, u "com/example/xcu/xcu/UcaTable$Builder"), (48, u "pool"), (41, u "longestContraction"), (0, u "I"), (0, .class_ 140), (0, u "com/example/xcu/xcu/UcaTable$Nodes"), (6, u "starts"), (2, u "startNodes"), (24, u "nodeEntries"), (3, u "childStart"), (6, u "childPoints"), (2, u "childNodes"), (2, u "highestChildPlaces"), (5, u "(I)I"), (4, u "implicitStarts"), (4, u "implicitBases"), (4, u "implicitOrigins"), (4, u "variableTops"), (6, u "digitZeros"), (4, u "digitScripts"), (13, u "groupStarts"), (47, u "SPACE"), (2, u "PUNCT"), (1, u "SYMBOL"), (1, u "CURRENCY"), (1, u "VARIABLE_GROUPS"), (1, u "DIGIT"), (0, u "NO_ENTRY"), (0, u "FIRST_CAPITAL"), (1, u "LAST_CAPITAL"), (1, u "OTHER_CAPITAL"), (1, u "BELOW_FORMS"), (0, u "BETWEEN_CASES"), (1, u "NO_CASE"), (0, u "OTHER_CASE"), (0, u "MIXED_CASE"), (0, u "CAPITAL_CASE"), (0, u "LOWEST_PRIMARY"), (1, u "HIGHEST_LEAD"), (1, u "LOWEST_SECONDARY"), (1, u "HIGHEST_SECONDARY"), (1, u "HIGHEST_TERTIARY"), (1, u "COMMON_SECONDARY"), (1, u "COUNT_BITS"), (1, u "COUNT_MASK"), (0, u "PAGE_BITS"), (0, u "PAGE_MASK"), (11, u "caseOf")] 49

def k2c0 : Code := { maxStack := 2, maxLocals := 2, code := prog_61_method_7_code, exceptionTable := #[], attributes := #[] }
def k2m0 : Method := { name := "caseOf", desc := "(I)I", sig := { parameters := [.int], returnType := some .int }, accessFlags := 8, code := some k2c0 }
/-- com/example/xcu/xcu/UcaTable -/
def k2 : Class := { plain "com/example/xcu/xcu/UcaTable" (some 0) with
  accessFlags := 48
  interfaces := #[]
  cf := some (fileOf pool2 1 #[.nestMembers #[44, 139]] #[{ accessFlags := 8, nameIndex := 346, descriptorIndex := 198, attributes := #[] }] 48 4 #[] #[{ accessFlags := 24, nameIndex := 292, descriptorIndex := 138, attributes := #[] }, { accessFlags := 24, nameIndex := 295, descriptorIndex := 138, attributes := #[] }, { accessFlags := 24, nameIndex := 297, descriptorIndex := 138, attributes := #[] }, { accessFlags := 24, nameIndex := 299, descriptorIndex := 138, attributes := #[] }, { accessFlags := 26, nameIndex := 301, descriptorIndex := 138, attributes := #[] }, { accessFlags := 24, nameIndex := 303, descriptorIndex := 138, attributes := #[] }, { accessFlags := 24, nameIndex := 304, descriptorIndex := 138, attributes := #[] }, { accessFlags := 26, nameIndex := 305, descriptorIndex := 138, attributes := #[] }, { accessFlags := 26, nameIndex := 307, descriptorIndex := 138, attributes := #[] }, { accessFlags := 26, nameIndex := 309, descriptorIndex := 138, attributes := #[] }, { accessFlags := 26, nameIndex := 311, descriptorIndex := 138, attributes := #[] }, { accessFlags := 26, nameIndex := 312, descriptorIndex := 138, attributes := #[] }, { accessFlags := 24, nameIndex := 314, descriptorIndex := 138, attributes := #[] }, { accessFlags := 24, nameIndex := 315, descriptorIndex := 138, attributes := #[] }, { accessFlags := 24, nameIndex := 316, descriptorIndex := 138, attributes := #[] }, { accessFlags := 24, nameIndex := 317, descriptorIndex := 138, attributes := #[] }, { accessFlags := 24, nameIndex := 318, descriptorIndex := 138, attributes := #[] }, { accessFlags := 24, nameIndex := 320, descriptorIndex := 138, attributes := #[] }, { accessFlags := 24, nameIndex := 322, descriptorIndex := 138, attributes := #[] }, { accessFlags := 24, nameIndex := 324, descriptorIndex := 138, attributes := #[] }, { accessFlags := 24, nameIndex := 326, descriptorIndex := 138, attributes := #[] }, { accessFlags := 26, nameIndex := 328, descriptorIndex := 138, attributes := #[] }, { accessFlags := 26, nameIndex := 330, descriptorIndex := 138, attributes := #[] }, { accessFlags := 26, nameIndex := 332, descriptorIndex := 138, attributes := #[] }, { accessFlags := 26, nameIndex := 333, descriptorIndex := 138, attributes := #[] }, { accessFlags := 26, nameIndex := 334, descriptorIndex := 138, attributes := #[] }, { accessFlags := 18, nameIndex := 95, descriptorIndex := 12, attributes := #[] }, { accessFlags := 18, nameIndex := 15, descriptorIndex := 16, attributes := #[] }, { accessFlags := 18, nameIndex := 147, descriptorIndex := 12, attributes := #[] }, { accessFlags := 18, nameIndex := 150, descriptorIndex := 12, attributes := #[] }, { accessFlags := 18, nameIndex := 22, descriptorIndex := 23, attributes := #[] }, { accessFlags := 18, nameIndex := 175, descriptorIndex := 12, attributes := #[] }, { accessFlags := 18, nameIndex := 179, descriptorIndex := 12, attributes := #[] }, { accessFlags := 18, nameIndex := 186, descriptorIndex := 12, attributes := #[] }, { accessFlags := 18, nameIndex := 189, descriptorIndex := 12, attributes := #[] }, { accessFlags := 18, nameIndex := 192, descriptorIndex := 12, attributes := #[] }, { accessFlags := 18, nameIndex := 203, descriptorIndex := 12, attributes := #[] }, { accessFlags := 18, nameIndex := 208, descriptorIndex := 12, attributes := #[] }, { accessFlags := 18, nameIndex := 213, descriptorIndex := 12, attributes := #[] }, { accessFlags := 18, nameIndex := 218, descriptorIndex := 12, attributes := #[] }, { accessFlags := 18, nameIndex := 137, descriptorIndex := 138, attributes := #[] }, { accessFlags := 18, nameIndex := 26, descriptorIndex := 23, attributes := #[] }, { accessFlags := 18, nameIndex := 225, descriptorIndex := 12, attributes := #[] }, { accessFlags := 18, nameIndex := 230, descriptorIndex := 12, attributes := #[] }, { accessFlags := 18, nameIndex := 29, descriptorIndex := 12, attributes := #[] }, { accessFlags := 18, nameIndex := 244, descriptorIndex := 12, attributes := #[] }, { accessFlags := 18, nameIndex := 35, descriptorIndex := 36, attributes := #[] }])
  fields := #[{ name := "SPACE", type := .int, accessFlags := 24, slot := 0, constantValue := 0 }, { name := "PUNCT", type := .int, accessFlags := 24, slot := 1, constantValue := 0 }, { name := "SYMBOL", type := .int, accessFlags := 24, slot := 2, constantValue := 0 }, { name := "CURRENCY", type := .int, accessFlags := 24, slot := 3, constantValue := 0 }, { name := "VARIABLE_GROUPS", type := .int, accessFlags := 26, slot := 4, constantValue := 0 }, { name := "DIGIT", type := .int, accessFlags := 24, slot := 5, constantValue := 0 }, { name := "NO_ENTRY", type := .int, accessFlags := 24, slot := 6, constantValue := 0 }, { name := "FIRST_CAPITAL", type := .int, accessFlags := 26, slot := 7, constantValue := 0 }, { name := "LAST_CAPITAL", type := .int, accessFlags := 26, slot := 8, constantValue := 0 }, { name := "OTHER_CAPITAL", type := .int, accessFlags := 26, slot := 9, constantValue := 0 }, { name := "BELOW_FORMS", type := .int, accessFlags := 26, slot := 10, constantValue := 0 }, { name := "BETWEEN_CASES", type := .int, accessFlags := 26, slot := 11, constantValue := 0 }, { name := "NO_CASE", type := .int, accessFlags := 24, slot := 12, constantValue := 0 }, { name := "OTHER_CASE", type := .int, accessFlags := 24, slot := 13, constantValue := 0 }, { name := "MIXED_CASE", type := .int, accessFlags := 24, slot := 14, constantValue := 0 }, { name := "CAPITAL_CASE", type := .int, accessFlags := 24, slot := 15, constantValue := 0 }, { name := "LOWEST_PRIMARY", type := .int, accessFlags := 24, slot := 16, constantValue := 0 }, { name := "HIGHEST_LEAD", type := .int, accessFlags := 24, slot := 17, constantValue := 0 }, { name := "LOWEST_SECONDARY", type := .int, accessFlags := 24, slot := 18, constantValue := 0 }, { name := "HIGHEST_SECONDARY", type := .int, accessFlags := 24, slot := 19, constantValue := 0 }, { name := "HIGHEST_TERTIARY", type := .int, accessFlags := 24, slot := 20, constantValue := 0 }, { name := "COMMON_SECONDARY", type := .int, accessFlags := 26, slot := 21, constantValue := 0 }, { name := "COUNT_BITS", type := .int, accessFlags := 26, slot := 22, constantValue := 0 }, { name := "COUNT_MASK", type := .int, accessFlags := 26, slot := 23, constantValue := 0 }, { name := "PAGE_BITS", type := .int, accessFlags := 26, slot := 24, constantValue := 0 }, { name := "PAGE_MASK", type := .int, accessFlags := 26, slot := 25, constantValue := 0 }, { name := "pool", type := (.array .int), accessFlags := 18, slot := 0, constantValue := 0 }, { name := "pages", type := (.array (.array .int)), accessFlags := 18, slot := 1, constantValue := 0 }, { name := "starts", type := (.array .int), accessFlags := 18, slot := 2, constantValue := 0 }, { name := "startNodes", type := (.array .int), accessFlags := 18, slot := 3, constantValue := 0 }, { name := "startsInPlane", type := (.object "java/util/BitSet"), accessFlags := 18, slot := 4, constantValue := 0 }, { name := "nodeEntries", type := (.array .int), accessFlags := 18, slot := 5, constantValue := 0 }, { name := "childStart", type := (.array .int), accessFlags := 18, slot := 6, constantValue := 0 }, { name := "childPoints", type := (.array .int), accessFlags := 18, slot := 7, constantValue := 0 }, { name := "childNodes", type := (.array .int), accessFlags := 18, slot := 8, constantValue := 0 }, { name := "highestChildPlaces", type := (.array .int), accessFlags := 18, slot := 9, constantValue := 0 }, { name := "implicitStarts", type := (.array .int), accessFlags := 18, slot := 10, constantValue := 0 }, { name := "implicitBases", type := (.array .int), accessFlags := 18, slot := 11, constantValue := 0 }, { name := "implicitOrigins", type := (.array .int), accessFlags := 18, slot := 12, constantValue := 0 }, { name := "variableTops", type := (.array .int), accessFlags := 18, slot := 13, constantValue := 0 }, { name := "longestContraction", type := .int, accessFlags := 18, slot := 14, constantValue := 0 }, { name := "digits", type := (.object "java/util/BitSet"), accessFlags := 18, slot := 15, constantValue := 0 }, { name := "digitZeros", type := (.array .int), accessFlags := 18, slot := 16, constantValue := 0 }, { name := "digitScripts", type := (.array .int), accessFlags := 18, slot := 17, constantValue := 0 }, { name := "digitElements", type := (.array .int), accessFlags := 18, slot := 18, constantValue := 0 }, { name := "groupStarts", type := (.array .int), accessFlags := 18, slot := 19, constantValue := 0 }, { name := "groupsByCode", type := (.object "java/util/Map"), accessFlags := 18, slot := 20, constantValue := 0 }]
  methods := #[k2m0]
  instanceTypes := #[(.array .int), (.array (.array .int)), (.array .int), (.array .int), (.object "java/util/BitSet"), (.array .int), (.array .int), (.array .int), (.array .int), (.array .int), (.array .int), (.array .int), (.array .int), (.array .int), .int, (.object "java/util/BitSet"), (.array .int), (.array .int), (.array .int), (.array .int), (.object "java/util/Map")]
  staticTypes := #[.int, .int, .int, .int, .int, .int, .int, .int, .int, .int, .int, .int, .int, .int, .int, .int, .int, .int, .int, .int, .int, .int, .int, .int, .int, .int]
  resolved := Array.replicate 396 none
  statics := none }

def pool3 : Array CpInfo := pool [(1, u "java/lang/Cloneable"), (0, .class_ 1), (0, u "java/lang/Object"), (0, .class_ 3)] 3

/-- java/lang/Cloneable -/
def k3 : Class := { plain "java/lang/Cloneable" (some 0) with
  accessFlags := 1537
  interfaces := #[]
  cf := some (fileOf pool3 2 #[] #[] 1537 4 #[] #[])
  fields := #[]
  methods := #[]
  instanceTypes := #[]
  staticTypes := #[]
  resolved := Array.replicate 8 none
  statics := none }

def pool4 : Array CpInfo := pool [(1, u "java/io/Serializable"), (0, .class_ 1), (0, u "java/lang/Object"), (0, .class_ 3)] 3

/-- java/io/Serializable -/
def k4 : Class := { plain "java/io/Serializable" (some 0) with
  accessFlags := 1537
  interfaces := #[]
  cf := some (fileOf pool4 2 #[] #[] 1537 4 #[] #[])
  fields := #[]
  methods := #[]
  instanceTypes := #[]
  staticTypes := #[]
  resolved := Array.replicate 8 none
  statics := none }

/-- the primitive byte -/
def k5 : Class := { plain "byte" none with kind := .primitive 'B', accessFlags := 0x411 }
/-- [B -/
def k6 : Class := { plain "[B" (some 0) with kind := .array 5 .byte, interfaces := #[3, 4], accessFlags := 1041 }

/-- the primitive int -/
def k7 : Class := { plain "int" none with kind := .primitive 'I', accessFlags := 0x411 }
/-- [I -/
def k8 : Class := { plain "[I" (some 0) with kind := .array 7 .int, interfaces := #[3, 4], accessFlags := 1041 }

def heap : Heap := #[]
def classes : Array Class := #[k0, k1, k2, k3, k4, k5, k6, k7, k8]
def interned : List (Array UInt16 × Addr) := []
def slotsUsed : Nat := 0
def theMethod : MethodId := ⟨1, 1⟩
def args0 : Array Value := #[.int 5]
def aboutOver (below : List Frame) : State where
  vm := { classes := classes, interned := interned.toArray }
  heap := heap
  slotsUsed := slotsUsed
  threads := #[{ frames := .invoking theMethod args0 :: below }]
def below0 : List Frame := [.native { method := ⟨0, 0⟩, args := #[] }]
def about1 : State := aboutOver below0
def p0 : Program := .bare "" "" ""
def e0 : Env := launch0.env 0 0 0
theorem w_frames : about1.frames = Frame.invoking theMethod args0 :: below0 := rfl
set_option maxRecDepth 65536 in
theorem w_args : argsFit about1.vm theMethod args0 = true := by decide +kernel
set_option maxRecDepth 65536 in
theorem w_heap : heapFits about1 = true := by decide +kernel
set_option maxRecDepth 65536 in
theorem w_runnable : about1.curStatus? = some .runnable := by decide +kernel
set_option maxRecDepth 65536 in
theorem w_alone : about1.alone = true := by decide +kernel
set_option maxRecDepth 65536 in
theorem w_named : about1.methodNamed? x = some theMethod := by decide +kernel
set_option maxRecDepth 65536 in
theorem w_hears : about1.hears theMethod below0 = true := by decide +kernel
set_option maxRecDepth 65536 in
theorem w_ripe : about1.ripe theMethod args0 below0 = true := by decide +kernel
theorem w_running : about1.status = .running := rfl
set_option maxRecDepth 65536 in
theorem w_room : about1.hasRoom e0.platform room_1 = true :=
  launch0.hasRoom_least _ room_1 (by decide +kernel) (by decide +kernel) (by decide +kernel) (by decide +kernel) (by decide +kernel) (by decide +kernel)
theorem allAtoms_all (ts : List Jvm.Cond) (a : Array Jvm.Value) (st : Jvm.State) : (allAtoms ts).before a st = ts.all (fun c => c.before a st) := by
  induction ts with
  | nil => rfl
  | cons c t ih =>
    show (Jvm.Cond.and c (allAtoms t)).before a st = _
    rw [Jvm.Cond.before_and, ih, List.all_cons]
def words1 : List Jvm.Cond := Jvm.Cond.code x code maxLocals ret :: tables_1
/-- a 'code' word, met by the world's own term for the bytes: nothing is compared byte by byte -/
theorem code_word {y : MethodName} {bytes : ByteArray} {mx : Nat} {rt : Option FieldType} {a : Array Value} {s : State} {m : MethodId} {meth : Method} {c : Code} (h1 : s.methodNamed? y = some m) (h2 : s.vm.method? m = some meth) (h3 : meth.code = some c) (h4 : c.code = bytes)
    (h5 : (c.maxLocals == mx && c.exceptionTable.isEmpty && decide (c.maxStack ≤ mostOperands) && decide (meth.sig.returnType = rt) && !meth.locks && decide (parseMethodDescriptor y.desc = some meth.sig)) = true) : (Jvm.Cond.code y bytes mx rt).before a s = true := by
  simp only [Bool.and_eq_true, beq_iff_eq, Bool.not_eq_true', decide_eq_true_eq] at h5
  obtain ⟨⟨⟨⟨⟨g1, g2⟩, g3⟩, g4⟩, g5⟩, g6⟩ := h5
  simp [Cond.before, Cond.holds, Cond.value, h1, h2, h3, h4, g1, g2, g3, g4, g5, g6]
def isCode : Jvm.Cond → Bool
  | .code _ _ _ _ => true
  | _ => false
theorem all_split {L : List Jvm.Cond} {P : Jvm.Cond → Bool} (h1 : L.all (fun c => isCode c || P c) = true) (h2 : ∀ c ∈ L.filter isCode, P c = true) : L.all P = true := by
  refine List.all_eq_true.mpr fun c hc => ?_
  have h := List.all_eq_true.mp h1 c hc
  rcases Bool.eq_false_or_eq_true (isCode c) with hi | hi
  · exact h2 c (List.mem_filter.mpr ⟨hc, hi⟩)
  · simpa [hi] using h
set_option maxRecDepth 65536 in
theorem w_c0 : (Jvm.Cond.code x code maxLocals ret).before args0 about1 = true := code_word (m := ⟨1, 1⟩) (meth := k1m1) (c := k1c1) (by decide +kernel) rfl rfl rfl (by decide +kernel)
set_option maxRecDepth 65536 in
theorem w_c1 : (Jvm.Cond.code ({ cls := "com/example/xcu/xcu/UcaTable", name := "caseOf", desc := "(I)I" } : Jvm.MethodName) prog_61_method_7_code (2 : Nat) (Option.some Jvm.ClassFile.FieldType.int)).before args0 about1 = true := code_word (m := ⟨2, 0⟩) (meth := k2m0) (c := k2c0) (by decide +kernel) rfl rfl rfl (by decide +kernel)
def codes1 : List Jvm.Cond := [Jvm.Cond.code x code maxLocals ret, Jvm.Cond.code ({ cls := "com/example/xcu/xcu/UcaTable", name := "caseOf", desc := "(I)I" } : Jvm.MethodName) prog_61_method_7_code (2 : Nat) (Option.some Jvm.ClassFile.FieldType.int)]
set_option maxRecDepth 65536 in
theorem codes_eq : words1.filter isCode = codes1 := rfl
theorem w_codes : ∀ c ∈ words1.filter isCode, c.before args0 about1 = true := by
  rw [codes_eq]
  intro c hc
  simp only [codes1, List.mem_cons, List.not_mem_nil, or_false] at hc
  rcases hc with rfl | rfl
  · exact w_c0
  · exact w_c1
set_option maxRecDepth 65536 in
theorem w_t1 : words1.all (fun c => isCode c || c.before args0 about1) = true := by decide +kernel
theorem w_tables : (allAtoms (Jvm.Cond.code x code maxLocals ret :: tables_1)).before args0 about1 = true := by
  rw [allAtoms_all]
  show words1.all (fun c => c.before args0 about1) = true
  refine all_split ?_ w_codes
  rw [w_t1]
set_option maxRecDepth 65536 in
theorem w_case : (Jvm.Cond.and given_1 narrow_1).before args0 about1 = true := by decide +kernel
theorem w_applies : (headSpec (Jvm.Cond.code x code maxLocals ret :: tables_1) room_1).applies x e0.platform about1 = true :=
  (Spec.applies_iff w_frames).mpr ⟨w_running, w_runnable, w_alone, w_named, w_hears, w_ripe, w_room, w_tables⟩
theorem atStart : AtStart classFile x code maxLocals ret World_1 tables_1 room_1 Calls_1 rest_1 Pre_1 launch0 p0 e0 about1 theMethod args0 below0 :=
  ⟨lists_1, trivial, launch0.admits_env _ _ _, launch0.least_env, fairChoices_fair.cas, fairChoices_fair.clock, w_frames, w_args, w_heap, w_applies, trivial, trivial, w_case⟩
end start1
theorem witness_1 : WitnessClaimed_1 := ⟨start1.p0, start1.e0, start1.about1, start1.theMethod, start1.args0, start1.below0, start1.atStart⟩
end Jvm.Pilot.@@N@@
