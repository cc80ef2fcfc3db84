import JvmDerived
import JvmDerived.Pilot.@@N@@Statement
import JvmDerived.Pilot.@@N@@Code
set_option linter.unusedVariables false
set_option linter.unusedSimpArgs false
@@BLOCK:NumsL.lean.txt@@
namespace Jvm.RoadKit
open Sem ClassFile Op Lib Jvm.Stand Jvm.Free Jvm.LawKit
section New
variable {p : Program} {l : Launch} {e : Env} {R : Room} {s : State} {m : MethodId} {args : Array Value} {below : List Frame} {meth : Method} {c : Code} {T : State} {locs : List Loc} {cells slots : Nat}
theorem retI (X : Stand p l e R s m args below meth c T locs cells slots) (hx : p.tables.exec = Jvm.exec) {pc : Nat} {Ls : Array Slot} {z : Int32} {rest : List Value} (hret : meth.sig.returnType = some .int) (hd : decode c.code pc = .ok (.ireturn, 1)) {fs : List Frame}
    (hl : ∀ (f : JFrame) (acts : List Action), f.method = m → f.locked = none → f.entered = [] → (doReturn e (T.setTop f) acts (some (.int z))).1 = T.setFrames fs) : Steps p.tables e below (T.setTop (mkF m pc Ls (.int z :: rest))) (T.setFrames fs) := by
  have hm' : T.vm.method? m = some meth := X.method'
  have hn : narrow .int (.int z) = .int z := rfl
  show Steps p.tables e below (T.setTop { method := m, pc := pc, locals := Ls, stack := _ :: rest, locked := none }) _
  jvm_step X.here [X.here.top, hx, hd, hm', hret, hn]
  first | (intro acts; rw [hl _ acts rfl rfl rfl]) | rw [hl _ _ rfl rfl rfl]
  exact Steps.refl _
end New
end Jvm.RoadKit
namespace Jvm.Pilot.@@N@@
open Jvm Jvm.ClassFile Sem Op Lib Jvm.Free Jvm.Stand Jvm.LawKit Jvm.RoadKit Bundle Jvm.Pilot.@@N@@.Jvm.D
theorem own_lwN {x y : Int64} (h : ¬ x = y) : ¬ lcmpW x y = 0 := fun q => h ((lw_eq x y).mp q)
theorem own_lwE {x y : Int64} (h : x = y) : lcmpW x y = 0 := (lw_eq x y).mpr h
theorem own_lwL {x y : Int64} (h : x < y) : lcmpW x y < 0 := (lw_lt x y).mpr h
theorem own_lwM {x y : Int64} (h : ¬ x < y) : ¬ lcmpW x y < 0 := fun q => h ((lw_lt x y).mp q)
theorem own_lwG {x y : Int64} (h : y < x) : 0 < lcmpW x y := (lw_gt x y).mpr h
theorem own_lwH {x y : Int64} (h : ¬ y < x) : ¬ 0 < lcmpW x y := fun q => h ((lw_gt x y).mp q)
theorem own_F {Z : State} {h : Heap} {a : Addr} {C n d : String} {v w : Value} (q : v = w) (F : Fld Z h a C n d v) : Fld Z h a C n d w := q ▸ F
theorem own_rI {x y : Int32} (q : x = y) : (some (Value.int x)) = some (.int y) := by rw [q]
theorem own_rJ {x y : Int64} (q : x = y) : (some (Value.long x)) = some (.long y) := by rw [q]
theorem d1_0 : decode prog_63_method_2_code 0 = .ok (.lload_n 0, 1) := by decide +kernel
theorem d1_1 : decode prog_63_method_2_code 1 = .ok (.ldc2_w 51, 3) := by decide +kernel
theorem d1_4 : decode prog_63_method_2_code 4 = .ok (.lmul, 1) := by decide +kernel
theorem d1_5 : decode prog_63_method_2_code 5 = .ok (.ldc2_w 53, 3) := by decide +kernel
theorem d1_8 : decode prog_63_method_2_code 8 = .ok (.ladd, 1) := by decide +kernel
theorem d1_9 : decode prog_63_method_2_code 9 = .ok (.iload_n 2, 1) := by decide +kernel
theorem d1_10 : decode prog_63_method_2_code 10 = .ok (.i2l, 1) := by decide +kernel
theorem d1_11 : decode prog_63_method_2_code 11 = .ok (.lsub, 1) := by decide +kernel
theorem d1_12 : decode prog_63_method_2_code 12 = .ok (.lreturn, 1) := by decide +kernel
theorem pn33950590 : plainName "com/example/packwright/packwright/core/bins/SetBounds" = true := by first | (simp [plainName, overriddenIn]; done) | decide +kernel
theorem ef_1 (m : MethodId) (q0 : Int64) (p1 : Int32) : entryFrame m #[(.long q0), (.int p1)] 3 = mkF m 0 #[.val (.long q0), .second, .val (.int p1)] [] := by first | (simp [entryFrame, mkF, argsToLocals, Value.category]; done) | rfl
def Q1 (Z : State) (q0 : Int64) (p1 : Int32) (h0 : Heap) (n0 : Nat) (v : Option Value) (h : Heap) (L : List Loc) : Prop := v = some (.long (((q0 * (16 : Int64)) + (15 : Int64)) - (p1.toInt64))) ∧ Fr n0 L ∧ h = h0
set_option maxRecDepth 65536 in
set_option maxHeartbeats 40000000 in
theorem rm1 (l : Launch) (Z : State) (aq : Array Value) (hw : ∀ d ∈ tables_1, d.before aq Z = true) (ws : List Jvm.Cond) (q0 : Int64) (p1 : Int32) (h0 : Heap) (n0 : Nat) (Z0 : n0 ≤ h0.size) :
    MetFree l (⟨"com/example/packwright/packwright/core/bins/SetBounds", "key", "(JI)J"⟩ : MethodName) (head1 (Jvm.Cond.code (⟨"com/example/packwright/packwright/core/bins/SetBounds", "key", "(JI)J"⟩ : MethodName) prog_63_method_2_code 3 (some .long) :: ws) ({ frames := 0, cells := 0, slots := 0, locals := 0 } : Room)) (fun a U => a = #[(.long q0), (.int p1)] ∧ Z.Warmed39 U.vm ∧ U.heap = h0) (fun _ _ _ _ _ => True) (fun _ U o U' => ∃ v L, o = .returned v ∧ Q1 Z q0 p1 h0 n0 v U'.heap L ∧ FrameEnd U o U' L ({ frames := 0, cells := 0, slots := 0, locals := 0 } : Room).cells ({ frames := 0, cells := 0, slots := 0, locals := 0 } : Room).slots) := by
  refine MetFree.of_bodySF (plainFor_of_name pn33950590) hisR ?_
  intro p e s m args below meth c s₁ Bd hml0 hP hK
  obtain ⟨rfl, hZ, hh⟩ := hP
  have hx := Bd.exec
  have hby := Bd.bytes
  have hml : c.maxLocals = 3 := hml0
  have hown : s.vm.findClass "com/example/packwright/packwright/core/bins/SetBounds" = some m.cls := findClass_of_methodNamed Bd.named
  have hnm := (name_of_methodNamed Bd.named Bd.method).1
  have X0 : Stand p l e ({ frames := 0, cells := 0, slots := 0, locals := 0 } : Room) s m #[(.long q0), (.int p1)] below meth c s₁ [] 0 0 := Stand.of_body Bd
  have e0 : s₁.heap = h0 := by rw [← hh, Bd.state]; rfl
  have N0 := Fr.nil n0
  have pre0 : ∀ t, Steps p.tables e below (s₁.setTop (mkF m 0 #[.val (.long q0), .second, .val (.int p1)] [])) t → Steps p.tables e below (s₁.setTop (entryFrame m #[(.long q0), (.int p1)] 3)) t := fun t k => castTop (ef_1 m q0 p1) k
  have pre1 : ∀ t, Steps p.tables e below (s₁.setTop (mkF m 12 #[.val (.long q0), .second, .val (.int p1)] [(.long (((q0 * (16 : Int64)) + (15 : Int64)) - (p1.toInt64)))])) t → Steps p.tables e below (s₁.setTop (entryFrame m #[(.long q0), (.int p1)] 3)) t := fun t kt => by
    refine pre0 _ ?_
    show Steps p.tables e below (s₁.setTop (mkF m 0 #[.val (.long q0), .second, .val (.int p1)] [])) _
    refine XS.lloadN X0.here hx rfl (hb hby d1_0) rfl ?_
    show Steps p.tables e below (s₁.setTop (mkF m 1 #[.val (.long q0), .second, .val (.int p1)] [(.long q0)])) _
    refine X0.ldc2Long hx hown (mvT hZ (hw _ (List.mem_of_getElem? (i := 5) rfl))) (g := (mkF m 1 #[.val (.long q0), .second, .val (.int p1)] [(.long q0)])) rfl (hb hby d1_1) _ ?_
    show Steps p.tables e below (s₁.setTop (mkF m 4 #[.val (.long q0), .second, .val (.int p1)] [(.long (16 : Int64)), (.long q0)])) _
    refine XS.lmul X0.here hx rfl (hb hby d1_4) rfl ?_
    show Steps p.tables e below (s₁.setTop (mkF m 5 #[.val (.long q0), .second, .val (.int p1)] [(.long (q0 * (16 : Int64)))])) _
    refine X0.ldc2Long hx hown (mvT hZ (hw _ (List.mem_of_getElem? (i := 6) rfl))) (g := (mkF m 5 #[.val (.long q0), .second, .val (.int p1)] [(.long (q0 * (16 : Int64)))])) rfl (hb hby d1_5) _ ?_
    show Steps p.tables e below (s₁.setTop (mkF m 8 #[.val (.long q0), .second, .val (.int p1)] [(.long (15 : Int64)), (.long (q0 * (16 : Int64)))])) _
    refine XS.ladd X0.here hx rfl (hb hby d1_8) rfl ?_
    show Steps p.tables e below (s₁.setTop (mkF m 9 #[.val (.long q0), .second, .val (.int p1)] [(.long ((q0 * (16 : Int64)) + (15 : Int64)))])) _
    refine XS.iloadN X0.here hx rfl (hb hby d1_9) rfl ?_
    show Steps p.tables e below (s₁.setTop (mkF m 10 #[.val (.long q0), .second, .val (.int p1)] [(.int p1), (.long ((q0 * (16 : Int64)) + (15 : Int64)))])) _
    refine XS.i2l X0.here hx rfl (hb hby d1_10) rfl ?_
    show Steps p.tables e below (s₁.setTop (mkF m 11 #[.val (.long q0), .second, .val (.int p1)] [(.long (p1.toInt64)), (.long ((q0 * (16 : Int64)) + (15 : Int64)))])) _
    refine XS.lsub X0.here hx rfl (hb hby d1_11) rfl ?_
    show Steps p.tables e below (s₁.setTop (mkF m 12 #[.val (.long q0), .second, .val (.int p1)] [(.long (((q0 * (16 : Int64)) + (15 : Int64)) - (p1.toInt64)))])) _
    exact kt
  obtain ⟨fs, hr, hrun, hended, hW, hsame⟩ := X0.leave (v := some (.long (((q0 * (16 : Int64)) + (15 : Int64)) - (p1.toInt64)))) (fun h => by rw [Bd.returns] at h; cases h)
  refine ⟨_, _, pre1 _ ?_, hrun, hended, _, _, rfl, ?_, ⟨_, rfl⟩, hW, hsame.mono (by decide) (by decide)⟩
  · jvm_step X0.here [X0.here.top, hx, (hb hby d1_12), X0.method', Bd.returns, narrow]
    first | (intro acts; rw [hr _ acts rfl rfl rfl]) | rw [hr _ _ rfl rfl rfl]
    exact Steps.refl _
  · show Q1 Z q0 p1 h0 n0 _ s₁.heap _
    rw [e0]
    exact ⟨rfl, N0, rfl⟩
theorem pd84329331 : parseMethodDescriptor "(JI)J" = some ⟨[.long, .int], some .long⟩ := by decide +kernel
theorem pn87099058 : plainName "com/example/packwright/packwright/core/bins/SetBoundsKeyPinLaw" = true := by first | (simp [plainName, overriddenIn]; done) | decide +kernel
theorem own_s (q : Int64) : 0 ≤ (q &&& (2147483647 : Int64)).toInt ∧ (q &&& (2147483647 : Int64)).toInt < 2 ^ 31 := by
  rw [Jvm.Kit.i64_mask q 2147483647 (k := 31) (by decide) (by decide)]
  omega
theorem own_i (p : Int32) : 0 ≤ (p &&& (15 : Int32)).toInt ∧ (p &&& (15 : Int32)).toInt ≤ 15 := by
  rw [Jvm.Kit.i32_mask p 15 (k := 4) (by decide) (by decide)]
  omega
theorem own_pos {x : Int64} {n : Nat} (hn : n < 2 ^ 63) (h : x.toBitVec.toNat = n) : x.toInt = n := by
  show x.toBitVec.toInt = n
  rw [BitVec.toInt_eq_toNat_of_lt (by omega), h]
theorem own_x1 {s : Int64} (h1 : 0 ≤ s.toInt) (h2 : s.toInt < 2 ^ 31) : 0 ≤ (s ^^^ (1 : Int64)).toInt ∧ (s ^^^ (1 : Int64)).toInt < 2 ^ 31 := by
  have hs : s.toBitVec.toNat < 2 ^ 31 := by
    have e : s.toInt = s.toBitVec.toInt := rfl
    rw [e, BitVec.toInt_eq_toNat_cond] at h1 h2
    have := s.toBitVec.isLt
    split at h1 <;> omega
  have hx : (s ^^^ (1 : Int64)).toBitVec.toNat = s.toBitVec.toNat ^^^ 1 := by
    rw [Int64.toBitVec_xor, BitVec.toNat_xor]; rfl
  have hb : s.toBitVec.toNat ^^^ 1 < 2 ^ 31 := Nat.xor_lt_two_pow hs (by decide)
  have r := own_pos (n := s.toBitVec.toNat ^^^ 1) (by omega) hx
  omega
theorem own_key {s : Int64} {i : Int32} (h1 : 0 ≤ s.toInt) (h2 : s.toInt < 2 ^ 31) (h3 : 0 ≤ i.toInt) (h4 : i.toInt ≤ 15) : (((s * (16 : Int64)) + (15 : Int64)) - (i.toInt64)).toInt = s.toInt * 16 + 15 - i.toInt := by
  have c16 : (16 : Int64).toInt = 16 := rfl
  have c15 : (15 : Int64).toInt = 15 := rfl
  have e1 : (s * (16 : Int64)).toInt = s.toInt * 16 := by rw [Jvm.Kit.i64_mul (by rw [c16]; omega) (by rw [c16]; omega), c16]
  have e2 : (s * (16 : Int64) + (15 : Int64)).toInt = s.toInt * 16 + 15 := by rw [Jvm.Kit.i64_add (by rw [e1, c15]; omega) (by rw [e1, c15]; omega), e1, c15]
  rw [Jvm.Kit.i64_sub (by rw [e2, Jvm.Kit.i64_of_i32]; omega) (by rw [e2, Jvm.Kit.i64_of_i32]; omega), e2, Jvm.Kit.i64_of_i32]
theorem own_dec {s : Int64} {i : Int32} (h1 : 0 ≤ s.toInt) (h2 : s.toInt < 2 ^ 31) (h3 : 0 ≤ i.toInt) (h4 : i.toInt ≤ 15) :
    ¬ (((s * (16 : Int64)) + (15 : Int64)) - (i.toInt64)) < (0 : Int64) ∧ ((((s * (16 : Int64)) + (15 : Int64)) - (i.toInt64)) >>> ((4 : Int32) &&& 0x3f).toInt64) = s ∧ ((((s * (16 : Int64)) + (15 : Int64)) - (i.toInt64)) &&& (15 : Int64)) = (((15 : Int32) - i).toInt64) := by
  have K := own_key h1 h2 h3 h4
  generalize (((s * (16 : Int64)) + (15 : Int64)) - (i.toInt64)) = k at *
  refine ⟨?_, ?_, ?_⟩
  · rw [Int64.lt_iff_toInt_lt, K, Int64.toInt_zero]; omega
  · apply Int64.toInt_inj.mp
    rw [Jvm.Kit.i64_shr k _ (k := 4) (by decide), K]
    omega
  · apply Int64.toInt_inj.mp
    have c15 : (15 : Int32).toInt = 15 := rfl
    rw [Jvm.Kit.i64_mask k 15 (k := 4) (by decide) (by decide), K, Jvm.Kit.i64_of_i32, Jvm.Kit.i32_sub (by rw [c15]; omega) (by rw [c15]; omega), c15]
    omega

theorem own_plain0 (q0 : Int64) (p1 : Int32) (q2 : Int64) (p3 : Int32) (p4 : Int32)
    (v1 : Int64) (hv1 : v1 = (if (p4 &&& (3 : Int32)) = (1 : Int32) then (q0 &&& (2147483647 : Int64)) else (if (p4 &&& (3 : Int32)) = (2 : Int32) then ((q0 &&& (2147483647 : Int64)) ^^^ (1 : Int64)) else (q2 &&& (2147483647 : Int64)))))
    (v2 : Int32) (hv2 : v2 = (if ((((q0 &&& (2147483647 : Int64)) * (16 : Int64)) + (15 : Int64)) - ((p1 &&& (15 : Int32)).toInt64)) < (0 : Int64) then (0 : Int32) else (if (((((q0 &&& (2147483647 : Int64)) * (16 : Int64)) + (15 : Int64)) - ((p1 &&& (15 : Int32)).toInt64)) >>> ((4 : Int32) &&& 0x3f).toInt64) = (q0 &&& (2147483647 : Int64)) then (if (((((q0 &&& (2147483647 : Int64)) * (16 : Int64)) + (15 : Int64)) - ((p1 &&& (15 : Int32)).toInt64)) &&& (15 : Int64)) = (((15 : Int32) - (p1 &&& (15 : Int32))).toInt64) then (1 : Int32) else (0 : Int32)) else (0 : Int32))))
    (v3 : Int32) (hv3 : v3 = (if (((v1 * (16 : Int64)) + (15 : Int64)) - ((p3 &&& (15 : Int32)).toInt64)) < (0 : Int64) then (0 : Int32) else (if ((((v1 * (16 : Int64)) + (15 : Int64)) - ((p3 &&& (15 : Int32)).toInt64)) >>> ((4 : Int32) &&& 0x3f).toInt64) = v1 then (if ((((v1 * (16 : Int64)) + (15 : Int64)) - ((p3 &&& (15 : Int32)).toInt64)) &&& (15 : Int64)) = (((15 : Int32) - (p3 &&& (15 : Int32))).toInt64) then (1 : Int32) else (0 : Int32)) else (0 : Int32))))
    (v4 : Int32) (hv4 : v4 = (if (q0 &&& (2147483647 : Int64)) < v1 then (1 : Int32) else (if (q0 &&& (2147483647 : Int64)) = v1 then (if (p3 &&& (15 : Int32)) < (p1 &&& (15 : Int32)) then (1 : Int32) else (0 : Int32)) else (0 : Int32))))
    (v5 : Int32) (hv5 : v5 = (if (q0 &&& (2147483647 : Int64)) = v1 then (if (p1 &&& (15 : Int32)) = (p3 &&& (15 : Int32)) then (1 : Int32) else (0 : Int32)) else (0 : Int32)))
    (v6 : Int32) (hv6 : v6 = (if ((((q0 &&& (2147483647 : Int64)) * (16 : Int64)) + (15 : Int64)) - ((p1 &&& (15 : Int32)).toInt64)) < (((v1 * (16 : Int64)) + (15 : Int64)) - ((p3 &&& (15 : Int32)).toInt64)) then (1 : Int32) else (0 : Int32)))
    (v7 : Int32) (hv7 : v7 = (if v6 = v4 then (if ((((q0 &&& (2147483647 : Int64)) * (16 : Int64)) + (15 : Int64)) - ((p1 &&& (15 : Int32)).toInt64)) = (((v1 * (16 : Int64)) + (15 : Int64)) - ((p3 &&& (15 : Int32)).toInt64)) then (if (1 : Int32) = v5 then (1 : Int32) else (0 : Int32)) else (if (0 : Int32) = v5 then (1 : Int32) else (0 : Int32))) else (0 : Int32)))
    (v8 : Int32) (hv8 : v8 = (if v2 = (0 : Int32) then (0 : Int32) else (if v3 = (0 : Int32) then (0 : Int32) else (if v7 = (0 : Int32) then (0 : Int32) else (1 : Int32))))) : v8 = 1 := by
  have A1 := own_s q0
  have B1 := own_i p1
  have B2 := own_i p3
  have A2 : 0 ≤ v1.toInt ∧ v1.toInt < 2 ^ 31 := by
    rw [hv1]; split
    · exact A1
    · split
      · exact own_x1 A1.1 A1.2
      · exact own_s q2
  clear hv1
  generalize (q0 &&& (2147483647 : Int64)) = s1 at *
  generalize (p1 &&& (15 : Int32)) = i1 at *
  generalize (p3 &&& (15 : Int32)) = i2 at *
  have K1 := own_key A1.1 A1.2 B1.1 B1.2
  have K2 := own_key A2.1 A2.2 B2.1 B2.2
  have D1 := own_dec A1.1 A1.2 B1.1 B1.2
  have D2 := own_dec A2.1 A2.2 B2.1 B2.2
  rw [if_neg D1.1, if_pos D1.2.1, if_pos D1.2.2] at hv2
  rw [if_neg D2.1, if_pos D2.2.1, if_pos D2.2.2] at hv3
  clear D1 D2
  generalize (((s1 * (16 : Int64)) + (15 : Int64)) - (i1.toInt64)) = k1 at *
  generalize (((v1 * (16 : Int64)) + (15 : Int64)) - (i2.toInt64)) = k2 at *
  have L : k1 < k2 ↔ (s1 < v1 ∨ (s1 = v1 ∧ i2 < i1)) := by
    simp only [Int64.lt_iff_toInt_lt, ← Int64.toInt_inj, Int32.lt_iff_toInt_lt, K1, K2]; omega
  have Q : k1 = k2 ↔ (s1 = v1 ∧ i1 = i2) := by
    simp only [← Int64.toInt_inj, ← Int32.toInt_inj, K1, K2]; omega
  have M1 : s1 < v1 → ¬ s1 = v1 := by
    simp only [Int64.lt_iff_toInt_lt, ← Int64.toInt_inj]; omega
  have M2 : i2 < i1 → ¬ i1 = i2 := by
    simp only [Int32.lt_iff_toInt_lt, ← Int32.toInt_inj]; omega
  clear K1 K2 A1 A2 B1 B2
  rw [hv8, hv2, hv3, if_neg (by decide), if_neg (by decide)]
  have h7 : v7 = 1 := by
    rw [hv7, hv6, hv5, hv4]
    clear hv7 hv6 hv5 hv4 hv8 hv2 hv3
    simp only [L, Q]
    clear L Q
    by_cases a : s1 < v1
    · simp [a, M1 a]
    · by_cases b : s1 = v1
      · by_cases c : i2 < i1
        · simp [b, c, M2 c]
        · by_cases d : i1 = i2
          · simp [a, b, d]
          · simp [a, b, c, d]
      · simp [a, b]
  rw [h7]
  rfl
theorem ef_0 (m : MethodId) (q0 : Int64) (p1 : Int32) (q2 : Int64) (p3 : Int32) (p4 : Int32) : entryFrame m #[(.long q0), (.int p1), (.long q2), (.int p3), (.int p4)] maxLocals = mkF m 0 #[.val (.long q0), .second, .val (.int p1), .val (.long q2), .second, .val (.int p3), .val (.int p4), .unset, .unset, .unset, .unset, .unset, .unset, .unset, .unset, .unset, .unset, .unset, .unset, .unset, .unset, .unset, .unset] [] := by first | (simp [entryFrame, mkF, argsToLocals, Value.category, maxLocals]; done) | rfl
def Q0 (n0 : Nat) (v : Option Value) (L : List Loc) : Prop := v = some (.int (1 : Int32)) ∧ Fr n0 L
set_option maxRecDepth 65536 in
set_option maxHeartbeats 40000000 in
theorem rm0 (l : Launch) (Z : State) (aq : Array Value) (hw : ∀ d ∈ tables_1, d.before aq Z = true) (ws : List Jvm.Cond) (q0 : Int64) (p1 : Int32) (q2 : Int64) (p3 : Int32) (p4 : Int32) (h0 : Heap) (n0 : Nat) (Z0 : n0 ≤ h0.size) :
    MetFree l x (head1 (Jvm.Cond.code x code maxLocals ret :: ws) room_1) (fun a U => a = #[(.long q0), (.int p1), (.long q2), (.int p3), (.int p4)] ∧ Z.Warmed39 U.vm ∧ U.heap = h0) (fun _ _ _ _ _ => True) (fun _ U o U' => ∃ v L, o = .returned v ∧ Q0 n0 v L ∧ FrameEnd U o U' L room_1.cells room_1.slots) := by
  refine MetFree.of_bodySF (plainFor_of_name pn87099058) hisR ?_
  intro p e s m args below meth c s₁ Bd hml0 hP hK
  obtain ⟨rfl, hZ, hh⟩ := hP
  have hx := Bd.exec
  have hby := Bd.bytes
  have hml : c.maxLocals = 23 := hml0
  have hown : s.vm.findClass "com/example/packwright/packwright/core/bins/SetBoundsKeyPinLaw" = some m.cls := findClass_of_methodNamed Bd.named
  have X0 : Stand p l e room_1 s m #[(.long q0), (.int p1), (.long q2), (.int p3), (.int p4)] below meth c s₁ [] 0 0 := Stand.of_body Bd
  have e0 : s₁.heap = h0 := by rw [← hh, Bd.state]; rfl
  have N0 := Fr.nil n0
  have pre0 : ∀ t, Steps p.tables e below (s₁.setTop (mkF m 0 #[.val (.long q0), .second, .val (.int p1), .val (.long q2), .second, .val (.int p3), .val (.int p4), .unset, .unset, .unset, .unset, .unset, .unset, .unset, .unset, .unset, .unset, .unset, .unset, .unset, .unset, .unset, .unset] [])) t → Steps p.tables e below (s₁.setTop (entryFrame m #[(.long q0), (.int p1), (.long q2), (.int p3), (.int p4)] maxLocals)) t := fun t k => castTop (ef_0 m q0 p1 q2 p3 p4) k
  have pre2 : ∀ t, Steps p.tables e below (s₁.setTop (mkF m 29 #[.val (.long q0), .second, .val (.int p1), .val (.long q2), .second, .val (.int p3), .val (.int p4), .val (.long (q0 &&& (2147483647 : Int64))), .second, .val (.int (p1 &&& (15 : Int32))), .val (.int (p3 &&& (15 : Int32))), .val (.int (p4 &&& (3 : Int32))), .unset, .unset, .unset, .unset, .unset, .unset, .unset, .unset, .unset, .unset, .unset] [(.int (1 : Int32)), (.int (p4 &&& (3 : Int32)))])) t → Steps p.tables e below (s₁.setTop (entryFrame m #[(.long q0), (.int p1), (.long q2), (.int p3), (.int p4)] maxLocals)) t := fun t kt => by
    refine pre0 _ ?_
    show Steps p.tables e below (s₁.setTop (mkF m 0 #[.val (.long q0), .second, .val (.int p1), .val (.long q2), .second, .val (.int p3), .val (.int p4), .unset, .unset, .unset, .unset, .unset, .unset, .unset, .unset, .unset, .unset, .unset, .unset, .unset, .unset, .unset, .unset] [])) _
    refine XS.lloadN X0.here hx rfl (hb hby at_0) rfl ?_
    show Steps p.tables e below (s₁.setTop (mkF m 1 #[.val (.long q0), .second, .val (.int p1), .val (.long q2), .second, .val (.int p3), .val (.int p4), .unset, .unset, .unset, .unset, .unset, .unset, .unset, .unset, .unset, .unset, .unset, .unset, .unset, .unset, .unset, .unset] [(.long q0)])) _
    refine X0.ldc2Long hx hown (mvT hZ (hw _ (List.mem_of_getElem? (i := 0) rfl))) (g := (mkF m 1 #[.val (.long q0), .second, .val (.int p1), .val (.long q2), .second, .val (.int p3), .val (.int p4), .unset, .unset, .unset, .unset, .unset, .unset, .unset, .unset, .unset, .unset, .unset, .unset, .unset, .unset, .unset, .unset] [(.long q0)])) rfl (hb hby at_1) _ ?_
    show Steps p.tables e below (s₁.setTop (mkF m 4 #[.val (.long q0), .second, .val (.int p1), .val (.long q2), .second, .val (.int p3), .val (.int p4), .unset, .unset, .unset, .unset, .unset, .unset, .unset, .unset, .unset, .unset, .unset, .unset, .unset, .unset, .unset, .unset] [(.long (2147483647 : Int64)), (.long q0)])) _
    refine XS.land X0.here hx rfl (hb hby at_4) rfl ?_
    show Steps p.tables e below (s₁.setTop (mkF m 5 #[.val (.long q0), .second, .val (.int p1), .val (.long q2), .second, .val (.int p3), .val (.int p4), .unset, .unset, .unset, .unset, .unset, .unset, .unset, .unset, .unset, .unset, .unset, .unset, .unset, .unset, .unset, .unset] [(.long (q0 &&& (2147483647 : Int64)))])) _
    refine XS.lstore X0.here hx rfl (hb hby at_5) rfl (l' := #[.val (.long q0), .second, .val (.int p1), .val (.long q2), .second, .val (.int p3), .val (.int p4), .val (.long (q0 &&& (2147483647 : Int64))), .second, .unset, .unset, .unset, .unset, .unset, .unset, .unset, .unset, .unset, .unset, .unset, .unset, .unset, .unset]) rfl ?_
    show Steps p.tables e below (s₁.setTop (mkF m 7 #[.val (.long q0), .second, .val (.int p1), .val (.long q2), .second, .val (.int p3), .val (.int p4), .val (.long (q0 &&& (2147483647 : Int64))), .second, .unset, .unset, .unset, .unset, .unset, .unset, .unset, .unset, .unset, .unset, .unset, .unset, .unset, .unset] [])) _
    refine XS.iloadN X0.here hx rfl (hb hby at_7) rfl ?_
    show Steps p.tables e below (s₁.setTop (mkF m 8 #[.val (.long q0), .second, .val (.int p1), .val (.long q2), .second, .val (.int p3), .val (.int p4), .val (.long (q0 &&& (2147483647 : Int64))), .second, .unset, .unset, .unset, .unset, .unset, .unset, .unset, .unset, .unset, .unset, .unset, .unset, .unset, .unset] [(.int p1)])) _
    refine XS.bipush X0.here hx rfl (hb hby at_8) ?_
    show Steps p.tables e below (s₁.setTop (mkF m 10 #[.val (.long q0), .second, .val (.int p1), .val (.long q2), .second, .val (.int p3), .val (.int p4), .val (.long (q0 &&& (2147483647 : Int64))), .second, .unset, .unset, .unset, .unset, .unset, .unset, .unset, .unset, .unset, .unset, .unset, .unset, .unset, .unset] [(.int (15 : Int32)), (.int p1)])) _
    refine XS.iand X0.here hx rfl (hb hby at_10) rfl ?_
    show Steps p.tables e below (s₁.setTop (mkF m 11 #[.val (.long q0), .second, .val (.int p1), .val (.long q2), .second, .val (.int p3), .val (.int p4), .val (.long (q0 &&& (2147483647 : Int64))), .second, .unset, .unset, .unset, .unset, .unset, .unset, .unset, .unset, .unset, .unset, .unset, .unset, .unset, .unset] [(.int (p1 &&& (15 : Int32)))])) _
    refine XS.istore X0.here hx rfl (hb hby at_11) rfl (l' := #[.val (.long q0), .second, .val (.int p1), .val (.long q2), .second, .val (.int p3), .val (.int p4), .val (.long (q0 &&& (2147483647 : Int64))), .second, .val (.int (p1 &&& (15 : Int32))), .unset, .unset, .unset, .unset, .unset, .unset, .unset, .unset, .unset, .unset, .unset, .unset, .unset]) rfl ?_
    show Steps p.tables e below (s₁.setTop (mkF m 13 #[.val (.long q0), .second, .val (.int p1), .val (.long q2), .second, .val (.int p3), .val (.int p4), .val (.long (q0 &&& (2147483647 : Int64))), .second, .val (.int (p1 &&& (15 : Int32))), .unset, .unset, .unset, .unset, .unset, .unset, .unset, .unset, .unset, .unset, .unset, .unset, .unset] [])) _
    refine XS.iload X0.here hx rfl (hb hby at_13) rfl ?_
    show Steps p.tables e below (s₁.setTop (mkF m 15 #[.val (.long q0), .second, .val (.int p1), .val (.long q2), .second, .val (.int p3), .val (.int p4), .val (.long (q0 &&& (2147483647 : Int64))), .second, .val (.int (p1 &&& (15 : Int32))), .unset, .unset, .unset, .unset, .unset, .unset, .unset, .unset, .unset, .unset, .unset, .unset, .unset] [(.int p3)])) _
    refine XS.bipush X0.here hx rfl (hb hby at_15) ?_
    show Steps p.tables e below (s₁.setTop (mkF m 17 #[.val (.long q0), .second, .val (.int p1), .val (.long q2), .second, .val (.int p3), .val (.int p4), .val (.long (q0 &&& (2147483647 : Int64))), .second, .val (.int (p1 &&& (15 : Int32))), .unset, .unset, .unset, .unset, .unset, .unset, .unset, .unset, .unset, .unset, .unset, .unset, .unset] [(.int (15 : Int32)), (.int p3)])) _
    refine XS.iand X0.here hx rfl (hb hby at_17) rfl ?_
    show Steps p.tables e below (s₁.setTop (mkF m 18 #[.val (.long q0), .second, .val (.int p1), .val (.long q2), .second, .val (.int p3), .val (.int p4), .val (.long (q0 &&& (2147483647 : Int64))), .second, .val (.int (p1 &&& (15 : Int32))), .unset, .unset, .unset, .unset, .unset, .unset, .unset, .unset, .unset, .unset, .unset, .unset, .unset] [(.int (p3 &&& (15 : Int32)))])) _
    refine XS.istore X0.here hx rfl (hb hby at_18) rfl (l' := #[.val (.long q0), .second, .val (.int p1), .val (.long q2), .second, .val (.int p3), .val (.int p4), .val (.long (q0 &&& (2147483647 : Int64))), .second, .val (.int (p1 &&& (15 : Int32))), .val (.int (p3 &&& (15 : Int32))), .unset, .unset, .unset, .unset, .unset, .unset, .unset, .unset, .unset, .unset, .unset, .unset]) rfl ?_
    show Steps p.tables e below (s₁.setTop (mkF m 20 #[.val (.long q0), .second, .val (.int p1), .val (.long q2), .second, .val (.int p3), .val (.int p4), .val (.long (q0 &&& (2147483647 : Int64))), .second, .val (.int (p1 &&& (15 : Int32))), .val (.int (p3 &&& (15 : Int32))), .unset, .unset, .unset, .unset, .unset, .unset, .unset, .unset, .unset, .unset, .unset, .unset] [])) _
    refine XS.iload X0.here hx rfl (hb hby at_20) rfl ?_
    show Steps p.tables e below (s₁.setTop (mkF m 22 #[.val (.long q0), .second, .val (.int p1), .val (.long q2), .second, .val (.int p3), .val (.int p4), .val (.long (q0 &&& (2147483647 : Int64))), .second, .val (.int (p1 &&& (15 : Int32))), .val (.int (p3 &&& (15 : Int32))), .unset, .unset, .unset, .unset, .unset, .unset, .unset, .unset, .unset, .unset, .unset, .unset] [(.int p4)])) _
    refine XS.iconst X0.here hx rfl (hb hby at_22) ?_
    show Steps p.tables e below (s₁.setTop (mkF m 23 #[.val (.long q0), .second, .val (.int p1), .val (.long q2), .second, .val (.int p3), .val (.int p4), .val (.long (q0 &&& (2147483647 : Int64))), .second, .val (.int (p1 &&& (15 : Int32))), .val (.int (p3 &&& (15 : Int32))), .unset, .unset, .unset, .unset, .unset, .unset, .unset, .unset, .unset, .unset, .unset, .unset] [(.int (3 : Int32)), (.int p4)])) _
    refine XS.iand X0.here hx rfl (hb hby at_23) rfl ?_
    show Steps p.tables e below (s₁.setTop (mkF m 24 #[.val (.long q0), .second, .val (.int p1), .val (.long q2), .second, .val (.int p3), .val (.int p4), .val (.long (q0 &&& (2147483647 : Int64))), .second, .val (.int (p1 &&& (15 : Int32))), .val (.int (p3 &&& (15 : Int32))), .unset, .unset, .unset, .unset, .unset, .unset, .unset, .unset, .unset, .unset, .unset, .unset] [(.int (p4 &&& (3 : Int32)))])) _
    refine XS.istore X0.here hx rfl (hb hby at_24) rfl (l' := #[.val (.long q0), .second, .val (.int p1), .val (.long q2), .second, .val (.int p3), .val (.int p4), .val (.long (q0 &&& (2147483647 : Int64))), .second, .val (.int (p1 &&& (15 : Int32))), .val (.int (p3 &&& (15 : Int32))), .val (.int (p4 &&& (3 : Int32))), .unset, .unset, .unset, .unset, .unset, .unset, .unset, .unset, .unset, .unset, .unset]) rfl ?_
    show Steps p.tables e below (s₁.setTop (mkF m 26 #[.val (.long q0), .second, .val (.int p1), .val (.long q2), .second, .val (.int p3), .val (.int p4), .val (.long (q0 &&& (2147483647 : Int64))), .second, .val (.int (p1 &&& (15 : Int32))), .val (.int (p3 &&& (15 : Int32))), .val (.int (p4 &&& (3 : Int32))), .unset, .unset, .unset, .unset, .unset, .unset, .unset, .unset, .unset, .unset, .unset] [])) _
    refine XS.iload X0.here hx rfl (hb hby at_26) rfl ?_
    show Steps p.tables e below (s₁.setTop (mkF m 28 #[.val (.long q0), .second, .val (.int p1), .val (.long q2), .second, .val (.int p3), .val (.int p4), .val (.long (q0 &&& (2147483647 : Int64))), .second, .val (.int (p1 &&& (15 : Int32))), .val (.int (p3 &&& (15 : Int32))), .val (.int (p4 &&& (3 : Int32))), .unset, .unset, .unset, .unset, .unset, .unset, .unset, .unset, .unset, .unset, .unset] [(.int (p4 &&& (3 : Int32)))])) _
    refine XS.iconst X0.here hx rfl (hb hby at_28) ?_
    show Steps p.tables e below (s₁.setTop (mkF m 29 #[.val (.long q0), .second, .val (.int p1), .val (.long q2), .second, .val (.int p3), .val (.int p4), .val (.long (q0 &&& (2147483647 : Int64))), .second, .val (.int (p1 &&& (15 : Int32))), .val (.int (p3 &&& (15 : Int32))), .val (.int (p4 &&& (3 : Int32))), .unset, .unset, .unset, .unset, .unset, .unset, .unset, .unset, .unset, .unset, .unset] [(.int (1 : Int32)), (.int (p4 &&& (3 : Int32)))])) _
    exact kt
  obtain ⟨v1, hv1⟩ : ∃ z : Int64, z = (if (p4 &&& (3 : Int32)) = (1 : Int32) then (q0 &&& (2147483647 : Int64)) else (if (p4 &&& (3 : Int32)) = (2 : Int32) then ((q0 &&& (2147483647 : Int64)) ^^^ (1 : Int64)) else (q2 &&& (2147483647 : Int64)))) := ⟨_, rfl⟩
  have pre5 : ∀ t, Steps p.tables e below (s₁.setTop (mkF m 61 #[.val (.long q0), .second, .val (.int p1), .val (.long q2), .second, .val (.int p3), .val (.int p4), .val (.long (q0 &&& (2147483647 : Int64))), .second, .val (.int (p1 &&& (15 : Int32))), .val (.int (p3 &&& (15 : Int32))), .val (.int (p4 &&& (3 : Int32))), .val (.long v1), .second, .unset, .unset, .unset, .unset, .unset, .unset, .unset, .unset, .unset] [])) t → Steps p.tables e below (s₁.setTop (entryFrame m #[(.long q0), (.int p1), (.long q2), (.int p3), (.int p4)] maxLocals)) t := fun t kt => by
    refine pre2 _ ?_
    show Steps p.tables e below (s₁.setTop (mkF m 29 #[.val (.long q0), .second, .val (.int p1), .val (.long q2), .second, .val (.int p3), .val (.int p4), .val (.long (q0 &&& (2147483647 : Int64))), .second, .val (.int (p1 &&& (15 : Int32))), .val (.int (p3 &&& (15 : Int32))), .val (.int (p4 &&& (3 : Int32))), .unset, .unset, .unset, .unset, .unset, .unset, .unset, .unset, .unset, .unset, .unset] [(.int (1 : Int32)), (.int (p4 &&& (3 : Int32)))])) _
    by_cases hc3 : (p4 &&& (3 : Int32)) = (1 : Int32)
    · rw [if_pos hc3] at hv1
      refine XS.icmpNo X0.here hx rfl (hb hby at_29) rfl (teq hc3).2 ?_
      show Steps p.tables e below (s₁.setTop (mkF m 32 #[.val (.long q0), .second, .val (.int p1), .val (.long q2), .second, .val (.int p3), .val (.int p4), .val (.long (q0 &&& (2147483647 : Int64))), .second, .val (.int (p1 &&& (15 : Int32))), .val (.int (p3 &&& (15 : Int32))), .val (.int (p4 &&& (3 : Int32))), .unset, .unset, .unset, .unset, .unset, .unset, .unset, .unset, .unset, .unset, .unset] [])) _
      refine XS.lload X0.here hx rfl (hb hby at_32) rfl ?_
      show Steps p.tables e below (s₁.setTop (mkF m 34 #[.val (.long q0), .second, .val (.int p1), .val (.long q2), .second, .val (.int p3), .val (.int p4), .val (.long (q0 &&& (2147483647 : Int64))), .second, .val (.int (p1 &&& (15 : Int32))), .val (.int (p3 &&& (15 : Int32))), .val (.int (p4 &&& (3 : Int32))), .unset, .unset, .unset, .unset, .unset, .unset, .unset, .unset, .unset, .unset, .unset] [(.long (q0 &&& (2147483647 : Int64)))])) _
      refine XS.lstore X0.here hx rfl (hb hby at_34) rfl (l' := #[.val (.long q0), .second, .val (.int p1), .val (.long q2), .second, .val (.int p3), .val (.int p4), .val (.long (q0 &&& (2147483647 : Int64))), .second, .val (.int (p1 &&& (15 : Int32))), .val (.int (p3 &&& (15 : Int32))), .val (.int (p4 &&& (3 : Int32))), .val (.long (q0 &&& (2147483647 : Int64))), .second, .unset, .unset, .unset, .unset, .unset, .unset, .unset, .unset, .unset]) rfl ?_
      show Steps p.tables e below (s₁.setTop (mkF m 36 #[.val (.long q0), .second, .val (.int p1), .val (.long q2), .second, .val (.int p3), .val (.int p4), .val (.long (q0 &&& (2147483647 : Int64))), .second, .val (.int (p1 &&& (15 : Int32))), .val (.int (p3 &&& (15 : Int32))), .val (.int (p4 &&& (3 : Int32))), .val (.long (q0 &&& (2147483647 : Int64))), .second, .unset, .unset, .unset, .unset, .unset, .unset, .unset, .unset, .unset] [])) _
      refine XS.goto X0.here hx rfl (pc0 := 36) (pc' := 61) rfl (hb hby at_36) (by decide) (by decide) ?_
      subst hv1
      exact kt
    · rw [if_neg hc3] at hv1
      refine XS.icmpYes X0.here hx rfl (pc0 := 29) (pc' := 39) rfl (hb hby at_29) rfl (feq hc3).2 (by decide) (by decide) ?_
      show Steps p.tables e below (s₁.setTop (mkF m 39 #[.val (.long q0), .second, .val (.int p1), .val (.long q2), .second, .val (.int p3), .val (.int p4), .val (.long (q0 &&& (2147483647 : Int64))), .second, .val (.int (p1 &&& (15 : Int32))), .val (.int (p3 &&& (15 : Int32))), .val (.int (p4 &&& (3 : Int32))), .unset, .unset, .unset, .unset, .unset, .unset, .unset, .unset, .unset, .unset, .unset] [])) _
      refine XS.iload X0.here hx rfl (hb hby at_39) rfl ?_
      show Steps p.tables e below (s₁.setTop (mkF m 41 #[.val (.long q0), .second, .val (.int p1), .val (.long q2), .second, .val (.int p3), .val (.int p4), .val (.long (q0 &&& (2147483647 : Int64))), .second, .val (.int (p1 &&& (15 : Int32))), .val (.int (p3 &&& (15 : Int32))), .val (.int (p4 &&& (3 : Int32))), .unset, .unset, .unset, .unset, .unset, .unset, .unset, .unset, .unset, .unset, .unset] [(.int (p4 &&& (3 : Int32)))])) _
      refine XS.iconst X0.here hx rfl (hb hby at_41) ?_
      show Steps p.tables e below (s₁.setTop (mkF m 42 #[.val (.long q0), .second, .val (.int p1), .val (.long q2), .second, .val (.int p3), .val (.int p4), .val (.long (q0 &&& (2147483647 : Int64))), .second, .val (.int (p1 &&& (15 : Int32))), .val (.int (p3 &&& (15 : Int32))), .val (.int (p4 &&& (3 : Int32))), .unset, .unset, .unset, .unset, .unset, .unset, .unset, .unset, .unset, .unset, .unset] [(.int (2 : Int32)), (.int (p4 &&& (3 : Int32)))])) _
      by_cases hc4 : (p4 &&& (3 : Int32)) = (2 : Int32)
      · rw [if_pos hc4] at hv1
        refine XS.icmpNo X0.here hx rfl (hb hby at_42) rfl (teq hc4).2 ?_
        show Steps p.tables e below (s₁.setTop (mkF m 45 #[.val (.long q0), .second, .val (.int p1), .val (.long q2), .second, .val (.int p3), .val (.int p4), .val (.long (q0 &&& (2147483647 : Int64))), .second, .val (.int (p1 &&& (15 : Int32))), .val (.int (p3 &&& (15 : Int32))), .val (.int (p4 &&& (3 : Int32))), .unset, .unset, .unset, .unset, .unset, .unset, .unset, .unset, .unset, .unset, .unset] [])) _
        refine XS.lload X0.here hx rfl (hb hby at_45) rfl ?_
        show Steps p.tables e below (s₁.setTop (mkF m 47 #[.val (.long q0), .second, .val (.int p1), .val (.long q2), .second, .val (.int p3), .val (.int p4), .val (.long (q0 &&& (2147483647 : Int64))), .second, .val (.int (p1 &&& (15 : Int32))), .val (.int (p3 &&& (15 : Int32))), .val (.int (p4 &&& (3 : Int32))), .unset, .unset, .unset, .unset, .unset, .unset, .unset, .unset, .unset, .unset, .unset] [(.long (q0 &&& (2147483647 : Int64)))])) _
        refine XS.lconst X0.here hx rfl (hb hby at_47) ?_
        show Steps p.tables e below (s₁.setTop (mkF m 48 #[.val (.long q0), .second, .val (.int p1), .val (.long q2), .second, .val (.int p3), .val (.int p4), .val (.long (q0 &&& (2147483647 : Int64))), .second, .val (.int (p1 &&& (15 : Int32))), .val (.int (p3 &&& (15 : Int32))), .val (.int (p4 &&& (3 : Int32))), .unset, .unset, .unset, .unset, .unset, .unset, .unset, .unset, .unset, .unset, .unset] [(.long (1 : Int64)), (.long (q0 &&& (2147483647 : Int64)))])) _
        refine XS.lxor X0.here hx rfl (hb hby at_48) rfl ?_
        show Steps p.tables e below (s₁.setTop (mkF m 49 #[.val (.long q0), .second, .val (.int p1), .val (.long q2), .second, .val (.int p3), .val (.int p4), .val (.long (q0 &&& (2147483647 : Int64))), .second, .val (.int (p1 &&& (15 : Int32))), .val (.int (p3 &&& (15 : Int32))), .val (.int (p4 &&& (3 : Int32))), .unset, .unset, .unset, .unset, .unset, .unset, .unset, .unset, .unset, .unset, .unset] [(.long ((q0 &&& (2147483647 : Int64)) ^^^ (1 : Int64)))])) _
        refine XS.lstore X0.here hx rfl (hb hby at_49) rfl (l' := #[.val (.long q0), .second, .val (.int p1), .val (.long q2), .second, .val (.int p3), .val (.int p4), .val (.long (q0 &&& (2147483647 : Int64))), .second, .val (.int (p1 &&& (15 : Int32))), .val (.int (p3 &&& (15 : Int32))), .val (.int (p4 &&& (3 : Int32))), .val (.long ((q0 &&& (2147483647 : Int64)) ^^^ (1 : Int64))), .second, .unset, .unset, .unset, .unset, .unset, .unset, .unset, .unset, .unset]) rfl ?_
        show Steps p.tables e below (s₁.setTop (mkF m 51 #[.val (.long q0), .second, .val (.int p1), .val (.long q2), .second, .val (.int p3), .val (.int p4), .val (.long (q0 &&& (2147483647 : Int64))), .second, .val (.int (p1 &&& (15 : Int32))), .val (.int (p3 &&& (15 : Int32))), .val (.int (p4 &&& (3 : Int32))), .val (.long ((q0 &&& (2147483647 : Int64)) ^^^ (1 : Int64))), .second, .unset, .unset, .unset, .unset, .unset, .unset, .unset, .unset, .unset] [])) _
        refine XS.goto X0.here hx rfl (pc0 := 51) (pc' := 61) rfl (hb hby at_51) (by decide) (by decide) ?_
        subst hv1
        exact kt
      · rw [if_neg hc4] at hv1
        refine XS.icmpYes X0.here hx rfl (pc0 := 42) (pc' := 54) rfl (hb hby at_42) rfl (feq hc4).2 (by decide) (by decide) ?_
        show Steps p.tables e below (s₁.setTop (mkF m 54 #[.val (.long q0), .second, .val (.int p1), .val (.long q2), .second, .val (.int p3), .val (.int p4), .val (.long (q0 &&& (2147483647 : Int64))), .second, .val (.int (p1 &&& (15 : Int32))), .val (.int (p3 &&& (15 : Int32))), .val (.int (p4 &&& (3 : Int32))), .unset, .unset, .unset, .unset, .unset, .unset, .unset, .unset, .unset, .unset, .unset] [])) _
        refine XS.lloadN X0.here hx rfl (hb hby at_54) rfl ?_
        show Steps p.tables e below (s₁.setTop (mkF m 55 #[.val (.long q0), .second, .val (.int p1), .val (.long q2), .second, .val (.int p3), .val (.int p4), .val (.long (q0 &&& (2147483647 : Int64))), .second, .val (.int (p1 &&& (15 : Int32))), .val (.int (p3 &&& (15 : Int32))), .val (.int (p4 &&& (3 : Int32))), .unset, .unset, .unset, .unset, .unset, .unset, .unset, .unset, .unset, .unset, .unset] [(.long q2)])) _
        refine X0.ldc2Long hx hown (mvT hZ (hw _ (List.mem_of_getElem? (i := 0) rfl))) (g := (mkF m 55 #[.val (.long q0), .second, .val (.int p1), .val (.long q2), .second, .val (.int p3), .val (.int p4), .val (.long (q0 &&& (2147483647 : Int64))), .second, .val (.int (p1 &&& (15 : Int32))), .val (.int (p3 &&& (15 : Int32))), .val (.int (p4 &&& (3 : Int32))), .unset, .unset, .unset, .unset, .unset, .unset, .unset, .unset, .unset, .unset, .unset] [(.long q2)])) rfl (hb hby at_55) _ ?_
        show Steps p.tables e below (s₁.setTop (mkF m 58 #[.val (.long q0), .second, .val (.int p1), .val (.long q2), .second, .val (.int p3), .val (.int p4), .val (.long (q0 &&& (2147483647 : Int64))), .second, .val (.int (p1 &&& (15 : Int32))), .val (.int (p3 &&& (15 : Int32))), .val (.int (p4 &&& (3 : Int32))), .unset, .unset, .unset, .unset, .unset, .unset, .unset, .unset, .unset, .unset, .unset] [(.long (2147483647 : Int64)), (.long q2)])) _
        refine XS.land X0.here hx rfl (hb hby at_58) rfl ?_
        show Steps p.tables e below (s₁.setTop (mkF m 59 #[.val (.long q0), .second, .val (.int p1), .val (.long q2), .second, .val (.int p3), .val (.int p4), .val (.long (q0 &&& (2147483647 : Int64))), .second, .val (.int (p1 &&& (15 : Int32))), .val (.int (p3 &&& (15 : Int32))), .val (.int (p4 &&& (3 : Int32))), .unset, .unset, .unset, .unset, .unset, .unset, .unset, .unset, .unset, .unset, .unset] [(.long (q2 &&& (2147483647 : Int64)))])) _
        refine XS.lstore X0.here hx rfl (hb hby at_59) rfl (l' := #[.val (.long q0), .second, .val (.int p1), .val (.long q2), .second, .val (.int p3), .val (.int p4), .val (.long (q0 &&& (2147483647 : Int64))), .second, .val (.int (p1 &&& (15 : Int32))), .val (.int (p3 &&& (15 : Int32))), .val (.int (p4 &&& (3 : Int32))), .val (.long (q2 &&& (2147483647 : Int64))), .second, .unset, .unset, .unset, .unset, .unset, .unset, .unset, .unset, .unset]) rfl ?_
        subst hv1
        exact kt
  obtain ⟨_, _, ⟨T6, L6, k6, n6⟩, -, X6, ⟨Lc6, hQ6, l6, y6, z6⟩, st6⟩ := Jvm.LawKit.callS X0 hx (y := (⟨"com/example/packwright/packwright/core/bins/SetBounds", "key", "(JI)J"⟩ : MethodName)) hown (mvT hZ (hw _ (List.mem_of_getElem? (i := 1) rfl))) (mvT hZ (hw _ (List.mem_of_getElem? (i := 2) rfl))) (mvT hZ (hw _ (List.mem_of_getElem? (i := 3) rfl))) (mvT hZ (hw _ (List.mem_of_getElem? (i := 4) rfl))) (by decide) (backOf (W := 0) (rm1 l Z aq hw [] (q0 &&& (2147483647 : Int64)) (p1 &&& (15 : Int32)) h0 n0 Z0 ) hZ (hw _ (List.mem_of_getElem? (i := 4) rfl)) (hw _ (List.mem_of_getElem? (i := 3) rfl)) (by decide) (by decide)) (g := (mkF m 65 #[.val (.long q0), .second, .val (.int p1), .val (.long q2), .second, .val (.int p3), .val (.int p4), .val (.long (q0 &&& (2147483647 : Int64))), .second, .val (.int (p1 &&& (15 : Int32))), .val (.int (p3 &&& (15 : Int32))), .val (.int (p4 &&& (3 : Int32))), .val (.long v1), .second, .unset, .unset, .unset, .unset, .unset, .unset, .unset, .unset, .unset] [(.int (p1 &&& (15 : Int32))), (.long (q0 &&& (2147483647 : Int64)))])) rfl (by rw [hml]; rfl) (argsL := [(.long (q0 &&& (2147483647 : Int64))), (.int (p1 &&& (15 : Int32)))]) (rest := []) (lenOf pd84329331 rfl) rfl (by show 2 * 0 + _ ≤ _; exact Nat.le_of_eq rfl) (hb hby at_65) (fun _ _ => ⟨rfl, e0, (by decide : 0 + 0 ≤ _), (by decide : 0 + 0 ≤ _)⟩)
  dsimp only [Pt.U, Pt.locs, Pt.cells, Pt.slots] at X6 l6 y6 z6 st6 hQ6
  subst l6 y6 z6
  obtain ⟨rfl, N6q, e6⟩ := hQ6
  have N7 := Fr.app N0 N6q
  obtain ⟨_, _, ⟨T8, L8, k8, n8⟩, -, X8, ⟨Lc8, hQ8, l8, y8, z8⟩, st8⟩ := Jvm.LawKit.callS X6 hx (y := (⟨"com/example/packwright/packwright/core/bins/SetBounds", "key", "(JI)J"⟩ : MethodName)) hown (mvT hZ (hw _ (List.mem_of_getElem? (i := 1) rfl))) (mvT hZ (hw _ (List.mem_of_getElem? (i := 2) rfl))) (mvT hZ (hw _ (List.mem_of_getElem? (i := 3) rfl))) (mvT hZ (hw _ (List.mem_of_getElem? (i := 4) rfl))) (by decide) (backOf (W := 0) (rm1 l Z aq hw [] v1 (p3 &&& (15 : Int32)) h0 n0 Z0 ) hZ (hw _ (List.mem_of_getElem? (i := 4) rfl)) (hw _ (List.mem_of_getElem? (i := 3) rfl)) (by decide) (by decide)) (g := (mkF m 74 #[.val (.long q0), .second, .val (.int p1), .val (.long q2), .second, .val (.int p3), .val (.int p4), .val (.long (q0 &&& (2147483647 : Int64))), .second, .val (.int (p1 &&& (15 : Int32))), .val (.int (p3 &&& (15 : Int32))), .val (.int (p4 &&& (3 : Int32))), .val (.long v1), .second, .val (.long ((((q0 &&& (2147483647 : Int64)) * (16 : Int64)) + (15 : Int64)) - ((p1 &&& (15 : Int32)).toInt64))), .second, .unset, .unset, .unset, .unset, .unset, .unset, .unset] [(.int (p3 &&& (15 : Int32))), (.long v1)])) rfl (by rw [hml]; rfl) (argsL := [(.long v1), (.int (p3 &&& (15 : Int32)))]) (rest := []) (lenOf pd84329331 rfl) rfl (by show 2 * 0 + _ ≤ _; exact Nat.le_of_eq rfl) (hb hby at_74) (fun _ _ => ⟨rfl, e6, (by decide : 0 + 0 ≤ _), (by decide : 0 + 0 ≤ _)⟩)
  dsimp only [Pt.U, Pt.locs, Pt.cells, Pt.slots] at X8 l8 y8 z8 st8 hQ8
  subst l8 y8 z8
  obtain ⟨rfl, N8q, e8⟩ := hQ8
  have N9 := Fr.app N7 N8q
  have pre10 : ∀ t, Steps p.tables e below (T8.setTop (mkF m 83 #[.val (.long q0), .second, .val (.int p1), .val (.long q2), .second, .val (.int p3), .val (.int p4), .val (.long (q0 &&& (2147483647 : Int64))), .second, .val (.int (p1 &&& (15 : Int32))), .val (.int (p3 &&& (15 : Int32))), .val (.int (p4 &&& (3 : Int32))), .val (.long v1), .second, .val (.long ((((q0 &&& (2147483647 : Int64)) * (16 : Int64)) + (15 : Int64)) - ((p1 &&& (15 : Int32)).toInt64))), .second, .val (.long (((v1 * (16 : Int64)) + (15 : Int64)) - ((p3 &&& (15 : Int32)).toInt64))), .second, .unset, .unset, .unset, .unset, .unset] [(.int (lcmpW ((((q0 &&& (2147483647 : Int64)) * (16 : Int64)) + (15 : Int64)) - ((p1 &&& (15 : Int32)).toInt64)) (0 : Int64)))])) t → Steps p.tables e below (s₁.setTop (entryFrame m #[(.long q0), (.int p1), (.long q2), (.int p3), (.int p4)] maxLocals)) t := fun t kt => by
    refine pre5 _ ?_
    show Steps p.tables e below (s₁.setTop (mkF m 61 #[.val (.long q0), .second, .val (.int p1), .val (.long q2), .second, .val (.int p3), .val (.int p4), .val (.long (q0 &&& (2147483647 : Int64))), .second, .val (.int (p1 &&& (15 : Int32))), .val (.int (p3 &&& (15 : Int32))), .val (.int (p4 &&& (3 : Int32))), .val (.long v1), .second, .unset, .unset, .unset, .unset, .unset, .unset, .unset, .unset, .unset] [])) _
    refine XS.lload X0.here hx rfl (hb hby at_61) rfl ?_
    show Steps p.tables e below (s₁.setTop (mkF m 63 #[.val (.long q0), .second, .val (.int p1), .val (.long q2), .second, .val (.int p3), .val (.int p4), .val (.long (q0 &&& (2147483647 : Int64))), .second, .val (.int (p1 &&& (15 : Int32))), .val (.int (p3 &&& (15 : Int32))), .val (.int (p4 &&& (3 : Int32))), .val (.long v1), .second, .unset, .unset, .unset, .unset, .unset, .unset, .unset, .unset, .unset] [(.long (q0 &&& (2147483647 : Int64)))])) _
    refine XS.iload X0.here hx rfl (hb hby at_63) rfl ?_
    show Steps p.tables e below (s₁.setTop (mkF m 65 #[.val (.long q0), .second, .val (.int p1), .val (.long q2), .second, .val (.int p3), .val (.int p4), .val (.long (q0 &&& (2147483647 : Int64))), .second, .val (.int (p1 &&& (15 : Int32))), .val (.int (p3 &&& (15 : Int32))), .val (.int (p4 &&& (3 : Int32))), .val (.long v1), .second, .unset, .unset, .unset, .unset, .unset, .unset, .unset, .unset, .unset] [(.int (p1 &&& (15 : Int32))), (.long (q0 &&& (2147483647 : Int64)))])) _
    refine st6 _ ?_
    show Steps p.tables e below (T6.setTop (mkF m 68 #[.val (.long q0), .second, .val (.int p1), .val (.long q2), .second, .val (.int p3), .val (.int p4), .val (.long (q0 &&& (2147483647 : Int64))), .second, .val (.int (p1 &&& (15 : Int32))), .val (.int (p3 &&& (15 : Int32))), .val (.int (p4 &&& (3 : Int32))), .val (.long v1), .second, .unset, .unset, .unset, .unset, .unset, .unset, .unset, .unset, .unset] [(.long ((((q0 &&& (2147483647 : Int64)) * (16 : Int64)) + (15 : Int64)) - ((p1 &&& (15 : Int32)).toInt64)))])) _
    refine XS.lstore X6.here hx rfl (hb hby at_68) rfl (l' := #[.val (.long q0), .second, .val (.int p1), .val (.long q2), .second, .val (.int p3), .val (.int p4), .val (.long (q0 &&& (2147483647 : Int64))), .second, .val (.int (p1 &&& (15 : Int32))), .val (.int (p3 &&& (15 : Int32))), .val (.int (p4 &&& (3 : Int32))), .val (.long v1), .second, .val (.long ((((q0 &&& (2147483647 : Int64)) * (16 : Int64)) + (15 : Int64)) - ((p1 &&& (15 : Int32)).toInt64))), .second, .unset, .unset, .unset, .unset, .unset, .unset, .unset]) rfl ?_
    show Steps p.tables e below (T6.setTop (mkF m 70 #[.val (.long q0), .second, .val (.int p1), .val (.long q2), .second, .val (.int p3), .val (.int p4), .val (.long (q0 &&& (2147483647 : Int64))), .second, .val (.int (p1 &&& (15 : Int32))), .val (.int (p3 &&& (15 : Int32))), .val (.int (p4 &&& (3 : Int32))), .val (.long v1), .second, .val (.long ((((q0 &&& (2147483647 : Int64)) * (16 : Int64)) + (15 : Int64)) - ((p1 &&& (15 : Int32)).toInt64))), .second, .unset, .unset, .unset, .unset, .unset, .unset, .unset] [])) _
    refine XS.lload X6.here hx rfl (hb hby at_70) rfl ?_
    show Steps p.tables e below (T6.setTop (mkF m 72 #[.val (.long q0), .second, .val (.int p1), .val (.long q2), .second, .val (.int p3), .val (.int p4), .val (.long (q0 &&& (2147483647 : Int64))), .second, .val (.int (p1 &&& (15 : Int32))), .val (.int (p3 &&& (15 : Int32))), .val (.int (p4 &&& (3 : Int32))), .val (.long v1), .second, .val (.long ((((q0 &&& (2147483647 : Int64)) * (16 : Int64)) + (15 : Int64)) - ((p1 &&& (15 : Int32)).toInt64))), .second, .unset, .unset, .unset, .unset, .unset, .unset, .unset] [(.long v1)])) _
    refine XS.iload X6.here hx rfl (hb hby at_72) rfl ?_
    show Steps p.tables e below (T6.setTop (mkF m 74 #[.val (.long q0), .second, .val (.int p1), .val (.long q2), .second, .val (.int p3), .val (.int p4), .val (.long (q0 &&& (2147483647 : Int64))), .second, .val (.int (p1 &&& (15 : Int32))), .val (.int (p3 &&& (15 : Int32))), .val (.int (p4 &&& (3 : Int32))), .val (.long v1), .second, .val (.long ((((q0 &&& (2147483647 : Int64)) * (16 : Int64)) + (15 : Int64)) - ((p1 &&& (15 : Int32)).toInt64))), .second, .unset, .unset, .unset, .unset, .unset, .unset, .unset] [(.int (p3 &&& (15 : Int32))), (.long v1)])) _
    refine st8 _ ?_
    show Steps p.tables e below (T8.setTop (mkF m 77 #[.val (.long q0), .second, .val (.int p1), .val (.long q2), .second, .val (.int p3), .val (.int p4), .val (.long (q0 &&& (2147483647 : Int64))), .second, .val (.int (p1 &&& (15 : Int32))), .val (.int (p3 &&& (15 : Int32))), .val (.int (p4 &&& (3 : Int32))), .val (.long v1), .second, .val (.long ((((q0 &&& (2147483647 : Int64)) * (16 : Int64)) + (15 : Int64)) - ((p1 &&& (15 : Int32)).toInt64))), .second, .unset, .unset, .unset, .unset, .unset, .unset, .unset] [(.long (((v1 * (16 : Int64)) + (15 : Int64)) - ((p3 &&& (15 : Int32)).toInt64)))])) _
    refine XS.lstore X8.here hx rfl (hb hby at_77) rfl (l' := #[.val (.long q0), .second, .val (.int p1), .val (.long q2), .second, .val (.int p3), .val (.int p4), .val (.long (q0 &&& (2147483647 : Int64))), .second, .val (.int (p1 &&& (15 : Int32))), .val (.int (p3 &&& (15 : Int32))), .val (.int (p4 &&& (3 : Int32))), .val (.long v1), .second, .val (.long ((((q0 &&& (2147483647 : Int64)) * (16 : Int64)) + (15 : Int64)) - ((p1 &&& (15 : Int32)).toInt64))), .second, .val (.long (((v1 * (16 : Int64)) + (15 : Int64)) - ((p3 &&& (15 : Int32)).toInt64))), .second, .unset, .unset, .unset, .unset, .unset]) rfl ?_
    show Steps p.tables e below (T8.setTop (mkF m 79 #[.val (.long q0), .second, .val (.int p1), .val (.long q2), .second, .val (.int p3), .val (.int p4), .val (.long (q0 &&& (2147483647 : Int64))), .second, .val (.int (p1 &&& (15 : Int32))), .val (.int (p3 &&& (15 : Int32))), .val (.int (p4 &&& (3 : Int32))), .val (.long v1), .second, .val (.long ((((q0 &&& (2147483647 : Int64)) * (16 : Int64)) + (15 : Int64)) - ((p1 &&& (15 : Int32)).toInt64))), .second, .val (.long (((v1 * (16 : Int64)) + (15 : Int64)) - ((p3 &&& (15 : Int32)).toInt64))), .second, .unset, .unset, .unset, .unset, .unset] [])) _
    refine XS.lload X8.here hx rfl (hb hby at_79) rfl ?_
    show Steps p.tables e below (T8.setTop (mkF m 81 #[.val (.long q0), .second, .val (.int p1), .val (.long q2), .second, .val (.int p3), .val (.int p4), .val (.long (q0 &&& (2147483647 : Int64))), .second, .val (.int (p1 &&& (15 : Int32))), .val (.int (p3 &&& (15 : Int32))), .val (.int (p4 &&& (3 : Int32))), .val (.long v1), .second, .val (.long ((((q0 &&& (2147483647 : Int64)) * (16 : Int64)) + (15 : Int64)) - ((p1 &&& (15 : Int32)).toInt64))), .second, .val (.long (((v1 * (16 : Int64)) + (15 : Int64)) - ((p3 &&& (15 : Int32)).toInt64))), .second, .unset, .unset, .unset, .unset, .unset] [(.long ((((q0 &&& (2147483647 : Int64)) * (16 : Int64)) + (15 : Int64)) - ((p1 &&& (15 : Int32)).toInt64)))])) _
    refine XS.lconst X8.here hx rfl (hb hby at_81) ?_
    show Steps p.tables e below (T8.setTop (mkF m 82 #[.val (.long q0), .second, .val (.int p1), .val (.long q2), .second, .val (.int p3), .val (.int p4), .val (.long (q0 &&& (2147483647 : Int64))), .second, .val (.int (p1 &&& (15 : Int32))), .val (.int (p3 &&& (15 : Int32))), .val (.int (p4 &&& (3 : Int32))), .val (.long v1), .second, .val (.long ((((q0 &&& (2147483647 : Int64)) * (16 : Int64)) + (15 : Int64)) - ((p1 &&& (15 : Int32)).toInt64))), .second, .val (.long (((v1 * (16 : Int64)) + (15 : Int64)) - ((p3 &&& (15 : Int32)).toInt64))), .second, .unset, .unset, .unset, .unset, .unset] [(.long (0 : Int64)), (.long ((((q0 &&& (2147483647 : Int64)) * (16 : Int64)) + (15 : Int64)) - ((p1 &&& (15 : Int32)).toInt64)))])) _
    refine XS.lcmp X8.here hx rfl (hb hby at_82) rfl ?_
    show Steps p.tables e below (T8.setTop (mkF m 83 #[.val (.long q0), .second, .val (.int p1), .val (.long q2), .second, .val (.int p3), .val (.int p4), .val (.long (q0 &&& (2147483647 : Int64))), .second, .val (.int (p1 &&& (15 : Int32))), .val (.int (p3 &&& (15 : Int32))), .val (.int (p4 &&& (3 : Int32))), .val (.long v1), .second, .val (.long ((((q0 &&& (2147483647 : Int64)) * (16 : Int64)) + (15 : Int64)) - ((p1 &&& (15 : Int32)).toInt64))), .second, .val (.long (((v1 * (16 : Int64)) + (15 : Int64)) - ((p3 &&& (15 : Int32)).toInt64))), .second, .unset, .unset, .unset, .unset, .unset] [(.int (lcmpW ((((q0 &&& (2147483647 : Int64)) * (16 : Int64)) + (15 : Int64)) - ((p1 &&& (15 : Int32)).toInt64)) (0 : Int64)))])) _
    exact kt
  obtain ⟨v2, hv2⟩ : ∃ z : Int32, z = (if ((((q0 &&& (2147483647 : Int64)) * (16 : Int64)) + (15 : Int64)) - ((p1 &&& (15 : Int32)).toInt64)) < (0 : Int64) then (0 : Int32) else (if (((((q0 &&& (2147483647 : Int64)) * (16 : Int64)) + (15 : Int64)) - ((p1 &&& (15 : Int32)).toInt64)) >>> ((4 : Int32) &&& 0x3f).toInt64) = (q0 &&& (2147483647 : Int64)) then (if (((((q0 &&& (2147483647 : Int64)) * (16 : Int64)) + (15 : Int64)) - ((p1 &&& (15 : Int32)).toInt64)) &&& (15 : Int64)) = (((15 : Int32) - (p1 &&& (15 : Int32))).toInt64) then (1 : Int32) else (0 : Int32)) else (0 : Int32))) := ⟨_, rfl⟩
  have pre14 : ∀ t, Steps p.tables e below (T8.setTop (mkF m 117 #[.val (.long q0), .second, .val (.int p1), .val (.long q2), .second, .val (.int p3), .val (.int p4), .val (.long (q0 &&& (2147483647 : Int64))), .second, .val (.int (p1 &&& (15 : Int32))), .val (.int (p3 &&& (15 : Int32))), .val (.int (p4 &&& (3 : Int32))), .val (.long v1), .second, .val (.long ((((q0 &&& (2147483647 : Int64)) * (16 : Int64)) + (15 : Int64)) - ((p1 &&& (15 : Int32)).toInt64))), .second, .val (.long (((v1 * (16 : Int64)) + (15 : Int64)) - ((p3 &&& (15 : Int32)).toInt64))), .second, .unset, .unset, .unset, .unset, .unset] [(.int v2)])) t → Steps p.tables e below (s₁.setTop (entryFrame m #[(.long q0), (.int p1), (.long q2), (.int p3), (.int p4)] maxLocals)) t := fun t kt => by
    refine pre10 _ ?_
    show Steps p.tables e below (T8.setTop (mkF m 83 #[.val (.long q0), .second, .val (.int p1), .val (.long q2), .second, .val (.int p3), .val (.int p4), .val (.long (q0 &&& (2147483647 : Int64))), .second, .val (.int (p1 &&& (15 : Int32))), .val (.int (p3 &&& (15 : Int32))), .val (.int (p4 &&& (3 : Int32))), .val (.long v1), .second, .val (.long ((((q0 &&& (2147483647 : Int64)) * (16 : Int64)) + (15 : Int64)) - ((p1 &&& (15 : Int32)).toInt64))), .second, .val (.long (((v1 * (16 : Int64)) + (15 : Int64)) - ((p3 &&& (15 : Int32)).toInt64))), .second, .unset, .unset, .unset, .unset, .unset] [(.int (lcmpW ((((q0 &&& (2147483647 : Int64)) * (16 : Int64)) + (15 : Int64)) - ((p1 &&& (15 : Int32)).toInt64)) (0 : Int64)))])) _
    by_cases hc11 : ((((q0 &&& (2147483647 : Int64)) * (16 : Int64)) + (15 : Int64)) - ((p1 &&& (15 : Int32)).toInt64)) < (0 : Int64)
    · rw [if_pos hc11] at hv2
      refine XS.ifYes X8.here hx rfl (pc0 := 83) (pc' := 116) rfl (hb hby at_83) rfl ((if0 _ _).trans (tlt (own_lwL hc11)).1) (by decide) (by decide) ?_
      show Steps p.tables e below (T8.setTop (mkF m 116 #[.val (.long q0), .second, .val (.int p1), .val (.long q2), .second, .val (.int p3), .val (.int p4), .val (.long (q0 &&& (2147483647 : Int64))), .second, .val (.int (p1 &&& (15 : Int32))), .val (.int (p3 &&& (15 : Int32))), .val (.int (p4 &&& (3 : Int32))), .val (.long v1), .second, .val (.long ((((q0 &&& (2147483647 : Int64)) * (16 : Int64)) + (15 : Int64)) - ((p1 &&& (15 : Int32)).toInt64))), .second, .val (.long (((v1 * (16 : Int64)) + (15 : Int64)) - ((p3 &&& (15 : Int32)).toInt64))), .second, .unset, .unset, .unset, .unset, .unset] [])) _
      refine XS.iconst X8.here hx rfl (hb hby at_116) ?_
      subst hv2
      exact kt
    · rw [if_neg hc11] at hv2
      refine XS.ifNo X8.here hx rfl (hb hby at_83) rfl ((if0 _ _).trans (flt (own_lwM hc11)).1) ?_
      show Steps p.tables e below (T8.setTop (mkF m 86 #[.val (.long q0), .second, .val (.int p1), .val (.long q2), .second, .val (.int p3), .val (.int p4), .val (.long (q0 &&& (2147483647 : Int64))), .second, .val (.int (p1 &&& (15 : Int32))), .val (.int (p3 &&& (15 : Int32))), .val (.int (p4 &&& (3 : Int32))), .val (.long v1), .second, .val (.long ((((q0 &&& (2147483647 : Int64)) * (16 : Int64)) + (15 : Int64)) - ((p1 &&& (15 : Int32)).toInt64))), .second, .val (.long (((v1 * (16 : Int64)) + (15 : Int64)) - ((p3 &&& (15 : Int32)).toInt64))), .second, .unset, .unset, .unset, .unset, .unset] [])) _
      refine XS.lload X8.here hx rfl (hb hby at_86) rfl ?_
      show Steps p.tables e below (T8.setTop (mkF m 88 #[.val (.long q0), .second, .val (.int p1), .val (.long q2), .second, .val (.int p3), .val (.int p4), .val (.long (q0 &&& (2147483647 : Int64))), .second, .val (.int (p1 &&& (15 : Int32))), .val (.int (p3 &&& (15 : Int32))), .val (.int (p4 &&& (3 : Int32))), .val (.long v1), .second, .val (.long ((((q0 &&& (2147483647 : Int64)) * (16 : Int64)) + (15 : Int64)) - ((p1 &&& (15 : Int32)).toInt64))), .second, .val (.long (((v1 * (16 : Int64)) + (15 : Int64)) - ((p3 &&& (15 : Int32)).toInt64))), .second, .unset, .unset, .unset, .unset, .unset] [(.long ((((q0 &&& (2147483647 : Int64)) * (16 : Int64)) + (15 : Int64)) - ((p1 &&& (15 : Int32)).toInt64)))])) _
      refine XS.iconst X8.here hx rfl (hb hby at_88) ?_
      show Steps p.tables e below (T8.setTop (mkF m 89 #[.val (.long q0), .second, .val (.int p1), .val (.long q2), .second, .val (.int p3), .val (.int p4), .val (.long (q0 &&& (2147483647 : Int64))), .second, .val (.int (p1 &&& (15 : Int32))), .val (.int (p3 &&& (15 : Int32))), .val (.int (p4 &&& (3 : Int32))), .val (.long v1), .second, .val (.long ((((q0 &&& (2147483647 : Int64)) * (16 : Int64)) + (15 : Int64)) - ((p1 &&& (15 : Int32)).toInt64))), .second, .val (.long (((v1 * (16 : Int64)) + (15 : Int64)) - ((p3 &&& (15 : Int32)).toInt64))), .second, .unset, .unset, .unset, .unset, .unset] [(.int (4 : Int32)), (.long ((((q0 &&& (2147483647 : Int64)) * (16 : Int64)) + (15 : Int64)) - ((p1 &&& (15 : Int32)).toInt64)))])) _
      refine XS.lshr X8.here hx rfl (hb hby at_89) rfl ?_
      show Steps p.tables e below (T8.setTop (mkF m 90 #[.val (.long q0), .second, .val (.int p1), .val (.long q2), .second, .val (.int p3), .val (.int p4), .val (.long (q0 &&& (2147483647 : Int64))), .second, .val (.int (p1 &&& (15 : Int32))), .val (.int (p3 &&& (15 : Int32))), .val (.int (p4 &&& (3 : Int32))), .val (.long v1), .second, .val (.long ((((q0 &&& (2147483647 : Int64)) * (16 : Int64)) + (15 : Int64)) - ((p1 &&& (15 : Int32)).toInt64))), .second, .val (.long (((v1 * (16 : Int64)) + (15 : Int64)) - ((p3 &&& (15 : Int32)).toInt64))), .second, .unset, .unset, .unset, .unset, .unset] [(.long (((((q0 &&& (2147483647 : Int64)) * (16 : Int64)) + (15 : Int64)) - ((p1 &&& (15 : Int32)).toInt64)) >>> ((4 : Int32) &&& 0x3f).toInt64))])) _
      refine XS.lload X8.here hx rfl (hb hby at_90) rfl ?_
      show Steps p.tables e below (T8.setTop (mkF m 92 #[.val (.long q0), .second, .val (.int p1), .val (.long q2), .second, .val (.int p3), .val (.int p4), .val (.long (q0 &&& (2147483647 : Int64))), .second, .val (.int (p1 &&& (15 : Int32))), .val (.int (p3 &&& (15 : Int32))), .val (.int (p4 &&& (3 : Int32))), .val (.long v1), .second, .val (.long ((((q0 &&& (2147483647 : Int64)) * (16 : Int64)) + (15 : Int64)) - ((p1 &&& (15 : Int32)).toInt64))), .second, .val (.long (((v1 * (16 : Int64)) + (15 : Int64)) - ((p3 &&& (15 : Int32)).toInt64))), .second, .unset, .unset, .unset, .unset, .unset] [(.long (q0 &&& (2147483647 : Int64))), (.long (((((q0 &&& (2147483647 : Int64)) * (16 : Int64)) + (15 : Int64)) - ((p1 &&& (15 : Int32)).toInt64)) >>> ((4 : Int32) &&& 0x3f).toInt64))])) _
      refine XS.lcmp X8.here hx rfl (hb hby at_92) rfl ?_
      show Steps p.tables e below (T8.setTop (mkF m 93 #[.val (.long q0), .second, .val (.int p1), .val (.long q2), .second, .val (.int p3), .val (.int p4), .val (.long (q0 &&& (2147483647 : Int64))), .second, .val (.int (p1 &&& (15 : Int32))), .val (.int (p3 &&& (15 : Int32))), .val (.int (p4 &&& (3 : Int32))), .val (.long v1), .second, .val (.long ((((q0 &&& (2147483647 : Int64)) * (16 : Int64)) + (15 : Int64)) - ((p1 &&& (15 : Int32)).toInt64))), .second, .val (.long (((v1 * (16 : Int64)) + (15 : Int64)) - ((p3 &&& (15 : Int32)).toInt64))), .second, .unset, .unset, .unset, .unset, .unset] [(.int (lcmpW (((((q0 &&& (2147483647 : Int64)) * (16 : Int64)) + (15 : Int64)) - ((p1 &&& (15 : Int32)).toInt64)) >>> ((4 : Int32) &&& 0x3f).toInt64) (q0 &&& (2147483647 : Int64))))])) _
      by_cases hc12 : (((((q0 &&& (2147483647 : Int64)) * (16 : Int64)) + (15 : Int64)) - ((p1 &&& (15 : Int32)).toInt64)) >>> ((4 : Int32) &&& 0x3f).toInt64) = (q0 &&& (2147483647 : Int64))
      · rw [if_pos hc12] at hv2
        refine XS.ifNo X8.here hx rfl (hb hby at_93) rfl ((if0 _ _).trans (teq (own_lwE hc12)).2) ?_
        show Steps p.tables e below (T8.setTop (mkF m 96 #[.val (.long q0), .second, .val (.int p1), .val (.long q2), .second, .val (.int p3), .val (.int p4), .val (.long (q0 &&& (2147483647 : Int64))), .second, .val (.int (p1 &&& (15 : Int32))), .val (.int (p3 &&& (15 : Int32))), .val (.int (p4 &&& (3 : Int32))), .val (.long v1), .second, .val (.long ((((q0 &&& (2147483647 : Int64)) * (16 : Int64)) + (15 : Int64)) - ((p1 &&& (15 : Int32)).toInt64))), .second, .val (.long (((v1 * (16 : Int64)) + (15 : Int64)) - ((p3 &&& (15 : Int32)).toInt64))), .second, .unset, .unset, .unset, .unset, .unset] [])) _
        refine XS.lload X8.here hx rfl (hb hby at_96) rfl ?_
        show Steps p.tables e below (T8.setTop (mkF m 98 #[.val (.long q0), .second, .val (.int p1), .val (.long q2), .second, .val (.int p3), .val (.int p4), .val (.long (q0 &&& (2147483647 : Int64))), .second, .val (.int (p1 &&& (15 : Int32))), .val (.int (p3 &&& (15 : Int32))), .val (.int (p4 &&& (3 : Int32))), .val (.long v1), .second, .val (.long ((((q0 &&& (2147483647 : Int64)) * (16 : Int64)) + (15 : Int64)) - ((p1 &&& (15 : Int32)).toInt64))), .second, .val (.long (((v1 * (16 : Int64)) + (15 : Int64)) - ((p3 &&& (15 : Int32)).toInt64))), .second, .unset, .unset, .unset, .unset, .unset] [(.long ((((q0 &&& (2147483647 : Int64)) * (16 : Int64)) + (15 : Int64)) - ((p1 &&& (15 : Int32)).toInt64)))])) _
        refine X8.ldc2Long hx hown (mvT hZ (hw _ (List.mem_of_getElem? (i := 7) rfl))) (g := (mkF m 98 #[.val (.long q0), .second, .val (.int p1), .val (.long q2), .second, .val (.int p3), .val (.int p4), .val (.long (q0 &&& (2147483647 : Int64))), .second, .val (.int (p1 &&& (15 : Int32))), .val (.int (p3 &&& (15 : Int32))), .val (.int (p4 &&& (3 : Int32))), .val (.long v1), .second, .val (.long ((((q0 &&& (2147483647 : Int64)) * (16 : Int64)) + (15 : Int64)) - ((p1 &&& (15 : Int32)).toInt64))), .second, .val (.long (((v1 * (16 : Int64)) + (15 : Int64)) - ((p3 &&& (15 : Int32)).toInt64))), .second, .unset, .unset, .unset, .unset, .unset] [(.long ((((q0 &&& (2147483647 : Int64)) * (16 : Int64)) + (15 : Int64)) - ((p1 &&& (15 : Int32)).toInt64)))])) rfl (hb hby at_98) _ ?_
        show Steps p.tables e below (T8.setTop (mkF m 101 #[.val (.long q0), .second, .val (.int p1), .val (.long q2), .second, .val (.int p3), .val (.int p4), .val (.long (q0 &&& (2147483647 : Int64))), .second, .val (.int (p1 &&& (15 : Int32))), .val (.int (p3 &&& (15 : Int32))), .val (.int (p4 &&& (3 : Int32))), .val (.long v1), .second, .val (.long ((((q0 &&& (2147483647 : Int64)) * (16 : Int64)) + (15 : Int64)) - ((p1 &&& (15 : Int32)).toInt64))), .second, .val (.long (((v1 * (16 : Int64)) + (15 : Int64)) - ((p3 &&& (15 : Int32)).toInt64))), .second, .unset, .unset, .unset, .unset, .unset] [(.long (15 : Int64)), (.long ((((q0 &&& (2147483647 : Int64)) * (16 : Int64)) + (15 : Int64)) - ((p1 &&& (15 : Int32)).toInt64)))])) _
        refine XS.land X8.here hx rfl (hb hby at_101) rfl ?_
        show Steps p.tables e below (T8.setTop (mkF m 102 #[.val (.long q0), .second, .val (.int p1), .val (.long q2), .second, .val (.int p3), .val (.int p4), .val (.long (q0 &&& (2147483647 : Int64))), .second, .val (.int (p1 &&& (15 : Int32))), .val (.int (p3 &&& (15 : Int32))), .val (.int (p4 &&& (3 : Int32))), .val (.long v1), .second, .val (.long ((((q0 &&& (2147483647 : Int64)) * (16 : Int64)) + (15 : Int64)) - ((p1 &&& (15 : Int32)).toInt64))), .second, .val (.long (((v1 * (16 : Int64)) + (15 : Int64)) - ((p3 &&& (15 : Int32)).toInt64))), .second, .unset, .unset, .unset, .unset, .unset] [(.long (((((q0 &&& (2147483647 : Int64)) * (16 : Int64)) + (15 : Int64)) - ((p1 &&& (15 : Int32)).toInt64)) &&& (15 : Int64)))])) _
        refine XS.bipush X8.here hx rfl (hb hby at_102) ?_
        show Steps p.tables e below (T8.setTop (mkF m 104 #[.val (.long q0), .second, .val (.int p1), .val (.long q2), .second, .val (.int p3), .val (.int p4), .val (.long (q0 &&& (2147483647 : Int64))), .second, .val (.int (p1 &&& (15 : Int32))), .val (.int (p3 &&& (15 : Int32))), .val (.int (p4 &&& (3 : Int32))), .val (.long v1), .second, .val (.long ((((q0 &&& (2147483647 : Int64)) * (16 : Int64)) + (15 : Int64)) - ((p1 &&& (15 : Int32)).toInt64))), .second, .val (.long (((v1 * (16 : Int64)) + (15 : Int64)) - ((p3 &&& (15 : Int32)).toInt64))), .second, .unset, .unset, .unset, .unset, .unset] [(.int (15 : Int32)), (.long (((((q0 &&& (2147483647 : Int64)) * (16 : Int64)) + (15 : Int64)) - ((p1 &&& (15 : Int32)).toInt64)) &&& (15 : Int64)))])) _
        refine XS.iload X8.here hx rfl (hb hby at_104) rfl ?_
        show Steps p.tables e below (T8.setTop (mkF m 106 #[.val (.long q0), .second, .val (.int p1), .val (.long q2), .second, .val (.int p3), .val (.int p4), .val (.long (q0 &&& (2147483647 : Int64))), .second, .val (.int (p1 &&& (15 : Int32))), .val (.int (p3 &&& (15 : Int32))), .val (.int (p4 &&& (3 : Int32))), .val (.long v1), .second, .val (.long ((((q0 &&& (2147483647 : Int64)) * (16 : Int64)) + (15 : Int64)) - ((p1 &&& (15 : Int32)).toInt64))), .second, .val (.long (((v1 * (16 : Int64)) + (15 : Int64)) - ((p3 &&& (15 : Int32)).toInt64))), .second, .unset, .unset, .unset, .unset, .unset] [(.int (p1 &&& (15 : Int32))), (.int (15 : Int32)), (.long (((((q0 &&& (2147483647 : Int64)) * (16 : Int64)) + (15 : Int64)) - ((p1 &&& (15 : Int32)).toInt64)) &&& (15 : Int64)))])) _
        refine XS.isub X8.here hx rfl (hb hby at_106) rfl ?_
        show Steps p.tables e below (T8.setTop (mkF m 107 #[.val (.long q0), .second, .val (.int p1), .val (.long q2), .second, .val (.int p3), .val (.int p4), .val (.long (q0 &&& (2147483647 : Int64))), .second, .val (.int (p1 &&& (15 : Int32))), .val (.int (p3 &&& (15 : Int32))), .val (.int (p4 &&& (3 : Int32))), .val (.long v1), .second, .val (.long ((((q0 &&& (2147483647 : Int64)) * (16 : Int64)) + (15 : Int64)) - ((p1 &&& (15 : Int32)).toInt64))), .second, .val (.long (((v1 * (16 : Int64)) + (15 : Int64)) - ((p3 &&& (15 : Int32)).toInt64))), .second, .unset, .unset, .unset, .unset, .unset] [(.int ((15 : Int32) - (p1 &&& (15 : Int32)))), (.long (((((q0 &&& (2147483647 : Int64)) * (16 : Int64)) + (15 : Int64)) - ((p1 &&& (15 : Int32)).toInt64)) &&& (15 : Int64)))])) _
        refine XS.i2l X8.here hx rfl (hb hby at_107) rfl ?_
        show Steps p.tables e below (T8.setTop (mkF m 108 #[.val (.long q0), .second, .val (.int p1), .val (.long q2), .second, .val (.int p3), .val (.int p4), .val (.long (q0 &&& (2147483647 : Int64))), .second, .val (.int (p1 &&& (15 : Int32))), .val (.int (p3 &&& (15 : Int32))), .val (.int (p4 &&& (3 : Int32))), .val (.long v1), .second, .val (.long ((((q0 &&& (2147483647 : Int64)) * (16 : Int64)) + (15 : Int64)) - ((p1 &&& (15 : Int32)).toInt64))), .second, .val (.long (((v1 * (16 : Int64)) + (15 : Int64)) - ((p3 &&& (15 : Int32)).toInt64))), .second, .unset, .unset, .unset, .unset, .unset] [(.long (((15 : Int32) - (p1 &&& (15 : Int32))).toInt64)), (.long (((((q0 &&& (2147483647 : Int64)) * (16 : Int64)) + (15 : Int64)) - ((p1 &&& (15 : Int32)).toInt64)) &&& (15 : Int64)))])) _
        refine XS.lcmp X8.here hx rfl (hb hby at_108) rfl ?_
        show Steps p.tables e below (T8.setTop (mkF m 109 #[.val (.long q0), .second, .val (.int p1), .val (.long q2), .second, .val (.int p3), .val (.int p4), .val (.long (q0 &&& (2147483647 : Int64))), .second, .val (.int (p1 &&& (15 : Int32))), .val (.int (p3 &&& (15 : Int32))), .val (.int (p4 &&& (3 : Int32))), .val (.long v1), .second, .val (.long ((((q0 &&& (2147483647 : Int64)) * (16 : Int64)) + (15 : Int64)) - ((p1 &&& (15 : Int32)).toInt64))), .second, .val (.long (((v1 * (16 : Int64)) + (15 : Int64)) - ((p3 &&& (15 : Int32)).toInt64))), .second, .unset, .unset, .unset, .unset, .unset] [(.int (lcmpW (((((q0 &&& (2147483647 : Int64)) * (16 : Int64)) + (15 : Int64)) - ((p1 &&& (15 : Int32)).toInt64)) &&& (15 : Int64)) (((15 : Int32) - (p1 &&& (15 : Int32))).toInt64)))])) _
        by_cases hc13 : (((((q0 &&& (2147483647 : Int64)) * (16 : Int64)) + (15 : Int64)) - ((p1 &&& (15 : Int32)).toInt64)) &&& (15 : Int64)) = (((15 : Int32) - (p1 &&& (15 : Int32))).toInt64)
        · rw [if_pos hc13] at hv2
          refine XS.ifNo X8.here hx rfl (hb hby at_109) rfl ((if0 _ _).trans (teq (own_lwE hc13)).2) ?_
          show Steps p.tables e below (T8.setTop (mkF m 112 #[.val (.long q0), .second, .val (.int p1), .val (.long q2), .second, .val (.int p3), .val (.int p4), .val (.long (q0 &&& (2147483647 : Int64))), .second, .val (.int (p1 &&& (15 : Int32))), .val (.int (p3 &&& (15 : Int32))), .val (.int (p4 &&& (3 : Int32))), .val (.long v1), .second, .val (.long ((((q0 &&& (2147483647 : Int64)) * (16 : Int64)) + (15 : Int64)) - ((p1 &&& (15 : Int32)).toInt64))), .second, .val (.long (((v1 * (16 : Int64)) + (15 : Int64)) - ((p3 &&& (15 : Int32)).toInt64))), .second, .unset, .unset, .unset, .unset, .unset] [])) _
          refine XS.iconst X8.here hx rfl (hb hby at_112) ?_
          show Steps p.tables e below (T8.setTop (mkF m 113 #[.val (.long q0), .second, .val (.int p1), .val (.long q2), .second, .val (.int p3), .val (.int p4), .val (.long (q0 &&& (2147483647 : Int64))), .second, .val (.int (p1 &&& (15 : Int32))), .val (.int (p3 &&& (15 : Int32))), .val (.int (p4 &&& (3 : Int32))), .val (.long v1), .second, .val (.long ((((q0 &&& (2147483647 : Int64)) * (16 : Int64)) + (15 : Int64)) - ((p1 &&& (15 : Int32)).toInt64))), .second, .val (.long (((v1 * (16 : Int64)) + (15 : Int64)) - ((p3 &&& (15 : Int32)).toInt64))), .second, .unset, .unset, .unset, .unset, .unset] [(.int (1 : Int32))])) _
          refine XS.goto X8.here hx rfl (pc0 := 113) (pc' := 117) rfl (hb hby at_113) (by decide) (by decide) ?_
          subst hv2
          exact kt
        · rw [if_neg hc13] at hv2
          refine XS.ifYes X8.here hx rfl (pc0 := 109) (pc' := 116) rfl (hb hby at_109) rfl ((if0 _ _).trans (feq (own_lwN hc13)).2) (by decide) (by decide) ?_
          show Steps p.tables e below (T8.setTop (mkF m 116 #[.val (.long q0), .second, .val (.int p1), .val (.long q2), .second, .val (.int p3), .val (.int p4), .val (.long (q0 &&& (2147483647 : Int64))), .second, .val (.int (p1 &&& (15 : Int32))), .val (.int (p3 &&& (15 : Int32))), .val (.int (p4 &&& (3 : Int32))), .val (.long v1), .second, .val (.long ((((q0 &&& (2147483647 : Int64)) * (16 : Int64)) + (15 : Int64)) - ((p1 &&& (15 : Int32)).toInt64))), .second, .val (.long (((v1 * (16 : Int64)) + (15 : Int64)) - ((p3 &&& (15 : Int32)).toInt64))), .second, .unset, .unset, .unset, .unset, .unset] [])) _
          refine XS.iconst X8.here hx rfl (hb hby at_116) ?_
          subst hv2
          exact kt
      · rw [if_neg hc12] at hv2
        refine XS.ifYes X8.here hx rfl (pc0 := 93) (pc' := 116) rfl (hb hby at_93) rfl ((if0 _ _).trans (feq (own_lwN hc12)).2) (by decide) (by decide) ?_
        show Steps p.tables e below (T8.setTop (mkF m 116 #[.val (.long q0), .second, .val (.int p1), .val (.long q2), .second, .val (.int p3), .val (.int p4), .val (.long (q0 &&& (2147483647 : Int64))), .second, .val (.int (p1 &&& (15 : Int32))), .val (.int (p3 &&& (15 : Int32))), .val (.int (p4 &&& (3 : Int32))), .val (.long v1), .second, .val (.long ((((q0 &&& (2147483647 : Int64)) * (16 : Int64)) + (15 : Int64)) - ((p1 &&& (15 : Int32)).toInt64))), .second, .val (.long (((v1 * (16 : Int64)) + (15 : Int64)) - ((p3 &&& (15 : Int32)).toInt64))), .second, .unset, .unset, .unset, .unset, .unset] [])) _
        refine XS.iconst X8.here hx rfl (hb hby at_116) ?_
        subst hv2
        exact kt
  have pre15 : ∀ t, Steps p.tables e below (T8.setTop (mkF m 123 #[.val (.long q0), .second, .val (.int p1), .val (.long q2), .second, .val (.int p3), .val (.int p4), .val (.long (q0 &&& (2147483647 : Int64))), .second, .val (.int (p1 &&& (15 : Int32))), .val (.int (p3 &&& (15 : Int32))), .val (.int (p4 &&& (3 : Int32))), .val (.long v1), .second, .val (.long ((((q0 &&& (2147483647 : Int64)) * (16 : Int64)) + (15 : Int64)) - ((p1 &&& (15 : Int32)).toInt64))), .second, .val (.long (((v1 * (16 : Int64)) + (15 : Int64)) - ((p3 &&& (15 : Int32)).toInt64))), .second, .val (.int v2), .unset, .unset, .unset, .unset] [(.int (lcmpW (((v1 * (16 : Int64)) + (15 : Int64)) - ((p3 &&& (15 : Int32)).toInt64)) (0 : Int64)))])) t → Steps p.tables e below (s₁.setTop (entryFrame m #[(.long q0), (.int p1), (.long q2), (.int p3), (.int p4)] maxLocals)) t := fun t kt => by
    refine pre14 _ ?_
    show Steps p.tables e below (T8.setTop (mkF m 117 #[.val (.long q0), .second, .val (.int p1), .val (.long q2), .second, .val (.int p3), .val (.int p4), .val (.long (q0 &&& (2147483647 : Int64))), .second, .val (.int (p1 &&& (15 : Int32))), .val (.int (p3 &&& (15 : Int32))), .val (.int (p4 &&& (3 : Int32))), .val (.long v1), .second, .val (.long ((((q0 &&& (2147483647 : Int64)) * (16 : Int64)) + (15 : Int64)) - ((p1 &&& (15 : Int32)).toInt64))), .second, .val (.long (((v1 * (16 : Int64)) + (15 : Int64)) - ((p3 &&& (15 : Int32)).toInt64))), .second, .unset, .unset, .unset, .unset, .unset] [(.int v2)])) _
    refine XS.istore X8.here hx rfl (hb hby at_117) rfl (l' := #[.val (.long q0), .second, .val (.int p1), .val (.long q2), .second, .val (.int p3), .val (.int p4), .val (.long (q0 &&& (2147483647 : Int64))), .second, .val (.int (p1 &&& (15 : Int32))), .val (.int (p3 &&& (15 : Int32))), .val (.int (p4 &&& (3 : Int32))), .val (.long v1), .second, .val (.long ((((q0 &&& (2147483647 : Int64)) * (16 : Int64)) + (15 : Int64)) - ((p1 &&& (15 : Int32)).toInt64))), .second, .val (.long (((v1 * (16 : Int64)) + (15 : Int64)) - ((p3 &&& (15 : Int32)).toInt64))), .second, .val (.int v2), .unset, .unset, .unset, .unset]) rfl ?_
    show Steps p.tables e below (T8.setTop (mkF m 119 #[.val (.long q0), .second, .val (.int p1), .val (.long q2), .second, .val (.int p3), .val (.int p4), .val (.long (q0 &&& (2147483647 : Int64))), .second, .val (.int (p1 &&& (15 : Int32))), .val (.int (p3 &&& (15 : Int32))), .val (.int (p4 &&& (3 : Int32))), .val (.long v1), .second, .val (.long ((((q0 &&& (2147483647 : Int64)) * (16 : Int64)) + (15 : Int64)) - ((p1 &&& (15 : Int32)).toInt64))), .second, .val (.long (((v1 * (16 : Int64)) + (15 : Int64)) - ((p3 &&& (15 : Int32)).toInt64))), .second, .val (.int v2), .unset, .unset, .unset, .unset] [])) _
    refine XS.lload X8.here hx rfl (hb hby at_119) rfl ?_
    show Steps p.tables e below (T8.setTop (mkF m 121 #[.val (.long q0), .second, .val (.int p1), .val (.long q2), .second, .val (.int p3), .val (.int p4), .val (.long (q0 &&& (2147483647 : Int64))), .second, .val (.int (p1 &&& (15 : Int32))), .val (.int (p3 &&& (15 : Int32))), .val (.int (p4 &&& (3 : Int32))), .val (.long v1), .second, .val (.long ((((q0 &&& (2147483647 : Int64)) * (16 : Int64)) + (15 : Int64)) - ((p1 &&& (15 : Int32)).toInt64))), .second, .val (.long (((v1 * (16 : Int64)) + (15 : Int64)) - ((p3 &&& (15 : Int32)).toInt64))), .second, .val (.int v2), .unset, .unset, .unset, .unset] [(.long (((v1 * (16 : Int64)) + (15 : Int64)) - ((p3 &&& (15 : Int32)).toInt64)))])) _
    refine XS.lconst X8.here hx rfl (hb hby at_121) ?_
    show Steps p.tables e below (T8.setTop (mkF m 122 #[.val (.long q0), .second, .val (.int p1), .val (.long q2), .second, .val (.int p3), .val (.int p4), .val (.long (q0 &&& (2147483647 : Int64))), .second, .val (.int (p1 &&& (15 : Int32))), .val (.int (p3 &&& (15 : Int32))), .val (.int (p4 &&& (3 : Int32))), .val (.long v1), .second, .val (.long ((((q0 &&& (2147483647 : Int64)) * (16 : Int64)) + (15 : Int64)) - ((p1 &&& (15 : Int32)).toInt64))), .second, .val (.long (((v1 * (16 : Int64)) + (15 : Int64)) - ((p3 &&& (15 : Int32)).toInt64))), .second, .val (.int v2), .unset, .unset, .unset, .unset] [(.long (0 : Int64)), (.long (((v1 * (16 : Int64)) + (15 : Int64)) - ((p3 &&& (15 : Int32)).toInt64)))])) _
    refine XS.lcmp X8.here hx rfl (hb hby at_122) rfl ?_
    show Steps p.tables e below (T8.setTop (mkF m 123 #[.val (.long q0), .second, .val (.int p1), .val (.long q2), .second, .val (.int p3), .val (.int p4), .val (.long (q0 &&& (2147483647 : Int64))), .second, .val (.int (p1 &&& (15 : Int32))), .val (.int (p3 &&& (15 : Int32))), .val (.int (p4 &&& (3 : Int32))), .val (.long v1), .second, .val (.long ((((q0 &&& (2147483647 : Int64)) * (16 : Int64)) + (15 : Int64)) - ((p1 &&& (15 : Int32)).toInt64))), .second, .val (.long (((v1 * (16 : Int64)) + (15 : Int64)) - ((p3 &&& (15 : Int32)).toInt64))), .second, .val (.int v2), .unset, .unset, .unset, .unset] [(.int (lcmpW (((v1 * (16 : Int64)) + (15 : Int64)) - ((p3 &&& (15 : Int32)).toInt64)) (0 : Int64)))])) _
    exact kt
  obtain ⟨v3, hv3⟩ : ∃ z : Int32, z = (if (((v1 * (16 : Int64)) + (15 : Int64)) - ((p3 &&& (15 : Int32)).toInt64)) < (0 : Int64) then (0 : Int32) else (if ((((v1 * (16 : Int64)) + (15 : Int64)) - ((p3 &&& (15 : Int32)).toInt64)) >>> ((4 : Int32) &&& 0x3f).toInt64) = v1 then (if ((((v1 * (16 : Int64)) + (15 : Int64)) - ((p3 &&& (15 : Int32)).toInt64)) &&& (15 : Int64)) = (((15 : Int32) - (p3 &&& (15 : Int32))).toInt64) then (1 : Int32) else (0 : Int32)) else (0 : Int32))) := ⟨_, rfl⟩
  have pre19 : ∀ t, Steps p.tables e below (T8.setTop (mkF m 157 #[.val (.long q0), .second, .val (.int p1), .val (.long q2), .second, .val (.int p3), .val (.int p4), .val (.long (q0 &&& (2147483647 : Int64))), .second, .val (.int (p1 &&& (15 : Int32))), .val (.int (p3 &&& (15 : Int32))), .val (.int (p4 &&& (3 : Int32))), .val (.long v1), .second, .val (.long ((((q0 &&& (2147483647 : Int64)) * (16 : Int64)) + (15 : Int64)) - ((p1 &&& (15 : Int32)).toInt64))), .second, .val (.long (((v1 * (16 : Int64)) + (15 : Int64)) - ((p3 &&& (15 : Int32)).toInt64))), .second, .val (.int v2), .unset, .unset, .unset, .unset] [(.int v3)])) t → Steps p.tables e below (s₁.setTop (entryFrame m #[(.long q0), (.int p1), (.long q2), (.int p3), (.int p4)] maxLocals)) t := fun t kt => by
    refine pre15 _ ?_
    show Steps p.tables e below (T8.setTop (mkF m 123 #[.val (.long q0), .second, .val (.int p1), .val (.long q2), .second, .val (.int p3), .val (.int p4), .val (.long (q0 &&& (2147483647 : Int64))), .second, .val (.int (p1 &&& (15 : Int32))), .val (.int (p3 &&& (15 : Int32))), .val (.int (p4 &&& (3 : Int32))), .val (.long v1), .second, .val (.long ((((q0 &&& (2147483647 : Int64)) * (16 : Int64)) + (15 : Int64)) - ((p1 &&& (15 : Int32)).toInt64))), .second, .val (.long (((v1 * (16 : Int64)) + (15 : Int64)) - ((p3 &&& (15 : Int32)).toInt64))), .second, .val (.int v2), .unset, .unset, .unset, .unset] [(.int (lcmpW (((v1 * (16 : Int64)) + (15 : Int64)) - ((p3 &&& (15 : Int32)).toInt64)) (0 : Int64)))])) _
    by_cases hc16 : (((v1 * (16 : Int64)) + (15 : Int64)) - ((p3 &&& (15 : Int32)).toInt64)) < (0 : Int64)
    · rw [if_pos hc16] at hv3
      refine XS.ifYes X8.here hx rfl (pc0 := 123) (pc' := 156) rfl (hb hby at_123) rfl ((if0 _ _).trans (tlt (own_lwL hc16)).1) (by decide) (by decide) ?_
      show Steps p.tables e below (T8.setTop (mkF m 156 #[.val (.long q0), .second, .val (.int p1), .val (.long q2), .second, .val (.int p3), .val (.int p4), .val (.long (q0 &&& (2147483647 : Int64))), .second, .val (.int (p1 &&& (15 : Int32))), .val (.int (p3 &&& (15 : Int32))), .val (.int (p4 &&& (3 : Int32))), .val (.long v1), .second, .val (.long ((((q0 &&& (2147483647 : Int64)) * (16 : Int64)) + (15 : Int64)) - ((p1 &&& (15 : Int32)).toInt64))), .second, .val (.long (((v1 * (16 : Int64)) + (15 : Int64)) - ((p3 &&& (15 : Int32)).toInt64))), .second, .val (.int v2), .unset, .unset, .unset, .unset] [])) _
      refine XS.iconst X8.here hx rfl (hb hby at_156) ?_
      subst hv3
      exact kt
    · rw [if_neg hc16] at hv3
      refine XS.ifNo X8.here hx rfl (hb hby at_123) rfl ((if0 _ _).trans (flt (own_lwM hc16)).1) ?_
      show Steps p.tables e below (T8.setTop (mkF m 126 #[.val (.long q0), .second, .val (.int p1), .val (.long q2), .second, .val (.int p3), .val (.int p4), .val (.long (q0 &&& (2147483647 : Int64))), .second, .val (.int (p1 &&& (15 : Int32))), .val (.int (p3 &&& (15 : Int32))), .val (.int (p4 &&& (3 : Int32))), .val (.long v1), .second, .val (.long ((((q0 &&& (2147483647 : Int64)) * (16 : Int64)) + (15 : Int64)) - ((p1 &&& (15 : Int32)).toInt64))), .second, .val (.long (((v1 * (16 : Int64)) + (15 : Int64)) - ((p3 &&& (15 : Int32)).toInt64))), .second, .val (.int v2), .unset, .unset, .unset, .unset] [])) _
      refine XS.lload X8.here hx rfl (hb hby at_126) rfl ?_
      show Steps p.tables e below (T8.setTop (mkF m 128 #[.val (.long q0), .second, .val (.int p1), .val (.long q2), .second, .val (.int p3), .val (.int p4), .val (.long (q0 &&& (2147483647 : Int64))), .second, .val (.int (p1 &&& (15 : Int32))), .val (.int (p3 &&& (15 : Int32))), .val (.int (p4 &&& (3 : Int32))), .val (.long v1), .second, .val (.long ((((q0 &&& (2147483647 : Int64)) * (16 : Int64)) + (15 : Int64)) - ((p1 &&& (15 : Int32)).toInt64))), .second, .val (.long (((v1 * (16 : Int64)) + (15 : Int64)) - ((p3 &&& (15 : Int32)).toInt64))), .second, .val (.int v2), .unset, .unset, .unset, .unset] [(.long (((v1 * (16 : Int64)) + (15 : Int64)) - ((p3 &&& (15 : Int32)).toInt64)))])) _
      refine XS.iconst X8.here hx rfl (hb hby at_128) ?_
      show Steps p.tables e below (T8.setTop (mkF m 129 #[.val (.long q0), .second, .val (.int p1), .val (.long q2), .second, .val (.int p3), .val (.int p4), .val (.long (q0 &&& (2147483647 : Int64))), .second, .val (.int (p1 &&& (15 : Int32))), .val (.int (p3 &&& (15 : Int32))), .val (.int (p4 &&& (3 : Int32))), .val (.long v1), .second, .val (.long ((((q0 &&& (2147483647 : Int64)) * (16 : Int64)) + (15 : Int64)) - ((p1 &&& (15 : Int32)).toInt64))), .second, .val (.long (((v1 * (16 : Int64)) + (15 : Int64)) - ((p3 &&& (15 : Int32)).toInt64))), .second, .val (.int v2), .unset, .unset, .unset, .unset] [(.int (4 : Int32)), (.long (((v1 * (16 : Int64)) + (15 : Int64)) - ((p3 &&& (15 : Int32)).toInt64)))])) _
      refine XS.lshr X8.here hx rfl (hb hby at_129) rfl ?_
      show Steps p.tables e below (T8.setTop (mkF m 130 #[.val (.long q0), .second, .val (.int p1), .val (.long q2), .second, .val (.int p3), .val (.int p4), .val (.long (q0 &&& (2147483647 : Int64))), .second, .val (.int (p1 &&& (15 : Int32))), .val (.int (p3 &&& (15 : Int32))), .val (.int (p4 &&& (3 : Int32))), .val (.long v1), .second, .val (.long ((((q0 &&& (2147483647 : Int64)) * (16 : Int64)) + (15 : Int64)) - ((p1 &&& (15 : Int32)).toInt64))), .second, .val (.long (((v1 * (16 : Int64)) + (15 : Int64)) - ((p3 &&& (15 : Int32)).toInt64))), .second, .val (.int v2), .unset, .unset, .unset, .unset] [(.long ((((v1 * (16 : Int64)) + (15 : Int64)) - ((p3 &&& (15 : Int32)).toInt64)) >>> ((4 : Int32) &&& 0x3f).toInt64))])) _
      refine XS.lload X8.here hx rfl (hb hby at_130) rfl ?_
      show Steps p.tables e below (T8.setTop (mkF m 132 #[.val (.long q0), .second, .val (.int p1), .val (.long q2), .second, .val (.int p3), .val (.int p4), .val (.long (q0 &&& (2147483647 : Int64))), .second, .val (.int (p1 &&& (15 : Int32))), .val (.int (p3 &&& (15 : Int32))), .val (.int (p4 &&& (3 : Int32))), .val (.long v1), .second, .val (.long ((((q0 &&& (2147483647 : Int64)) * (16 : Int64)) + (15 : Int64)) - ((p1 &&& (15 : Int32)).toInt64))), .second, .val (.long (((v1 * (16 : Int64)) + (15 : Int64)) - ((p3 &&& (15 : Int32)).toInt64))), .second, .val (.int v2), .unset, .unset, .unset, .unset] [(.long v1), (.long ((((v1 * (16 : Int64)) + (15 : Int64)) - ((p3 &&& (15 : Int32)).toInt64)) >>> ((4 : Int32) &&& 0x3f).toInt64))])) _
      refine XS.lcmp X8.here hx rfl (hb hby at_132) rfl ?_
      show Steps p.tables e below (T8.setTop (mkF m 133 #[.val (.long q0), .second, .val (.int p1), .val (.long q2), .second, .val (.int p3), .val (.int p4), .val (.long (q0 &&& (2147483647 : Int64))), .second, .val (.int (p1 &&& (15 : Int32))), .val (.int (p3 &&& (15 : Int32))), .val (.int (p4 &&& (3 : Int32))), .val (.long v1), .second, .val (.long ((((q0 &&& (2147483647 : Int64)) * (16 : Int64)) + (15 : Int64)) - ((p1 &&& (15 : Int32)).toInt64))), .second, .val (.long (((v1 * (16 : Int64)) + (15 : Int64)) - ((p3 &&& (15 : Int32)).toInt64))), .second, .val (.int v2), .unset, .unset, .unset, .unset] [(.int (lcmpW ((((v1 * (16 : Int64)) + (15 : Int64)) - ((p3 &&& (15 : Int32)).toInt64)) >>> ((4 : Int32) &&& 0x3f).toInt64) v1))])) _
      by_cases hc17 : ((((v1 * (16 : Int64)) + (15 : Int64)) - ((p3 &&& (15 : Int32)).toInt64)) >>> ((4 : Int32) &&& 0x3f).toInt64) = v1
      · rw [if_pos hc17] at hv3
        refine XS.ifNo X8.here hx rfl (hb hby at_133) rfl ((if0 _ _).trans (teq (own_lwE hc17)).2) ?_
        show Steps p.tables e below (T8.setTop (mkF m 136 #[.val (.long q0), .second, .val (.int p1), .val (.long q2), .second, .val (.int p3), .val (.int p4), .val (.long (q0 &&& (2147483647 : Int64))), .second, .val (.int (p1 &&& (15 : Int32))), .val (.int (p3 &&& (15 : Int32))), .val (.int (p4 &&& (3 : Int32))), .val (.long v1), .second, .val (.long ((((q0 &&& (2147483647 : Int64)) * (16 : Int64)) + (15 : Int64)) - ((p1 &&& (15 : Int32)).toInt64))), .second, .val (.long (((v1 * (16 : Int64)) + (15 : Int64)) - ((p3 &&& (15 : Int32)).toInt64))), .second, .val (.int v2), .unset, .unset, .unset, .unset] [])) _
        refine XS.lload X8.here hx rfl (hb hby at_136) rfl ?_
        show Steps p.tables e below (T8.setTop (mkF m 138 #[.val (.long q0), .second, .val (.int p1), .val (.long q2), .second, .val (.int p3), .val (.int p4), .val (.long (q0 &&& (2147483647 : Int64))), .second, .val (.int (p1 &&& (15 : Int32))), .val (.int (p3 &&& (15 : Int32))), .val (.int (p4 &&& (3 : Int32))), .val (.long v1), .second, .val (.long ((((q0 &&& (2147483647 : Int64)) * (16 : Int64)) + (15 : Int64)) - ((p1 &&& (15 : Int32)).toInt64))), .second, .val (.long (((v1 * (16 : Int64)) + (15 : Int64)) - ((p3 &&& (15 : Int32)).toInt64))), .second, .val (.int v2), .unset, .unset, .unset, .unset] [(.long (((v1 * (16 : Int64)) + (15 : Int64)) - ((p3 &&& (15 : Int32)).toInt64)))])) _
        refine X8.ldc2Long hx hown (mvT hZ (hw _ (List.mem_of_getElem? (i := 7) rfl))) (g := (mkF m 138 #[.val (.long q0), .second, .val (.int p1), .val (.long q2), .second, .val (.int p3), .val (.int p4), .val (.long (q0 &&& (2147483647 : Int64))), .second, .val (.int (p1 &&& (15 : Int32))), .val (.int (p3 &&& (15 : Int32))), .val (.int (p4 &&& (3 : Int32))), .val (.long v1), .second, .val (.long ((((q0 &&& (2147483647 : Int64)) * (16 : Int64)) + (15 : Int64)) - ((p1 &&& (15 : Int32)).toInt64))), .second, .val (.long (((v1 * (16 : Int64)) + (15 : Int64)) - ((p3 &&& (15 : Int32)).toInt64))), .second, .val (.int v2), .unset, .unset, .unset, .unset] [(.long (((v1 * (16 : Int64)) + (15 : Int64)) - ((p3 &&& (15 : Int32)).toInt64)))])) rfl (hb hby at_138) _ ?_
        show Steps p.tables e below (T8.setTop (mkF m 141 #[.val (.long q0), .second, .val (.int p1), .val (.long q2), .second, .val (.int p3), .val (.int p4), .val (.long (q0 &&& (2147483647 : Int64))), .second, .val (.int (p1 &&& (15 : Int32))), .val (.int (p3 &&& (15 : Int32))), .val (.int (p4 &&& (3 : Int32))), .val (.long v1), .second, .val (.long ((((q0 &&& (2147483647 : Int64)) * (16 : Int64)) + (15 : Int64)) - ((p1 &&& (15 : Int32)).toInt64))), .second, .val (.long (((v1 * (16 : Int64)) + (15 : Int64)) - ((p3 &&& (15 : Int32)).toInt64))), .second, .val (.int v2), .unset, .unset, .unset, .unset] [(.long (15 : Int64)), (.long (((v1 * (16 : Int64)) + (15 : Int64)) - ((p3 &&& (15 : Int32)).toInt64)))])) _
        refine XS.land X8.here hx rfl (hb hby at_141) rfl ?_
        show Steps p.tables e below (T8.setTop (mkF m 142 #[.val (.long q0), .second, .val (.int p1), .val (.long q2), .second, .val (.int p3), .val (.int p4), .val (.long (q0 &&& (2147483647 : Int64))), .second, .val (.int (p1 &&& (15 : Int32))), .val (.int (p3 &&& (15 : Int32))), .val (.int (p4 &&& (3 : Int32))), .val (.long v1), .second, .val (.long ((((q0 &&& (2147483647 : Int64)) * (16 : Int64)) + (15 : Int64)) - ((p1 &&& (15 : Int32)).toInt64))), .second, .val (.long (((v1 * (16 : Int64)) + (15 : Int64)) - ((p3 &&& (15 : Int32)).toInt64))), .second, .val (.int v2), .unset, .unset, .unset, .unset] [(.long ((((v1 * (16 : Int64)) + (15 : Int64)) - ((p3 &&& (15 : Int32)).toInt64)) &&& (15 : Int64)))])) _
        refine XS.bipush X8.here hx rfl (hb hby at_142) ?_
        show Steps p.tables e below (T8.setTop (mkF m 144 #[.val (.long q0), .second, .val (.int p1), .val (.long q2), .second, .val (.int p3), .val (.int p4), .val (.long (q0 &&& (2147483647 : Int64))), .second, .val (.int (p1 &&& (15 : Int32))), .val (.int (p3 &&& (15 : Int32))), .val (.int (p4 &&& (3 : Int32))), .val (.long v1), .second, .val (.long ((((q0 &&& (2147483647 : Int64)) * (16 : Int64)) + (15 : Int64)) - ((p1 &&& (15 : Int32)).toInt64))), .second, .val (.long (((v1 * (16 : Int64)) + (15 : Int64)) - ((p3 &&& (15 : Int32)).toInt64))), .second, .val (.int v2), .unset, .unset, .unset, .unset] [(.int (15 : Int32)), (.long ((((v1 * (16 : Int64)) + (15 : Int64)) - ((p3 &&& (15 : Int32)).toInt64)) &&& (15 : Int64)))])) _
        refine XS.iload X8.here hx rfl (hb hby at_144) rfl ?_
        show Steps p.tables e below (T8.setTop (mkF m 146 #[.val (.long q0), .second, .val (.int p1), .val (.long q2), .second, .val (.int p3), .val (.int p4), .val (.long (q0 &&& (2147483647 : Int64))), .second, .val (.int (p1 &&& (15 : Int32))), .val (.int (p3 &&& (15 : Int32))), .val (.int (p4 &&& (3 : Int32))), .val (.long v1), .second, .val (.long ((((q0 &&& (2147483647 : Int64)) * (16 : Int64)) + (15 : Int64)) - ((p1 &&& (15 : Int32)).toInt64))), .second, .val (.long (((v1 * (16 : Int64)) + (15 : Int64)) - ((p3 &&& (15 : Int32)).toInt64))), .second, .val (.int v2), .unset, .unset, .unset, .unset] [(.int (p3 &&& (15 : Int32))), (.int (15 : Int32)), (.long ((((v1 * (16 : Int64)) + (15 : Int64)) - ((p3 &&& (15 : Int32)).toInt64)) &&& (15 : Int64)))])) _
        refine XS.isub X8.here hx rfl (hb hby at_146) rfl ?_
        show Steps p.tables e below (T8.setTop (mkF m 147 #[.val (.long q0), .second, .val (.int p1), .val (.long q2), .second, .val (.int p3), .val (.int p4), .val (.long (q0 &&& (2147483647 : Int64))), .second, .val (.int (p1 &&& (15 : Int32))), .val (.int (p3 &&& (15 : Int32))), .val (.int (p4 &&& (3 : Int32))), .val (.long v1), .second, .val (.long ((((q0 &&& (2147483647 : Int64)) * (16 : Int64)) + (15 : Int64)) - ((p1 &&& (15 : Int32)).toInt64))), .second, .val (.long (((v1 * (16 : Int64)) + (15 : Int64)) - ((p3 &&& (15 : Int32)).toInt64))), .second, .val (.int v2), .unset, .unset, .unset, .unset] [(.int ((15 : Int32) - (p3 &&& (15 : Int32)))), (.long ((((v1 * (16 : Int64)) + (15 : Int64)) - ((p3 &&& (15 : Int32)).toInt64)) &&& (15 : Int64)))])) _
        refine XS.i2l X8.here hx rfl (hb hby at_147) rfl ?_
        show Steps p.tables e below (T8.setTop (mkF m 148 #[.val (.long q0), .second, .val (.int p1), .val (.long q2), .second, .val (.int p3), .val (.int p4), .val (.long (q0 &&& (2147483647 : Int64))), .second, .val (.int (p1 &&& (15 : Int32))), .val (.int (p3 &&& (15 : Int32))), .val (.int (p4 &&& (3 : Int32))), .val (.long v1), .second, .val (.long ((((q0 &&& (2147483647 : Int64)) * (16 : Int64)) + (15 : Int64)) - ((p1 &&& (15 : Int32)).toInt64))), .second, .val (.long (((v1 * (16 : Int64)) + (15 : Int64)) - ((p3 &&& (15 : Int32)).toInt64))), .second, .val (.int v2), .unset, .unset, .unset, .unset] [(.long (((15 : Int32) - (p3 &&& (15 : Int32))).toInt64)), (.long ((((v1 * (16 : Int64)) + (15 : Int64)) - ((p3 &&& (15 : Int32)).toInt64)) &&& (15 : Int64)))])) _
        refine XS.lcmp X8.here hx rfl (hb hby at_148) rfl ?_
        show Steps p.tables e below (T8.setTop (mkF m 149 #[.val (.long q0), .second, .val (.int p1), .val (.long q2), .second, .val (.int p3), .val (.int p4), .val (.long (q0 &&& (2147483647 : Int64))), .second, .val (.int (p1 &&& (15 : Int32))), .val (.int (p3 &&& (15 : Int32))), .val (.int (p4 &&& (3 : Int32))), .val (.long v1), .second, .val (.long ((((q0 &&& (2147483647 : Int64)) * (16 : Int64)) + (15 : Int64)) - ((p1 &&& (15 : Int32)).toInt64))), .second, .val (.long (((v1 * (16 : Int64)) + (15 : Int64)) - ((p3 &&& (15 : Int32)).toInt64))), .second, .val (.int v2), .unset, .unset, .unset, .unset] [(.int (lcmpW ((((v1 * (16 : Int64)) + (15 : Int64)) - ((p3 &&& (15 : Int32)).toInt64)) &&& (15 : Int64)) (((15 : Int32) - (p3 &&& (15 : Int32))).toInt64)))])) _
        by_cases hc18 : ((((v1 * (16 : Int64)) + (15 : Int64)) - ((p3 &&& (15 : Int32)).toInt64)) &&& (15 : Int64)) = (((15 : Int32) - (p3 &&& (15 : Int32))).toInt64)
        · rw [if_pos hc18] at hv3
          refine XS.ifNo X8.here hx rfl (hb hby at_149) rfl ((if0 _ _).trans (teq (own_lwE hc18)).2) ?_
          show Steps p.tables e below (T8.setTop (mkF m 152 #[.val (.long q0), .second, .val (.int p1), .val (.long q2), .second, .val (.int p3), .val (.int p4), .val (.long (q0 &&& (2147483647 : Int64))), .second, .val (.int (p1 &&& (15 : Int32))), .val (.int (p3 &&& (15 : Int32))), .val (.int (p4 &&& (3 : Int32))), .val (.long v1), .second, .val (.long ((((q0 &&& (2147483647 : Int64)) * (16 : Int64)) + (15 : Int64)) - ((p1 &&& (15 : Int32)).toInt64))), .second, .val (.long (((v1 * (16 : Int64)) + (15 : Int64)) - ((p3 &&& (15 : Int32)).toInt64))), .second, .val (.int v2), .unset, .unset, .unset, .unset] [])) _
          refine XS.iconst X8.here hx rfl (hb hby at_152) ?_
          show Steps p.tables e below (T8.setTop (mkF m 153 #[.val (.long q0), .second, .val (.int p1), .val (.long q2), .second, .val (.int p3), .val (.int p4), .val (.long (q0 &&& (2147483647 : Int64))), .second, .val (.int (p1 &&& (15 : Int32))), .val (.int (p3 &&& (15 : Int32))), .val (.int (p4 &&& (3 : Int32))), .val (.long v1), .second, .val (.long ((((q0 &&& (2147483647 : Int64)) * (16 : Int64)) + (15 : Int64)) - ((p1 &&& (15 : Int32)).toInt64))), .second, .val (.long (((v1 * (16 : Int64)) + (15 : Int64)) - ((p3 &&& (15 : Int32)).toInt64))), .second, .val (.int v2), .unset, .unset, .unset, .unset] [(.int (1 : Int32))])) _
          refine XS.goto X8.here hx rfl (pc0 := 153) (pc' := 157) rfl (hb hby at_153) (by decide) (by decide) ?_
          subst hv3
          exact kt
        · rw [if_neg hc18] at hv3
          refine XS.ifYes X8.here hx rfl (pc0 := 149) (pc' := 156) rfl (hb hby at_149) rfl ((if0 _ _).trans (feq (own_lwN hc18)).2) (by decide) (by decide) ?_
          show Steps p.tables e below (T8.setTop (mkF m 156 #[.val (.long q0), .second, .val (.int p1), .val (.long q2), .second, .val (.int p3), .val (.int p4), .val (.long (q0 &&& (2147483647 : Int64))), .second, .val (.int (p1 &&& (15 : Int32))), .val (.int (p3 &&& (15 : Int32))), .val (.int (p4 &&& (3 : Int32))), .val (.long v1), .second, .val (.long ((((q0 &&& (2147483647 : Int64)) * (16 : Int64)) + (15 : Int64)) - ((p1 &&& (15 : Int32)).toInt64))), .second, .val (.long (((v1 * (16 : Int64)) + (15 : Int64)) - ((p3 &&& (15 : Int32)).toInt64))), .second, .val (.int v2), .unset, .unset, .unset, .unset] [])) _
          refine XS.iconst X8.here hx rfl (hb hby at_156) ?_
          subst hv3
          exact kt
      · rw [if_neg hc17] at hv3
        refine XS.ifYes X8.here hx rfl (pc0 := 133) (pc' := 156) rfl (hb hby at_133) rfl ((if0 _ _).trans (feq (own_lwN hc17)).2) (by decide) (by decide) ?_
        show Steps p.tables e below (T8.setTop (mkF m 156 #[.val (.long q0), .second, .val (.int p1), .val (.long q2), .second, .val (.int p3), .val (.int p4), .val (.long (q0 &&& (2147483647 : Int64))), .second, .val (.int (p1 &&& (15 : Int32))), .val (.int (p3 &&& (15 : Int32))), .val (.int (p4 &&& (3 : Int32))), .val (.long v1), .second, .val (.long ((((q0 &&& (2147483647 : Int64)) * (16 : Int64)) + (15 : Int64)) - ((p1 &&& (15 : Int32)).toInt64))), .second, .val (.long (((v1 * (16 : Int64)) + (15 : Int64)) - ((p3 &&& (15 : Int32)).toInt64))), .second, .val (.int v2), .unset, .unset, .unset, .unset] [])) _
        refine XS.iconst X8.here hx rfl (hb hby at_156) ?_
        subst hv3
        exact kt
  have pre20 : ∀ t, Steps p.tables e below (T8.setTop (mkF m 164 #[.val (.long q0), .second, .val (.int p1), .val (.long q2), .second, .val (.int p3), .val (.int p4), .val (.long (q0 &&& (2147483647 : Int64))), .second, .val (.int (p1 &&& (15 : Int32))), .val (.int (p3 &&& (15 : Int32))), .val (.int (p4 &&& (3 : Int32))), .val (.long v1), .second, .val (.long ((((q0 &&& (2147483647 : Int64)) * (16 : Int64)) + (15 : Int64)) - ((p1 &&& (15 : Int32)).toInt64))), .second, .val (.long (((v1 * (16 : Int64)) + (15 : Int64)) - ((p3 &&& (15 : Int32)).toInt64))), .second, .val (.int v2), .val (.int v3), .unset, .unset, .unset] [(.int (lcmpW (q0 &&& (2147483647 : Int64)) v1))])) t → Steps p.tables e below (s₁.setTop (entryFrame m #[(.long q0), (.int p1), (.long q2), (.int p3), (.int p4)] maxLocals)) t := fun t kt => by
    refine pre19 _ ?_
    show Steps p.tables e below (T8.setTop (mkF m 157 #[.val (.long q0), .second, .val (.int p1), .val (.long q2), .second, .val (.int p3), .val (.int p4), .val (.long (q0 &&& (2147483647 : Int64))), .second, .val (.int (p1 &&& (15 : Int32))), .val (.int (p3 &&& (15 : Int32))), .val (.int (p4 &&& (3 : Int32))), .val (.long v1), .second, .val (.long ((((q0 &&& (2147483647 : Int64)) * (16 : Int64)) + (15 : Int64)) - ((p1 &&& (15 : Int32)).toInt64))), .second, .val (.long (((v1 * (16 : Int64)) + (15 : Int64)) - ((p3 &&& (15 : Int32)).toInt64))), .second, .val (.int v2), .unset, .unset, .unset, .unset] [(.int v3)])) _
    refine XS.istore X8.here hx rfl (hb hby at_157) rfl (l' := #[.val (.long q0), .second, .val (.int p1), .val (.long q2), .second, .val (.int p3), .val (.int p4), .val (.long (q0 &&& (2147483647 : Int64))), .second, .val (.int (p1 &&& (15 : Int32))), .val (.int (p3 &&& (15 : Int32))), .val (.int (p4 &&& (3 : Int32))), .val (.long v1), .second, .val (.long ((((q0 &&& (2147483647 : Int64)) * (16 : Int64)) + (15 : Int64)) - ((p1 &&& (15 : Int32)).toInt64))), .second, .val (.long (((v1 * (16 : Int64)) + (15 : Int64)) - ((p3 &&& (15 : Int32)).toInt64))), .second, .val (.int v2), .val (.int v3), .unset, .unset, .unset]) rfl ?_
    show Steps p.tables e below (T8.setTop (mkF m 159 #[.val (.long q0), .second, .val (.int p1), .val (.long q2), .second, .val (.int p3), .val (.int p4), .val (.long (q0 &&& (2147483647 : Int64))), .second, .val (.int (p1 &&& (15 : Int32))), .val (.int (p3 &&& (15 : Int32))), .val (.int (p4 &&& (3 : Int32))), .val (.long v1), .second, .val (.long ((((q0 &&& (2147483647 : Int64)) * (16 : Int64)) + (15 : Int64)) - ((p1 &&& (15 : Int32)).toInt64))), .second, .val (.long (((v1 * (16 : Int64)) + (15 : Int64)) - ((p3 &&& (15 : Int32)).toInt64))), .second, .val (.int v2), .val (.int v3), .unset, .unset, .unset] [])) _
    refine XS.lload X8.here hx rfl (hb hby at_159) rfl ?_
    show Steps p.tables e below (T8.setTop (mkF m 161 #[.val (.long q0), .second, .val (.int p1), .val (.long q2), .second, .val (.int p3), .val (.int p4), .val (.long (q0 &&& (2147483647 : Int64))), .second, .val (.int (p1 &&& (15 : Int32))), .val (.int (p3 &&& (15 : Int32))), .val (.int (p4 &&& (3 : Int32))), .val (.long v1), .second, .val (.long ((((q0 &&& (2147483647 : Int64)) * (16 : Int64)) + (15 : Int64)) - ((p1 &&& (15 : Int32)).toInt64))), .second, .val (.long (((v1 * (16 : Int64)) + (15 : Int64)) - ((p3 &&& (15 : Int32)).toInt64))), .second, .val (.int v2), .val (.int v3), .unset, .unset, .unset] [(.long (q0 &&& (2147483647 : Int64)))])) _
    refine XS.lload X8.here hx rfl (hb hby at_161) rfl ?_
    show Steps p.tables e below (T8.setTop (mkF m 163 #[.val (.long q0), .second, .val (.int p1), .val (.long q2), .second, .val (.int p3), .val (.int p4), .val (.long (q0 &&& (2147483647 : Int64))), .second, .val (.int (p1 &&& (15 : Int32))), .val (.int (p3 &&& (15 : Int32))), .val (.int (p4 &&& (3 : Int32))), .val (.long v1), .second, .val (.long ((((q0 &&& (2147483647 : Int64)) * (16 : Int64)) + (15 : Int64)) - ((p1 &&& (15 : Int32)).toInt64))), .second, .val (.long (((v1 * (16 : Int64)) + (15 : Int64)) - ((p3 &&& (15 : Int32)).toInt64))), .second, .val (.int v2), .val (.int v3), .unset, .unset, .unset] [(.long v1), (.long (q0 &&& (2147483647 : Int64)))])) _
    refine XS.lcmp X8.here hx rfl (hb hby at_163) rfl ?_
    show Steps p.tables e below (T8.setTop (mkF m 164 #[.val (.long q0), .second, .val (.int p1), .val (.long q2), .second, .val (.int p3), .val (.int p4), .val (.long (q0 &&& (2147483647 : Int64))), .second, .val (.int (p1 &&& (15 : Int32))), .val (.int (p3 &&& (15 : Int32))), .val (.int (p4 &&& (3 : Int32))), .val (.long v1), .second, .val (.long ((((q0 &&& (2147483647 : Int64)) * (16 : Int64)) + (15 : Int64)) - ((p1 &&& (15 : Int32)).toInt64))), .second, .val (.long (((v1 * (16 : Int64)) + (15 : Int64)) - ((p3 &&& (15 : Int32)).toInt64))), .second, .val (.int v2), .val (.int v3), .unset, .unset, .unset] [(.int (lcmpW (q0 &&& (2147483647 : Int64)) v1))])) _
    exact kt
  obtain ⟨v4, hv4⟩ : ∃ z : Int32, z = (if (q0 &&& (2147483647 : Int64)) < v1 then (1 : Int32) else (if (q0 &&& (2147483647 : Int64)) = v1 then (if (p3 &&& (15 : Int32)) < (p1 &&& (15 : Int32)) then (1 : Int32) else (0 : Int32)) else (0 : Int32))) := ⟨_, rfl⟩
  have pre24 : ∀ t, Steps p.tables e below (T8.setTop (mkF m 187 #[.val (.long q0), .second, .val (.int p1), .val (.long q2), .second, .val (.int p3), .val (.int p4), .val (.long (q0 &&& (2147483647 : Int64))), .second, .val (.int (p1 &&& (15 : Int32))), .val (.int (p3 &&& (15 : Int32))), .val (.int (p4 &&& (3 : Int32))), .val (.long v1), .second, .val (.long ((((q0 &&& (2147483647 : Int64)) * (16 : Int64)) + (15 : Int64)) - ((p1 &&& (15 : Int32)).toInt64))), .second, .val (.long (((v1 * (16 : Int64)) + (15 : Int64)) - ((p3 &&& (15 : Int32)).toInt64))), .second, .val (.int v2), .val (.int v3), .unset, .unset, .unset] [(.int v4)])) t → Steps p.tables e below (s₁.setTop (entryFrame m #[(.long q0), (.int p1), (.long q2), (.int p3), (.int p4)] maxLocals)) t := fun t kt => by
    refine pre20 _ ?_
    show Steps p.tables e below (T8.setTop (mkF m 164 #[.val (.long q0), .second, .val (.int p1), .val (.long q2), .second, .val (.int p3), .val (.int p4), .val (.long (q0 &&& (2147483647 : Int64))), .second, .val (.int (p1 &&& (15 : Int32))), .val (.int (p3 &&& (15 : Int32))), .val (.int (p4 &&& (3 : Int32))), .val (.long v1), .second, .val (.long ((((q0 &&& (2147483647 : Int64)) * (16 : Int64)) + (15 : Int64)) - ((p1 &&& (15 : Int32)).toInt64))), .second, .val (.long (((v1 * (16 : Int64)) + (15 : Int64)) - ((p3 &&& (15 : Int32)).toInt64))), .second, .val (.int v2), .val (.int v3), .unset, .unset, .unset] [(.int (lcmpW (q0 &&& (2147483647 : Int64)) v1))])) _
    by_cases hc21 : (q0 &&& (2147483647 : Int64)) < v1
    · rw [if_pos hc21] at hv4
      refine XS.ifYes X8.here hx rfl (pc0 := 164) (pc' := 182) rfl (hb hby at_164) rfl ((if0 _ _).trans (tlt (own_lwL hc21)).1) (by decide) (by decide) ?_
      show Steps p.tables e below (T8.setTop (mkF m 182 #[.val (.long q0), .second, .val (.int p1), .val (.long q2), .second, .val (.int p3), .val (.int p4), .val (.long (q0 &&& (2147483647 : Int64))), .second, .val (.int (p1 &&& (15 : Int32))), .val (.int (p3 &&& (15 : Int32))), .val (.int (p4 &&& (3 : Int32))), .val (.long v1), .second, .val (.long ((((q0 &&& (2147483647 : Int64)) * (16 : Int64)) + (15 : Int64)) - ((p1 &&& (15 : Int32)).toInt64))), .second, .val (.long (((v1 * (16 : Int64)) + (15 : Int64)) - ((p3 &&& (15 : Int32)).toInt64))), .second, .val (.int v2), .val (.int v3), .unset, .unset, .unset] [])) _
      refine XS.iconst X8.here hx rfl (hb hby at_182) ?_
      show Steps p.tables e below (T8.setTop (mkF m 183 #[.val (.long q0), .second, .val (.int p1), .val (.long q2), .second, .val (.int p3), .val (.int p4), .val (.long (q0 &&& (2147483647 : Int64))), .second, .val (.int (p1 &&& (15 : Int32))), .val (.int (p3 &&& (15 : Int32))), .val (.int (p4 &&& (3 : Int32))), .val (.long v1), .second, .val (.long ((((q0 &&& (2147483647 : Int64)) * (16 : Int64)) + (15 : Int64)) - ((p1 &&& (15 : Int32)).toInt64))), .second, .val (.long (((v1 * (16 : Int64)) + (15 : Int64)) - ((p3 &&& (15 : Int32)).toInt64))), .second, .val (.int v2), .val (.int v3), .unset, .unset, .unset] [(.int (1 : Int32))])) _
      refine XS.goto X8.here hx rfl (pc0 := 183) (pc' := 187) rfl (hb hby at_183) (by decide) (by decide) ?_
      subst hv4
      exact kt
    · rw [if_neg hc21] at hv4
      refine XS.ifNo X8.here hx rfl (hb hby at_164) rfl ((if0 _ _).trans (flt (own_lwM hc21)).1) ?_
      show Steps p.tables e below (T8.setTop (mkF m 167 #[.val (.long q0), .second, .val (.int p1), .val (.long q2), .second, .val (.int p3), .val (.int p4), .val (.long (q0 &&& (2147483647 : Int64))), .second, .val (.int (p1 &&& (15 : Int32))), .val (.int (p3 &&& (15 : Int32))), .val (.int (p4 &&& (3 : Int32))), .val (.long v1), .second, .val (.long ((((q0 &&& (2147483647 : Int64)) * (16 : Int64)) + (15 : Int64)) - ((p1 &&& (15 : Int32)).toInt64))), .second, .val (.long (((v1 * (16 : Int64)) + (15 : Int64)) - ((p3 &&& (15 : Int32)).toInt64))), .second, .val (.int v2), .val (.int v3), .unset, .unset, .unset] [])) _
      refine XS.lload X8.here hx rfl (hb hby at_167) rfl ?_
      show Steps p.tables e below (T8.setTop (mkF m 169 #[.val (.long q0), .second, .val (.int p1), .val (.long q2), .second, .val (.int p3), .val (.int p4), .val (.long (q0 &&& (2147483647 : Int64))), .second, .val (.int (p1 &&& (15 : Int32))), .val (.int (p3 &&& (15 : Int32))), .val (.int (p4 &&& (3 : Int32))), .val (.long v1), .second, .val (.long ((((q0 &&& (2147483647 : Int64)) * (16 : Int64)) + (15 : Int64)) - ((p1 &&& (15 : Int32)).toInt64))), .second, .val (.long (((v1 * (16 : Int64)) + (15 : Int64)) - ((p3 &&& (15 : Int32)).toInt64))), .second, .val (.int v2), .val (.int v3), .unset, .unset, .unset] [(.long (q0 &&& (2147483647 : Int64)))])) _
      refine XS.lload X8.here hx rfl (hb hby at_169) rfl ?_
      show Steps p.tables e below (T8.setTop (mkF m 171 #[.val (.long q0), .second, .val (.int p1), .val (.long q2), .second, .val (.int p3), .val (.int p4), .val (.long (q0 &&& (2147483647 : Int64))), .second, .val (.int (p1 &&& (15 : Int32))), .val (.int (p3 &&& (15 : Int32))), .val (.int (p4 &&& (3 : Int32))), .val (.long v1), .second, .val (.long ((((q0 &&& (2147483647 : Int64)) * (16 : Int64)) + (15 : Int64)) - ((p1 &&& (15 : Int32)).toInt64))), .second, .val (.long (((v1 * (16 : Int64)) + (15 : Int64)) - ((p3 &&& (15 : Int32)).toInt64))), .second, .val (.int v2), .val (.int v3), .unset, .unset, .unset] [(.long v1), (.long (q0 &&& (2147483647 : Int64)))])) _
      refine XS.lcmp X8.here hx rfl (hb hby at_171) rfl ?_
      show Steps p.tables e below (T8.setTop (mkF m 172 #[.val (.long q0), .second, .val (.int p1), .val (.long q2), .second, .val (.int p3), .val (.int p4), .val (.long (q0 &&& (2147483647 : Int64))), .second, .val (.int (p1 &&& (15 : Int32))), .val (.int (p3 &&& (15 : Int32))), .val (.int (p4 &&& (3 : Int32))), .val (.long v1), .second, .val (.long ((((q0 &&& (2147483647 : Int64)) * (16 : Int64)) + (15 : Int64)) - ((p1 &&& (15 : Int32)).toInt64))), .second, .val (.long (((v1 * (16 : Int64)) + (15 : Int64)) - ((p3 &&& (15 : Int32)).toInt64))), .second, .val (.int v2), .val (.int v3), .unset, .unset, .unset] [(.int (lcmpW (q0 &&& (2147483647 : Int64)) v1))])) _
      by_cases hc22 : (q0 &&& (2147483647 : Int64)) = v1
      · rw [if_pos hc22] at hv4
        refine XS.ifNo X8.here hx rfl (hb hby at_172) rfl ((if0 _ _).trans (teq (own_lwE hc22)).2) ?_
        show Steps p.tables e below (T8.setTop (mkF m 175 #[.val (.long q0), .second, .val (.int p1), .val (.long q2), .second, .val (.int p3), .val (.int p4), .val (.long (q0 &&& (2147483647 : Int64))), .second, .val (.int (p1 &&& (15 : Int32))), .val (.int (p3 &&& (15 : Int32))), .val (.int (p4 &&& (3 : Int32))), .val (.long v1), .second, .val (.long ((((q0 &&& (2147483647 : Int64)) * (16 : Int64)) + (15 : Int64)) - ((p1 &&& (15 : Int32)).toInt64))), .second, .val (.long (((v1 * (16 : Int64)) + (15 : Int64)) - ((p3 &&& (15 : Int32)).toInt64))), .second, .val (.int v2), .val (.int v3), .unset, .unset, .unset] [])) _
        refine XS.iload X8.here hx rfl (hb hby at_175) rfl ?_
        show Steps p.tables e below (T8.setTop (mkF m 177 #[.val (.long q0), .second, .val (.int p1), .val (.long q2), .second, .val (.int p3), .val (.int p4), .val (.long (q0 &&& (2147483647 : Int64))), .second, .val (.int (p1 &&& (15 : Int32))), .val (.int (p3 &&& (15 : Int32))), .val (.int (p4 &&& (3 : Int32))), .val (.long v1), .second, .val (.long ((((q0 &&& (2147483647 : Int64)) * (16 : Int64)) + (15 : Int64)) - ((p1 &&& (15 : Int32)).toInt64))), .second, .val (.long (((v1 * (16 : Int64)) + (15 : Int64)) - ((p3 &&& (15 : Int32)).toInt64))), .second, .val (.int v2), .val (.int v3), .unset, .unset, .unset] [(.int (p1 &&& (15 : Int32)))])) _
        refine XS.iload X8.here hx rfl (hb hby at_177) rfl ?_
        show Steps p.tables e below (T8.setTop (mkF m 179 #[.val (.long q0), .second, .val (.int p1), .val (.long q2), .second, .val (.int p3), .val (.int p4), .val (.long (q0 &&& (2147483647 : Int64))), .second, .val (.int (p1 &&& (15 : Int32))), .val (.int (p3 &&& (15 : Int32))), .val (.int (p4 &&& (3 : Int32))), .val (.long v1), .second, .val (.long ((((q0 &&& (2147483647 : Int64)) * (16 : Int64)) + (15 : Int64)) - ((p1 &&& (15 : Int32)).toInt64))), .second, .val (.long (((v1 * (16 : Int64)) + (15 : Int64)) - ((p3 &&& (15 : Int32)).toInt64))), .second, .val (.int v2), .val (.int v3), .unset, .unset, .unset] [(.int (p3 &&& (15 : Int32))), (.int (p1 &&& (15 : Int32)))])) _
        by_cases hc23 : (p3 &&& (15 : Int32)) < (p1 &&& (15 : Int32))
        · rw [if_pos hc23] at hv4
          refine XS.icmpNo X8.here hx rfl (hb hby at_179) rfl (tlt hc23).2.2.2 ?_
          show Steps p.tables e below (T8.setTop (mkF m 182 #[.val (.long q0), .second, .val (.int p1), .val (.long q2), .second, .val (.int p3), .val (.int p4), .val (.long (q0 &&& (2147483647 : Int64))), .second, .val (.int (p1 &&& (15 : Int32))), .val (.int (p3 &&& (15 : Int32))), .val (.int (p4 &&& (3 : Int32))), .val (.long v1), .second, .val (.long ((((q0 &&& (2147483647 : Int64)) * (16 : Int64)) + (15 : Int64)) - ((p1 &&& (15 : Int32)).toInt64))), .second, .val (.long (((v1 * (16 : Int64)) + (15 : Int64)) - ((p3 &&& (15 : Int32)).toInt64))), .second, .val (.int v2), .val (.int v3), .unset, .unset, .unset] [])) _
          refine XS.iconst X8.here hx rfl (hb hby at_182) ?_
          show Steps p.tables e below (T8.setTop (mkF m 183 #[.val (.long q0), .second, .val (.int p1), .val (.long q2), .second, .val (.int p3), .val (.int p4), .val (.long (q0 &&& (2147483647 : Int64))), .second, .val (.int (p1 &&& (15 : Int32))), .val (.int (p3 &&& (15 : Int32))), .val (.int (p4 &&& (3 : Int32))), .val (.long v1), .second, .val (.long ((((q0 &&& (2147483647 : Int64)) * (16 : Int64)) + (15 : Int64)) - ((p1 &&& (15 : Int32)).toInt64))), .second, .val (.long (((v1 * (16 : Int64)) + (15 : Int64)) - ((p3 &&& (15 : Int32)).toInt64))), .second, .val (.int v2), .val (.int v3), .unset, .unset, .unset] [(.int (1 : Int32))])) _
          refine XS.goto X8.here hx rfl (pc0 := 183) (pc' := 187) rfl (hb hby at_183) (by decide) (by decide) ?_
          subst hv4
          exact kt
        · rw [if_neg hc23] at hv4
          refine XS.icmpYes X8.here hx rfl (pc0 := 179) (pc' := 186) rfl (hb hby at_179) rfl (flt hc23).2.2.2 (by decide) (by decide) ?_
          show Steps p.tables e below (T8.setTop (mkF m 186 #[.val (.long q0), .second, .val (.int p1), .val (.long q2), .second, .val (.int p3), .val (.int p4), .val (.long (q0 &&& (2147483647 : Int64))), .second, .val (.int (p1 &&& (15 : Int32))), .val (.int (p3 &&& (15 : Int32))), .val (.int (p4 &&& (3 : Int32))), .val (.long v1), .second, .val (.long ((((q0 &&& (2147483647 : Int64)) * (16 : Int64)) + (15 : Int64)) - ((p1 &&& (15 : Int32)).toInt64))), .second, .val (.long (((v1 * (16 : Int64)) + (15 : Int64)) - ((p3 &&& (15 : Int32)).toInt64))), .second, .val (.int v2), .val (.int v3), .unset, .unset, .unset] [])) _
          refine XS.iconst X8.here hx rfl (hb hby at_186) ?_
          subst hv4
          exact kt
      · rw [if_neg hc22] at hv4
        refine XS.ifYes X8.here hx rfl (pc0 := 172) (pc' := 186) rfl (hb hby at_172) rfl ((if0 _ _).trans (feq (own_lwN hc22)).2) (by decide) (by decide) ?_
        show Steps p.tables e below (T8.setTop (mkF m 186 #[.val (.long q0), .second, .val (.int p1), .val (.long q2), .second, .val (.int p3), .val (.int p4), .val (.long (q0 &&& (2147483647 : Int64))), .second, .val (.int (p1 &&& (15 : Int32))), .val (.int (p3 &&& (15 : Int32))), .val (.int (p4 &&& (3 : Int32))), .val (.long v1), .second, .val (.long ((((q0 &&& (2147483647 : Int64)) * (16 : Int64)) + (15 : Int64)) - ((p1 &&& (15 : Int32)).toInt64))), .second, .val (.long (((v1 * (16 : Int64)) + (15 : Int64)) - ((p3 &&& (15 : Int32)).toInt64))), .second, .val (.int v2), .val (.int v3), .unset, .unset, .unset] [])) _
        refine XS.iconst X8.here hx rfl (hb hby at_186) ?_
        subst hv4
        exact kt
  have pre25 : ∀ t, Steps p.tables e below (T8.setTop (mkF m 194 #[.val (.long q0), .second, .val (.int p1), .val (.long q2), .second, .val (.int p3), .val (.int p4), .val (.long (q0 &&& (2147483647 : Int64))), .second, .val (.int (p1 &&& (15 : Int32))), .val (.int (p3 &&& (15 : Int32))), .val (.int (p4 &&& (3 : Int32))), .val (.long v1), .second, .val (.long ((((q0 &&& (2147483647 : Int64)) * (16 : Int64)) + (15 : Int64)) - ((p1 &&& (15 : Int32)).toInt64))), .second, .val (.long (((v1 * (16 : Int64)) + (15 : Int64)) - ((p3 &&& (15 : Int32)).toInt64))), .second, .val (.int v2), .val (.int v3), .val (.int v4), .unset, .unset] [(.int (lcmpW (q0 &&& (2147483647 : Int64)) v1))])) t → Steps p.tables e below (s₁.setTop (entryFrame m #[(.long q0), (.int p1), (.long q2), (.int p3), (.int p4)] maxLocals)) t := fun t kt => by
    refine pre24 _ ?_
    show Steps p.tables e below (T8.setTop (mkF m 187 #[.val (.long q0), .second, .val (.int p1), .val (.long q2), .second, .val (.int p3), .val (.int p4), .val (.long (q0 &&& (2147483647 : Int64))), .second, .val (.int (p1 &&& (15 : Int32))), .val (.int (p3 &&& (15 : Int32))), .val (.int (p4 &&& (3 : Int32))), .val (.long v1), .second, .val (.long ((((q0 &&& (2147483647 : Int64)) * (16 : Int64)) + (15 : Int64)) - ((p1 &&& (15 : Int32)).toInt64))), .second, .val (.long (((v1 * (16 : Int64)) + (15 : Int64)) - ((p3 &&& (15 : Int32)).toInt64))), .second, .val (.int v2), .val (.int v3), .unset, .unset, .unset] [(.int v4)])) _
    refine XS.istore X8.here hx rfl (hb hby at_187) rfl (l' := #[.val (.long q0), .second, .val (.int p1), .val (.long q2), .second, .val (.int p3), .val (.int p4), .val (.long (q0 &&& (2147483647 : Int64))), .second, .val (.int (p1 &&& (15 : Int32))), .val (.int (p3 &&& (15 : Int32))), .val (.int (p4 &&& (3 : Int32))), .val (.long v1), .second, .val (.long ((((q0 &&& (2147483647 : Int64)) * (16 : Int64)) + (15 : Int64)) - ((p1 &&& (15 : Int32)).toInt64))), .second, .val (.long (((v1 * (16 : Int64)) + (15 : Int64)) - ((p3 &&& (15 : Int32)).toInt64))), .second, .val (.int v2), .val (.int v3), .val (.int v4), .unset, .unset]) rfl ?_
    show Steps p.tables e below (T8.setTop (mkF m 189 #[.val (.long q0), .second, .val (.int p1), .val (.long q2), .second, .val (.int p3), .val (.int p4), .val (.long (q0 &&& (2147483647 : Int64))), .second, .val (.int (p1 &&& (15 : Int32))), .val (.int (p3 &&& (15 : Int32))), .val (.int (p4 &&& (3 : Int32))), .val (.long v1), .second, .val (.long ((((q0 &&& (2147483647 : Int64)) * (16 : Int64)) + (15 : Int64)) - ((p1 &&& (15 : Int32)).toInt64))), .second, .val (.long (((v1 * (16 : Int64)) + (15 : Int64)) - ((p3 &&& (15 : Int32)).toInt64))), .second, .val (.int v2), .val (.int v3), .val (.int v4), .unset, .unset] [])) _
    refine XS.lload X8.here hx rfl (hb hby at_189) rfl ?_
    show Steps p.tables e below (T8.setTop (mkF m 191 #[.val (.long q0), .second, .val (.int p1), .val (.long q2), .second, .val (.int p3), .val (.int p4), .val (.long (q0 &&& (2147483647 : Int64))), .second, .val (.int (p1 &&& (15 : Int32))), .val (.int (p3 &&& (15 : Int32))), .val (.int (p4 &&& (3 : Int32))), .val (.long v1), .second, .val (.long ((((q0 &&& (2147483647 : Int64)) * (16 : Int64)) + (15 : Int64)) - ((p1 &&& (15 : Int32)).toInt64))), .second, .val (.long (((v1 * (16 : Int64)) + (15 : Int64)) - ((p3 &&& (15 : Int32)).toInt64))), .second, .val (.int v2), .val (.int v3), .val (.int v4), .unset, .unset] [(.long (q0 &&& (2147483647 : Int64)))])) _
    refine XS.lload X8.here hx rfl (hb hby at_191) rfl ?_
    show Steps p.tables e below (T8.setTop (mkF m 193 #[.val (.long q0), .second, .val (.int p1), .val (.long q2), .second, .val (.int p3), .val (.int p4), .val (.long (q0 &&& (2147483647 : Int64))), .second, .val (.int (p1 &&& (15 : Int32))), .val (.int (p3 &&& (15 : Int32))), .val (.int (p4 &&& (3 : Int32))), .val (.long v1), .second, .val (.long ((((q0 &&& (2147483647 : Int64)) * (16 : Int64)) + (15 : Int64)) - ((p1 &&& (15 : Int32)).toInt64))), .second, .val (.long (((v1 * (16 : Int64)) + (15 : Int64)) - ((p3 &&& (15 : Int32)).toInt64))), .second, .val (.int v2), .val (.int v3), .val (.int v4), .unset, .unset] [(.long v1), (.long (q0 &&& (2147483647 : Int64)))])) _
    refine XS.lcmp X8.here hx rfl (hb hby at_193) rfl ?_
    show Steps p.tables e below (T8.setTop (mkF m 194 #[.val (.long q0), .second, .val (.int p1), .val (.long q2), .second, .val (.int p3), .val (.int p4), .val (.long (q0 &&& (2147483647 : Int64))), .second, .val (.int (p1 &&& (15 : Int32))), .val (.int (p3 &&& (15 : Int32))), .val (.int (p4 &&& (3 : Int32))), .val (.long v1), .second, .val (.long ((((q0 &&& (2147483647 : Int64)) * (16 : Int64)) + (15 : Int64)) - ((p1 &&& (15 : Int32)).toInt64))), .second, .val (.long (((v1 * (16 : Int64)) + (15 : Int64)) - ((p3 &&& (15 : Int32)).toInt64))), .second, .val (.int v2), .val (.int v3), .val (.int v4), .unset, .unset] [(.int (lcmpW (q0 &&& (2147483647 : Int64)) v1))])) _
    exact kt
  obtain ⟨v5, hv5⟩ : ∃ z : Int32, z = (if (q0 &&& (2147483647 : Int64)) = v1 then (if (p1 &&& (15 : Int32)) = (p3 &&& (15 : Int32)) then (1 : Int32) else (0 : Int32)) else (0 : Int32)) := ⟨_, rfl⟩
  have pre28 : ∀ t, Steps p.tables e below (T8.setTop (mkF m 209 #[.val (.long q0), .second, .val (.int p1), .val (.long q2), .second, .val (.int p3), .val (.int p4), .val (.long (q0 &&& (2147483647 : Int64))), .second, .val (.int (p1 &&& (15 : Int32))), .val (.int (p3 &&& (15 : Int32))), .val (.int (p4 &&& (3 : Int32))), .val (.long v1), .second, .val (.long ((((q0 &&& (2147483647 : Int64)) * (16 : Int64)) + (15 : Int64)) - ((p1 &&& (15 : Int32)).toInt64))), .second, .val (.long (((v1 * (16 : Int64)) + (15 : Int64)) - ((p3 &&& (15 : Int32)).toInt64))), .second, .val (.int v2), .val (.int v3), .val (.int v4), .unset, .unset] [(.int v5)])) t → Steps p.tables e below (s₁.setTop (entryFrame m #[(.long q0), (.int p1), (.long q2), (.int p3), (.int p4)] maxLocals)) t := fun t kt => by
    refine pre25 _ ?_
    show Steps p.tables e below (T8.setTop (mkF m 194 #[.val (.long q0), .second, .val (.int p1), .val (.long q2), .second, .val (.int p3), .val (.int p4), .val (.long (q0 &&& (2147483647 : Int64))), .second, .val (.int (p1 &&& (15 : Int32))), .val (.int (p3 &&& (15 : Int32))), .val (.int (p4 &&& (3 : Int32))), .val (.long v1), .second, .val (.long ((((q0 &&& (2147483647 : Int64)) * (16 : Int64)) + (15 : Int64)) - ((p1 &&& (15 : Int32)).toInt64))), .second, .val (.long (((v1 * (16 : Int64)) + (15 : Int64)) - ((p3 &&& (15 : Int32)).toInt64))), .second, .val (.int v2), .val (.int v3), .val (.int v4), .unset, .unset] [(.int (lcmpW (q0 &&& (2147483647 : Int64)) v1))])) _
    by_cases hc26 : (q0 &&& (2147483647 : Int64)) = v1
    · rw [if_pos hc26] at hv5
      refine XS.ifNo X8.here hx rfl (hb hby at_194) rfl ((if0 _ _).trans (teq (own_lwE hc26)).2) ?_
      show Steps p.tables e below (T8.setTop (mkF m 197 #[.val (.long q0), .second, .val (.int p1), .val (.long q2), .second, .val (.int p3), .val (.int p4), .val (.long (q0 &&& (2147483647 : Int64))), .second, .val (.int (p1 &&& (15 : Int32))), .val (.int (p3 &&& (15 : Int32))), .val (.int (p4 &&& (3 : Int32))), .val (.long v1), .second, .val (.long ((((q0 &&& (2147483647 : Int64)) * (16 : Int64)) + (15 : Int64)) - ((p1 &&& (15 : Int32)).toInt64))), .second, .val (.long (((v1 * (16 : Int64)) + (15 : Int64)) - ((p3 &&& (15 : Int32)).toInt64))), .second, .val (.int v2), .val (.int v3), .val (.int v4), .unset, .unset] [])) _
      refine XS.iload X8.here hx rfl (hb hby at_197) rfl ?_
      show Steps p.tables e below (T8.setTop (mkF m 199 #[.val (.long q0), .second, .val (.int p1), .val (.long q2), .second, .val (.int p3), .val (.int p4), .val (.long (q0 &&& (2147483647 : Int64))), .second, .val (.int (p1 &&& (15 : Int32))), .val (.int (p3 &&& (15 : Int32))), .val (.int (p4 &&& (3 : Int32))), .val (.long v1), .second, .val (.long ((((q0 &&& (2147483647 : Int64)) * (16 : Int64)) + (15 : Int64)) - ((p1 &&& (15 : Int32)).toInt64))), .second, .val (.long (((v1 * (16 : Int64)) + (15 : Int64)) - ((p3 &&& (15 : Int32)).toInt64))), .second, .val (.int v2), .val (.int v3), .val (.int v4), .unset, .unset] [(.int (p1 &&& (15 : Int32)))])) _
      refine XS.iload X8.here hx rfl (hb hby at_199) rfl ?_
      show Steps p.tables e below (T8.setTop (mkF m 201 #[.val (.long q0), .second, .val (.int p1), .val (.long q2), .second, .val (.int p3), .val (.int p4), .val (.long (q0 &&& (2147483647 : Int64))), .second, .val (.int (p1 &&& (15 : Int32))), .val (.int (p3 &&& (15 : Int32))), .val (.int (p4 &&& (3 : Int32))), .val (.long v1), .second, .val (.long ((((q0 &&& (2147483647 : Int64)) * (16 : Int64)) + (15 : Int64)) - ((p1 &&& (15 : Int32)).toInt64))), .second, .val (.long (((v1 * (16 : Int64)) + (15 : Int64)) - ((p3 &&& (15 : Int32)).toInt64))), .second, .val (.int v2), .val (.int v3), .val (.int v4), .unset, .unset] [(.int (p3 &&& (15 : Int32))), (.int (p1 &&& (15 : Int32)))])) _
      by_cases hc27 : (p1 &&& (15 : Int32)) = (p3 &&& (15 : Int32))
      · rw [if_pos hc27] at hv5
        refine XS.icmpNo X8.here hx rfl (hb hby at_201) rfl (teq hc27).2 ?_
        show Steps p.tables e below (T8.setTop (mkF m 204 #[.val (.long q0), .second, .val (.int p1), .val (.long q2), .second, .val (.int p3), .val (.int p4), .val (.long (q0 &&& (2147483647 : Int64))), .second, .val (.int (p1 &&& (15 : Int32))), .val (.int (p3 &&& (15 : Int32))), .val (.int (p4 &&& (3 : Int32))), .val (.long v1), .second, .val (.long ((((q0 &&& (2147483647 : Int64)) * (16 : Int64)) + (15 : Int64)) - ((p1 &&& (15 : Int32)).toInt64))), .second, .val (.long (((v1 * (16 : Int64)) + (15 : Int64)) - ((p3 &&& (15 : Int32)).toInt64))), .second, .val (.int v2), .val (.int v3), .val (.int v4), .unset, .unset] [])) _
        refine XS.iconst X8.here hx rfl (hb hby at_204) ?_
        show Steps p.tables e below (T8.setTop (mkF m 205 #[.val (.long q0), .second, .val (.int p1), .val (.long q2), .second, .val (.int p3), .val (.int p4), .val (.long (q0 &&& (2147483647 : Int64))), .second, .val (.int (p1 &&& (15 : Int32))), .val (.int (p3 &&& (15 : Int32))), .val (.int (p4 &&& (3 : Int32))), .val (.long v1), .second, .val (.long ((((q0 &&& (2147483647 : Int64)) * (16 : Int64)) + (15 : Int64)) - ((p1 &&& (15 : Int32)).toInt64))), .second, .val (.long (((v1 * (16 : Int64)) + (15 : Int64)) - ((p3 &&& (15 : Int32)).toInt64))), .second, .val (.int v2), .val (.int v3), .val (.int v4), .unset, .unset] [(.int (1 : Int32))])) _
        refine XS.goto X8.here hx rfl (pc0 := 205) (pc' := 209) rfl (hb hby at_205) (by decide) (by decide) ?_
        subst hv5
        exact kt
      · rw [if_neg hc27] at hv5
        refine XS.icmpYes X8.here hx rfl (pc0 := 201) (pc' := 208) rfl (hb hby at_201) rfl (feq hc27).2 (by decide) (by decide) ?_
        show Steps p.tables e below (T8.setTop (mkF m 208 #[.val (.long q0), .second, .val (.int p1), .val (.long q2), .second, .val (.int p3), .val (.int p4), .val (.long (q0 &&& (2147483647 : Int64))), .second, .val (.int (p1 &&& (15 : Int32))), .val (.int (p3 &&& (15 : Int32))), .val (.int (p4 &&& (3 : Int32))), .val (.long v1), .second, .val (.long ((((q0 &&& (2147483647 : Int64)) * (16 : Int64)) + (15 : Int64)) - ((p1 &&& (15 : Int32)).toInt64))), .second, .val (.long (((v1 * (16 : Int64)) + (15 : Int64)) - ((p3 &&& (15 : Int32)).toInt64))), .second, .val (.int v2), .val (.int v3), .val (.int v4), .unset, .unset] [])) _
        refine XS.iconst X8.here hx rfl (hb hby at_208) ?_
        subst hv5
        exact kt
    · rw [if_neg hc26] at hv5
      refine XS.ifYes X8.here hx rfl (pc0 := 194) (pc' := 208) rfl (hb hby at_194) rfl ((if0 _ _).trans (feq (own_lwN hc26)).2) (by decide) (by decide) ?_
      show Steps p.tables e below (T8.setTop (mkF m 208 #[.val (.long q0), .second, .val (.int p1), .val (.long q2), .second, .val (.int p3), .val (.int p4), .val (.long (q0 &&& (2147483647 : Int64))), .second, .val (.int (p1 &&& (15 : Int32))), .val (.int (p3 &&& (15 : Int32))), .val (.int (p4 &&& (3 : Int32))), .val (.long v1), .second, .val (.long ((((q0 &&& (2147483647 : Int64)) * (16 : Int64)) + (15 : Int64)) - ((p1 &&& (15 : Int32)).toInt64))), .second, .val (.long (((v1 * (16 : Int64)) + (15 : Int64)) - ((p3 &&& (15 : Int32)).toInt64))), .second, .val (.int v2), .val (.int v3), .val (.int v4), .unset, .unset] [])) _
      refine XS.iconst X8.here hx rfl (hb hby at_208) ?_
      subst hv5
      exact kt
  have pre29 : ∀ t, Steps p.tables e below (T8.setTop (mkF m 216 #[.val (.long q0), .second, .val (.int p1), .val (.long q2), .second, .val (.int p3), .val (.int p4), .val (.long (q0 &&& (2147483647 : Int64))), .second, .val (.int (p1 &&& (15 : Int32))), .val (.int (p3 &&& (15 : Int32))), .val (.int (p4 &&& (3 : Int32))), .val (.long v1), .second, .val (.long ((((q0 &&& (2147483647 : Int64)) * (16 : Int64)) + (15 : Int64)) - ((p1 &&& (15 : Int32)).toInt64))), .second, .val (.long (((v1 * (16 : Int64)) + (15 : Int64)) - ((p3 &&& (15 : Int32)).toInt64))), .second, .val (.int v2), .val (.int v3), .val (.int v4), .val (.int v5), .unset] [(.int (lcmpW ((((q0 &&& (2147483647 : Int64)) * (16 : Int64)) + (15 : Int64)) - ((p1 &&& (15 : Int32)).toInt64)) (((v1 * (16 : Int64)) + (15 : Int64)) - ((p3 &&& (15 : Int32)).toInt64))))])) t → Steps p.tables e below (s₁.setTop (entryFrame m #[(.long q0), (.int p1), (.long q2), (.int p3), (.int p4)] maxLocals)) t := fun t kt => by
    refine pre28 _ ?_
    show Steps p.tables e below (T8.setTop (mkF m 209 #[.val (.long q0), .second, .val (.int p1), .val (.long q2), .second, .val (.int p3), .val (.int p4), .val (.long (q0 &&& (2147483647 : Int64))), .second, .val (.int (p1 &&& (15 : Int32))), .val (.int (p3 &&& (15 : Int32))), .val (.int (p4 &&& (3 : Int32))), .val (.long v1), .second, .val (.long ((((q0 &&& (2147483647 : Int64)) * (16 : Int64)) + (15 : Int64)) - ((p1 &&& (15 : Int32)).toInt64))), .second, .val (.long (((v1 * (16 : Int64)) + (15 : Int64)) - ((p3 &&& (15 : Int32)).toInt64))), .second, .val (.int v2), .val (.int v3), .val (.int v4), .unset, .unset] [(.int v5)])) _
    refine XS.istore X8.here hx rfl (hb hby at_209) rfl (l' := #[.val (.long q0), .second, .val (.int p1), .val (.long q2), .second, .val (.int p3), .val (.int p4), .val (.long (q0 &&& (2147483647 : Int64))), .second, .val (.int (p1 &&& (15 : Int32))), .val (.int (p3 &&& (15 : Int32))), .val (.int (p4 &&& (3 : Int32))), .val (.long v1), .second, .val (.long ((((q0 &&& (2147483647 : Int64)) * (16 : Int64)) + (15 : Int64)) - ((p1 &&& (15 : Int32)).toInt64))), .second, .val (.long (((v1 * (16 : Int64)) + (15 : Int64)) - ((p3 &&& (15 : Int32)).toInt64))), .second, .val (.int v2), .val (.int v3), .val (.int v4), .val (.int v5), .unset]) rfl ?_
    show Steps p.tables e below (T8.setTop (mkF m 211 #[.val (.long q0), .second, .val (.int p1), .val (.long q2), .second, .val (.int p3), .val (.int p4), .val (.long (q0 &&& (2147483647 : Int64))), .second, .val (.int (p1 &&& (15 : Int32))), .val (.int (p3 &&& (15 : Int32))), .val (.int (p4 &&& (3 : Int32))), .val (.long v1), .second, .val (.long ((((q0 &&& (2147483647 : Int64)) * (16 : Int64)) + (15 : Int64)) - ((p1 &&& (15 : Int32)).toInt64))), .second, .val (.long (((v1 * (16 : Int64)) + (15 : Int64)) - ((p3 &&& (15 : Int32)).toInt64))), .second, .val (.int v2), .val (.int v3), .val (.int v4), .val (.int v5), .unset] [])) _
    refine XS.lload X8.here hx rfl (hb hby at_211) rfl ?_
    show Steps p.tables e below (T8.setTop (mkF m 213 #[.val (.long q0), .second, .val (.int p1), .val (.long q2), .second, .val (.int p3), .val (.int p4), .val (.long (q0 &&& (2147483647 : Int64))), .second, .val (.int (p1 &&& (15 : Int32))), .val (.int (p3 &&& (15 : Int32))), .val (.int (p4 &&& (3 : Int32))), .val (.long v1), .second, .val (.long ((((q0 &&& (2147483647 : Int64)) * (16 : Int64)) + (15 : Int64)) - ((p1 &&& (15 : Int32)).toInt64))), .second, .val (.long (((v1 * (16 : Int64)) + (15 : Int64)) - ((p3 &&& (15 : Int32)).toInt64))), .second, .val (.int v2), .val (.int v3), .val (.int v4), .val (.int v5), .unset] [(.long ((((q0 &&& (2147483647 : Int64)) * (16 : Int64)) + (15 : Int64)) - ((p1 &&& (15 : Int32)).toInt64)))])) _
    refine XS.lload X8.here hx rfl (hb hby at_213) rfl ?_
    show Steps p.tables e below (T8.setTop (mkF m 215 #[.val (.long q0), .second, .val (.int p1), .val (.long q2), .second, .val (.int p3), .val (.int p4), .val (.long (q0 &&& (2147483647 : Int64))), .second, .val (.int (p1 &&& (15 : Int32))), .val (.int (p3 &&& (15 : Int32))), .val (.int (p4 &&& (3 : Int32))), .val (.long v1), .second, .val (.long ((((q0 &&& (2147483647 : Int64)) * (16 : Int64)) + (15 : Int64)) - ((p1 &&& (15 : Int32)).toInt64))), .second, .val (.long (((v1 * (16 : Int64)) + (15 : Int64)) - ((p3 &&& (15 : Int32)).toInt64))), .second, .val (.int v2), .val (.int v3), .val (.int v4), .val (.int v5), .unset] [(.long (((v1 * (16 : Int64)) + (15 : Int64)) - ((p3 &&& (15 : Int32)).toInt64))), (.long ((((q0 &&& (2147483647 : Int64)) * (16 : Int64)) + (15 : Int64)) - ((p1 &&& (15 : Int32)).toInt64)))])) _
    refine XS.lcmp X8.here hx rfl (hb hby at_215) rfl ?_
    show Steps p.tables e below (T8.setTop (mkF m 216 #[.val (.long q0), .second, .val (.int p1), .val (.long q2), .second, .val (.int p3), .val (.int p4), .val (.long (q0 &&& (2147483647 : Int64))), .second, .val (.int (p1 &&& (15 : Int32))), .val (.int (p3 &&& (15 : Int32))), .val (.int (p4 &&& (3 : Int32))), .val (.long v1), .second, .val (.long ((((q0 &&& (2147483647 : Int64)) * (16 : Int64)) + (15 : Int64)) - ((p1 &&& (15 : Int32)).toInt64))), .second, .val (.long (((v1 * (16 : Int64)) + (15 : Int64)) - ((p3 &&& (15 : Int32)).toInt64))), .second, .val (.int v2), .val (.int v3), .val (.int v4), .val (.int v5), .unset] [(.int (lcmpW ((((q0 &&& (2147483647 : Int64)) * (16 : Int64)) + (15 : Int64)) - ((p1 &&& (15 : Int32)).toInt64)) (((v1 * (16 : Int64)) + (15 : Int64)) - ((p3 &&& (15 : Int32)).toInt64))))])) _
    exact kt
  obtain ⟨v6, hv6⟩ : ∃ z : Int32, z = (if ((((q0 &&& (2147483647 : Int64)) * (16 : Int64)) + (15 : Int64)) - ((p1 &&& (15 : Int32)).toInt64)) < (((v1 * (16 : Int64)) + (15 : Int64)) - ((p3 &&& (15 : Int32)).toInt64)) then (1 : Int32) else (0 : Int32)) := ⟨_, rfl⟩
  have pre31 : ∀ t, Steps p.tables e below (T8.setTop (mkF m 224 #[.val (.long q0), .second, .val (.int p1), .val (.long q2), .second, .val (.int p3), .val (.int p4), .val (.long (q0 &&& (2147483647 : Int64))), .second, .val (.int (p1 &&& (15 : Int32))), .val (.int (p3 &&& (15 : Int32))), .val (.int (p4 &&& (3 : Int32))), .val (.long v1), .second, .val (.long ((((q0 &&& (2147483647 : Int64)) * (16 : Int64)) + (15 : Int64)) - ((p1 &&& (15 : Int32)).toInt64))), .second, .val (.long (((v1 * (16 : Int64)) + (15 : Int64)) - ((p3 &&& (15 : Int32)).toInt64))), .second, .val (.int v2), .val (.int v3), .val (.int v4), .val (.int v5), .unset] [(.int v6)])) t → Steps p.tables e below (s₁.setTop (entryFrame m #[(.long q0), (.int p1), (.long q2), (.int p3), (.int p4)] maxLocals)) t := fun t kt => by
    refine pre29 _ ?_
    show Steps p.tables e below (T8.setTop (mkF m 216 #[.val (.long q0), .second, .val (.int p1), .val (.long q2), .second, .val (.int p3), .val (.int p4), .val (.long (q0 &&& (2147483647 : Int64))), .second, .val (.int (p1 &&& (15 : Int32))), .val (.int (p3 &&& (15 : Int32))), .val (.int (p4 &&& (3 : Int32))), .val (.long v1), .second, .val (.long ((((q0 &&& (2147483647 : Int64)) * (16 : Int64)) + (15 : Int64)) - ((p1 &&& (15 : Int32)).toInt64))), .second, .val (.long (((v1 * (16 : Int64)) + (15 : Int64)) - ((p3 &&& (15 : Int32)).toInt64))), .second, .val (.int v2), .val (.int v3), .val (.int v4), .val (.int v5), .unset] [(.int (lcmpW ((((q0 &&& (2147483647 : Int64)) * (16 : Int64)) + (15 : Int64)) - ((p1 &&& (15 : Int32)).toInt64)) (((v1 * (16 : Int64)) + (15 : Int64)) - ((p3 &&& (15 : Int32)).toInt64))))])) _
    by_cases hc30 : ((((q0 &&& (2147483647 : Int64)) * (16 : Int64)) + (15 : Int64)) - ((p1 &&& (15 : Int32)).toInt64)) < (((v1 * (16 : Int64)) + (15 : Int64)) - ((p3 &&& (15 : Int32)).toInt64))
    · rw [if_pos hc30] at hv6
      refine XS.ifNo X8.here hx rfl (hb hby at_216) rfl ((if0 _ _).trans (tlt (own_lwL hc30)).2.1) ?_
      show Steps p.tables e below (T8.setTop (mkF m 219 #[.val (.long q0), .second, .val (.int p1), .val (.long q2), .second, .val (.int p3), .val (.int p4), .val (.long (q0 &&& (2147483647 : Int64))), .second, .val (.int (p1 &&& (15 : Int32))), .val (.int (p3 &&& (15 : Int32))), .val (.int (p4 &&& (3 : Int32))), .val (.long v1), .second, .val (.long ((((q0 &&& (2147483647 : Int64)) * (16 : Int64)) + (15 : Int64)) - ((p1 &&& (15 : Int32)).toInt64))), .second, .val (.long (((v1 * (16 : Int64)) + (15 : Int64)) - ((p3 &&& (15 : Int32)).toInt64))), .second, .val (.int v2), .val (.int v3), .val (.int v4), .val (.int v5), .unset] [])) _
      refine XS.iconst X8.here hx rfl (hb hby at_219) ?_
      show Steps p.tables e below (T8.setTop (mkF m 220 #[.val (.long q0), .second, .val (.int p1), .val (.long q2), .second, .val (.int p3), .val (.int p4), .val (.long (q0 &&& (2147483647 : Int64))), .second, .val (.int (p1 &&& (15 : Int32))), .val (.int (p3 &&& (15 : Int32))), .val (.int (p4 &&& (3 : Int32))), .val (.long v1), .second, .val (.long ((((q0 &&& (2147483647 : Int64)) * (16 : Int64)) + (15 : Int64)) - ((p1 &&& (15 : Int32)).toInt64))), .second, .val (.long (((v1 * (16 : Int64)) + (15 : Int64)) - ((p3 &&& (15 : Int32)).toInt64))), .second, .val (.int v2), .val (.int v3), .val (.int v4), .val (.int v5), .unset] [(.int (1 : Int32))])) _
      refine XS.goto X8.here hx rfl (pc0 := 220) (pc' := 224) rfl (hb hby at_220) (by decide) (by decide) ?_
      subst hv6
      exact kt
    · rw [if_neg hc30] at hv6
      refine XS.ifYes X8.here hx rfl (pc0 := 216) (pc' := 223) rfl (hb hby at_216) rfl ((if0 _ _).trans (flt (own_lwM hc30)).2.1) (by decide) (by decide) ?_
      show Steps p.tables e below (T8.setTop (mkF m 223 #[.val (.long q0), .second, .val (.int p1), .val (.long q2), .second, .val (.int p3), .val (.int p4), .val (.long (q0 &&& (2147483647 : Int64))), .second, .val (.int (p1 &&& (15 : Int32))), .val (.int (p3 &&& (15 : Int32))), .val (.int (p4 &&& (3 : Int32))), .val (.long v1), .second, .val (.long ((((q0 &&& (2147483647 : Int64)) * (16 : Int64)) + (15 : Int64)) - ((p1 &&& (15 : Int32)).toInt64))), .second, .val (.long (((v1 * (16 : Int64)) + (15 : Int64)) - ((p3 &&& (15 : Int32)).toInt64))), .second, .val (.int v2), .val (.int v3), .val (.int v4), .val (.int v5), .unset] [])) _
      refine XS.iconst X8.here hx rfl (hb hby at_223) ?_
      subst hv6
      exact kt
  have pre32 : ∀ t, Steps p.tables e below (T8.setTop (mkF m 226 #[.val (.long q0), .second, .val (.int p1), .val (.long q2), .second, .val (.int p3), .val (.int p4), .val (.long (q0 &&& (2147483647 : Int64))), .second, .val (.int (p1 &&& (15 : Int32))), .val (.int (p3 &&& (15 : Int32))), .val (.int (p4 &&& (3 : Int32))), .val (.long v1), .second, .val (.long ((((q0 &&& (2147483647 : Int64)) * (16 : Int64)) + (15 : Int64)) - ((p1 &&& (15 : Int32)).toInt64))), .second, .val (.long (((v1 * (16 : Int64)) + (15 : Int64)) - ((p3 &&& (15 : Int32)).toInt64))), .second, .val (.int v2), .val (.int v3), .val (.int v4), .val (.int v5), .unset] [(.int v4), (.int v6)])) t → Steps p.tables e below (s₁.setTop (entryFrame m #[(.long q0), (.int p1), (.long q2), (.int p3), (.int p4)] maxLocals)) t := fun t kt => by
    refine pre31 _ ?_
    show Steps p.tables e below (T8.setTop (mkF m 224 #[.val (.long q0), .second, .val (.int p1), .val (.long q2), .second, .val (.int p3), .val (.int p4), .val (.long (q0 &&& (2147483647 : Int64))), .second, .val (.int (p1 &&& (15 : Int32))), .val (.int (p3 &&& (15 : Int32))), .val (.int (p4 &&& (3 : Int32))), .val (.long v1), .second, .val (.long ((((q0 &&& (2147483647 : Int64)) * (16 : Int64)) + (15 : Int64)) - ((p1 &&& (15 : Int32)).toInt64))), .second, .val (.long (((v1 * (16 : Int64)) + (15 : Int64)) - ((p3 &&& (15 : Int32)).toInt64))), .second, .val (.int v2), .val (.int v3), .val (.int v4), .val (.int v5), .unset] [(.int v6)])) _
    refine XS.iload X8.here hx rfl (hb hby at_224) rfl ?_
    show Steps p.tables e below (T8.setTop (mkF m 226 #[.val (.long q0), .second, .val (.int p1), .val (.long q2), .second, .val (.int p3), .val (.int p4), .val (.long (q0 &&& (2147483647 : Int64))), .second, .val (.int (p1 &&& (15 : Int32))), .val (.int (p3 &&& (15 : Int32))), .val (.int (p4 &&& (3 : Int32))), .val (.long v1), .second, .val (.long ((((q0 &&& (2147483647 : Int64)) * (16 : Int64)) + (15 : Int64)) - ((p1 &&& (15 : Int32)).toInt64))), .second, .val (.long (((v1 * (16 : Int64)) + (15 : Int64)) - ((p3 &&& (15 : Int32)).toInt64))), .second, .val (.int v2), .val (.int v3), .val (.int v4), .val (.int v5), .unset] [(.int v4), (.int v6)])) _
    exact kt
  obtain ⟨v7, hv7⟩ : ∃ z : Int32, z = (if v6 = v4 then (if ((((q0 &&& (2147483647 : Int64)) * (16 : Int64)) + (15 : Int64)) - ((p1 &&& (15 : Int32)).toInt64)) = (((v1 * (16 : Int64)) + (15 : Int64)) - ((p3 &&& (15 : Int32)).toInt64)) then (if (1 : Int32) = v5 then (1 : Int32) else (0 : Int32)) else (if (0 : Int32) = v5 then (1 : Int32) else (0 : Int32))) else (0 : Int32)) := ⟨_, rfl⟩
  have pre37 : ∀ t, Steps p.tables e below (T8.setTop (mkF m 252 #[.val (.long q0), .second, .val (.int p1), .val (.long q2), .second, .val (.int p3), .val (.int p4), .val (.long (q0 &&& (2147483647 : Int64))), .second, .val (.int (p1 &&& (15 : Int32))), .val (.int (p3 &&& (15 : Int32))), .val (.int (p4 &&& (3 : Int32))), .val (.long v1), .second, .val (.long ((((q0 &&& (2147483647 : Int64)) * (16 : Int64)) + (15 : Int64)) - ((p1 &&& (15 : Int32)).toInt64))), .second, .val (.long (((v1 * (16 : Int64)) + (15 : Int64)) - ((p3 &&& (15 : Int32)).toInt64))), .second, .val (.int v2), .val (.int v3), .val (.int v4), .val (.int v5), .unset] [(.int v7)])) t → Steps p.tables e below (s₁.setTop (entryFrame m #[(.long q0), (.int p1), (.long q2), (.int p3), (.int p4)] maxLocals)) t := fun t kt => by
    refine pre32 _ ?_
    show Steps p.tables e below (T8.setTop (mkF m 226 #[.val (.long q0), .second, .val (.int p1), .val (.long q2), .second, .val (.int p3), .val (.int p4), .val (.long (q0 &&& (2147483647 : Int64))), .second, .val (.int (p1 &&& (15 : Int32))), .val (.int (p3 &&& (15 : Int32))), .val (.int (p4 &&& (3 : Int32))), .val (.long v1), .second, .val (.long ((((q0 &&& (2147483647 : Int64)) * (16 : Int64)) + (15 : Int64)) - ((p1 &&& (15 : Int32)).toInt64))), .second, .val (.long (((v1 * (16 : Int64)) + (15 : Int64)) - ((p3 &&& (15 : Int32)).toInt64))), .second, .val (.int v2), .val (.int v3), .val (.int v4), .val (.int v5), .unset] [(.int v4), (.int v6)])) _
    by_cases hc33 : v6 = v4
    · rw [if_pos hc33] at hv7
      refine XS.icmpNo X8.here hx rfl (hb hby at_226) rfl (teq hc33).2 ?_
      show Steps p.tables e below (T8.setTop (mkF m 229 #[.val (.long q0), .second, .val (.int p1), .val (.long q2), .second, .val (.int p3), .val (.int p4), .val (.long (q0 &&& (2147483647 : Int64))), .second, .val (.int (p1 &&& (15 : Int32))), .val (.int (p3 &&& (15 : Int32))), .val (.int (p4 &&& (3 : Int32))), .val (.long v1), .second, .val (.long ((((q0 &&& (2147483647 : Int64)) * (16 : Int64)) + (15 : Int64)) - ((p1 &&& (15 : Int32)).toInt64))), .second, .val (.long (((v1 * (16 : Int64)) + (15 : Int64)) - ((p3 &&& (15 : Int32)).toInt64))), .second, .val (.int v2), .val (.int v3), .val (.int v4), .val (.int v5), .unset] [])) _
      refine XS.lload X8.here hx rfl (hb hby at_229) rfl ?_
      show Steps p.tables e below (T8.setTop (mkF m 231 #[.val (.long q0), .second, .val (.int p1), .val (.long q2), .second, .val (.int p3), .val (.int p4), .val (.long (q0 &&& (2147483647 : Int64))), .second, .val (.int (p1 &&& (15 : Int32))), .val (.int (p3 &&& (15 : Int32))), .val (.int (p4 &&& (3 : Int32))), .val (.long v1), .second, .val (.long ((((q0 &&& (2147483647 : Int64)) * (16 : Int64)) + (15 : Int64)) - ((p1 &&& (15 : Int32)).toInt64))), .second, .val (.long (((v1 * (16 : Int64)) + (15 : Int64)) - ((p3 &&& (15 : Int32)).toInt64))), .second, .val (.int v2), .val (.int v3), .val (.int v4), .val (.int v5), .unset] [(.long ((((q0 &&& (2147483647 : Int64)) * (16 : Int64)) + (15 : Int64)) - ((p1 &&& (15 : Int32)).toInt64)))])) _
      refine XS.lload X8.here hx rfl (hb hby at_231) rfl ?_
      show Steps p.tables e below (T8.setTop (mkF m 233 #[.val (.long q0), .second, .val (.int p1), .val (.long q2), .second, .val (.int p3), .val (.int p4), .val (.long (q0 &&& (2147483647 : Int64))), .second, .val (.int (p1 &&& (15 : Int32))), .val (.int (p3 &&& (15 : Int32))), .val (.int (p4 &&& (3 : Int32))), .val (.long v1), .second, .val (.long ((((q0 &&& (2147483647 : Int64)) * (16 : Int64)) + (15 : Int64)) - ((p1 &&& (15 : Int32)).toInt64))), .second, .val (.long (((v1 * (16 : Int64)) + (15 : Int64)) - ((p3 &&& (15 : Int32)).toInt64))), .second, .val (.int v2), .val (.int v3), .val (.int v4), .val (.int v5), .unset] [(.long (((v1 * (16 : Int64)) + (15 : Int64)) - ((p3 &&& (15 : Int32)).toInt64))), (.long ((((q0 &&& (2147483647 : Int64)) * (16 : Int64)) + (15 : Int64)) - ((p1 &&& (15 : Int32)).toInt64)))])) _
      refine XS.lcmp X8.here hx rfl (hb hby at_233) rfl ?_
      show Steps p.tables e below (T8.setTop (mkF m 234 #[.val (.long q0), .second, .val (.int p1), .val (.long q2), .second, .val (.int p3), .val (.int p4), .val (.long (q0 &&& (2147483647 : Int64))), .second, .val (.int (p1 &&& (15 : Int32))), .val (.int (p3 &&& (15 : Int32))), .val (.int (p4 &&& (3 : Int32))), .val (.long v1), .second, .val (.long ((((q0 &&& (2147483647 : Int64)) * (16 : Int64)) + (15 : Int64)) - ((p1 &&& (15 : Int32)).toInt64))), .second, .val (.long (((v1 * (16 : Int64)) + (15 : Int64)) - ((p3 &&& (15 : Int32)).toInt64))), .second, .val (.int v2), .val (.int v3), .val (.int v4), .val (.int v5), .unset] [(.int (lcmpW ((((q0 &&& (2147483647 : Int64)) * (16 : Int64)) + (15 : Int64)) - ((p1 &&& (15 : Int32)).toInt64)) (((v1 * (16 : Int64)) + (15 : Int64)) - ((p3 &&& (15 : Int32)).toInt64))))])) _
      by_cases hc34 : ((((q0 &&& (2147483647 : Int64)) * (16 : Int64)) + (15 : Int64)) - ((p1 &&& (15 : Int32)).toInt64)) = (((v1 * (16 : Int64)) + (15 : Int64)) - ((p3 &&& (15 : Int32)).toInt64))
      · rw [if_pos hc34] at hv7
        refine XS.ifNo X8.here hx rfl (hb hby at_234) rfl ((if0 _ _).trans (teq (own_lwE hc34)).2) ?_
        show Steps p.tables e below (T8.setTop (mkF m 237 #[.val (.long q0), .second, .val (.int p1), .val (.long q2), .second, .val (.int p3), .val (.int p4), .val (.long (q0 &&& (2147483647 : Int64))), .second, .val (.int (p1 &&& (15 : Int32))), .val (.int (p3 &&& (15 : Int32))), .val (.int (p4 &&& (3 : Int32))), .val (.long v1), .second, .val (.long ((((q0 &&& (2147483647 : Int64)) * (16 : Int64)) + (15 : Int64)) - ((p1 &&& (15 : Int32)).toInt64))), .second, .val (.long (((v1 * (16 : Int64)) + (15 : Int64)) - ((p3 &&& (15 : Int32)).toInt64))), .second, .val (.int v2), .val (.int v3), .val (.int v4), .val (.int v5), .unset] [])) _
        refine XS.iconst X8.here hx rfl (hb hby at_237) ?_
        show Steps p.tables e below (T8.setTop (mkF m 238 #[.val (.long q0), .second, .val (.int p1), .val (.long q2), .second, .val (.int p3), .val (.int p4), .val (.long (q0 &&& (2147483647 : Int64))), .second, .val (.int (p1 &&& (15 : Int32))), .val (.int (p3 &&& (15 : Int32))), .val (.int (p4 &&& (3 : Int32))), .val (.long v1), .second, .val (.long ((((q0 &&& (2147483647 : Int64)) * (16 : Int64)) + (15 : Int64)) - ((p1 &&& (15 : Int32)).toInt64))), .second, .val (.long (((v1 * (16 : Int64)) + (15 : Int64)) - ((p3 &&& (15 : Int32)).toInt64))), .second, .val (.int v2), .val (.int v3), .val (.int v4), .val (.int v5), .unset] [(.int (1 : Int32))])) _
        refine XS.goto X8.here hx rfl (pc0 := 238) (pc' := 242) rfl (hb hby at_238) (by decide) (by decide) ?_
        show Steps p.tables e below (T8.setTop (mkF m 242 #[.val (.long q0), .second, .val (.int p1), .val (.long q2), .second, .val (.int p3), .val (.int p4), .val (.long (q0 &&& (2147483647 : Int64))), .second, .val (.int (p1 &&& (15 : Int32))), .val (.int (p3 &&& (15 : Int32))), .val (.int (p4 &&& (3 : Int32))), .val (.long v1), .second, .val (.long ((((q0 &&& (2147483647 : Int64)) * (16 : Int64)) + (15 : Int64)) - ((p1 &&& (15 : Int32)).toInt64))), .second, .val (.long (((v1 * (16 : Int64)) + (15 : Int64)) - ((p3 &&& (15 : Int32)).toInt64))), .second, .val (.int v2), .val (.int v3), .val (.int v4), .val (.int v5), .unset] [(.int (1 : Int32))])) _
        refine XS.iload X8.here hx rfl (hb hby at_242) rfl ?_
        show Steps p.tables e below (T8.setTop (mkF m 244 #[.val (.long q0), .second, .val (.int p1), .val (.long q2), .second, .val (.int p3), .val (.int p4), .val (.long (q0 &&& (2147483647 : Int64))), .second, .val (.int (p1 &&& (15 : Int32))), .val (.int (p3 &&& (15 : Int32))), .val (.int (p4 &&& (3 : Int32))), .val (.long v1), .second, .val (.long ((((q0 &&& (2147483647 : Int64)) * (16 : Int64)) + (15 : Int64)) - ((p1 &&& (15 : Int32)).toInt64))), .second, .val (.long (((v1 * (16 : Int64)) + (15 : Int64)) - ((p3 &&& (15 : Int32)).toInt64))), .second, .val (.int v2), .val (.int v3), .val (.int v4), .val (.int v5), .unset] [(.int v5), (.int (1 : Int32))])) _
        by_cases hc35 : (1 : Int32) = v5
        · rw [if_pos hc35] at hv7
          refine XS.icmpNo X8.here hx rfl (hb hby at_244) rfl (teq hc35).2 ?_
          show Steps p.tables e below (T8.setTop (mkF m 247 #[.val (.long q0), .second, .val (.int p1), .val (.long q2), .second, .val (.int p3), .val (.int p4), .val (.long (q0 &&& (2147483647 : Int64))), .second, .val (.int (p1 &&& (15 : Int32))), .val (.int (p3 &&& (15 : Int32))), .val (.int (p4 &&& (3 : Int32))), .val (.long v1), .second, .val (.long ((((q0 &&& (2147483647 : Int64)) * (16 : Int64)) + (15 : Int64)) - ((p1 &&& (15 : Int32)).toInt64))), .second, .val (.long (((v1 * (16 : Int64)) + (15 : Int64)) - ((p3 &&& (15 : Int32)).toInt64))), .second, .val (.int v2), .val (.int v3), .val (.int v4), .val (.int v5), .unset] [])) _
          refine XS.iconst X8.here hx rfl (hb hby at_247) ?_
          show Steps p.tables e below (T8.setTop (mkF m 248 #[.val (.long q0), .second, .val (.int p1), .val (.long q2), .second, .val (.int p3), .val (.int p4), .val (.long (q0 &&& (2147483647 : Int64))), .second, .val (.int (p1 &&& (15 : Int32))), .val (.int (p3 &&& (15 : Int32))), .val (.int (p4 &&& (3 : Int32))), .val (.long v1), .second, .val (.long ((((q0 &&& (2147483647 : Int64)) * (16 : Int64)) + (15 : Int64)) - ((p1 &&& (15 : Int32)).toInt64))), .second, .val (.long (((v1 * (16 : Int64)) + (15 : Int64)) - ((p3 &&& (15 : Int32)).toInt64))), .second, .val (.int v2), .val (.int v3), .val (.int v4), .val (.int v5), .unset] [(.int (1 : Int32))])) _
          refine XS.goto X8.here hx rfl (pc0 := 248) (pc' := 252) rfl (hb hby at_248) (by decide) (by decide) ?_
          subst hv7
          exact kt
        · rw [if_neg hc35] at hv7
          refine XS.icmpYes X8.here hx rfl (pc0 := 244) (pc' := 251) rfl (hb hby at_244) rfl (feq hc35).2 (by decide) (by decide) ?_
          show Steps p.tables e below (T8.setTop (mkF m 251 #[.val (.long q0), .second, .val (.int p1), .val (.long q2), .second, .val (.int p3), .val (.int p4), .val (.long (q0 &&& (2147483647 : Int64))), .second, .val (.int (p1 &&& (15 : Int32))), .val (.int (p3 &&& (15 : Int32))), .val (.int (p4 &&& (3 : Int32))), .val (.long v1), .second, .val (.long ((((q0 &&& (2147483647 : Int64)) * (16 : Int64)) + (15 : Int64)) - ((p1 &&& (15 : Int32)).toInt64))), .second, .val (.long (((v1 * (16 : Int64)) + (15 : Int64)) - ((p3 &&& (15 : Int32)).toInt64))), .second, .val (.int v2), .val (.int v3), .val (.int v4), .val (.int v5), .unset] [])) _
          refine XS.iconst X8.here hx rfl (hb hby at_251) ?_
          subst hv7
          exact kt
      · rw [if_neg hc34] at hv7
        refine XS.ifYes X8.here hx rfl (pc0 := 234) (pc' := 241) rfl (hb hby at_234) rfl ((if0 _ _).trans (feq (own_lwN hc34)).2) (by decide) (by decide) ?_
        show Steps p.tables e below (T8.setTop (mkF m 241 #[.val (.long q0), .second, .val (.int p1), .val (.long q2), .second, .val (.int p3), .val (.int p4), .val (.long (q0 &&& (2147483647 : Int64))), .second, .val (.int (p1 &&& (15 : Int32))), .val (.int (p3 &&& (15 : Int32))), .val (.int (p4 &&& (3 : Int32))), .val (.long v1), .second, .val (.long ((((q0 &&& (2147483647 : Int64)) * (16 : Int64)) + (15 : Int64)) - ((p1 &&& (15 : Int32)).toInt64))), .second, .val (.long (((v1 * (16 : Int64)) + (15 : Int64)) - ((p3 &&& (15 : Int32)).toInt64))), .second, .val (.int v2), .val (.int v3), .val (.int v4), .val (.int v5), .unset] [])) _
        refine XS.iconst X8.here hx rfl (hb hby at_241) ?_
        show Steps p.tables e below (T8.setTop (mkF m 242 #[.val (.long q0), .second, .val (.int p1), .val (.long q2), .second, .val (.int p3), .val (.int p4), .val (.long (q0 &&& (2147483647 : Int64))), .second, .val (.int (p1 &&& (15 : Int32))), .val (.int (p3 &&& (15 : Int32))), .val (.int (p4 &&& (3 : Int32))), .val (.long v1), .second, .val (.long ((((q0 &&& (2147483647 : Int64)) * (16 : Int64)) + (15 : Int64)) - ((p1 &&& (15 : Int32)).toInt64))), .second, .val (.long (((v1 * (16 : Int64)) + (15 : Int64)) - ((p3 &&& (15 : Int32)).toInt64))), .second, .val (.int v2), .val (.int v3), .val (.int v4), .val (.int v5), .unset] [(.int (0 : Int32))])) _
        refine XS.iload X8.here hx rfl (hb hby at_242) rfl ?_
        show Steps p.tables e below (T8.setTop (mkF m 244 #[.val (.long q0), .second, .val (.int p1), .val (.long q2), .second, .val (.int p3), .val (.int p4), .val (.long (q0 &&& (2147483647 : Int64))), .second, .val (.int (p1 &&& (15 : Int32))), .val (.int (p3 &&& (15 : Int32))), .val (.int (p4 &&& (3 : Int32))), .val (.long v1), .second, .val (.long ((((q0 &&& (2147483647 : Int64)) * (16 : Int64)) + (15 : Int64)) - ((p1 &&& (15 : Int32)).toInt64))), .second, .val (.long (((v1 * (16 : Int64)) + (15 : Int64)) - ((p3 &&& (15 : Int32)).toInt64))), .second, .val (.int v2), .val (.int v3), .val (.int v4), .val (.int v5), .unset] [(.int v5), (.int (0 : Int32))])) _
        by_cases hc36 : (0 : Int32) = v5
        · rw [if_pos hc36] at hv7
          refine XS.icmpNo X8.here hx rfl (hb hby at_244) rfl (teq hc36).2 ?_
          show Steps p.tables e below (T8.setTop (mkF m 247 #[.val (.long q0), .second, .val (.int p1), .val (.long q2), .second, .val (.int p3), .val (.int p4), .val (.long (q0 &&& (2147483647 : Int64))), .second, .val (.int (p1 &&& (15 : Int32))), .val (.int (p3 &&& (15 : Int32))), .val (.int (p4 &&& (3 : Int32))), .val (.long v1), .second, .val (.long ((((q0 &&& (2147483647 : Int64)) * (16 : Int64)) + (15 : Int64)) - ((p1 &&& (15 : Int32)).toInt64))), .second, .val (.long (((v1 * (16 : Int64)) + (15 : Int64)) - ((p3 &&& (15 : Int32)).toInt64))), .second, .val (.int v2), .val (.int v3), .val (.int v4), .val (.int v5), .unset] [])) _
          refine XS.iconst X8.here hx rfl (hb hby at_247) ?_
          show Steps p.tables e below (T8.setTop (mkF m 248 #[.val (.long q0), .second, .val (.int p1), .val (.long q2), .second, .val (.int p3), .val (.int p4), .val (.long (q0 &&& (2147483647 : Int64))), .second, .val (.int (p1 &&& (15 : Int32))), .val (.int (p3 &&& (15 : Int32))), .val (.int (p4 &&& (3 : Int32))), .val (.long v1), .second, .val (.long ((((q0 &&& (2147483647 : Int64)) * (16 : Int64)) + (15 : Int64)) - ((p1 &&& (15 : Int32)).toInt64))), .second, .val (.long (((v1 * (16 : Int64)) + (15 : Int64)) - ((p3 &&& (15 : Int32)).toInt64))), .second, .val (.int v2), .val (.int v3), .val (.int v4), .val (.int v5), .unset] [(.int (1 : Int32))])) _
          refine XS.goto X8.here hx rfl (pc0 := 248) (pc' := 252) rfl (hb hby at_248) (by decide) (by decide) ?_
          subst hv7
          exact kt
        · rw [if_neg hc36] at hv7
          refine XS.icmpYes X8.here hx rfl (pc0 := 244) (pc' := 251) rfl (hb hby at_244) rfl (feq hc36).2 (by decide) (by decide) ?_
          show Steps p.tables e below (T8.setTop (mkF m 251 #[.val (.long q0), .second, .val (.int p1), .val (.long q2), .second, .val (.int p3), .val (.int p4), .val (.long (q0 &&& (2147483647 : Int64))), .second, .val (.int (p1 &&& (15 : Int32))), .val (.int (p3 &&& (15 : Int32))), .val (.int (p4 &&& (3 : Int32))), .val (.long v1), .second, .val (.long ((((q0 &&& (2147483647 : Int64)) * (16 : Int64)) + (15 : Int64)) - ((p1 &&& (15 : Int32)).toInt64))), .second, .val (.long (((v1 * (16 : Int64)) + (15 : Int64)) - ((p3 &&& (15 : Int32)).toInt64))), .second, .val (.int v2), .val (.int v3), .val (.int v4), .val (.int v5), .unset] [])) _
          refine XS.iconst X8.here hx rfl (hb hby at_251) ?_
          subst hv7
          exact kt
    · rw [if_neg hc33] at hv7
      refine XS.icmpYes X8.here hx rfl (pc0 := 226) (pc' := 251) rfl (hb hby at_226) rfl (feq hc33).2 (by decide) (by decide) ?_
      show Steps p.tables e below (T8.setTop (mkF m 251 #[.val (.long q0), .second, .val (.int p1), .val (.long q2), .second, .val (.int p3), .val (.int p4), .val (.long (q0 &&& (2147483647 : Int64))), .second, .val (.int (p1 &&& (15 : Int32))), .val (.int (p3 &&& (15 : Int32))), .val (.int (p4 &&& (3 : Int32))), .val (.long v1), .second, .val (.long ((((q0 &&& (2147483647 : Int64)) * (16 : Int64)) + (15 : Int64)) - ((p1 &&& (15 : Int32)).toInt64))), .second, .val (.long (((v1 * (16 : Int64)) + (15 : Int64)) - ((p3 &&& (15 : Int32)).toInt64))), .second, .val (.int v2), .val (.int v3), .val (.int v4), .val (.int v5), .unset] [])) _
      refine XS.iconst X8.here hx rfl (hb hby at_251) ?_
      subst hv7
      exact kt
  have pre38 : ∀ t, Steps p.tables e below (T8.setTop (mkF m 256 #[.val (.long q0), .second, .val (.int p1), .val (.long q2), .second, .val (.int p3), .val (.int p4), .val (.long (q0 &&& (2147483647 : Int64))), .second, .val (.int (p1 &&& (15 : Int32))), .val (.int (p3 &&& (15 : Int32))), .val (.int (p4 &&& (3 : Int32))), .val (.long v1), .second, .val (.long ((((q0 &&& (2147483647 : Int64)) * (16 : Int64)) + (15 : Int64)) - ((p1 &&& (15 : Int32)).toInt64))), .second, .val (.long (((v1 * (16 : Int64)) + (15 : Int64)) - ((p3 &&& (15 : Int32)).toInt64))), .second, .val (.int v2), .val (.int v3), .val (.int v4), .val (.int v5), .val (.int v7)] [(.int v2)])) t → Steps p.tables e below (s₁.setTop (entryFrame m #[(.long q0), (.int p1), (.long q2), (.int p3), (.int p4)] maxLocals)) t := fun t kt => by
    refine pre37 _ ?_
    show Steps p.tables e below (T8.setTop (mkF m 252 #[.val (.long q0), .second, .val (.int p1), .val (.long q2), .second, .val (.int p3), .val (.int p4), .val (.long (q0 &&& (2147483647 : Int64))), .second, .val (.int (p1 &&& (15 : Int32))), .val (.int (p3 &&& (15 : Int32))), .val (.int (p4 &&& (3 : Int32))), .val (.long v1), .second, .val (.long ((((q0 &&& (2147483647 : Int64)) * (16 : Int64)) + (15 : Int64)) - ((p1 &&& (15 : Int32)).toInt64))), .second, .val (.long (((v1 * (16 : Int64)) + (15 : Int64)) - ((p3 &&& (15 : Int32)).toInt64))), .second, .val (.int v2), .val (.int v3), .val (.int v4), .val (.int v5), .unset] [(.int v7)])) _
    refine XS.istore X8.here hx rfl (hb hby at_252) rfl (l' := #[.val (.long q0), .second, .val (.int p1), .val (.long q2), .second, .val (.int p3), .val (.int p4), .val (.long (q0 &&& (2147483647 : Int64))), .second, .val (.int (p1 &&& (15 : Int32))), .val (.int (p3 &&& (15 : Int32))), .val (.int (p4 &&& (3 : Int32))), .val (.long v1), .second, .val (.long ((((q0 &&& (2147483647 : Int64)) * (16 : Int64)) + (15 : Int64)) - ((p1 &&& (15 : Int32)).toInt64))), .second, .val (.long (((v1 * (16 : Int64)) + (15 : Int64)) - ((p3 &&& (15 : Int32)).toInt64))), .second, .val (.int v2), .val (.int v3), .val (.int v4), .val (.int v5), .val (.int v7)]) rfl ?_
    show Steps p.tables e below (T8.setTop (mkF m 254 #[.val (.long q0), .second, .val (.int p1), .val (.long q2), .second, .val (.int p3), .val (.int p4), .val (.long (q0 &&& (2147483647 : Int64))), .second, .val (.int (p1 &&& (15 : Int32))), .val (.int (p3 &&& (15 : Int32))), .val (.int (p4 &&& (3 : Int32))), .val (.long v1), .second, .val (.long ((((q0 &&& (2147483647 : Int64)) * (16 : Int64)) + (15 : Int64)) - ((p1 &&& (15 : Int32)).toInt64))), .second, .val (.long (((v1 * (16 : Int64)) + (15 : Int64)) - ((p3 &&& (15 : Int32)).toInt64))), .second, .val (.int v2), .val (.int v3), .val (.int v4), .val (.int v5), .val (.int v7)] [])) _
    refine XS.iload X8.here hx rfl (hb hby at_254) rfl ?_
    show Steps p.tables e below (T8.setTop (mkF m 256 #[.val (.long q0), .second, .val (.int p1), .val (.long q2), .second, .val (.int p3), .val (.int p4), .val (.long (q0 &&& (2147483647 : Int64))), .second, .val (.int (p1 &&& (15 : Int32))), .val (.int (p3 &&& (15 : Int32))), .val (.int (p4 &&& (3 : Int32))), .val (.long v1), .second, .val (.long ((((q0 &&& (2147483647 : Int64)) * (16 : Int64)) + (15 : Int64)) - ((p1 &&& (15 : Int32)).toInt64))), .second, .val (.long (((v1 * (16 : Int64)) + (15 : Int64)) - ((p3 &&& (15 : Int32)).toInt64))), .second, .val (.int v2), .val (.int v3), .val (.int v4), .val (.int v5), .val (.int v7)] [(.int v2)])) _
    exact kt
  obtain ⟨v8, hv8⟩ : ∃ z : Int32, z = (if v2 = (0 : Int32) then (0 : Int32) else (if v3 = (0 : Int32) then (0 : Int32) else (if v7 = (0 : Int32) then (0 : Int32) else (1 : Int32)))) := ⟨_, rfl⟩
  have pre42 : ∀ t, Steps p.tables e below (T8.setTop (mkF m 274 #[.val (.long q0), .second, .val (.int p1), .val (.long q2), .second, .val (.int p3), .val (.int p4), .val (.long (q0 &&& (2147483647 : Int64))), .second, .val (.int (p1 &&& (15 : Int32))), .val (.int (p3 &&& (15 : Int32))), .val (.int (p4 &&& (3 : Int32))), .val (.long v1), .second, .val (.long ((((q0 &&& (2147483647 : Int64)) * (16 : Int64)) + (15 : Int64)) - ((p1 &&& (15 : Int32)).toInt64))), .second, .val (.long (((v1 * (16 : Int64)) + (15 : Int64)) - ((p3 &&& (15 : Int32)).toInt64))), .second, .val (.int v2), .val (.int v3), .val (.int v4), .val (.int v5), .val (.int v7)] [(.int v8)])) t → Steps p.tables e below (s₁.setTop (entryFrame m #[(.long q0), (.int p1), (.long q2), (.int p3), (.int p4)] maxLocals)) t := fun t kt => by
    refine pre38 _ ?_
    show Steps p.tables e below (T8.setTop (mkF m 256 #[.val (.long q0), .second, .val (.int p1), .val (.long q2), .second, .val (.int p3), .val (.int p4), .val (.long (q0 &&& (2147483647 : Int64))), .second, .val (.int (p1 &&& (15 : Int32))), .val (.int (p3 &&& (15 : Int32))), .val (.int (p4 &&& (3 : Int32))), .val (.long v1), .second, .val (.long ((((q0 &&& (2147483647 : Int64)) * (16 : Int64)) + (15 : Int64)) - ((p1 &&& (15 : Int32)).toInt64))), .second, .val (.long (((v1 * (16 : Int64)) + (15 : Int64)) - ((p3 &&& (15 : Int32)).toInt64))), .second, .val (.int v2), .val (.int v3), .val (.int v4), .val (.int v5), .val (.int v7)] [(.int v2)])) _
    by_cases hc39 : v2 = (0 : Int32)
    · rw [if_pos hc39] at hv8
      refine XS.ifYes X8.here hx rfl (pc0 := 256) (pc' := 273) rfl (hb hby at_256) rfl ((if0 _ _).trans (teq hc39).1) (by decide) (by decide) ?_
      show Steps p.tables e below (T8.setTop (mkF m 273 #[.val (.long q0), .second, .val (.int p1), .val (.long q2), .second, .val (.int p3), .val (.int p4), .val (.long (q0 &&& (2147483647 : Int64))), .second, .val (.int (p1 &&& (15 : Int32))), .val (.int (p3 &&& (15 : Int32))), .val (.int (p4 &&& (3 : Int32))), .val (.long v1), .second, .val (.long ((((q0 &&& (2147483647 : Int64)) * (16 : Int64)) + (15 : Int64)) - ((p1 &&& (15 : Int32)).toInt64))), .second, .val (.long (((v1 * (16 : Int64)) + (15 : Int64)) - ((p3 &&& (15 : Int32)).toInt64))), .second, .val (.int v2), .val (.int v3), .val (.int v4), .val (.int v5), .val (.int v7)] [])) _
      refine XS.iconst X8.here hx rfl (hb hby at_273) ?_
      subst hv8
      exact kt
    · rw [if_neg hc39] at hv8
      refine XS.ifNo X8.here hx rfl (hb hby at_256) rfl ((if0 _ _).trans (feq hc39).1) ?_
      show Steps p.tables e below (T8.setTop (mkF m 259 #[.val (.long q0), .second, .val (.int p1), .val (.long q2), .second, .val (.int p3), .val (.int p4), .val (.long (q0 &&& (2147483647 : Int64))), .second, .val (.int (p1 &&& (15 : Int32))), .val (.int (p3 &&& (15 : Int32))), .val (.int (p4 &&& (3 : Int32))), .val (.long v1), .second, .val (.long ((((q0 &&& (2147483647 : Int64)) * (16 : Int64)) + (15 : Int64)) - ((p1 &&& (15 : Int32)).toInt64))), .second, .val (.long (((v1 * (16 : Int64)) + (15 : Int64)) - ((p3 &&& (15 : Int32)).toInt64))), .second, .val (.int v2), .val (.int v3), .val (.int v4), .val (.int v5), .val (.int v7)] [])) _
      refine XS.iload X8.here hx rfl (hb hby at_259) rfl ?_
      show Steps p.tables e below (T8.setTop (mkF m 261 #[.val (.long q0), .second, .val (.int p1), .val (.long q2), .second, .val (.int p3), .val (.int p4), .val (.long (q0 &&& (2147483647 : Int64))), .second, .val (.int (p1 &&& (15 : Int32))), .val (.int (p3 &&& (15 : Int32))), .val (.int (p4 &&& (3 : Int32))), .val (.long v1), .second, .val (.long ((((q0 &&& (2147483647 : Int64)) * (16 : Int64)) + (15 : Int64)) - ((p1 &&& (15 : Int32)).toInt64))), .second, .val (.long (((v1 * (16 : Int64)) + (15 : Int64)) - ((p3 &&& (15 : Int32)).toInt64))), .second, .val (.int v2), .val (.int v3), .val (.int v4), .val (.int v5), .val (.int v7)] [(.int v3)])) _
      by_cases hc40 : v3 = (0 : Int32)
      · rw [if_pos hc40] at hv8
        refine XS.ifYes X8.here hx rfl (pc0 := 261) (pc' := 273) rfl (hb hby at_261) rfl ((if0 _ _).trans (teq hc40).1) (by decide) (by decide) ?_
        show Steps p.tables e below (T8.setTop (mkF m 273 #[.val (.long q0), .second, .val (.int p1), .val (.long q2), .second, .val (.int p3), .val (.int p4), .val (.long (q0 &&& (2147483647 : Int64))), .second, .val (.int (p1 &&& (15 : Int32))), .val (.int (p3 &&& (15 : Int32))), .val (.int (p4 &&& (3 : Int32))), .val (.long v1), .second, .val (.long ((((q0 &&& (2147483647 : Int64)) * (16 : Int64)) + (15 : Int64)) - ((p1 &&& (15 : Int32)).toInt64))), .second, .val (.long (((v1 * (16 : Int64)) + (15 : Int64)) - ((p3 &&& (15 : Int32)).toInt64))), .second, .val (.int v2), .val (.int v3), .val (.int v4), .val (.int v5), .val (.int v7)] [])) _
        refine XS.iconst X8.here hx rfl (hb hby at_273) ?_
        subst hv8
        exact kt
      · rw [if_neg hc40] at hv8
        refine XS.ifNo X8.here hx rfl (hb hby at_261) rfl ((if0 _ _).trans (feq hc40).1) ?_
        show Steps p.tables e below (T8.setTop (mkF m 264 #[.val (.long q0), .second, .val (.int p1), .val (.long q2), .second, .val (.int p3), .val (.int p4), .val (.long (q0 &&& (2147483647 : Int64))), .second, .val (.int (p1 &&& (15 : Int32))), .val (.int (p3 &&& (15 : Int32))), .val (.int (p4 &&& (3 : Int32))), .val (.long v1), .second, .val (.long ((((q0 &&& (2147483647 : Int64)) * (16 : Int64)) + (15 : Int64)) - ((p1 &&& (15 : Int32)).toInt64))), .second, .val (.long (((v1 * (16 : Int64)) + (15 : Int64)) - ((p3 &&& (15 : Int32)).toInt64))), .second, .val (.int v2), .val (.int v3), .val (.int v4), .val (.int v5), .val (.int v7)] [])) _
        refine XS.iload X8.here hx rfl (hb hby at_264) rfl ?_
        show Steps p.tables e below (T8.setTop (mkF m 266 #[.val (.long q0), .second, .val (.int p1), .val (.long q2), .second, .val (.int p3), .val (.int p4), .val (.long (q0 &&& (2147483647 : Int64))), .second, .val (.int (p1 &&& (15 : Int32))), .val (.int (p3 &&& (15 : Int32))), .val (.int (p4 &&& (3 : Int32))), .val (.long v1), .second, .val (.long ((((q0 &&& (2147483647 : Int64)) * (16 : Int64)) + (15 : Int64)) - ((p1 &&& (15 : Int32)).toInt64))), .second, .val (.long (((v1 * (16 : Int64)) + (15 : Int64)) - ((p3 &&& (15 : Int32)).toInt64))), .second, .val (.int v2), .val (.int v3), .val (.int v4), .val (.int v5), .val (.int v7)] [(.int v7)])) _
        by_cases hc41 : v7 = (0 : Int32)
        · rw [if_pos hc41] at hv8
          refine XS.ifYes X8.here hx rfl (pc0 := 266) (pc' := 273) rfl (hb hby at_266) rfl ((if0 _ _).trans (teq hc41).1) (by decide) (by decide) ?_
          show Steps p.tables e below (T8.setTop (mkF m 273 #[.val (.long q0), .second, .val (.int p1), .val (.long q2), .second, .val (.int p3), .val (.int p4), .val (.long (q0 &&& (2147483647 : Int64))), .second, .val (.int (p1 &&& (15 : Int32))), .val (.int (p3 &&& (15 : Int32))), .val (.int (p4 &&& (3 : Int32))), .val (.long v1), .second, .val (.long ((((q0 &&& (2147483647 : Int64)) * (16 : Int64)) + (15 : Int64)) - ((p1 &&& (15 : Int32)).toInt64))), .second, .val (.long (((v1 * (16 : Int64)) + (15 : Int64)) - ((p3 &&& (15 : Int32)).toInt64))), .second, .val (.int v2), .val (.int v3), .val (.int v4), .val (.int v5), .val (.int v7)] [])) _
          refine XS.iconst X8.here hx rfl (hb hby at_273) ?_
          subst hv8
          exact kt
        · rw [if_neg hc41] at hv8
          refine XS.ifNo X8.here hx rfl (hb hby at_266) rfl ((if0 _ _).trans (feq hc41).1) ?_
          show Steps p.tables e below (T8.setTop (mkF m 269 #[.val (.long q0), .second, .val (.int p1), .val (.long q2), .second, .val (.int p3), .val (.int p4), .val (.long (q0 &&& (2147483647 : Int64))), .second, .val (.int (p1 &&& (15 : Int32))), .val (.int (p3 &&& (15 : Int32))), .val (.int (p4 &&& (3 : Int32))), .val (.long v1), .second, .val (.long ((((q0 &&& (2147483647 : Int64)) * (16 : Int64)) + (15 : Int64)) - ((p1 &&& (15 : Int32)).toInt64))), .second, .val (.long (((v1 * (16 : Int64)) + (15 : Int64)) - ((p3 &&& (15 : Int32)).toInt64))), .second, .val (.int v2), .val (.int v3), .val (.int v4), .val (.int v5), .val (.int v7)] [])) _
          refine XS.iconst X8.here hx rfl (hb hby at_269) ?_
          show Steps p.tables e below (T8.setTop (mkF m 270 #[.val (.long q0), .second, .val (.int p1), .val (.long q2), .second, .val (.int p3), .val (.int p4), .val (.long (q0 &&& (2147483647 : Int64))), .second, .val (.int (p1 &&& (15 : Int32))), .val (.int (p3 &&& (15 : Int32))), .val (.int (p4 &&& (3 : Int32))), .val (.long v1), .second, .val (.long ((((q0 &&& (2147483647 : Int64)) * (16 : Int64)) + (15 : Int64)) - ((p1 &&& (15 : Int32)).toInt64))), .second, .val (.long (((v1 * (16 : Int64)) + (15 : Int64)) - ((p3 &&& (15 : Int32)).toInt64))), .second, .val (.int v2), .val (.int v3), .val (.int v4), .val (.int v5), .val (.int v7)] [(.int (1 : Int32))])) _
          refine XS.goto X8.here hx rfl (pc0 := 270) (pc' := 274) rfl (hb hby at_270) (by decide) (by decide) ?_
          subst hv8
          exact kt
  have hfin : v8 = 1 := (own_plain0 q0 p1 q2 p3 p4 v1 hv1 v2 hv2 v3 hv3 v4 hv4 v5 hv5 v6 hv6 v7 hv7 v8 hv8)
  obtain ⟨fs, hr, hrun, hended, hW, hsame⟩ := X8.leave (v := some (.int (v8 &&& 1))) (fun h => by rw [Bd.returns] at h; cases h)
  refine ⟨_, _, pre42 _ ?_, hrun, hended, _, _, rfl, ?_, ⟨_, rfl⟩, hW, hsame.mono (by decide) (by decide)⟩
  · exact retN X8 hx (t := .boolean) Bd.returns (by simp) (hb hby at_274) hr
  · exact ⟨by rw [hfin]; rfl, N9⟩
set_option maxRecDepth 65536 in
set_option maxHeartbeats 40000000 in
theorem comes_1 {Post : Tables → Env → Array Value → State → Outcome → State → Prop} (hpost : ∀ tb e args s v u, (limb_1_1.after args s (.returned v) u = true ∧ limb_1_2.after args s (.returned v) u = true ∧ True) → FrameEnd s (.returned v) u (Jvm.fieldLocs frame_1_writes args s ++ Jvm.arrayLocs frame_1_arrays args s ++ Jvm.staticLocs frame_1_statics s) 0 0 → Post tb e args s (.returned v) u) :
    ArmFor flags0 classFile x code maxLocals ret World_1 tables_1 room_1 Calls_1 rest_1 Pre_1 Post := by
  intro l hfl _ _ p e ha hc hk s m args below hf hA hF happ hP
  obtain ⟨hcalls, hrest, hpre⟩ := hP
  obtain ⟨-, -, -, hnamed, -, -, -, hat⟩ := (Spec.applies_iff hf).mp happ
  obtain ⟨hg, hn⟩ := and_e (Cond.before_iff.mp (show (Jvm.Cond.and given_1 narrow_1).before args s = true from hpre))
  obtain ⟨hcount, hg0⟩ := and_e hg
  obtain ⟨ha0, hg1⟩ := and_e hg0
  obtain ⟨ha1, hg2⟩ := and_e hg1
  obtain ⟨ha2, hg3⟩ := and_e hg2
  obtain ⟨ha3, hg4⟩ := and_e hg3
  have ha4 := hg4
  obtain ⟨w0, w1, w2, w3, w4, rfl⟩ : ∃ w0 w1 w2 w3 w4 : Value, args = #[w0, w1, w2, w3, w4] := by
    have hs : args.size = 5 := by simpa [Cond.value, given_1] using hcount
    obtain ⟨L⟩ := args
    match L, hs with
    | [w0, w1, w2, w3, w4], _ => exact ⟨w0, w1, w2, w3, w4, rfl⟩
  have hw := fun d (hd : d ∈ tables_1) => atoms_spec (ws := Jvm.Cond.code x code maxLocals ret :: tables_1) hat d (List.mem_cons_of_mem _ hd)
  obtain ⟨i0, ei0⟩ := isL_v ha0
  obtain rfl : w0 = (.long i0) := Option.some.inj ei0
  obtain ⟨i1, ei1⟩ := is_v ha1
  obtain rfl : w1 = (.int i1) := Option.some.inj ei1
  obtain ⟨i2, ei2⟩ := isL_v ha2
  obtain rfl : w2 = (.long i2) := Option.some.inj ei2
  obtain ⟨i3, ei3⟩ := is_v ha3
  obtain rfl : w3 = (.int i3) := Option.some.inj ei3
  obtain ⟨i4, ei4⟩ := is_v ha4
  obtain rfl : w4 = (.int i4) := Option.some.inj ei4
  obtain ⟨n, o, h1, h2, h3, _, L, rfl, ⟨rfl, N⟩, hq⟩ := rm0 l s _ hw tables_1 i0 i1 i2 i3 i4 s.heap s.heap.size (Nat.le_refl _) p e ha hc hk s m _ below hf ((Spec.applies_iff_loose hf).mp happ).1 ⟨rfl, State.Warmed39.refl s, rfl⟩ trivial
  refine ⟨n, _, h1, h2, h3, hpost _ _ _ _ _ _ ⟨Cond.after_iff.mpr rfl, Cond.after_iff.mpr (eq_i res_at (Term.int_eval (1)) rfl), trivial⟩ ⟨hq.1, hq.2.1, (hq.2.2.sift fun y hy => Or.inr (N y hy)).mono (by decide) (by decide)⟩⟩
theorem main_1_1 : Claimed_1_1 := comes_1 fun _ _ _ _ _ _ h hF => ⟨h.1, hF⟩
theorem main_1_2 : Claimed_1_2 := comes_1 fun _ _ _ _ _ _ h hF => ⟨h.2.1, hF⟩
end Jvm.Pilot.@@N@@
namespace Jvm.Pilot.@@N@@
open Jvm Jvm.ClassFile Sem Op Lib Jvm.Free Jvm.Stand Jvm.Pilot.@@N@@.Jvm.D
/-! MADE BY PROGRAM (witnessworld.py) out of the Statement's table words and the real class files: 9 classes; the members and pool entries that the words name. The judged class is class 1, her method 1. -/
namespace start1
open Jvm.ClassFile
def u (s : String) : CpInfo := .utf8 (stringToUtf16 s)
/-- a pool by its gaps: so many unusable entries, then the entry; so many at the end -/
def gap : Nat → List CpInfo → List CpInfo
  | 0, r => r
  | n + 1, r => .unusable :: gap n r
def poolList (es : List (Nat × CpInfo)) (last : Nat) : List CpInfo := es.foldr (fun e r => gap e.1 (e.2 :: r)) (gap last [])
def pool (es : List (Nat × CpInfo)) (last : Nat) : Array CpInfo := ⟨poolList es last⟩
def fileOf (pool : Array CpInfo) (this : Nat) (attrs : Array Attribute := #[]) (ms : Array MethodInfo := #[]) (fl : Nat := 33) (sup : Nat := 0) (ifs : Array Nat := #[]) (fds : Array FieldInfo := #[]) : ClassFile where
  minorVersion := 0
  majorVersion := 65
  constantPool := pool
  accessFlags := fl
  thisClass := this
  superClass := sup
  interfaces := ifs
  fields := fds
  methods := ms
  attributes := attrs
def plain (name : String) (sup : Option ClassId) : Class where
  name := name
  kind := .ordinary
  loader := none
  accessFlags := 33
  super := sup
  interfaces := #[]
  cf := none
  fields := #[]
  methods := #[]
  instanceTypes := #[]
  staticTypes := #[]
  resolved := #[]
  callSites := []
  init := .initialized
  statics := none
  mirror := none

def pool0 : Array CpInfo := pool [(5, u "<init>"), (0, u "()V"), (1, .class_ 10), (1, u "java/lang/Object")] 113

def k0m0 : Method := { name := "<init>", desc := "()V", sig := { parameters := [], returnType := none }, accessFlags := 1, code := none }
/-- java/lang/Object -/
def k0 : Class := { plain "java/lang/Object" none with
  accessFlags := 33
  interfaces := #[]
  cf := some (fileOf pool0 8 #[] #[{ accessFlags := 1, nameIndex := 5, descriptorIndex := 6, attributes := #[] }] 33 0 #[] #[])
  fields := #[]
  methods := #[k0m0]
  instanceTypes := #[]
  staticTypes := #[]
  resolved := Array.replicate 124 none
  statics := none }

def pool1 : Array CpInfo := pool [(2, .class_ 4), (1, u "java/lang/Object"), (0, u "<init>"), (0, u "()V"), (0, .long 2147483647), (1, .methodref 10 11), (0, .class_ 12), (0, .nameAndType 13 14), (0, u "com/example/packwright/packwright/core/bins/SetBounds"), (0, u "key"), (0, u "(JI)J"), (0, .long 15), (1, .class_ 18), (0, u "com/example/packwright/packwright/core/bins/SetBoundsKeyPinLaw"), (2, u "law"), (0, u "(JIJII)Z")] 3

def k1m0 : Method := { name := "<init>", desc := "()V", sig := { parameters := [], returnType := none }, accessFlags := 2, code := none }
def k1c1 : Code := { maxStack := 4, maxLocals := 23, code := code, exceptionTable := #[], attributes := #[] }
def k1m1 : Method := { name := "law", desc := "(JIJII)Z", sig := { parameters := [.long, .int, .long, .int, .int], returnType := some .boolean }, accessFlags := 9, code := some k1c1 }
/-- com/example/packwright/packwright/core/bins/SetBoundsKeyPinLaw -/
def k1 : Class := { plain "com/example/packwright/packwright/core/bins/SetBoundsKeyPinLaw" (some 0) with
  accessFlags := 49
  interfaces := #[]
  cf := some (fileOf pool1 17 #[] #[{ accessFlags := 2, nameIndex := 5, descriptorIndex := 6, attributes := #[] }, { accessFlags := 9, nameIndex := 21, descriptorIndex := 22, attributes := #[] }] 49 2 #[] #[])
  fields := #[]
  methods := #[k1m0, k1m1]
  instanceTypes := #[]
  staticTypes := #[]
  resolved := Array.replicate 26 none
  statics := none }

def pool2 : Array CpInfo := pool [(4, .class_ 6), (1, u "java/lang/Object"), (3, .class_ 12), (1, u "com/example/packwright/packwright/core/bins/SetBounds"), (0, u "free"), (0, u "I"), (2, u "unpacked"), (0, u "Lcom/example/packwright/packwright/core/bins/UnpackedItems;"), (2, u "largestSet"), (8, u "leaves"), (8, u "rankBits"), (2, u "entries"), (0, u "[J"), (2, u "versions"), (0, u "[I"), (2, u "roomFor"), (0, .long 16), (1, .long 15), (9, u "key"), (0, u "(JI)J"), (8, u "version"), (34, u "NONE"), (0, u "J")] 16

def k2c0 : Code := { maxStack := 4, maxLocals := 3, code := prog_63_method_2_code, exceptionTable := #[], attributes := #[] }
def k2m0 : Method := { name := "key", desc := "(JI)J", sig := { parameters := [.long, .int], returnType := some .long }, accessFlags := 8, code := some k2c0 }
/-- com/example/packwright/packwright/core/bins/SetBounds -/
def k2 : Class := { plain "com/example/packwright/packwright/core/bins/SetBounds" (some 0) with
  accessFlags := 48
  interfaces := #[]
  cf := some (fileOf pool2 10 #[] #[{ accessFlags := 8, nameIndex := 63, descriptorIndex := 64, attributes := #[] }] 48 4 #[] #[{ accessFlags := 24, nameIndex := 108, descriptorIndex := 109, attributes := #[] }, { accessFlags := 18, nameIndex := 17, descriptorIndex := 18, attributes := #[] }, { accessFlags := 18, nameIndex := 21, descriptorIndex := 14, attributes := #[] }, { accessFlags := 18, nameIndex := 30, descriptorIndex := 14, attributes := #[] }, { accessFlags := 18, nameIndex := 39, descriptorIndex := 14, attributes := #[] }, { accessFlags := 18, nameIndex := 42, descriptorIndex := 43, attributes := #[] }, { accessFlags := 18, nameIndex := 46, descriptorIndex := 47, attributes := #[] }, { accessFlags := 2, nameIndex := 73, descriptorIndex := 14, attributes := #[] }, { accessFlags := 2, nameIndex := 13, descriptorIndex := 14, attributes := #[] }, { accessFlags := 18, nameIndex := 50, descriptorIndex := 47, attributes := #[] }])
  fields := #[{ name := "NONE", type := .long, accessFlags := 24, slot := 0, constantValue := 0 }, { name := "unpacked", type := (.object "com/example/packwright/packwright/core/bins/UnpackedItems"), accessFlags := 18, slot := 0, constantValue := 0 }, { name := "largestSet", type := .int, accessFlags := 18, slot := 1, constantValue := 0 }, { name := "leaves", type := .int, accessFlags := 18, slot := 2, constantValue := 0 }, { name := "rankBits", type := .int, accessFlags := 18, slot := 3, constantValue := 0 }, { name := "entries", type := (.array .long), accessFlags := 18, slot := 4, constantValue := 0 }, { name := "versions", type := (.array .int), accessFlags := 18, slot := 5, constantValue := 0 }, { name := "version", type := .int, accessFlags := 2, slot := 6, constantValue := 0 }, { name := "free", type := .int, accessFlags := 2, slot := 7, constantValue := 0 }, { name := "roomFor", type := (.array .int), accessFlags := 18, slot := 8, constantValue := 0 }]
  methods := #[k2m0]
  instanceTypes := #[(.object "com/example/packwright/packwright/core/bins/UnpackedItems"), .int, .int, .int, (.array .long), (.array .int), .int, .int, (.array .int)]
  staticTypes := #[.long]
  resolved := Array.replicate 126 none
  statics := none }

def pool3 : Array CpInfo := pool [(1, u "java/lang/Cloneable"), (0, .class_ 1), (0, u "java/lang/Object"), (0, .class_ 3)] 3

/-- java/lang/Cloneable -/
def k3 : Class := { plain "java/lang/Cloneable" (some 0) with
  accessFlags := 1537
  interfaces := #[]
  cf := some (fileOf pool3 2 #[] #[] 1537 4 #[] #[])
  fields := #[]
  methods := #[]
  instanceTypes := #[]
  staticTypes := #[]
  resolved := Array.replicate 8 none
  statics := none }

def pool4 : Array CpInfo := pool [(1, u "java/io/Serializable"), (0, .class_ 1), (0, u "java/lang/Object"), (0, .class_ 3)] 3

/-- java/io/Serializable -/
def k4 : Class := { plain "java/io/Serializable" (some 0) with
  accessFlags := 1537
  interfaces := #[]
  cf := some (fileOf pool4 2 #[] #[] 1537 4 #[] #[])
  fields := #[]
  methods := #[]
  instanceTypes := #[]
  staticTypes := #[]
  resolved := Array.replicate 8 none
  statics := none }

/-- the primitive byte -/
def k5 : Class := { plain "byte" none with kind := .primitive 'B', accessFlags := 0x411 }
/-- [B -/
def k6 : Class := { plain "[B" (some 0) with kind := .array 5 .byte, interfaces := #[3, 4], accessFlags := 1041 }

/-- the primitive int -/
def k7 : Class := { plain "int" none with kind := .primitive 'I', accessFlags := 0x411 }
/-- [I -/
def k8 : Class := { plain "[I" (some 0) with kind := .array 7 .int, interfaces := #[3, 4], accessFlags := 1041 }

def heap : Heap := #[]
def classes : Array Class := #[k0, k1, k2, k3, k4, k5, k6, k7, k8]
def interned : List (Array UInt16 × Addr) := []
def slotsUsed : Nat := 0
def theMethod : MethodId := ⟨1, 1⟩
def args0 : Array Value := #[.long 5, .int 5, .long 5, .int 5, .int 5]
def aboutOver (below : List Frame) : State where
  vm := { classes := classes, interned := interned.toArray }
  heap := heap
  slotsUsed := slotsUsed
  threads := #[{ frames := .invoking theMethod args0 :: below }]
def below0 : List Frame := [.native { method := ⟨0, 0⟩, args := #[] }]
def about1 : State := aboutOver below0
def p0 : Program := .bare "" "" ""
def e0 : Env := launch0.env 0 0 0
theorem w_frames : about1.frames = Frame.invoking theMethod args0 :: below0 := rfl
set_option maxRecDepth 65536 in
theorem w_args : argsFit about1.vm theMethod args0 = true := by decide +kernel
set_option maxRecDepth 65536 in
theorem w_heap : heapFits about1 = true := by decide +kernel
set_option maxRecDepth 65536 in
theorem w_runnable : about1.curStatus? = some .runnable := by decide +kernel
set_option maxRecDepth 65536 in
theorem w_alone : about1.alone = true := by decide +kernel
set_option maxRecDepth 65536 in
theorem w_named : about1.methodNamed? x = some theMethod := by decide +kernel
set_option maxRecDepth 65536 in
theorem w_hears : about1.hears theMethod below0 = true := by decide +kernel
set_option maxRecDepth 65536 in
theorem w_ripe : about1.ripe theMethod args0 below0 = true := by decide +kernel
theorem w_running : about1.status = .running := rfl
set_option maxRecDepth 65536 in
theorem w_room : about1.hasRoom e0.platform room_1 = true :=
  launch0.hasRoom_least _ room_1 (by decide +kernel) (by decide +kernel) (by decide +kernel) (by decide +kernel) (by decide +kernel) (by decide +kernel)
theorem allAtoms_all (ts : List Jvm.Cond) (a : Array Jvm.Value) (st : Jvm.State) : (allAtoms ts).before a st = ts.all (fun c => c.before a st) := by
  induction ts with
  | nil => rfl
  | cons c t ih =>
    show (Jvm.Cond.and c (allAtoms t)).before a st = _
    rw [Jvm.Cond.before_and, ih, List.all_cons]
def words1 : List Jvm.Cond := Jvm.Cond.code x code maxLocals ret :: tables_1
/-- a 'code' word, met by the world's own term for the bytes: nothing is compared byte by byte -/
theorem code_word {y : MethodName} {bytes : ByteArray} {mx : Nat} {rt : Option FieldType} {a : Array Value} {s : State} {m : MethodId} {meth : Method} {c : Code} (h1 : s.methodNamed? y = some m) (h2 : s.vm.method? m = some meth) (h3 : meth.code = some c) (h4 : c.code = bytes)
    (h5 : (c.maxLocals == mx && c.exceptionTable.isEmpty && decide (c.maxStack ≤ mostOperands) && decide (meth.sig.returnType = rt) && !meth.locks && decide (parseMethodDescriptor y.desc = some meth.sig)) = true) : (Jvm.Cond.code y bytes mx rt).before a s = true := by
  simp only [Bool.and_eq_true, beq_iff_eq, Bool.not_eq_true', decide_eq_true_eq] at h5
  obtain ⟨⟨⟨⟨⟨g1, g2⟩, g3⟩, g4⟩, g5⟩, g6⟩ := h5
  simp [Cond.before, Cond.holds, Cond.value, h1, h2, h3, h4, g1, g2, g3, g4, g5, g6]
def isCode : Jvm.Cond → Bool
  | .code _ _ _ _ => true
  | _ => false
theorem all_split {L : List Jvm.Cond} {P : Jvm.Cond → Bool} (h1 : L.all (fun c => isCode c || P c) = true) (h2 : ∀ c ∈ L.filter isCode, P c = true) : L.all P = true := by
  refine List.all_eq_true.mpr fun c hc => ?_
  have h := List.all_eq_true.mp h1 c hc
  rcases Bool.eq_false_or_eq_true (isCode c) with hi | hi
  · exact h2 c (List.mem_filter.mpr ⟨hc, hi⟩)
  · simpa [hi] using h
set_option maxRecDepth 65536 in
theorem w_c0 : (Jvm.Cond.code x code maxLocals ret).before args0 about1 = true := code_word (m := ⟨1, 1⟩) (meth := k1m1) (c := k1c1) (by decide +kernel) rfl rfl rfl (by decide +kernel)
set_option maxRecDepth 65536 in
theorem w_c1 : (Jvm.Cond.code ({ cls := "com/example/packwright/packwright/core/bins/SetBounds", name := "key", desc := "(JI)J" } : Jvm.MethodName) prog_63_method_2_code (3 : Nat) (Option.some Jvm.ClassFile.FieldType.long)).before args0 about1 = true := code_word (m := ⟨2, 0⟩) (meth := k2m0) (c := k2c0) (by decide +kernel) rfl rfl rfl (by decide +kernel)
def codes1 : List Jvm.Cond := [Jvm.Cond.code x code maxLocals ret, Jvm.Cond.code ({ cls := "com/example/packwright/packwright/core/bins/SetBounds", name := "key", desc := "(JI)J" } : Jvm.MethodName) prog_63_method_2_code (3 : Nat) (Option.some Jvm.ClassFile.FieldType.long)]
set_option maxRecDepth 65536 in
theorem codes_eq : words1.filter isCode = codes1 := rfl
theorem w_codes : ∀ c ∈ words1.filter isCode, c.before args0 about1 = true := by
  rw [codes_eq]
  intro c hc
  simp only [codes1, List.mem_cons, List.not_mem_nil, or_false] at hc
  rcases hc with rfl | rfl
  · exact w_c0
  · exact w_c1
set_option maxRecDepth 65536 in
theorem w_t1 : words1.all (fun c => isCode c || c.before args0 about1) = true := by decide +kernel
theorem w_tables : (allAtoms (Jvm.Cond.code x code maxLocals ret :: tables_1)).before args0 about1 = true := by
  rw [allAtoms_all]
  show words1.all (fun c => c.before args0 about1) = true
  refine all_split ?_ w_codes
  rw [w_t1]
set_option maxRecDepth 65536 in
theorem w_case : (Jvm.Cond.and given_1 narrow_1).before args0 about1 = true := by decide +kernel
theorem w_applies : (headSpec (Jvm.Cond.code x code maxLocals ret :: tables_1) room_1).applies x e0.platform about1 = true :=
  (Spec.applies_iff w_frames).mpr ⟨w_running, w_runnable, w_alone, w_named, w_hears, w_ripe, w_room, w_tables⟩
theorem atStart : AtStart classFile x code maxLocals ret World_1 tables_1 room_1 Calls_1 rest_1 Pre_1 launch0 p0 e0 about1 theMethod args0 below0 :=
  ⟨lists_1, trivial, launch0.admits_env _ _ _, launch0.least_env, fairChoices_fair.cas, fairChoices_fair.clock, w_frames, w_args, w_heap, w_applies, trivial, trivial, w_case⟩
end start1
theorem witness_1 : WitnessClaimed_1 := ⟨start1.p0, start1.e0, start1.about1, start1.theMethod, start1.args0, start1.below0, start1.atStart⟩
end Jvm.Pilot.@@N@@
