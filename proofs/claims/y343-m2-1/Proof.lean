import JvmDerived
import JvmDerived.Pilot.@@N@@Statement
import JvmDerived.Pilot.@@N@@Code
set_option linter.unusedVariables false
set_option linter.unusedSimpArgs false
@@BLOCK:NumsL.lean.txt@@
namespace Jvm.RoadKit
open Sem ClassFile Op Lib Jvm.Stand Jvm.Free Jvm.LawKit
section New
variable {p : Program} {l : Launch} {e : Env} {R : Room} {s : State} {m : MethodId} {args : Array Value} {below : List Frame} {meth : Method} {c : Code} {T : State} {locs : List Loc} {cells slots : Nat}
theorem retI (X : Stand p l e R s m args below meth c T locs cells slots) (hx : p.tables.exec = Jvm.exec) {pc : Nat} {Ls : Array Slot} {z : Int32} {rest : List Value} (hret : meth.sig.returnType = some .int) (hd : decode c.code pc = .ok (.ireturn, 1)) {fs : List Frame}
    (hl : ∀ (f : JFrame) (acts : List Action), f.method = m → f.locked = none → f.entered = [] → (doReturn e (T.setTop f) acts (some (.int z))).1 = T.setFrames fs) : Steps p.tables e below (T.setTop (mkF m pc Ls (.int z :: rest))) (T.setFrames fs) := by
  have hm' : T.vm.method? m = some meth := X.method'
  have hn : narrow .int (.int z) = .int z := rfl
  show Steps p.tables e below (T.setTop { method := m, pc := pc, locals := Ls, stack := _ :: rest, locked := none }) _
  jvm_step X.here [X.here.top, hx, hd, hm', hret, hn]
  first | (intro acts; rw [hl _ acts rfl rfl rfl]) | rw [hl _ _ rfl rfl rfl]
  exact Steps.refl _
end New
end Jvm.RoadKit
namespace Jvm.Pilot.@@N@@
open Jvm Jvm.ClassFile Sem Op Lib Jvm.Free Jvm.Stand Jvm.LawKit Jvm.RoadKit Bundle Jvm.Pilot.@@N@@.Jvm.D
theorem own_lwN {x y : Int64} (h : ¬ x = y) : ¬ lcmpW x y = 0 := fun q => h ((lw_eq x y).mp q)
theorem own_lwE {x y : Int64} (h : x = y) : lcmpW x y = 0 := (lw_eq x y).mpr h
theorem own_lwL {x y : Int64} (h : x < y) : lcmpW x y < 0 := (lw_lt x y).mpr h
theorem own_lwM {x y : Int64} (h : ¬ x < y) : ¬ lcmpW x y < 0 := fun q => h ((lw_lt x y).mp q)
theorem own_lwG {x y : Int64} (h : y < x) : 0 < lcmpW x y := (lw_gt x y).mpr h
theorem own_lwH {x y : Int64} (h : ¬ y < x) : ¬ 0 < lcmpW x y := fun q => h ((lw_gt x y).mp q)
theorem own_F {Z : State} {h : Heap} {a : Addr} {C n d : String} {v w : Value} (q : v = w) (F : Fld Z h a C n d v) : Fld Z h a C n d w := q ▸ F
theorem own_rI {x y : Int32} (q : x = y) : (some (Value.int x)) = some (.int y) := by rw [q]
theorem own_rJ {x y : Int64} (q : x = y) : (some (Value.long x)) = some (.long y) := by rw [q]
def own_Ar (Z : State) (h : Heap) (a : Addr) (ty : FieldType) (n : Nat) (f : Nat → Int32) : Prop := ∃ c : Cell, Arr Z h a c ty ∧ c.slots.size = n ∧ ∀ i, i < n → c.slots[i]? = some (.int (f i))
def own_up (f : Nat → Int32) (i : Nat) (x : Int32) : Nat → Int32 := fun k => if k = i then x else f k
theorem own_up_self (f : Nat → Int32) (i : Nat) (x : Int32) : own_up f i x i = x := if_pos rfl
theorem own_up_ne (f : Nat → Int32) {i k : Nat} (x : Int32) (h : k ≠ i) : own_up f i x k = f k := if_neg h
section OwnArr
variable {Z : State} {h h' : Heap} {a b : Addr} {ty : FieldType} {n : Nat} {f : Nat → Int32} {sl : Nat} {v : Value} {ws : List Addr}
theorem own_Ar.lt (F : own_Ar Z h a ty n f) : a < h.size := by obtain ⟨c, A, -⟩ := F; exact A.lt
theorem own_Ar.ext (F : own_Ar Z h a ty n f) (E : Ext h h') : own_Ar Z h' a ty n f := by obtain ⟨c, A, r⟩ := F; exact ⟨c, A.ext E, r⟩
theorem own_Ar.other (F : own_Ar Z h b ty n f) (W : Wr h h' a sl v) (q : b ≠ a) : own_Ar Z h' b ty n f := by obtain ⟨c, A, r⟩ := F; exact ⟨c, A.other W q, r⟩
theorem own_Ar.keep (F : own_Ar Z h a ty n f) (K : Keep h h' ws) (q : a ∉ ws) : own_Ar Z h' a ty n f := by obtain ⟨c, A, r⟩ := F; exact ⟨c, ⟨K.2.1 a c A.1 q, A.2⟩, r⟩
theorem own_Ar.wr {i : Nat} {x : Int32} (F : own_Ar Z h a ty n f) (W : Wr h h' a i (.int x)) (hi : i < n) : own_Ar Z h' a ty n (own_up f i x) := by
  obtain ⟨c, A, hs, H⟩ := F
  refine ⟨c.setSlot i (.int x), A.same W, by rw [sz_set]; exact hs, fun k hk => ?_⟩
  by_cases e : k = i
  · subst e; rw [own_up_self]; simp [Cell.setSlot, hs, hk]
  · rw [own_up_ne f x e]
    have q := H k hk
    simp only [Cell.setSlot]
    rw [Array.getElem?_setIfInBounds_ne (Ne.symm e)]; exact q
theorem own_Ar.mono {g : Nat → Int32} (F : own_Ar Z h a ty n f) (q : ∀ i, i < n → f i = g i) : own_Ar Z h a ty n g := by
  obtain ⟨c, A, hs, H⟩ := F
  exact ⟨c, A, hs, fun i hi => by rw [← q i hi]; exact H i hi⟩
theorem own_Ar.of {k : ClassId} {z : Int32} {vs : List Value} (F : Arv Z h a k ty z vs (.int 0)) (hz : z.toNatClampNeg = n) (q : ∀ i, i < n → vs.getD i (.int 0) = .int (f i)) : own_Ar Z h a ty n f := by
  obtain ⟨c, A, -, hs, -, H, -⟩ := F
  rw [hz] at hs
  exact ⟨c, A, hs, fun i hi => by rw [H i (by rw [hs]; exact hi), q i hi]⟩
variable {p : Program} {l : Launch} {e : Env} {R : Room} {s : State} {m : MethodId} {args : Array Value} {below : List Frame} {meth : Method} {c : Code} {T : State} {locs : List Loc} {cells slots : Nat}
theorem own_in {cl : Cell} {j : Int32} {i : Nat} (hs : cl.slots.size = n) (hj : ¬ j < 0 ∧ j.toNatClampNeg = i) (hi : i < n) : ¬ (j < 0 ∨ cl.slots.size ≤ j.toNatClampNeg) := by
  rw [hs, hj.2]; exact fun q => q.elim hj.1 (Nat.not_le.mpr hi)
theorem own_rdI (X : Stand p l e R s m args below meth c T locs cells slots) (hx : p.tables.exec = Jvm.exec) (hZ : Z.Warmed39 s.vm) (eT : T.heap = h) (F : own_Ar Z h a .int n f) {j : Int32} {i : Nat} (hj : ¬ j < 0 ∧ j.toNatClampNeg = i) (hi : i < n) {g : JFrame} (hg : g.method = m) {rest : List Value} (hs : g.stack = .int j :: .ref a :: rest) (hd : decode c.code g.pc = .ok (.iaload, 1))
    (target : State) (hr : Steps p.tables e below (T.setTop { g with pc := g.pc + 1, stack := .int (f i) :: rest }) target) : Steps p.tables e below (T.setTop g) target := by
  obtain ⟨cl, A, hsz, H⟩ := F
  exact X.iaload hx (v := .int (f i)) (by rw [eT]; exact A.1) (State.isArrayOf_alike hZ.alike A.2.1) A.2.2 (own_in hsz hj hi) (by rw [hj.2]; exact H i hi) hg hs hd target hr
theorem own_rdB (X : Stand p l e R s m args below meth c T locs cells slots) (hx : p.tables.exec = Jvm.exec) (hZ : Z.Warmed39 s.vm) (eT : T.heap = h) (F : own_Ar Z h a .byte n f) {j : Int32} {i : Nat} (hj : ¬ j < 0 ∧ j.toNatClampNeg = i) (hi : i < n) {g : JFrame} (hg : g.method = m) {rest : List Value} (hs : g.stack = .int j :: .ref a :: rest) (hd : decode c.code g.pc = .ok (.baload, 1))
    (target : State) (hr : Steps p.tables e below (T.setTop { g with pc := g.pc + 1, stack := .int (f i) :: rest }) target) : Steps p.tables e below (T.setTop g) target := by
  obtain ⟨cl, A, hsz, H⟩ := F
  exact X.baloadBytes hx (v := .int (f i)) (by rw [eT]; exact A.1) (State.isArrayOf_alike hZ.alike A.2.1) A.2.2 (own_in hsz hj hi) (by rw [hj.2]; exact H i hi) hg hs hd target hr
theorem own_len (X : Stand p l e R s m args below meth c T locs cells slots) (hx : p.tables.exec = Jvm.exec) (hZ : Z.Warmed39 s.vm) (eT : T.heap = h) (F : own_Ar Z h a ty n f) {z : Int32} (hz : n.toInt32 = z) {g : JFrame} (hg : g.method = m) {rest : List Value} (hs : g.stack = .ref a :: rest) (hd : decode c.code g.pc = .ok (.arraylength, 1))
    (target : State) (hr : Steps p.tables e below (T.setTop { g with pc := g.pc + 1, stack := .int z :: rest }) target) : Steps p.tables e below (T.setTop g) target := by
  obtain ⟨cl, A, hsz, H⟩ := F
  exact X.arraylength hx (by rw [eT]; exact A.1) (State.isArrayOf_alike hZ.alike A.2.1) hg hs hd target (by rw [hsz, hz]; exact hr)
theorem own_stI (X : Stand p l e R s m args below meth c T locs cells slots) (hx : p.tables.exec = Jvm.exec) (hZ : Z.Warmed39 s.vm) (eT : T.heap = h) (F : own_Ar Z h a .int n f) {j x : Int32} {i : Nat} (hj : ¬ j < 0 ∧ j.toNatClampNeg = i) (hi : i < n) {g : JFrame} (hg : g.method = m) {rest : List Value} (hs : g.stack = .int x :: .int j :: .ref a :: rest) (hd : decode c.code g.pc = .ok (.iastore, 1)) :
    ∃ T' h', Stand p l e R s m args below meth c T' (locs ++ [⟨a, i⟩]) cells slots ∧ T'.heap = h' ∧ Wr h h' a i (.int x) ∧ own_Ar Z h' a .int n (own_up f i x) ∧ ∀ target, Steps p.tables e below (T'.setTop { g with pc := g.pc + 1, stack := rest }) target → Steps p.tables e below (T.setTop g) target := by
  have F0 := F
  obtain ⟨cl, A, hsz, H⟩ := F
  obtain ⟨T', h', X', e', W', st⟩ := stI X hx hZ eT A (own_in hsz hj hi) hg hs hd
  rw [hj.2] at X' W'
  exact ⟨T', h', X', e', W', F0.wr W' hi, st⟩
theorem own_stB (X : Stand p l e R s m args below meth c T locs cells slots) (hx : p.tables.exec = Jvm.exec) (hZ : Z.Warmed39 s.vm) (eT : T.heap = h) (F : own_Ar Z h a .byte n f) {j x : Int32} {i : Nat} (hj : ¬ j < 0 ∧ j.toNatClampNeg = i) (hi : i < n) {g : JFrame} (hg : g.method = m) {rest : List Value} (hs : g.stack = .int x :: .int j :: .ref a :: rest) (hd : decode c.code g.pc = .ok (.bastore, 1)) :
    ∃ T' h', Stand p l e R s m args below meth c T' (locs ++ [⟨a, i⟩]) cells slots ∧ T'.heap = h' ∧ Wr h h' a i (.int (x.toInt8.toInt32)) ∧ own_Ar Z h' a .byte n (own_up f i (x.toInt8.toInt32)) ∧ ∀ target, Steps p.tables e below (T'.setTop { g with pc := g.pc + 1, stack := rest }) target → Steps p.tables e below (T.setTop g) target := by
  have F0 := F
  obtain ⟨cl, A, hsz, H⟩ := F
  obtain ⟨T', h', X', e', W', st⟩ := stB X hx hZ eT A (own_in hsz hj hi) hg hs hd
  rw [hj.2] at X' W'
  exact ⟨T', h', X', e', W', F0.wr W' hi, st⟩
end OwnArr
theorem own_ws {Z : State} {aq : Array Value} (hw : ∀ d ∈ tables_1, d.before aq Z = true) : ∀ a ∈ Bundle.stringAtoms, a.before aq Z = true := by
  intro a ha
  simp only [Bundle.stringAtoms, List.mem_cons, List.not_mem_nil, or_false] at ha
  rcases ha with rfl | rfl | rfl | rfl | rfl | rfl | rfl
  · exact hw _ (List.mem_of_getElem? (i := 6) rfl)
  · exact hw _ (List.mem_of_getElem? (i := 7) rfl)
  · exact hw _ (List.mem_of_getElem? (i := 8) rfl)
  · exact hw _ (List.mem_of_getElem? (i := 9) rfl)
  · exact hw _ (List.mem_of_getElem? (i := 10) rfl)
  · exact hw _ (List.mem_of_getElem? (i := 11) rfl)
  · exact hw _ (List.mem_of_getElem? (i := 12) rfl)
def own_ext (u b : Nat → Int32) (x : Int32) : Nat → Nat → Nat
  | 0, len => if x = u len then len + 1 else len
  | f + 1, len => if 0 < len then (if x = u len then len + 1 else own_ext u b x f (b (len - 1)).toNatClampNeg) else (if x = u len then len + 1 else len)
theorem own_ofn : ∀ k : Fin 8, ¬ Int32.ofNat k.val < 0 ∧ (Int32.ofNat k.val).toNatClampNeg = k.val := by decide
theorem own_of {k : Nat} (h : k < 8) : ¬ Int32.ofNat k < 0 ∧ (Int32.ofNat k).toNatClampNeg = k := own_ofn ⟨k, h⟩
theorem own_sub1 {k : Nat} (h : 0 < k) : Int32.ofNat k - (1 : Int32) = Int32.ofNat (k - 1) := by
  have e : k = (k - 1) + 1 := by omega
  rw [e, Int32.ofNat_add]
  simp
theorem own_ix1 {k : Nat} (h : 0 < k) (h2 : k < 8) : ¬ (Int32.ofNat k - (1 : Int32)) < 0 ∧ (Int32.ofNat k - (1 : Int32)).toNatClampNeg = k - 1 := by
  rw [own_sub1 h]; exact own_of (by omega)
theorem own_pos {k : Nat} (h2 : k < 8) : (0 : Int32) < Int32.ofNat k ↔ 0 < k := by
  have q : ∀ k : Fin 8, (0 : Int32) < Int32.ofNat k.val ↔ 0 < k.val := by decide
  exact q ⟨k, h2⟩
theorem own_nn {z : Int32} (h : ¬ z < 0) : z = Int32.ofNat z.toNatClampNeg := by
  apply Int32.toInt_inj.mp
  have hb := z.toInt_lt
  rw [Int32.lt_iff_toInt_lt, Int32.toInt_zero] at h
  have e : z.toNatClampNeg = z.toInt.toNat := rfl
  rw [e, Int32.toInt_ofNat_small (by omega)]
  omega
theorem own_add1 (k : Nat) : Int32.ofNat k + (1 : Int32) = Int32.ofNat (k + 1) := (Int32.ofNat_add k 1).symm
theorem own_hb0 (b : Nat → Int32) : ∀ j, j < 0 → ¬ b j < 0 ∧ (b j).toNatClampNeg ≤ j := fun j h => absurd h (Nat.not_lt_zero j)
theorem own_hb1 {a k : Nat} (h : a ≤ 1) (hk : k ≤ 1) : ∀ j, j < k → ¬ (own_up (fun _ => (0 : Int32)) 1 (Int32.ofNat a)) j < 0 ∧ ((own_up (fun _ => (0 : Int32)) 1 (Int32.ofNat a)) j).toNatClampNeg ≤ j := by
  intro j hj
  have e : j = 0 := by omega
  subst e
  exact ⟨by show ¬ (0 : Int32) < 0; decide, by show (0 : Int32).toNatClampNeg ≤ 0; decide⟩
theorem own_hb2 {a c k : Nat} (h : a ≤ 1) (h2 : c ≤ 2) (hk : k ≤ 2) : ∀ j, j < k → ¬ (own_up (own_up (fun _ => (0 : Int32)) 1 (Int32.ofNat a)) 2 (Int32.ofNat c)) j < 0 ∧ ((own_up (own_up (fun _ => (0 : Int32)) 1 (Int32.ofNat a)) 2 (Int32.ofNat c)) j).toNatClampNeg ≤ j := by
  intro j hj
  have e : j = 0 ∨ j = 1 := by omega
  rcases e with rfl | rfl
  · exact ⟨by show ¬ (0 : Int32) < 0; decide, by show (0 : Int32).toNatClampNeg ≤ 0; decide⟩
  · have q := own_of (k := a) (by omega)
    exact ⟨q.1, by show (Int32.ofNat a).toNatClampNeg ≤ 1; rw [q.2]; exact h⟩
theorem own_hb3 {a c d k : Nat} (h : a ≤ 1) (h2 : c ≤ 2) (hk : k ≤ 3) : ∀ j, j < k → ¬ (own_up (own_up (own_up (fun _ => (0 : Int32)) 1 (Int32.ofNat a)) 2 (Int32.ofNat c)) 3 (Int32.ofNat d)) j < 0 ∧ ((own_up (own_up (own_up (fun _ => (0 : Int32)) 1 (Int32.ofNat a)) 2 (Int32.ofNat c)) 3 (Int32.ofNat d)) j).toNatClampNeg ≤ j := by
  intro j hj
  have e : j = 0 ∨ j = 1 ∨ j = 2 := by omega
  rcases e with rfl | rfl | rfl
  · exact ⟨by show ¬ (0 : Int32) < 0; decide, by show (0 : Int32).toNatClampNeg ≤ 0; decide⟩
  · have q := own_of (k := a) (by omega)
    exact ⟨q.1, by show (Int32.ofNat a).toNatClampNeg ≤ 1; rw [q.2]; exact h⟩
  · have q := own_of (k := c) (by omega)
    exact ⟨q.1, by show (Int32.ofNat c).toNatClampNeg ≤ 2; rw [q.2]; exact h2⟩
theorem own_c4 (u : Nat → Int32) : ∀ i, i < 4 → (own_up (own_up (own_up (own_up (fun _ => (0 : Int32)) 0 (u 0)) 1 (u 1)) 2 (u 2)) 3 (u 3)) i = u i := by
  intro i hi
  have e : i = 0 ∨ i = 1 ∨ i = 2 ∨ i = 3 := by omega
  rcases e with rfl | rfl | rfl | rfl <;> rfl
theorem d3_0 : decode prog_75_method_5_code 0 = .ok (.iload_n 1, 1) := by decide +kernel
theorem d3_1 : decode prog_75_method_5_code 1 = .ok (.istore_n 3, 1) := by decide +kernel
theorem d3_2 : decode prog_75_method_5_code 2 = .ok (.iload_n 3, 1) := by decide +kernel
theorem d3_3 : decode prog_75_method_5_code 3 = .ok (.ifCond .le 25, 3) := by decide +kernel
theorem d3_6 : decode prog_75_method_5_code 6 = .ok (.iload_n 2, 1) := by decide +kernel
theorem d3_7 : decode prog_75_method_5_code 7 = .ok (.aload_n 0, 1) := by decide +kernel
theorem d3_8 : decode prog_75_method_5_code 8 = .ok (.getfield 13, 3) := by decide +kernel
theorem d3_11 : decode prog_75_method_5_code 11 = .ok (.iload_n 3, 1) := by decide +kernel
theorem d3_12 : decode prog_75_method_5_code 12 = .ok (.iaload, 1) := by decide +kernel
theorem d3_13 : decode prog_75_method_5_code 13 = .ok (.if_icmp .eq 15, 3) := by decide +kernel
theorem d3_16 : decode prog_75_method_5_code 16 = .ok (.aload_n 0, 1) := by decide +kernel
theorem d3_17 : decode prog_75_method_5_code 17 = .ok (.getfield 17, 3) := by decide +kernel
theorem d3_20 : decode prog_75_method_5_code 20 = .ok (.iload_n 3, 1) := by decide +kernel
theorem d3_21 : decode prog_75_method_5_code 21 = .ok (.iconst 1, 1) := by decide +kernel
theorem d3_22 : decode prog_75_method_5_code 22 = .ok (.isub, 1) := by decide +kernel
theorem d3_23 : decode prog_75_method_5_code 23 = .ok (.iaload, 1) := by decide +kernel
theorem d3_24 : decode prog_75_method_5_code 24 = .ok (.istore_n 3, 1) := by decide +kernel
theorem d3_25 : decode prog_75_method_5_code 25 = .ok (.goto (-23), 3) := by decide +kernel
theorem d3_28 : decode prog_75_method_5_code 28 = .ok (.iload_n 2, 1) := by decide +kernel
theorem d3_29 : decode prog_75_method_5_code 29 = .ok (.aload_n 0, 1) := by decide +kernel
theorem d3_30 : decode prog_75_method_5_code 30 = .ok (.getfield 13, 3) := by decide +kernel
theorem d3_33 : decode prog_75_method_5_code 33 = .ok (.iload_n 3, 1) := by decide +kernel
theorem d3_34 : decode prog_75_method_5_code 34 = .ok (.iaload, 1) := by decide +kernel
theorem d3_35 : decode prog_75_method_5_code 35 = .ok (.if_icmp .ne 9, 3) := by decide +kernel
theorem d3_38 : decode prog_75_method_5_code 38 = .ok (.iload_n 3, 1) := by decide +kernel
theorem d3_39 : decode prog_75_method_5_code 39 = .ok (.iconst 1, 1) := by decide +kernel
theorem d3_40 : decode prog_75_method_5_code 40 = .ok (.iadd, 1) := by decide +kernel
theorem d3_41 : decode prog_75_method_5_code 41 = .ok (.goto 4, 3) := by decide +kernel
theorem d3_44 : decode prog_75_method_5_code 44 = .ok (.iload_n 3, 1) := by decide +kernel
theorem d3_45 : decode prog_75_method_5_code 45 = .ok (.ireturn, 1) := by decide +kernel
set_option maxRecDepth 65536 in
set_option maxHeartbeats 40000000 in
theorem lpe {p : Program} {l : Launch} {e : Env} {s : State} {m : MethodId} {args : Array Value} {below : List Frame} {meth : Method} {c : Code} {Z : State} {aq : Array Value} {hq : Heap} {locs : List Loc} {a1 au ab : Addr} {p1 x : Int32} {u b : Nat → Int32} (hx : p.tables.exec = Jvm.exec) (hZ : Z.Warmed39 s.vm) (hw : ∀ d ∈ tables_1, d.before aq Z = true) (hby : c.code = prog_75_method_5_code) (hml : c.maxLocals = 4) (hown : s.vm.findClass "com/example/xcu/xcu/UnitString$Part" = some m.cls) (Fu0 : Fld Z hq a1 "com/example/xcu/xcu/UnitString$Part" "units" "[I" (.ref au)) (Fb0 : Fld Z hq a1 "com/example/xcu/xcu/UnitString$Part" "borders" "[I" (.ref ab)) (Vu0 : own_Ar Z hq au .int 4 u) (Vb0 : own_Ar Z hq ab .int 4 b) (k : Nat) :
    ∀ (T0 : State) (len : Nat), Stand p l e ({ frames := 0, cells := 0, slots := 0, locals := 0 } : Room) s m args below meth c T0 locs 0 0 → T0.heap = hq → len ≤ k → len ≤ 3 → (∀ j, j < len → ¬ b j < 0 ∧ (b j).toNatClampNeg ≤ j) → ∃ (T' : State) (Ls : Array Slot) (r : Nat), Stand p l e ({ frames := 0, cells := 0, slots := 0, locals := 0 } : Room) s m args below meth c T' locs 0 0 ∧ T'.heap = hq ∧ r = own_ext u b x k len ∧ r ≤ len + 1 ∧ ∀ t, Steps p.tables e below (T'.setTop (mkF m 45 Ls [.int (Int32.ofNat r)])) t → Steps p.tables e below (T0.setTop (mkF m 2 #[.val (.ref a1), .val (.int p1), .val (.int x), .val (.int (Int32.ofNat len))] [])) t := by
  induction k with
  | zero =>
    intro T0 len X0 e0 hk h3 hbj
    have hpos : ¬ 0 < len := by omega
    by_cases hq1 : x = u len
    · skip
      have pre0 : ∀ t, Steps p.tables e below (T0.setTop (mkF m 2 #[.val (.ref a1), .val (.int p1), .val (.int x), .val (.int (Int32.ofNat len))] [])) t → Steps p.tables e below (T0.setTop (mkF m 2 #[.val (.ref a1), .val (.int p1), .val (.int x), .val (.int (Int32.ofNat len))] [])) t := fun _ k => k
      obtain ⟨T1, X1, e1, st1⟩ := getF X0 hx hZ hown (host := "") (Or.inl (hw _ (List.mem_of_getElem? (i := 21) rfl))) Via.refl e0 Fu0 (g := (mkF m 30 #[.val (.ref a1), .val (.int p1), .val (.int x), .val (.int (Int32.ofNat len))] [(.ref a1), (.int x)])) rfl rfl (hb hby d3_30)
      have pre2 : ∀ t, Steps p.tables e below (T1.setTop (mkF m 45 #[.val (.ref a1), .val (.int p1), .val (.int x), .val (.int (Int32.ofNat len))] [(.int ((Int32.ofNat len) + (1 : Int32)))])) t → Steps p.tables e below (T0.setTop (mkF m 2 #[.val (.ref a1), .val (.int p1), .val (.int x), .val (.int (Int32.ofNat len))] [])) t := fun t kt => by
        refine pre0 _ ?_
        show Steps p.tables e below (T0.setTop (mkF m 2 #[.val (.ref a1), .val (.int p1), .val (.int x), .val (.int (Int32.ofNat len))] [])) _
        refine XS.iloadN X0.here hx rfl (hb hby d3_2) rfl ?_
        show Steps p.tables e below (T0.setTop (mkF m 3 #[.val (.ref a1), .val (.int p1), .val (.int x), .val (.int (Int32.ofNat len))] [(.int (Int32.ofNat len))])) _
        refine XS.ifYes X0.here hx rfl (pc0 := 3) (pc' := 28) rfl (hb hby d3_3) rfl ((if0 _ _).trans (flt (fun q => hpos ((own_pos (by omega)).mp q))).2.2.2) (by decide) (by decide) ?_
        show Steps p.tables e below (T0.setTop (mkF m 28 #[.val (.ref a1), .val (.int p1), .val (.int x), .val (.int (Int32.ofNat len))] [])) _
        refine XS.iloadN X0.here hx rfl (hb hby d3_28) rfl ?_
        show Steps p.tables e below (T0.setTop (mkF m 29 #[.val (.ref a1), .val (.int p1), .val (.int x), .val (.int (Int32.ofNat len))] [(.int x)])) _
        refine XS.aloadN X0.here hx rfl (hb hby d3_29) rfl rfl ?_
        show Steps p.tables e below (T0.setTop (mkF m 30 #[.val (.ref a1), .val (.int p1), .val (.int x), .val (.int (Int32.ofNat len))] [(.ref a1), (.int x)])) _
        refine st1 _ ?_
        show Steps p.tables e below (T1.setTop (mkF m 33 #[.val (.ref a1), .val (.int p1), .val (.int x), .val (.int (Int32.ofNat len))] [(.ref au), (.int x)])) _
        refine XS.iloadN X1.here hx rfl (hb hby d3_33) rfl ?_
        show Steps p.tables e below (T1.setTop (mkF m 34 #[.val (.ref a1), .val (.int p1), .val (.int x), .val (.int (Int32.ofNat len))] [(.int (Int32.ofNat len)), (.ref au), (.int x)])) _
        refine own_rdI X1 hx hZ e1 Vu0 (j := (Int32.ofNat len)) (i := len) (own_of (by omega)) (by omega) (g := (mkF m 34 #[.val (.ref a1), .val (.int p1), .val (.int x), .val (.int (Int32.ofNat len))] [(.int (Int32.ofNat len)), (.ref au), (.int x)])) rfl rfl (hb hby d3_34) _ ?_
        show Steps p.tables e below (T1.setTop (mkF m 35 #[.val (.ref a1), .val (.int p1), .val (.int x), .val (.int (Int32.ofNat len))] [(.int (u len)), (.int x)])) _
        refine XS.icmpNo X1.here hx rfl (hb hby d3_35) rfl (teq hq1).2 ?_
        show Steps p.tables e below (T1.setTop (mkF m 38 #[.val (.ref a1), .val (.int p1), .val (.int x), .val (.int (Int32.ofNat len))] [])) _
        refine XS.iloadN X1.here hx rfl (hb hby d3_38) rfl ?_
        show Steps p.tables e below (T1.setTop (mkF m 39 #[.val (.ref a1), .val (.int p1), .val (.int x), .val (.int (Int32.ofNat len))] [(.int (Int32.ofNat len))])) _
        refine XS.iconst X1.here hx rfl (hb hby d3_39) ?_
        show Steps p.tables e below (T1.setTop (mkF m 40 #[.val (.ref a1), .val (.int p1), .val (.int x), .val (.int (Int32.ofNat len))] [(.int (1 : Int32)), (.int (Int32.ofNat len))])) _
        refine XS.iadd X1.here hx rfl (hb hby d3_40) rfl ?_
        show Steps p.tables e below (T1.setTop (mkF m 41 #[.val (.ref a1), .val (.int p1), .val (.int x), .val (.int (Int32.ofNat len))] [(.int ((Int32.ofNat len) + (1 : Int32)))])) _
        refine XS.goto X1.here hx rfl (pc0 := 41) (pc' := 45) rfl (hb hby d3_41) (by decide) (by decide) ?_
        show Steps p.tables e below (T1.setTop (mkF m 45 #[.val (.ref a1), .val (.int p1), .val (.int x), .val (.int (Int32.ofNat len))] [(.int ((Int32.ofNat len) + (1 : Int32)))])) _
        exact kt
      refine ⟨_, _, len + 1, X1, e1, by rw [own_ext, if_pos hq1], Nat.le_refl _, fun t kt => pre2 t (by rw [own_add1]; exact kt)⟩
    · skip
      have pre0 : ∀ t, Steps p.tables e below (T0.setTop (mkF m 2 #[.val (.ref a1), .val (.int p1), .val (.int x), .val (.int (Int32.ofNat len))] [])) t → Steps p.tables e below (T0.setTop (mkF m 2 #[.val (.ref a1), .val (.int p1), .val (.int x), .val (.int (Int32.ofNat len))] [])) t := fun _ k => k
      obtain ⟨T3, X3, e3, st3⟩ := getF X0 hx hZ hown (host := "") (Or.inl (hw _ (List.mem_of_getElem? (i := 21) rfl))) Via.refl e0 Fu0 (g := (mkF m 30 #[.val (.ref a1), .val (.int p1), .val (.int x), .val (.int (Int32.ofNat len))] [(.ref a1), (.int x)])) rfl rfl (hb hby d3_30)
      have pre4 : ∀ t, Steps p.tables e below (T3.setTop (mkF m 45 #[.val (.ref a1), .val (.int p1), .val (.int x), .val (.int (Int32.ofNat len))] [(.int (Int32.ofNat len))])) t → Steps p.tables e below (T0.setTop (mkF m 2 #[.val (.ref a1), .val (.int p1), .val (.int x), .val (.int (Int32.ofNat len))] [])) t := fun t kt => by
        refine pre0 _ ?_
        show Steps p.tables e below (T0.setTop (mkF m 2 #[.val (.ref a1), .val (.int p1), .val (.int x), .val (.int (Int32.ofNat len))] [])) _
        refine XS.iloadN X0.here hx rfl (hb hby d3_2) rfl ?_
        show Steps p.tables e below (T0.setTop (mkF m 3 #[.val (.ref a1), .val (.int p1), .val (.int x), .val (.int (Int32.ofNat len))] [(.int (Int32.ofNat len))])) _
        refine XS.ifYes X0.here hx rfl (pc0 := 3) (pc' := 28) rfl (hb hby d3_3) rfl ((if0 _ _).trans (flt (fun q => hpos ((own_pos (by omega)).mp q))).2.2.2) (by decide) (by decide) ?_
        show Steps p.tables e below (T0.setTop (mkF m 28 #[.val (.ref a1), .val (.int p1), .val (.int x), .val (.int (Int32.ofNat len))] [])) _
        refine XS.iloadN X0.here hx rfl (hb hby d3_28) rfl ?_
        show Steps p.tables e below (T0.setTop (mkF m 29 #[.val (.ref a1), .val (.int p1), .val (.int x), .val (.int (Int32.ofNat len))] [(.int x)])) _
        refine XS.aloadN X0.here hx rfl (hb hby d3_29) rfl rfl ?_
        show Steps p.tables e below (T0.setTop (mkF m 30 #[.val (.ref a1), .val (.int p1), .val (.int x), .val (.int (Int32.ofNat len))] [(.ref a1), (.int x)])) _
        refine st3 _ ?_
        show Steps p.tables e below (T3.setTop (mkF m 33 #[.val (.ref a1), .val (.int p1), .val (.int x), .val (.int (Int32.ofNat len))] [(.ref au), (.int x)])) _
        refine XS.iloadN X3.here hx rfl (hb hby d3_33) rfl ?_
        show Steps p.tables e below (T3.setTop (mkF m 34 #[.val (.ref a1), .val (.int p1), .val (.int x), .val (.int (Int32.ofNat len))] [(.int (Int32.ofNat len)), (.ref au), (.int x)])) _
        refine own_rdI X3 hx hZ e3 Vu0 (j := (Int32.ofNat len)) (i := len) (own_of (by omega)) (by omega) (g := (mkF m 34 #[.val (.ref a1), .val (.int p1), .val (.int x), .val (.int (Int32.ofNat len))] [(.int (Int32.ofNat len)), (.ref au), (.int x)])) rfl rfl (hb hby d3_34) _ ?_
        show Steps p.tables e below (T3.setTop (mkF m 35 #[.val (.ref a1), .val (.int p1), .val (.int x), .val (.int (Int32.ofNat len))] [(.int (u len)), (.int x)])) _
        refine XS.icmpYes X3.here hx rfl (pc0 := 35) (pc' := 44) rfl (hb hby d3_35) rfl (feq hq1).2 (by decide) (by decide) ?_
        show Steps p.tables e below (T3.setTop (mkF m 44 #[.val (.ref a1), .val (.int p1), .val (.int x), .val (.int (Int32.ofNat len))] [])) _
        refine XS.iloadN X3.here hx rfl (hb hby d3_44) rfl ?_
        show Steps p.tables e below (T3.setTop (mkF m 45 #[.val (.ref a1), .val (.int p1), .val (.int x), .val (.int (Int32.ofNat len))] [(.int (Int32.ofNat len))])) _
        exact kt
      refine ⟨_, _, len, X3, e3, by rw [own_ext, if_neg hq1], Nat.le_succ _, fun t kt => pre4 t kt⟩
  | succ k ih =>
    intro T0 len X0 e0 hk h3 hbj
    by_cases hpos : 0 < len
    · by_cases hq1 : x = u len
      · skip
        have pre0 : ∀ t, Steps p.tables e below (T0.setTop (mkF m 2 #[.val (.ref a1), .val (.int p1), .val (.int x), .val (.int (Int32.ofNat len))] [])) t → Steps p.tables e below (T0.setTop (mkF m 2 #[.val (.ref a1), .val (.int p1), .val (.int x), .val (.int (Int32.ofNat len))] [])) t := fun _ k => k
        obtain ⟨T5, X5, e5, st5⟩ := getF X0 hx hZ hown (host := "") (Or.inl (hw _ (List.mem_of_getElem? (i := 21) rfl))) Via.refl e0 Fu0 (g := (mkF m 8 #[.val (.ref a1), .val (.int p1), .val (.int x), .val (.int (Int32.ofNat len))] [(.ref a1), (.int x)])) rfl rfl (hb hby d3_8)
        obtain ⟨T6, X6, e6, st6⟩ := getF X5 hx hZ hown (host := "") (Or.inl (hw _ (List.mem_of_getElem? (i := 21) rfl))) Via.refl e5 Fu0 (g := (mkF m 30 #[.val (.ref a1), .val (.int p1), .val (.int x), .val (.int (Int32.ofNat len))] [(.ref a1), (.int x)])) rfl rfl (hb hby d3_30)
        have pre7 : ∀ t, Steps p.tables e below (T6.setTop (mkF m 45 #[.val (.ref a1), .val (.int p1), .val (.int x), .val (.int (Int32.ofNat len))] [(.int ((Int32.ofNat len) + (1 : Int32)))])) t → Steps p.tables e below (T0.setTop (mkF m 2 #[.val (.ref a1), .val (.int p1), .val (.int x), .val (.int (Int32.ofNat len))] [])) t := fun t kt => by
          refine pre0 _ ?_
          show Steps p.tables e below (T0.setTop (mkF m 2 #[.val (.ref a1), .val (.int p1), .val (.int x), .val (.int (Int32.ofNat len))] [])) _
          refine XS.iloadN X0.here hx rfl (hb hby d3_2) rfl ?_
          show Steps p.tables e below (T0.setTop (mkF m 3 #[.val (.ref a1), .val (.int p1), .val (.int x), .val (.int (Int32.ofNat len))] [(.int (Int32.ofNat len))])) _
          refine XS.ifNo X0.here hx rfl (hb hby d3_3) rfl ((if0 _ _).trans (tlt ((own_pos (by omega)).mpr hpos)).2.2.2) ?_
          show Steps p.tables e below (T0.setTop (mkF m 6 #[.val (.ref a1), .val (.int p1), .val (.int x), .val (.int (Int32.ofNat len))] [])) _
          refine XS.iloadN X0.here hx rfl (hb hby d3_6) rfl ?_
          show Steps p.tables e below (T0.setTop (mkF m 7 #[.val (.ref a1), .val (.int p1), .val (.int x), .val (.int (Int32.ofNat len))] [(.int x)])) _
          refine XS.aloadN X0.here hx rfl (hb hby d3_7) rfl rfl ?_
          show Steps p.tables e below (T0.setTop (mkF m 8 #[.val (.ref a1), .val (.int p1), .val (.int x), .val (.int (Int32.ofNat len))] [(.ref a1), (.int x)])) _
          refine st5 _ ?_
          show Steps p.tables e below (T5.setTop (mkF m 11 #[.val (.ref a1), .val (.int p1), .val (.int x), .val (.int (Int32.ofNat len))] [(.ref au), (.int x)])) _
          refine XS.iloadN X5.here hx rfl (hb hby d3_11) rfl ?_
          show Steps p.tables e below (T5.setTop (mkF m 12 #[.val (.ref a1), .val (.int p1), .val (.int x), .val (.int (Int32.ofNat len))] [(.int (Int32.ofNat len)), (.ref au), (.int x)])) _
          refine own_rdI X5 hx hZ e5 Vu0 (j := (Int32.ofNat len)) (i := len) (own_of (by omega)) (by omega) (g := (mkF m 12 #[.val (.ref a1), .val (.int p1), .val (.int x), .val (.int (Int32.ofNat len))] [(.int (Int32.ofNat len)), (.ref au), (.int x)])) rfl rfl (hb hby d3_12) _ ?_
          show Steps p.tables e below (T5.setTop (mkF m 13 #[.val (.ref a1), .val (.int p1), .val (.int x), .val (.int (Int32.ofNat len))] [(.int (u len)), (.int x)])) _
          refine XS.icmpYes X5.here hx rfl (pc0 := 13) (pc' := 28) rfl (hb hby d3_13) rfl (teq hq1).1 (by decide) (by decide) ?_
          show Steps p.tables e below (T5.setTop (mkF m 28 #[.val (.ref a1), .val (.int p1), .val (.int x), .val (.int (Int32.ofNat len))] [])) _
          refine XS.iloadN X5.here hx rfl (hb hby d3_28) rfl ?_
          show Steps p.tables e below (T5.setTop (mkF m 29 #[.val (.ref a1), .val (.int p1), .val (.int x), .val (.int (Int32.ofNat len))] [(.int x)])) _
          refine XS.aloadN X5.here hx rfl (hb hby d3_29) rfl rfl ?_
          show Steps p.tables e below (T5.setTop (mkF m 30 #[.val (.ref a1), .val (.int p1), .val (.int x), .val (.int (Int32.ofNat len))] [(.ref a1), (.int x)])) _
          refine st6 _ ?_
          show Steps p.tables e below (T6.setTop (mkF m 33 #[.val (.ref a1), .val (.int p1), .val (.int x), .val (.int (Int32.ofNat len))] [(.ref au), (.int x)])) _
          refine XS.iloadN X6.here hx rfl (hb hby d3_33) rfl ?_
          show Steps p.tables e below (T6.setTop (mkF m 34 #[.val (.ref a1), .val (.int p1), .val (.int x), .val (.int (Int32.ofNat len))] [(.int (Int32.ofNat len)), (.ref au), (.int x)])) _
          refine own_rdI X6 hx hZ e6 Vu0 (j := (Int32.ofNat len)) (i := len) (own_of (by omega)) (by omega) (g := (mkF m 34 #[.val (.ref a1), .val (.int p1), .val (.int x), .val (.int (Int32.ofNat len))] [(.int (Int32.ofNat len)), (.ref au), (.int x)])) rfl rfl (hb hby d3_34) _ ?_
          show Steps p.tables e below (T6.setTop (mkF m 35 #[.val (.ref a1), .val (.int p1), .val (.int x), .val (.int (Int32.ofNat len))] [(.int (u len)), (.int x)])) _
          refine XS.icmpNo X6.here hx rfl (hb hby d3_35) rfl (teq hq1).2 ?_
          show Steps p.tables e below (T6.setTop (mkF m 38 #[.val (.ref a1), .val (.int p1), .val (.int x), .val (.int (Int32.ofNat len))] [])) _
          refine XS.iloadN X6.here hx rfl (hb hby d3_38) rfl ?_
          show Steps p.tables e below (T6.setTop (mkF m 39 #[.val (.ref a1), .val (.int p1), .val (.int x), .val (.int (Int32.ofNat len))] [(.int (Int32.ofNat len))])) _
          refine XS.iconst X6.here hx rfl (hb hby d3_39) ?_
          show Steps p.tables e below (T6.setTop (mkF m 40 #[.val (.ref a1), .val (.int p1), .val (.int x), .val (.int (Int32.ofNat len))] [(.int (1 : Int32)), (.int (Int32.ofNat len))])) _
          refine XS.iadd X6.here hx rfl (hb hby d3_40) rfl ?_
          show Steps p.tables e below (T6.setTop (mkF m 41 #[.val (.ref a1), .val (.int p1), .val (.int x), .val (.int (Int32.ofNat len))] [(.int ((Int32.ofNat len) + (1 : Int32)))])) _
          refine XS.goto X6.here hx rfl (pc0 := 41) (pc' := 45) rfl (hb hby d3_41) (by decide) (by decide) ?_
          show Steps p.tables e below (T6.setTop (mkF m 45 #[.val (.ref a1), .val (.int p1), .val (.int x), .val (.int (Int32.ofNat len))] [(.int ((Int32.ofNat len) + (1 : Int32)))])) _
          exact kt
        refine ⟨_, _, len + 1, X6, e6, by rw [own_ext, if_pos hpos, if_pos hq1], Nat.le_refl _, fun t kt => pre7 t (by rw [own_add1]; exact kt)⟩
      · skip
        have pre0 : ∀ t, Steps p.tables e below (T0.setTop (mkF m 2 #[.val (.ref a1), .val (.int p1), .val (.int x), .val (.int (Int32.ofNat len))] [])) t → Steps p.tables e below (T0.setTop (mkF m 2 #[.val (.ref a1), .val (.int p1), .val (.int x), .val (.int (Int32.ofNat len))] [])) t := fun _ k => k
        obtain ⟨T8, X8, e8, st8⟩ := getF X0 hx hZ hown (host := "") (Or.inl (hw _ (List.mem_of_getElem? (i := 21) rfl))) Via.refl e0 Fu0 (g := (mkF m 8 #[.val (.ref a1), .val (.int p1), .val (.int x), .val (.int (Int32.ofNat len))] [(.ref a1), (.int x)])) rfl rfl (hb hby d3_8)
        obtain ⟨T9, X9, e9, st9⟩ := getF X8 hx hZ hown (host := "") (Or.inl (hw _ (List.mem_of_getElem? (i := 23) rfl))) Via.refl e8 Fb0 (g := (mkF m 17 #[.val (.ref a1), .val (.int p1), .val (.int x), .val (.int (Int32.ofNat len))] [(.ref a1)])) rfl rfl (hb hby d3_17)
        have pre10 : ∀ t, Steps p.tables e below (T9.setTop (mkF m 2 #[.val (.ref a1), .val (.int p1), .val (.int x), .val (.int (b (len - 1)))] [])) t → Steps p.tables e below (T0.setTop (mkF m 2 #[.val (.ref a1), .val (.int p1), .val (.int x), .val (.int (Int32.ofNat len))] [])) t := fun t kt => by
          refine pre0 _ ?_
          show Steps p.tables e below (T0.setTop (mkF m 2 #[.val (.ref a1), .val (.int p1), .val (.int x), .val (.int (Int32.ofNat len))] [])) _
          refine XS.iloadN X0.here hx rfl (hb hby d3_2) rfl ?_
          show Steps p.tables e below (T0.setTop (mkF m 3 #[.val (.ref a1), .val (.int p1), .val (.int x), .val (.int (Int32.ofNat len))] [(.int (Int32.ofNat len))])) _
          refine XS.ifNo X0.here hx rfl (hb hby d3_3) rfl ((if0 _ _).trans (tlt ((own_pos (by omega)).mpr hpos)).2.2.2) ?_
          show Steps p.tables e below (T0.setTop (mkF m 6 #[.val (.ref a1), .val (.int p1), .val (.int x), .val (.int (Int32.ofNat len))] [])) _
          refine XS.iloadN X0.here hx rfl (hb hby d3_6) rfl ?_
          show Steps p.tables e below (T0.setTop (mkF m 7 #[.val (.ref a1), .val (.int p1), .val (.int x), .val (.int (Int32.ofNat len))] [(.int x)])) _
          refine XS.aloadN X0.here hx rfl (hb hby d3_7) rfl rfl ?_
          show Steps p.tables e below (T0.setTop (mkF m 8 #[.val (.ref a1), .val (.int p1), .val (.int x), .val (.int (Int32.ofNat len))] [(.ref a1), (.int x)])) _
          refine st8 _ ?_
          show Steps p.tables e below (T8.setTop (mkF m 11 #[.val (.ref a1), .val (.int p1), .val (.int x), .val (.int (Int32.ofNat len))] [(.ref au), (.int x)])) _
          refine XS.iloadN X8.here hx rfl (hb hby d3_11) rfl ?_
          show Steps p.tables e below (T8.setTop (mkF m 12 #[.val (.ref a1), .val (.int p1), .val (.int x), .val (.int (Int32.ofNat len))] [(.int (Int32.ofNat len)), (.ref au), (.int x)])) _
          refine own_rdI X8 hx hZ e8 Vu0 (j := (Int32.ofNat len)) (i := len) (own_of (by omega)) (by omega) (g := (mkF m 12 #[.val (.ref a1), .val (.int p1), .val (.int x), .val (.int (Int32.ofNat len))] [(.int (Int32.ofNat len)), (.ref au), (.int x)])) rfl rfl (hb hby d3_12) _ ?_
          show Steps p.tables e below (T8.setTop (mkF m 13 #[.val (.ref a1), .val (.int p1), .val (.int x), .val (.int (Int32.ofNat len))] [(.int (u len)), (.int x)])) _
          refine XS.icmpNo X8.here hx rfl (hb hby d3_13) rfl (feq hq1).1 ?_
          show Steps p.tables e below (T8.setTop (mkF m 16 #[.val (.ref a1), .val (.int p1), .val (.int x), .val (.int (Int32.ofNat len))] [])) _
          refine XS.aloadN X8.here hx rfl (hb hby d3_16) rfl rfl ?_
          show Steps p.tables e below (T8.setTop (mkF m 17 #[.val (.ref a1), .val (.int p1), .val (.int x), .val (.int (Int32.ofNat len))] [(.ref a1)])) _
          refine st9 _ ?_
          show Steps p.tables e below (T9.setTop (mkF m 20 #[.val (.ref a1), .val (.int p1), .val (.int x), .val (.int (Int32.ofNat len))] [(.ref ab)])) _
          refine XS.iloadN X9.here hx rfl (hb hby d3_20) rfl ?_
          show Steps p.tables e below (T9.setTop (mkF m 21 #[.val (.ref a1), .val (.int p1), .val (.int x), .val (.int (Int32.ofNat len))] [(.int (Int32.ofNat len)), (.ref ab)])) _
          refine XS.iconst X9.here hx rfl (hb hby d3_21) ?_
          show Steps p.tables e below (T9.setTop (mkF m 22 #[.val (.ref a1), .val (.int p1), .val (.int x), .val (.int (Int32.ofNat len))] [(.int (1 : Int32)), (.int (Int32.ofNat len)), (.ref ab)])) _
          refine XS.isub X9.here hx rfl (hb hby d3_22) rfl ?_
          show Steps p.tables e below (T9.setTop (mkF m 23 #[.val (.ref a1), .val (.int p1), .val (.int x), .val (.int (Int32.ofNat len))] [(.int ((Int32.ofNat len) - (1 : Int32))), (.ref ab)])) _
          refine own_rdI X9 hx hZ e9 Vb0 (j := ((Int32.ofNat len) - (1 : Int32))) (i := (len - 1)) (own_ix1 hpos (by omega)) (by omega) (g := (mkF m 23 #[.val (.ref a1), .val (.int p1), .val (.int x), .val (.int (Int32.ofNat len))] [(.int ((Int32.ofNat len) - (1 : Int32))), (.ref ab)])) rfl rfl (hb hby d3_23) _ ?_
          show Steps p.tables e below (T9.setTop (mkF m 24 #[.val (.ref a1), .val (.int p1), .val (.int x), .val (.int (Int32.ofNat len))] [(.int (b (len - 1)))])) _
          refine XS.istoreN X9.here hx rfl (hb hby d3_24) rfl (l' := #[.val (.ref a1), .val (.int p1), .val (.int x), .val (.int (b (len - 1)))]) rfl ?_
          show Steps p.tables e below (T9.setTop (mkF m 25 #[.val (.ref a1), .val (.int p1), .val (.int x), .val (.int (b (len - 1)))] [])) _
          refine XS.goto X9.here hx rfl (pc0 := 25) (pc' := 2) rfl (hb hby d3_25) (by decide) (by decide) ?_
          show Steps p.tables e below (T9.setTop (mkF m 2 #[.val (.ref a1), .val (.int p1), .val (.int x), .val (.int (b (len - 1)))] [])) _
          exact kt
        have hv := hbj (len - 1) (by omega)
        have ev : (b (len - 1)) = Int32.ofNat (b (len - 1)).toNatClampNeg := own_nn hv.1
        obtain ⟨T', Ls, r, X', e', er, hr, st⟩ := ih T9 (b (len - 1)).toNatClampNeg X9 e9 (by omega) (by omega) (fun j hj => hbj j (by omega))
        rw [← ev] at st
        exact ⟨T', Ls, r, X', e', by rw [own_ext, if_pos hpos, if_neg hq1]; exact er, by omega, fun t kt => pre10 t (st t kt)⟩
    · skip
      by_cases hq1 : x = u len
      · skip
        have pre0 : ∀ t, Steps p.tables e below (T0.setTop (mkF m 2 #[.val (.ref a1), .val (.int p1), .val (.int x), .val (.int (Int32.ofNat len))] [])) t → Steps p.tables e below (T0.setTop (mkF m 2 #[.val (.ref a1), .val (.int p1), .val (.int x), .val (.int (Int32.ofNat len))] [])) t := fun _ k => k
        obtain ⟨T11, X11, e11, st11⟩ := getF X0 hx hZ hown (host := "") (Or.inl (hw _ (List.mem_of_getElem? (i := 21) rfl))) Via.refl e0 Fu0 (g := (mkF m 30 #[.val (.ref a1), .val (.int p1), .val (.int x), .val (.int (Int32.ofNat len))] [(.ref a1), (.int x)])) rfl rfl (hb hby d3_30)
        have pre12 : ∀ t, Steps p.tables e below (T11.setTop (mkF m 45 #[.val (.ref a1), .val (.int p1), .val (.int x), .val (.int (Int32.ofNat len))] [(.int ((Int32.ofNat len) + (1 : Int32)))])) t → Steps p.tables e below (T0.setTop (mkF m 2 #[.val (.ref a1), .val (.int p1), .val (.int x), .val (.int (Int32.ofNat len))] [])) t := fun t kt => by
          refine pre0 _ ?_
          show Steps p.tables e below (T0.setTop (mkF m 2 #[.val (.ref a1), .val (.int p1), .val (.int x), .val (.int (Int32.ofNat len))] [])) _
          refine XS.iloadN X0.here hx rfl (hb hby d3_2) rfl ?_
          show Steps p.tables e below (T0.setTop (mkF m 3 #[.val (.ref a1), .val (.int p1), .val (.int x), .val (.int (Int32.ofNat len))] [(.int (Int32.ofNat len))])) _
          refine XS.ifYes X0.here hx rfl (pc0 := 3) (pc' := 28) rfl (hb hby d3_3) rfl ((if0 _ _).trans (flt (fun q => hpos ((own_pos (by omega)).mp q))).2.2.2) (by decide) (by decide) ?_
          show Steps p.tables e below (T0.setTop (mkF m 28 #[.val (.ref a1), .val (.int p1), .val (.int x), .val (.int (Int32.ofNat len))] [])) _
          refine XS.iloadN X0.here hx rfl (hb hby d3_28) rfl ?_
          show Steps p.tables e below (T0.setTop (mkF m 29 #[.val (.ref a1), .val (.int p1), .val (.int x), .val (.int (Int32.ofNat len))] [(.int x)])) _
          refine XS.aloadN X0.here hx rfl (hb hby d3_29) rfl rfl ?_
          show Steps p.tables e below (T0.setTop (mkF m 30 #[.val (.ref a1), .val (.int p1), .val (.int x), .val (.int (Int32.ofNat len))] [(.ref a1), (.int x)])) _
          refine st11 _ ?_
          show Steps p.tables e below (T11.setTop (mkF m 33 #[.val (.ref a1), .val (.int p1), .val (.int x), .val (.int (Int32.ofNat len))] [(.ref au), (.int x)])) _
          refine XS.iloadN X11.here hx rfl (hb hby d3_33) rfl ?_
          show Steps p.tables e below (T11.setTop (mkF m 34 #[.val (.ref a1), .val (.int p1), .val (.int x), .val (.int (Int32.ofNat len))] [(.int (Int32.ofNat len)), (.ref au), (.int x)])) _
          refine own_rdI X11 hx hZ e11 Vu0 (j := (Int32.ofNat len)) (i := len) (own_of (by omega)) (by omega) (g := (mkF m 34 #[.val (.ref a1), .val (.int p1), .val (.int x), .val (.int (Int32.ofNat len))] [(.int (Int32.ofNat len)), (.ref au), (.int x)])) rfl rfl (hb hby d3_34) _ ?_
          show Steps p.tables e below (T11.setTop (mkF m 35 #[.val (.ref a1), .val (.int p1), .val (.int x), .val (.int (Int32.ofNat len))] [(.int (u len)), (.int x)])) _
          refine XS.icmpNo X11.here hx rfl (hb hby d3_35) rfl (teq hq1).2 ?_
          show Steps p.tables e below (T11.setTop (mkF m 38 #[.val (.ref a1), .val (.int p1), .val (.int x), .val (.int (Int32.ofNat len))] [])) _
          refine XS.iloadN X11.here hx rfl (hb hby d3_38) rfl ?_
          show Steps p.tables e below (T11.setTop (mkF m 39 #[.val (.ref a1), .val (.int p1), .val (.int x), .val (.int (Int32.ofNat len))] [(.int (Int32.ofNat len))])) _
          refine XS.iconst X11.here hx rfl (hb hby d3_39) ?_
          show Steps p.tables e below (T11.setTop (mkF m 40 #[.val (.ref a1), .val (.int p1), .val (.int x), .val (.int (Int32.ofNat len))] [(.int (1 : Int32)), (.int (Int32.ofNat len))])) _
          refine XS.iadd X11.here hx rfl (hb hby d3_40) rfl ?_
          show Steps p.tables e below (T11.setTop (mkF m 41 #[.val (.ref a1), .val (.int p1), .val (.int x), .val (.int (Int32.ofNat len))] [(.int ((Int32.ofNat len) + (1 : Int32)))])) _
          refine XS.goto X11.here hx rfl (pc0 := 41) (pc' := 45) rfl (hb hby d3_41) (by decide) (by decide) ?_
          show Steps p.tables e below (T11.setTop (mkF m 45 #[.val (.ref a1), .val (.int p1), .val (.int x), .val (.int (Int32.ofNat len))] [(.int ((Int32.ofNat len) + (1 : Int32)))])) _
          exact kt
        refine ⟨_, _, len + 1, X11, e11, by rw [own_ext, if_neg hpos, if_pos hq1], Nat.le_refl _, fun t kt => pre12 t (by rw [own_add1]; exact kt)⟩
      · skip
        have pre0 : ∀ t, Steps p.tables e below (T0.setTop (mkF m 2 #[.val (.ref a1), .val (.int p1), .val (.int x), .val (.int (Int32.ofNat len))] [])) t → Steps p.tables e below (T0.setTop (mkF m 2 #[.val (.ref a1), .val (.int p1), .val (.int x), .val (.int (Int32.ofNat len))] [])) t := fun _ k => k
        obtain ⟨T13, X13, e13, st13⟩ := getF X0 hx hZ hown (host := "") (Or.inl (hw _ (List.mem_of_getElem? (i := 21) rfl))) Via.refl e0 Fu0 (g := (mkF m 30 #[.val (.ref a1), .val (.int p1), .val (.int x), .val (.int (Int32.ofNat len))] [(.ref a1), (.int x)])) rfl rfl (hb hby d3_30)
        have pre14 : ∀ t, Steps p.tables e below (T13.setTop (mkF m 45 #[.val (.ref a1), .val (.int p1), .val (.int x), .val (.int (Int32.ofNat len))] [(.int (Int32.ofNat len))])) t → Steps p.tables e below (T0.setTop (mkF m 2 #[.val (.ref a1), .val (.int p1), .val (.int x), .val (.int (Int32.ofNat len))] [])) t := fun t kt => by
          refine pre0 _ ?_
          show Steps p.tables e below (T0.setTop (mkF m 2 #[.val (.ref a1), .val (.int p1), .val (.int x), .val (.int (Int32.ofNat len))] [])) _
          refine XS.iloadN X0.here hx rfl (hb hby d3_2) rfl ?_
          show Steps p.tables e below (T0.setTop (mkF m 3 #[.val (.ref a1), .val (.int p1), .val (.int x), .val (.int (Int32.ofNat len))] [(.int (Int32.ofNat len))])) _
          refine XS.ifYes X0.here hx rfl (pc0 := 3) (pc' := 28) rfl (hb hby d3_3) rfl ((if0 _ _).trans (flt (fun q => hpos ((own_pos (by omega)).mp q))).2.2.2) (by decide) (by decide) ?_
          show Steps p.tables e below (T0.setTop (mkF m 28 #[.val (.ref a1), .val (.int p1), .val (.int x), .val (.int (Int32.ofNat len))] [])) _
          refine XS.iloadN X0.here hx rfl (hb hby d3_28) rfl ?_
          show Steps p.tables e below (T0.setTop (mkF m 29 #[.val (.ref a1), .val (.int p1), .val (.int x), .val (.int (Int32.ofNat len))] [(.int x)])) _
          refine XS.aloadN X0.here hx rfl (hb hby d3_29) rfl rfl ?_
          show Steps p.tables e below (T0.setTop (mkF m 30 #[.val (.ref a1), .val (.int p1), .val (.int x), .val (.int (Int32.ofNat len))] [(.ref a1), (.int x)])) _
          refine st13 _ ?_
          show Steps p.tables e below (T13.setTop (mkF m 33 #[.val (.ref a1), .val (.int p1), .val (.int x), .val (.int (Int32.ofNat len))] [(.ref au), (.int x)])) _
          refine XS.iloadN X13.here hx rfl (hb hby d3_33) rfl ?_
          show Steps p.tables e below (T13.setTop (mkF m 34 #[.val (.ref a1), .val (.int p1), .val (.int x), .val (.int (Int32.ofNat len))] [(.int (Int32.ofNat len)), (.ref au), (.int x)])) _
          refine own_rdI X13 hx hZ e13 Vu0 (j := (Int32.ofNat len)) (i := len) (own_of (by omega)) (by omega) (g := (mkF m 34 #[.val (.ref a1), .val (.int p1), .val (.int x), .val (.int (Int32.ofNat len))] [(.int (Int32.ofNat len)), (.ref au), (.int x)])) rfl rfl (hb hby d3_34) _ ?_
          show Steps p.tables e below (T13.setTop (mkF m 35 #[.val (.ref a1), .val (.int p1), .val (.int x), .val (.int (Int32.ofNat len))] [(.int (u len)), (.int x)])) _
          refine XS.icmpYes X13.here hx rfl (pc0 := 35) (pc' := 44) rfl (hb hby d3_35) rfl (feq hq1).2 (by decide) (by decide) ?_
          show Steps p.tables e below (T13.setTop (mkF m 44 #[.val (.ref a1), .val (.int p1), .val (.int x), .val (.int (Int32.ofNat len))] [])) _
          refine XS.iloadN X13.here hx rfl (hb hby d3_44) rfl ?_
          show Steps p.tables e below (T13.setTop (mkF m 45 #[.val (.ref a1), .val (.int p1), .val (.int x), .val (.int (Int32.ofNat len))] [(.int (Int32.ofNat len))])) _
          exact kt
        refine ⟨_, _, len, X13, e13, by rw [own_ext, if_neg hpos, if_neg hq1], Nat.le_succ _, fun t kt => pre14 t kt⟩
theorem pn89692990 : plainName "com/example/xcu/xcu/UnitString$Part" = true := by first | (simp [plainName, overriddenIn]; done) | decide +kernel
theorem ef_3 (m : MethodId) (a0 : Addr) (p2 : Int32) : entryFrame m #[(.ref a0), (.int (Int32.ofNat len)), (.int p2)] 4 = mkF m 0 #[.val (.ref a0), .val (.int (Int32.ofNat len)), .val (.int p2), .unset] [] := by first | (simp [entryFrame, mkF, argsToLocals, Value.category]; done) | rfl
def Q3 (Z : State) (a0 : Addr) (p2 : Int32) (au : Addr) (ab : Addr) (u : Nat → Int32) (b : Nat → Int32) (len : Nat) (h0 : Heap) (n0 : Nat) (v : Option Value) (h : Heap) (L : List Loc) : Prop := ∃ r : Nat, r = own_ext u b p2 3 len ∧ r ≤ len + 1 ∧ v = some (.int (Int32.ofNat r)) ∧ Fr n0 L ∧ h = h0
set_option maxRecDepth 65536 in
set_option maxHeartbeats 40000000 in
theorem rm3 (l : Launch) (Z : State) (aq : Array Value) (hw : ∀ d ∈ tables_1, d.before aq Z = true) (ws : List Jvm.Cond) (a0 : Addr) (p2 : Int32) (au : Addr) (ab : Addr) (u : Nat → Int32) (b : Nat → Int32) (len : Nat) (h0 : Heap) (n0 : Nat) (Z0 : n0 ≤ h0.size) (Fu_ : Fld Z h0 a0 "com/example/xcu/xcu/UnitString$Part" "units" "[I" (.ref au)) (Fb_ : Fld Z h0 a0 "com/example/xcu/xcu/UnitString$Part" "borders" "[I" (.ref ab)) (Vu_ : own_Ar Z h0 au .int 4 u) (Vb_ : own_Ar Z h0 ab .int 4 b) (h3 : len ≤ 3) (hbj : ∀ j, j < len → ¬ b j < 0 ∧ (b j).toNatClampNeg ≤ j) :
    MetFree l (⟨"com/example/xcu/xcu/UnitString$Part", "extend", "(II)I"⟩ : MethodName) (head1 (Jvm.Cond.code (⟨"com/example/xcu/xcu/UnitString$Part", "extend", "(II)I"⟩ : MethodName) prog_75_method_5_code 4 (some .int) :: ws) ({ frames := 0, cells := 0, slots := 0, locals := 0 } : Room)) (fun a U => a = #[(.ref a0), (.int (Int32.ofNat len)), (.int p2)] ∧ Z.Warmed39 U.vm ∧ U.heap = h0) (fun _ _ _ _ _ => True) (fun _ U o U' => ∃ v L, o = .returned v ∧ Q3 Z a0 p2 au ab u b len h0 n0 v U'.heap L ∧ FrameEnd U o U' L ({ frames := 0, cells := 0, slots := 0, locals := 0 } : Room).cells ({ frames := 0, cells := 0, slots := 0, locals := 0 } : Room).slots) := by
  refine MetFree.of_bodySF (plainFor_of_name pn89692990) hisR ?_
  intro p e s m args below meth c s₁ Bd hml0 hP hK
  obtain ⟨rfl, hZ, hh⟩ := hP
  have hx := Bd.exec
  have hby := Bd.bytes
  have hml : c.maxLocals = 4 := hml0
  have hown : s.vm.findClass "com/example/xcu/xcu/UnitString$Part" = some m.cls := findClass_of_methodNamed Bd.named
  have hnm := (name_of_methodNamed Bd.named Bd.method).1
  have X0 : Stand p l e ({ frames := 0, cells := 0, slots := 0, locals := 0 } : Room) s m #[(.ref a0), (.int (Int32.ofNat len)), (.int p2)] below meth c s₁ [] 0 0 := Stand.of_body Bd
  have e0 : s₁.heap = h0 := by rw [← hh, Bd.state]; rfl
  have N0 := Fr.nil n0
  have pre0 : ∀ t, Steps p.tables e below (s₁.setTop (mkF m 0 #[.val (.ref a0), .val (.int (Int32.ofNat len)), .val (.int p2), .unset] [])) t → Steps p.tables e below (s₁.setTop (entryFrame m #[(.ref a0), (.int (Int32.ofNat len)), (.int p2)] 4)) t := fun t k => castTop (ef_3 m a0 p2) k
  have pre15 : ∀ t, Steps p.tables e below (s₁.setTop (mkF m 2 #[.val (.ref a0), .val (.int (Int32.ofNat len)), .val (.int p2), .val (.int (Int32.ofNat len))] [])) t → Steps p.tables e below (s₁.setTop (entryFrame m #[(.ref a0), (.int (Int32.ofNat len)), (.int p2)] 4)) t := fun t kt => by
    refine pre0 _ ?_
    show Steps p.tables e below (s₁.setTop (mkF m 0 #[.val (.ref a0), .val (.int (Int32.ofNat len)), .val (.int p2), .unset] [])) _
    refine XS.iloadN X0.here hx rfl (hb hby d3_0) rfl ?_
    show Steps p.tables e below (s₁.setTop (mkF m 1 #[.val (.ref a0), .val (.int (Int32.ofNat len)), .val (.int p2), .unset] [(.int (Int32.ofNat len))])) _
    refine XS.istoreN X0.here hx rfl (hb hby d3_1) rfl (l' := #[.val (.ref a0), .val (.int (Int32.ofNat len)), .val (.int p2), .val (.int (Int32.ofNat len))]) rfl ?_
    show Steps p.tables e below (s₁.setTop (mkF m 2 #[.val (.ref a0), .val (.int (Int32.ofNat len)), .val (.int p2), .val (.int (Int32.ofNat len))] [])) _
    exact kt
  obtain ⟨T', Ls, r, X', e', er, hr1, st⟩ := lpe hx hZ hw hby hml hown Fu_ Fb_ Vu_ Vb_ 3 s₁ len X0 e0 h3 h3 hbj
  have pre16 : ∀ t, Steps p.tables e below (T'.setTop (mkF m 45 Ls [(.int (Int32.ofNat r))])) t → Steps p.tables e below (s₁.setTop (entryFrame m #[(.ref a0), (.int (Int32.ofNat len)), (.int p2)] 4)) t := fun t kt => pre15 t (st t kt)
  obtain ⟨fs, hr, hrun, hended, hW, hsame⟩ := X'.leave (v := some (.int (Int32.ofNat r))) (fun h => by rw [Bd.returns] at h; cases h)
  refine ⟨_, _, pre16 _ ?_, hrun, hended, _, _, rfl, ?_, ⟨_, rfl⟩, hW, hsame.mono (by decide) (by decide)⟩
  · exact retI X' hx Bd.returns (hb hby d3_45) hr
  · show Q3 Z a0 p2 au ab u b len h0 n0 _ T'.heap _
    rw [e']
    exact ⟨r, er, hr1, rfl, N0, rfl⟩
theorem d1_0 : decode prog_75_method_1_code 0 = .ok (.aload_n 0, 1) := by decide +kernel
theorem d1_1 : decode prog_75_method_1_code 1 = .ok (.invokespecial 1, 3) := by decide +kernel
theorem d1_4 : decode prog_75_method_1_code 4 = .ok (.aload_n 0, 1) := by decide +kernel
theorem d1_5 : decode prog_75_method_1_code 5 = .ok (.aload_n 1, 1) := by decide +kernel
theorem d1_6 : decode prog_75_method_1_code 6 = .ok (.putfield 7, 3) := by decide +kernel
theorem d1_9 : decode prog_75_method_1_code 9 = .ok (.aload_n 0, 1) := by decide +kernel
theorem d1_10 : decode prog_75_method_1_code 10 = .ok (.aload_n 2, 1) := by decide +kernel
theorem d1_11 : decode prog_75_method_1_code 11 = .ok (.putfield 13, 3) := by decide +kernel
theorem d1_14 : decode prog_75_method_1_code 14 = .ok (.aload_n 0, 1) := by decide +kernel
theorem d1_15 : decode prog_75_method_1_code 15 = .ok (.aload_n 2, 1) := by decide +kernel
theorem d1_16 : decode prog_75_method_1_code 16 = .ok (.arraylength, 1) := by decide +kernel
theorem d1_17 : decode prog_75_method_1_code 17 = .ok (.newarray .int, 2) := by decide +kernel
theorem d1_19 : decode prog_75_method_1_code 19 = .ok (.putfield 17, 3) := by decide +kernel
theorem d1_22 : decode prog_75_method_1_code 22 = .ok (.iconst 1, 1) := by decide +kernel
theorem d1_23 : decode prog_75_method_1_code 23 = .ok (.istore_n 3, 1) := by decide +kernel
theorem d1_24 : decode prog_75_method_1_code 24 = .ok (.iload_n 3, 1) := by decide +kernel
theorem d1_25 : decode prog_75_method_1_code 25 = .ok (.aload_n 2, 1) := by decide +kernel
theorem d1_26 : decode prog_75_method_1_code 26 = .ok (.arraylength, 1) := by decide +kernel
theorem d1_27 : decode prog_75_method_1_code 27 = .ok (.if_icmp .ge 30, 3) := by decide +kernel
theorem d1_30 : decode prog_75_method_1_code 30 = .ok (.aload_n 0, 1) := by decide +kernel
theorem d1_31 : decode prog_75_method_1_code 31 = .ok (.getfield 17, 3) := by decide +kernel
theorem d1_34 : decode prog_75_method_1_code 34 = .ok (.iload_n 3, 1) := by decide +kernel
theorem d1_35 : decode prog_75_method_1_code 35 = .ok (.aload_n 0, 1) := by decide +kernel
theorem d1_36 : decode prog_75_method_1_code 36 = .ok (.aload_n 0, 1) := by decide +kernel
theorem d1_37 : decode prog_75_method_1_code 37 = .ok (.getfield 17, 3) := by decide +kernel
theorem d1_40 : decode prog_75_method_1_code 40 = .ok (.iload_n 3, 1) := by decide +kernel
theorem d1_41 : decode prog_75_method_1_code 41 = .ok (.iconst 1, 1) := by decide +kernel
theorem d1_42 : decode prog_75_method_1_code 42 = .ok (.isub, 1) := by decide +kernel
theorem d1_43 : decode prog_75_method_1_code 43 = .ok (.iaload, 1) := by decide +kernel
theorem d1_44 : decode prog_75_method_1_code 44 = .ok (.aload_n 2, 1) := by decide +kernel
theorem d1_45 : decode prog_75_method_1_code 45 = .ok (.iload_n 3, 1) := by decide +kernel
theorem d1_46 : decode prog_75_method_1_code 46 = .ok (.iaload, 1) := by decide +kernel
theorem d1_47 : decode prog_75_method_1_code 47 = .ok (.invokevirtual 20, 3) := by decide +kernel
theorem d1_50 : decode prog_75_method_1_code 50 = .ok (.iastore, 1) := by decide +kernel
theorem d1_51 : decode prog_75_method_1_code 51 = .ok (.iinc 3 1, 3) := by decide +kernel
theorem d1_54 : decode prog_75_method_1_code 54 = .ok (.goto (-30), 3) := by decide +kernel
theorem d1_57 : decode prog_75_method_1_code 57 = .ok (.return_, 1) := by decide +kernel
theorem pd84293393 : parseMethodDescriptor "(II)I" = some ⟨[.int, .int], some .int⟩ := by decide +kernel
theorem ef_1 (m : MethodId) (a0 : Addr) (a1 : Addr) (a2 : Addr) : entryFrame m #[(.ref a0), (.ref a1), (.ref a2)] 4 = mkF m 0 #[.val (.ref a0), .val (.ref a1), .val (.ref a2), .unset] [] := by first | (simp [entryFrame, mkF, argsToLocals, Value.category]; done) | rfl
def Q1 (Z : State) (a0 : Addr) (a1 : Addr) (a2 : Addr) (u : Nat → Int32) (h0 : Heap) (n0 : Nat) (v : Option Value) (h : Heap) (L : List Loc) : Prop := ∃ (ab : Addr) (r1 r2 r3 : Nat), r1 = own_ext u (fun _ => (0 : Int32)) (u 1) 3 0 ∧ r2 = own_ext u (own_up (fun _ => (0 : Int32)) 1 (Int32.ofNat r1)) (u 2) 3 r1 ∧ r3 = own_ext u (own_up (own_up (fun _ => (0 : Int32)) 1 (Int32.ofNat r1)) 2 (Int32.ofNat r2)) (u 3) 3 r2 ∧ r1 ≤ 1 ∧ r2 ≤ 2 ∧ r3 ≤ 3 ∧ v = none ∧ Fr n0 L ∧ Keep h0 h [a0] ∧ Exa Z h a0 "com/example/xcu/xcu/UnitString$Part" ∧ Fld Z h a0 "com/example/xcu/xcu/UnitString$Part" "units" "[I" (.ref a2) ∧ Fld Z h a0 "com/example/xcu/xcu/UnitString$Part" "borders" "[I" (.ref ab) ∧ own_Ar Z h a2 .int 4 u ∧ own_Ar Z h ab .int 4 (own_up (own_up (own_up (fun _ => (0 : Int32)) 1 (Int32.ofNat r1)) 2 (Int32.ofNat r2)) 3 (Int32.ofNat r3))
set_option maxRecDepth 65536 in
set_option maxHeartbeats 40000000 in
theorem rm1 (l : Launch) (Z : State) (aq : Array Value) (hw : ∀ d ∈ tables_1, d.before aq Z = true) (ws : List Jvm.Cond) (a0 : Addr) (a1 : Addr) (a2 : Addr) (u : Nat → Int32) (h0 : Heap) (n0 : Nat) (Z0 : n0 ≤ h0.size) (E_ : Exa Z h0 a0 "com/example/xcu/xcu/UnitString$Part") (F_text : Fld Z h0 a0 "com/example/xcu/xcu/UnitString$Part" "text" "Ljava/lang/String;" .null) (F_units : Fld Z h0 a0 "com/example/xcu/xcu/UnitString$Part" "units" "[I" .null) (F_borders : Fld Z h0 a0 "com/example/xcu/xcu/UnitString$Part" "borders" "[I" .null) (V_ : own_Ar Z h0 a2 .int 4 u) (g_a0 : n0 ≤ a0) (ne_a2 : a2 ≠ a0) :
    MetFree l (⟨"com/example/xcu/xcu/UnitString$Part", "<init>", "(Ljava/lang/String;[I)V"⟩ : MethodName) (head1 (Jvm.Cond.code (⟨"com/example/xcu/xcu/UnitString$Part", "<init>", "(Ljava/lang/String;[I)V"⟩ : MethodName) prog_75_method_1_code 4 none :: ws) ({ frames := 1, cells := 1, slots := 4, locals := 17 } : Room)) (fun a U => a = #[(.ref a0), (.ref a1), (.ref a2)] ∧ Z.Warmed39 U.vm ∧ U.heap = h0) (fun _ _ _ _ _ => True) (fun _ U o U' => ∃ v L, o = .returned v ∧ Q1 Z a0 a1 a2 u h0 n0 v U'.heap L ∧ FrameEnd U o U' L ({ frames := 1, cells := 1, slots := 4, locals := 17 } : Room).cells ({ frames := 1, cells := 1, slots := 4, locals := 17 } : Room).slots) := by
  refine MetFree.of_bodySF (plainFor_of_name pn89692990) hisR ?_
  intro p e s m args below meth c s₁ Bd hml0 hP hK
  obtain ⟨rfl, hZ, hh⟩ := hP
  have hx := Bd.exec
  have hby := Bd.bytes
  have hml : c.maxLocals = 4 := hml0
  have hown : s.vm.findClass "com/example/xcu/xcu/UnitString$Part" = some m.cls := findClass_of_methodNamed Bd.named
  have hnm := (name_of_methodNamed Bd.named Bd.method).1
  have X0 : Stand p l e ({ frames := 1, cells := 1, slots := 4, locals := 17 } : Room) s m #[(.ref a0), (.ref a1), (.ref a2)] below meth c s₁ [] 0 0 := Stand.of_body Bd
  have e0 : s₁.heap = h0 := by rw [← hh, Bd.state]; rfl
  have N0 := Fr.nil n0
  have K0 : Keep h0 h0 [a0] := Keep.refl _ _
  have pre0 : ∀ t, Steps p.tables e below (s₁.setTop (mkF m 0 #[.val (.ref a0), .val (.ref a1), .val (.ref a2), .unset] [])) t → Steps p.tables e below (s₁.setTop (entryFrame m #[(.ref a0), (.ref a1), (.ref a2)] 4)) t := fun t k => castTop (ef_1 m a0 a1 a2) k
  obtain ⟨T17, X17, e17, st17⟩ := initO X0 hx hZ hown (hw _ (List.mem_of_getElem? (i := 16) rfl)) (hw _ (List.mem_of_getElem? (i := 17) rfl)) (hw _ (List.mem_of_getElem? (i := 18) rfl)) e0 (g := (mkF m 1 #[.val (.ref a0), .val (.ref a1), .val (.ref a2), .unset] [(.ref a0)])) rfl (by rw [hml]; rfl) rfl (hb hby d1_1) (by decide) (W := 0) (by show 2 * 0 + _ ≤ _; exact Nat.le_of_eq rfl) (by decide)
  obtain ⟨T18, h18, X18, e18, W18, st18⟩ := putF X17 hx hZ hown (host := "") (Or.inl (hw _ (List.mem_of_getElem? (i := 19) rfl))) Via.refl e17 F_text E_ (Or.inr ⟨(hw _ (List.mem_of_getElem? (i := 20) rfl)), rfl, hnm⟩) (hw _ (List.mem_of_getElem? (i := 3) rfl)) (ty := (.object "java/lang/String")) (by decide) rfl rfl (g := (mkF m 6 #[.val (.ref a0), .val (.ref a1), .val (.ref a2), .unset] [(.ref a1), (.ref a0)])) rfl rfl (hb hby d1_6)
  have E19 := E_.wr W18
  have V20 := V_.other W18 ne_a2
  have F21 : Fld Z h18 a0 "com/example/xcu/xcu/UnitString$Part" "text" "Ljava/lang/String;" (.ref a1) := F_text.same W18
  have F22 := F_units.other W18 (Or.inr (slot_ne (Or.inr (hw _ (List.mem_of_getElem? (i := 22) rfl))) (Or.inr (hw _ (List.mem_of_getElem? (i := 20) rfl))) (by decide) (t := (.array .int)) (t' := (.object "java/lang/String")) (by decide) (by decide)))
  have F23 := F_borders.other W18 (Or.inr (slot_ne (Or.inr (hw _ (List.mem_of_getElem? (i := 24) rfl))) (Or.inr (hw _ (List.mem_of_getElem? (i := 20) rfl))) (by decide) (t := (.array .int)) (t' := (.object "java/lang/String")) (by decide) (by decide)))
  have N24 := Fr.snoc X18 N0 g_a0
  have K25 : Keep h0 h18 [a0] := K0.wr W18 (Or.inl (List.mem_of_getElem? (i := 0) rfl))
  have Z26 : n0 ≤ h18.size := Nat.le_trans Z0 (Keep.of_wr W18).1
  obtain ⟨T27, h27, X27, e27, W27, st27⟩ := putF X18 hx hZ hown (host := "") (Or.inl (hw _ (List.mem_of_getElem? (i := 21) rfl))) Via.refl e18 F22 E19 (Or.inr ⟨(hw _ (List.mem_of_getElem? (i := 22) rfl)), rfl, hnm⟩) (hw _ (List.mem_of_getElem? (i := 3) rfl)) (ty := (.array .int)) (by decide) rfl rfl (g := (mkF m 11 #[.val (.ref a0), .val (.ref a1), .val (.ref a2), .unset] [(.ref a2), (.ref a0)])) rfl rfl (hb hby d1_11)
  have E28 := E19.wr W27
  have V29 := V20.other W27 ne_a2
  have F30 := F21.other W27 (Or.inr (slot_ne (Or.inr (hw _ (List.mem_of_getElem? (i := 20) rfl))) (Or.inr (hw _ (List.mem_of_getElem? (i := 22) rfl))) (by decide) (t := (.object "java/lang/String")) (t' := (.array .int)) (by decide) (by decide)))
  have F31 : Fld Z h27 a0 "com/example/xcu/xcu/UnitString$Part" "units" "[I" (.ref a2) := F22.same W27
  have F32 := F23.other W27 (Or.inr (slot_ne (Or.inr (hw _ (List.mem_of_getElem? (i := 24) rfl))) (Or.inr (hw _ (List.mem_of_getElem? (i := 22) rfl))) (by decide) (t := (.array .int)) (t' := (.array .int)) (by decide) (by decide)))
  have N33 := Fr.snoc X27 N24 g_a0
  have K34 : Keep h0 h27 [a0] := K25.wr W27 (Or.inl (List.mem_of_getElem? (i := 0) rfl))
  have Z35 : n0 ≤ h27.size := Nat.le_trans Z26 (Keep.of_wr W27).1
  obtain ⟨T36, h36, k36, X36, e36, E36, A36, EE36, st36⟩ := newPE X27 hx hZ (hw _ (List.mem_of_getElem? (i := 0) rfl)) e27 (g := (mkF m 17 #[.val (.ref a0), .val (.ref a1), .val (.ref a2), .unset] [(.int (4 : Int32)), (.ref a0)])) rfl (hb hby d1_17) rfl (by decide) (cap := 4) (by decide) (by decide) (by decide) (by decide) (ad := "[I") (by decide)
  obtain ⟨b36, g36⟩ : ∃ z, z = h27.size := ⟨_, rfl⟩
  rw [← g36] at A36 EE36 st36
  have ne_a0_b36 : a0 ≠ b36 := Nat.ne_of_lt (Nat.lt_of_lt_of_le E28.lt (Nat.le_of_eq g36.symm))
  have ne_a2_b36 : a2 ≠ b36 := Nat.ne_of_lt (Nat.lt_of_lt_of_le V29.lt (Nat.le_of_eq g36.symm))
  have g_b36 : n0 ≤ b36 := Nat.le_trans Z35 (Nat.le_of_eq g36.symm)
  have sz_b36 : h0.size ≤ b36 := Nat.le_trans K34.1 (Nat.le_of_eq g36.symm)
  have E37 := E28.ext E36
  have V38 := V29.ext E36
  have F39 := F30.ext E36
  have F40 := F31.ext E36
  have F41 := F32.ext E36
  have K42 : Keep h0 h36 [a0] := K34.ext E36
  have Z43 : n0 ≤ h36.size := Nat.le_trans Z35 E36.1
  have V36 : own_Ar Z h36 b36 .int 4 (fun _ => (0 : Int32)) := own_Ar.of (Arv.new A36 (by decide)) (by decide) (fun i hi => rfl)
  obtain ⟨T44, h44, X44, e44, W44, st44⟩ := putF X36 hx hZ hown (host := "") (Or.inl (hw _ (List.mem_of_getElem? (i := 23) rfl))) Via.refl e36 F41 E37 (Or.inr ⟨(hw _ (List.mem_of_getElem? (i := 24) rfl)), rfl, hnm⟩) (hw _ (List.mem_of_getElem? (i := 3) rfl)) (ty := (.array .int)) (by decide) rfl rfl (g := (mkF m 19 #[.val (.ref a0), .val (.ref a1), .val (.ref a2), .unset] [(.ref b36), (.ref a0)])) rfl rfl (hb hby d1_19)
  have E45 := E37.wr W44
  have V46 := V38.other W44 ne_a2
  have F47 := F39.other W44 (Or.inr (slot_ne (Or.inr (hw _ (List.mem_of_getElem? (i := 20) rfl))) (Or.inr (hw _ (List.mem_of_getElem? (i := 24) rfl))) (by decide) (t := (.object "java/lang/String")) (t' := (.array .int)) (by decide) (by decide)))
  have F48 := F40.other W44 (Or.inr (slot_ne (Or.inr (hw _ (List.mem_of_getElem? (i := 22) rfl))) (Or.inr (hw _ (List.mem_of_getElem? (i := 24) rfl))) (by decide) (t := (.array .int)) (t' := (.array .int)) (by decide) (by decide)))
  have F49 : Fld Z h44 a0 "com/example/xcu/xcu/UnitString$Part" "borders" "[I" (.ref b36) := F41.same W44
  have E50 := EE36.wr W44
  have V51 := V36.other W44 (Ne.symm ne_a0_b36)
  have N52 := Fr.snoc X44 N33 g_a0
  have K53 : Keep h0 h44 [a0] := K42.wr W44 (Or.inl (List.mem_of_getElem? (i := 0) rfl))
  have Z54 : n0 ≤ h44.size := Nat.le_trans Z43 (Keep.of_wr W44).1
  obtain ⟨T55, X55, e55, st55⟩ := getF X44 hx hZ hown (host := "") (Or.inl (hw _ (List.mem_of_getElem? (i := 23) rfl))) Via.refl e44 F49 (g := (mkF m 31 #[.val (.ref a0), .val (.ref a1), .val (.ref a2), .val (.int (1 : Int32))] [(.ref a0)])) rfl rfl (hb hby d1_31)
  obtain ⟨T56, X56, e56, st56⟩ := getF X55 hx hZ hown (host := "") (Or.inl (hw _ (List.mem_of_getElem? (i := 23) rfl))) Via.refl e55 F49 (g := (mkF m 37 #[.val (.ref a0), .val (.ref a1), .val (.ref a2), .val (.int (1 : Int32))] [(.ref a0), (.ref a0), (.int (1 : Int32)), (.ref b36)])) rfl rfl (hb hby d1_37)
  obtain ⟨cq57, kq57, q57a, q57b, q57c⟩ := isOf hZ e56 E45
  obtain ⟨_, _, ⟨T57, L57, k57, n57⟩, -, X57, ⟨Lc57, hQ57, l57, y57, z57⟩, st57⟩ := X56.virtualBack hx (y := (⟨"com/example/xcu/xcu/UnitString$Part", "extend", "(II)I"⟩ : MethodName)) (z := (⟨"com/example/xcu/xcu/UnitString$Part", "extend", "(II)I"⟩ : MethodName)) hown (mvT hZ (hw _ (List.mem_of_getElem? (i := 25) rfl))) (mvT hZ (hw _ (List.mem_of_getElem? (i := 26) rfl))) (notFace_of_selects (args := #[]) (mvT hZ (hw _ (List.mem_of_getElem? (i := 28) rfl)))) (mvT hZ (hw _ (List.mem_of_getElem? (i := 28) rfl))) (mvT hZ (hw _ (List.mem_of_getElem? (i := 27) rfl))) (by decide) (backOf (W := 2) (rm3 l Z aq hw [] a0 (u 1) a2 b36 u (fun _ => (0 : Int32)) 0 h44 n0 Z54 F48 F49 V46 V51 (by omega) (own_hb0 _)) hZ (hw _ (List.mem_of_getElem? (i := 29) rfl)) (hw _ (List.mem_of_getElem? (i := 4) rfl)) (by decide) (by decide)) q57a q57c (g := (mkF m 47 #[.val (.ref a0), .val (.ref a1), .val (.ref a2), .val (.int (1 : Int32))] [(.int (u 1)), (.int (0 : Int32)), (.ref a0), (.int (1 : Int32)), (.ref b36)])) rfl (by rw [hml]; rfl) (Steps.refl _) (argsL := [(.int (0 : Int32)), (.int (u 1))]) (rest := [(.int (1 : Int32)), (.ref b36)]) (lenOf pd84293393 rfl) rfl (by show 2 * 0 + _ ≤ _; exact Nat.le_of_eq rfl) (hb hby d1_47) (fun _ _ => ⟨rfl, e56, (by decide : 1 + 0 ≤ _), (by decide : 4 + 0 ≤ _)⟩)
  dsimp only [Pt.U, Pt.locs, Pt.cells, Pt.slots] at X57 l57 y57 z57 st57 hQ57
  subst l57 y57 z57
  obtain ⟨r1, hr1, br1, rfl, N57q, e57⟩ := hQ57
  have N58 := Fr.app N52 N57q
  obtain ⟨T59, h59, X59, e59, W59, V59, st59⟩ := own_stI X57 hx hZ e57 V51 (j := (1 : Int32)) (i := 1) (by decide) (by decide) (g := (mkF m 50 #[.val (.ref a0), .val (.ref a1), .val (.ref a2), .val (.int (1 : Int32))] [(.int (Int32.ofNat r1)), (.int (1 : Int32)), (.ref b36)])) rfl rfl (hb hby d1_50)
  have E60 := E45.wr W59
  have V61 := V46.other W59 ne_a2_b36
  have F62 := F47.other W59 (Or.inl ne_a0_b36)
  have F63 := F48.other W59 (Or.inl ne_a0_b36)
  have F64 := F49.other W59 (Or.inl ne_a0_b36)
  have E65 := E50.wr W59
  have N66 := Fr.snoc X59 N58 g_b36
  have K67 : Keep h0 h59 [a0] := K53.wr W59 (Or.inr sz_b36)
  have Z68 : n0 ≤ h59.size := Nat.le_trans Z54 (Keep.of_wr W59).1
  obtain ⟨T69, X69, e69, st69⟩ := getF X59 hx hZ hown (host := "") (Or.inl (hw _ (List.mem_of_getElem? (i := 23) rfl))) Via.refl e59 F64 (g := (mkF m 31 #[.val (.ref a0), .val (.ref a1), .val (.ref a2), .val (.int ((1 : Int32) + (1 : Int32)))] [(.ref a0)])) rfl rfl (hb hby d1_31)
  obtain ⟨T70, X70, e70, st70⟩ := getF X69 hx hZ hown (host := "") (Or.inl (hw _ (List.mem_of_getElem? (i := 23) rfl))) Via.refl e69 F64 (g := (mkF m 37 #[.val (.ref a0), .val (.ref a1), .val (.ref a2), .val (.int ((1 : Int32) + (1 : Int32)))] [(.ref a0), (.ref a0), (.int ((1 : Int32) + (1 : Int32))), (.ref b36)])) rfl rfl (hb hby d1_37)
  obtain ⟨cq71, kq71, q71a, q71b, q71c⟩ := isOf hZ e70 E60
  obtain ⟨_, _, ⟨T71, L71, k71, n71⟩, -, X71, ⟨Lc71, hQ71, l71, y71, z71⟩, st71⟩ := X70.virtualBack hx (y := (⟨"com/example/xcu/xcu/UnitString$Part", "extend", "(II)I"⟩ : MethodName)) (z := (⟨"com/example/xcu/xcu/UnitString$Part", "extend", "(II)I"⟩ : MethodName)) hown (mvT hZ (hw _ (List.mem_of_getElem? (i := 25) rfl))) (mvT hZ (hw _ (List.mem_of_getElem? (i := 26) rfl))) (notFace_of_selects (args := #[]) (mvT hZ (hw _ (List.mem_of_getElem? (i := 28) rfl)))) (mvT hZ (hw _ (List.mem_of_getElem? (i := 28) rfl))) (mvT hZ (hw _ (List.mem_of_getElem? (i := 27) rfl))) (by decide) (backOf (W := 2) (rm3 l Z aq hw [] a0 (u 2) a2 b36 u (own_up (fun _ => (0 : Int32)) 1 (Int32.ofNat r1)) r1 h59 n0 Z68 F63 F64 V61 V59 (by omega) (own_hb1 (by omega) (by omega))) hZ (hw _ (List.mem_of_getElem? (i := 29) rfl)) (hw _ (List.mem_of_getElem? (i := 4) rfl)) (by decide) (by decide)) q71a q71c (g := (mkF m 47 #[.val (.ref a0), .val (.ref a1), .val (.ref a2), .val (.int ((1 : Int32) + (1 : Int32)))] [(.int (u 2)), (.int (Int32.ofNat r1)), (.ref a0), (.int ((1 : Int32) + (1 : Int32))), (.ref b36)])) rfl (by rw [hml]; rfl) (Steps.refl _) (argsL := [(.int (Int32.ofNat r1)), (.int (u 2))]) (rest := [(.int ((1 : Int32) + (1 : Int32))), (.ref b36)]) (lenOf pd84293393 rfl) rfl (by show 2 * 0 + _ ≤ _; exact Nat.le_of_eq rfl) (hb hby d1_47) (fun _ _ => ⟨rfl, e70, (by decide : 1 + 0 ≤ _), (by decide : 4 + 0 ≤ _)⟩)
  dsimp only [Pt.U, Pt.locs, Pt.cells, Pt.slots] at X71 l71 y71 z71 st71 hQ71
  subst l71 y71 z71
  obtain ⟨r2, hr2, br2, rfl, N71q, e71⟩ := hQ71
  have N72 := Fr.app N66 N71q
  obtain ⟨T73, h73, X73, e73, W73, V73, st73⟩ := own_stI X71 hx hZ e71 V59 (j := ((1 : Int32) + (1 : Int32))) (i := 2) (by decide) (by decide) (g := (mkF m 50 #[.val (.ref a0), .val (.ref a1), .val (.ref a2), .val (.int ((1 : Int32) + (1 : Int32)))] [(.int (Int32.ofNat r2)), (.int ((1 : Int32) + (1 : Int32))), (.ref b36)])) rfl rfl (hb hby d1_50)
  have E74 := E60.wr W73
  have V75 := V61.other W73 ne_a2_b36
  have F76 := F62.other W73 (Or.inl ne_a0_b36)
  have F77 := F63.other W73 (Or.inl ne_a0_b36)
  have F78 := F64.other W73 (Or.inl ne_a0_b36)
  have E79 := E65.wr W73
  have N80 := Fr.snoc X73 N72 g_b36
  have K81 : Keep h0 h73 [a0] := K67.wr W73 (Or.inr sz_b36)
  have Z82 : n0 ≤ h73.size := Nat.le_trans Z68 (Keep.of_wr W73).1
  obtain ⟨T83, X83, e83, st83⟩ := getF X73 hx hZ hown (host := "") (Or.inl (hw _ (List.mem_of_getElem? (i := 23) rfl))) Via.refl e73 F78 (g := (mkF m 31 #[.val (.ref a0), .val (.ref a1), .val (.ref a2), .val (.int (((1 : Int32) + (1 : Int32)) + (1 : Int32)))] [(.ref a0)])) rfl rfl (hb hby d1_31)
  obtain ⟨T84, X84, e84, st84⟩ := getF X83 hx hZ hown (host := "") (Or.inl (hw _ (List.mem_of_getElem? (i := 23) rfl))) Via.refl e83 F78 (g := (mkF m 37 #[.val (.ref a0), .val (.ref a1), .val (.ref a2), .val (.int (((1 : Int32) + (1 : Int32)) + (1 : Int32)))] [(.ref a0), (.ref a0), (.int (((1 : Int32) + (1 : Int32)) + (1 : Int32))), (.ref b36)])) rfl rfl (hb hby d1_37)
  obtain ⟨cq85, kq85, q85a, q85b, q85c⟩ := isOf hZ e84 E74
  obtain ⟨_, _, ⟨T85, L85, k85, n85⟩, -, X85, ⟨Lc85, hQ85, l85, y85, z85⟩, st85⟩ := X84.virtualBack hx (y := (⟨"com/example/xcu/xcu/UnitString$Part", "extend", "(II)I"⟩ : MethodName)) (z := (⟨"com/example/xcu/xcu/UnitString$Part", "extend", "(II)I"⟩ : MethodName)) hown (mvT hZ (hw _ (List.mem_of_getElem? (i := 25) rfl))) (mvT hZ (hw _ (List.mem_of_getElem? (i := 26) rfl))) (notFace_of_selects (args := #[]) (mvT hZ (hw _ (List.mem_of_getElem? (i := 28) rfl)))) (mvT hZ (hw _ (List.mem_of_getElem? (i := 28) rfl))) (mvT hZ (hw _ (List.mem_of_getElem? (i := 27) rfl))) (by decide) (backOf (W := 2) (rm3 l Z aq hw [] a0 (u 3) a2 b36 u (own_up (own_up (fun _ => (0 : Int32)) 1 (Int32.ofNat r1)) 2 (Int32.ofNat r2)) r2 h73 n0 Z82 F77 F78 V75 V73 (by omega) (own_hb2 (by omega) (by omega) (by omega))) hZ (hw _ (List.mem_of_getElem? (i := 29) rfl)) (hw _ (List.mem_of_getElem? (i := 4) rfl)) (by decide) (by decide)) q85a q85c (g := (mkF m 47 #[.val (.ref a0), .val (.ref a1), .val (.ref a2), .val (.int (((1 : Int32) + (1 : Int32)) + (1 : Int32)))] [(.int (u 3)), (.int (Int32.ofNat r2)), (.ref a0), (.int (((1 : Int32) + (1 : Int32)) + (1 : Int32))), (.ref b36)])) rfl (by rw [hml]; rfl) (Steps.refl _) (argsL := [(.int (Int32.ofNat r2)), (.int (u 3))]) (rest := [(.int (((1 : Int32) + (1 : Int32)) + (1 : Int32))), (.ref b36)]) (lenOf pd84293393 rfl) rfl (by show 2 * 0 + _ ≤ _; exact Nat.le_of_eq rfl) (hb hby d1_47) (fun _ _ => ⟨rfl, e84, (by decide : 1 + 0 ≤ _), (by decide : 4 + 0 ≤ _)⟩)
  dsimp only [Pt.U, Pt.locs, Pt.cells, Pt.slots] at X85 l85 y85 z85 st85 hQ85
  subst l85 y85 z85
  obtain ⟨r3, hr3, br3, rfl, N85q, e85⟩ := hQ85
  have N86 := Fr.app N80 N85q
  obtain ⟨T87, h87, X87, e87, W87, V87, st87⟩ := own_stI X85 hx hZ e85 V73 (j := (((1 : Int32) + (1 : Int32)) + (1 : Int32))) (i := 3) (by decide) (by decide) (g := (mkF m 50 #[.val (.ref a0), .val (.ref a1), .val (.ref a2), .val (.int (((1 : Int32) + (1 : Int32)) + (1 : Int32)))] [(.int (Int32.ofNat r3)), (.int (((1 : Int32) + (1 : Int32)) + (1 : Int32))), (.ref b36)])) rfl rfl (hb hby d1_50)
  have E88 := E74.wr W87
  have V89 := V75.other W87 ne_a2_b36
  have F90 := F76.other W87 (Or.inl ne_a0_b36)
  have F91 := F77.other W87 (Or.inl ne_a0_b36)
  have F92 := F78.other W87 (Or.inl ne_a0_b36)
  have E93 := E79.wr W87
  have N94 := Fr.snoc X87 N86 g_b36
  have K95 : Keep h0 h87 [a0] := K81.wr W87 (Or.inr sz_b36)
  have Z96 : n0 ≤ h87.size := Nat.le_trans Z82 (Keep.of_wr W87).1
  have pre97 : ∀ t, Steps p.tables e below (T87.setTop (mkF m 57 #[.val (.ref a0), .val (.ref a1), .val (.ref a2), .val (.int ((((1 : Int32) + (1 : Int32)) + (1 : Int32)) + (1 : Int32)))] [])) t → Steps p.tables e below (s₁.setTop (entryFrame m #[(.ref a0), (.ref a1), (.ref a2)] 4)) t := fun t kt => by
    refine pre0 _ ?_
    show Steps p.tables e below (s₁.setTop (mkF m 0 #[.val (.ref a0), .val (.ref a1), .val (.ref a2), .unset] [])) _
    refine XS.aloadN X0.here hx rfl (hb hby d1_0) rfl rfl ?_
    show Steps p.tables e below (s₁.setTop (mkF m 1 #[.val (.ref a0), .val (.ref a1), .val (.ref a2), .unset] [(.ref a0)])) _
    refine st17 _ ?_
    show Steps p.tables e below (T17.setTop (mkF m 4 #[.val (.ref a0), .val (.ref a1), .val (.ref a2), .unset] [])) _
    refine XS.aloadN X17.here hx rfl (hb hby d1_4) rfl rfl ?_
    show Steps p.tables e below (T17.setTop (mkF m 5 #[.val (.ref a0), .val (.ref a1), .val (.ref a2), .unset] [(.ref a0)])) _
    refine XS.aloadN X17.here hx rfl (hb hby d1_5) rfl rfl ?_
    show Steps p.tables e below (T17.setTop (mkF m 6 #[.val (.ref a0), .val (.ref a1), .val (.ref a2), .unset] [(.ref a1), (.ref a0)])) _
    refine st18 _ ?_
    show Steps p.tables e below (T18.setTop (mkF m 9 #[.val (.ref a0), .val (.ref a1), .val (.ref a2), .unset] [])) _
    refine XS.aloadN X18.here hx rfl (hb hby d1_9) rfl rfl ?_
    show Steps p.tables e below (T18.setTop (mkF m 10 #[.val (.ref a0), .val (.ref a1), .val (.ref a2), .unset] [(.ref a0)])) _
    refine XS.aloadN X18.here hx rfl (hb hby d1_10) rfl rfl ?_
    show Steps p.tables e below (T18.setTop (mkF m 11 #[.val (.ref a0), .val (.ref a1), .val (.ref a2), .unset] [(.ref a2), (.ref a0)])) _
    refine st27 _ ?_
    show Steps p.tables e below (T27.setTop (mkF m 14 #[.val (.ref a0), .val (.ref a1), .val (.ref a2), .unset] [])) _
    refine XS.aloadN X27.here hx rfl (hb hby d1_14) rfl rfl ?_
    show Steps p.tables e below (T27.setTop (mkF m 15 #[.val (.ref a0), .val (.ref a1), .val (.ref a2), .unset] [(.ref a0)])) _
    refine XS.aloadN X27.here hx rfl (hb hby d1_15) rfl rfl ?_
    show Steps p.tables e below (T27.setTop (mkF m 16 #[.val (.ref a0), .val (.ref a1), .val (.ref a2), .unset] [(.ref a2), (.ref a0)])) _
    refine own_len X27 hx hZ e27 V29 (z := (4 : Int32)) (by decide) (g := (mkF m 16 #[.val (.ref a0), .val (.ref a1), .val (.ref a2), .unset] [(.ref a2), (.ref a0)])) rfl rfl (hb hby d1_16) _ ?_
    show Steps p.tables e below (T27.setTop (mkF m 17 #[.val (.ref a0), .val (.ref a1), .val (.ref a2), .unset] [(.int (4 : Int32)), (.ref a0)])) _
    refine st36 _ ?_
    show Steps p.tables e below (T36.setTop (mkF m 19 #[.val (.ref a0), .val (.ref a1), .val (.ref a2), .unset] [(.ref b36), (.ref a0)])) _
    refine st44 _ ?_
    show Steps p.tables e below (T44.setTop (mkF m 22 #[.val (.ref a0), .val (.ref a1), .val (.ref a2), .unset] [])) _
    refine XS.iconst X44.here hx rfl (hb hby d1_22) ?_
    show Steps p.tables e below (T44.setTop (mkF m 23 #[.val (.ref a0), .val (.ref a1), .val (.ref a2), .unset] [(.int (1 : Int32))])) _
    refine XS.istoreN X44.here hx rfl (hb hby d1_23) rfl (l' := #[.val (.ref a0), .val (.ref a1), .val (.ref a2), .val (.int (1 : Int32))]) rfl ?_
    show Steps p.tables e below (T44.setTop (mkF m 24 #[.val (.ref a0), .val (.ref a1), .val (.ref a2), .val (.int (1 : Int32))] [])) _
    refine XS.iloadN X44.here hx rfl (hb hby d1_24) rfl ?_
    show Steps p.tables e below (T44.setTop (mkF m 25 #[.val (.ref a0), .val (.ref a1), .val (.ref a2), .val (.int (1 : Int32))] [(.int (1 : Int32))])) _
    refine XS.aloadN X44.here hx rfl (hb hby d1_25) rfl rfl ?_
    show Steps p.tables e below (T44.setTop (mkF m 26 #[.val (.ref a0), .val (.ref a1), .val (.ref a2), .val (.int (1 : Int32))] [(.ref a2), (.int (1 : Int32))])) _
    refine own_len X44 hx hZ e44 V46 (z := (4 : Int32)) (by decide) (g := (mkF m 26 #[.val (.ref a0), .val (.ref a1), .val (.ref a2), .val (.int (1 : Int32))] [(.ref a2), (.int (1 : Int32))])) rfl rfl (hb hby d1_26) _ ?_
    show Steps p.tables e below (T44.setTop (mkF m 27 #[.val (.ref a0), .val (.ref a1), .val (.ref a2), .val (.int (1 : Int32))] [(.int (4 : Int32)), (.int (1 : Int32))])) _
    refine XS.icmpNo X44.here hx rfl (hb hby d1_27) rfl (tlt (by decide : (1 : Int32) < (4 : Int32))).2.1 ?_
    show Steps p.tables e below (T44.setTop (mkF m 30 #[.val (.ref a0), .val (.ref a1), .val (.ref a2), .val (.int (1 : Int32))] [])) _
    refine XS.aloadN X44.here hx rfl (hb hby d1_30) rfl rfl ?_
    show Steps p.tables e below (T44.setTop (mkF m 31 #[.val (.ref a0), .val (.ref a1), .val (.ref a2), .val (.int (1 : Int32))] [(.ref a0)])) _
    refine st55 _ ?_
    show Steps p.tables e below (T55.setTop (mkF m 34 #[.val (.ref a0), .val (.ref a1), .val (.ref a2), .val (.int (1 : Int32))] [(.ref b36)])) _
    refine XS.iloadN X55.here hx rfl (hb hby d1_34) rfl ?_
    show Steps p.tables e below (T55.setTop (mkF m 35 #[.val (.ref a0), .val (.ref a1), .val (.ref a2), .val (.int (1 : Int32))] [(.int (1 : Int32)), (.ref b36)])) _
    refine XS.aloadN X55.here hx rfl (hb hby d1_35) rfl rfl ?_
    show Steps p.tables e below (T55.setTop (mkF m 36 #[.val (.ref a0), .val (.ref a1), .val (.ref a2), .val (.int (1 : Int32))] [(.ref a0), (.int (1 : Int32)), (.ref b36)])) _
    refine XS.aloadN X55.here hx rfl (hb hby d1_36) rfl rfl ?_
    show Steps p.tables e below (T55.setTop (mkF m 37 #[.val (.ref a0), .val (.ref a1), .val (.ref a2), .val (.int (1 : Int32))] [(.ref a0), (.ref a0), (.int (1 : Int32)), (.ref b36)])) _
    refine st56 _ ?_
    show Steps p.tables e below (T56.setTop (mkF m 40 #[.val (.ref a0), .val (.ref a1), .val (.ref a2), .val (.int (1 : Int32))] [(.ref b36), (.ref a0), (.int (1 : Int32)), (.ref b36)])) _
    refine XS.iloadN X56.here hx rfl (hb hby d1_40) rfl ?_
    show Steps p.tables e below (T56.setTop (mkF m 41 #[.val (.ref a0), .val (.ref a1), .val (.ref a2), .val (.int (1 : Int32))] [(.int (1 : Int32)), (.ref b36), (.ref a0), (.int (1 : Int32)), (.ref b36)])) _
    refine XS.iconst X56.here hx rfl (hb hby d1_41) ?_
    show Steps p.tables e below (T56.setTop (mkF m 42 #[.val (.ref a0), .val (.ref a1), .val (.ref a2), .val (.int (1 : Int32))] [(.int (1 : Int32)), (.int (1 : Int32)), (.ref b36), (.ref a0), (.int (1 : Int32)), (.ref b36)])) _
    refine XS.isub X56.here hx rfl (hb hby d1_42) rfl ?_
    show Steps p.tables e below (T56.setTop (mkF m 43 #[.val (.ref a0), .val (.ref a1), .val (.ref a2), .val (.int (1 : Int32))] [(.int ((1 : Int32) - (1 : Int32))), (.ref b36), (.ref a0), (.int (1 : Int32)), (.ref b36)])) _
    refine own_rdI X56 hx hZ e56 V51 (j := ((1 : Int32) - (1 : Int32))) (i := 0) (by decide) (by decide) (g := (mkF m 43 #[.val (.ref a0), .val (.ref a1), .val (.ref a2), .val (.int (1 : Int32))] [(.int ((1 : Int32) - (1 : Int32))), (.ref b36), (.ref a0), (.int (1 : Int32)), (.ref b36)])) rfl rfl (hb hby d1_43) _ ?_
    show Steps p.tables e below (T56.setTop (mkF m 44 #[.val (.ref a0), .val (.ref a1), .val (.ref a2), .val (.int (1 : Int32))] [(.int (0 : Int32)), (.ref a0), (.int (1 : Int32)), (.ref b36)])) _
    refine XS.aloadN X56.here hx rfl (hb hby d1_44) rfl rfl ?_
    show Steps p.tables e below (T56.setTop (mkF m 45 #[.val (.ref a0), .val (.ref a1), .val (.ref a2), .val (.int (1 : Int32))] [(.ref a2), (.int (0 : Int32)), (.ref a0), (.int (1 : Int32)), (.ref b36)])) _
    refine XS.iloadN X56.here hx rfl (hb hby d1_45) rfl ?_
    show Steps p.tables e below (T56.setTop (mkF m 46 #[.val (.ref a0), .val (.ref a1), .val (.ref a2), .val (.int (1 : Int32))] [(.int (1 : Int32)), (.ref a2), (.int (0 : Int32)), (.ref a0), (.int (1 : Int32)), (.ref b36)])) _
    refine own_rdI X56 hx hZ e56 V46 (j := (1 : Int32)) (i := 1) (by decide) (by decide) (g := (mkF m 46 #[.val (.ref a0), .val (.ref a1), .val (.ref a2), .val (.int (1 : Int32))] [(.int (1 : Int32)), (.ref a2), (.int (0 : Int32)), (.ref a0), (.int (1 : Int32)), (.ref b36)])) rfl rfl (hb hby d1_46) _ ?_
    show Steps p.tables e below (T56.setTop (mkF m 47 #[.val (.ref a0), .val (.ref a1), .val (.ref a2), .val (.int (1 : Int32))] [(.int (u 1)), (.int (0 : Int32)), (.ref a0), (.int (1 : Int32)), (.ref b36)])) _
    refine st57.trans ?_
    show Steps p.tables e below (T57.setTop (mkF m 50 #[.val (.ref a0), .val (.ref a1), .val (.ref a2), .val (.int (1 : Int32))] [(.int (Int32.ofNat r1)), (.int (1 : Int32)), (.ref b36)])) _
    refine st59 _ ?_
    show Steps p.tables e below (T59.setTop (mkF m 51 #[.val (.ref a0), .val (.ref a1), .val (.ref a2), .val (.int (1 : Int32))] [])) _
    refine XS.iinc X59.here hx rfl (hb hby d1_51) rfl (l' := #[.val (.ref a0), .val (.ref a1), .val (.ref a2), .val (.int ((1 : Int32) + (1 : Int32)))]) rfl ?_
    show Steps p.tables e below (T59.setTop (mkF m 54 #[.val (.ref a0), .val (.ref a1), .val (.ref a2), .val (.int ((1 : Int32) + (1 : Int32)))] [])) _
    refine XS.goto X59.here hx rfl (pc0 := 54) (pc' := 24) rfl (hb hby d1_54) (by decide) (by decide) ?_
    show Steps p.tables e below (T59.setTop (mkF m 24 #[.val (.ref a0), .val (.ref a1), .val (.ref a2), .val (.int ((1 : Int32) + (1 : Int32)))] [])) _
    refine XS.iloadN X59.here hx rfl (hb hby d1_24) rfl ?_
    show Steps p.tables e below (T59.setTop (mkF m 25 #[.val (.ref a0), .val (.ref a1), .val (.ref a2), .val (.int ((1 : Int32) + (1 : Int32)))] [(.int ((1 : Int32) + (1 : Int32)))])) _
    refine XS.aloadN X59.here hx rfl (hb hby d1_25) rfl rfl ?_
    show Steps p.tables e below (T59.setTop (mkF m 26 #[.val (.ref a0), .val (.ref a1), .val (.ref a2), .val (.int ((1 : Int32) + (1 : Int32)))] [(.ref a2), (.int ((1 : Int32) + (1 : Int32)))])) _
    refine own_len X59 hx hZ e59 V61 (z := (4 : Int32)) (by decide) (g := (mkF m 26 #[.val (.ref a0), .val (.ref a1), .val (.ref a2), .val (.int ((1 : Int32) + (1 : Int32)))] [(.ref a2), (.int ((1 : Int32) + (1 : Int32)))])) rfl rfl (hb hby d1_26) _ ?_
    show Steps p.tables e below (T59.setTop (mkF m 27 #[.val (.ref a0), .val (.ref a1), .val (.ref a2), .val (.int ((1 : Int32) + (1 : Int32)))] [(.int (4 : Int32)), (.int ((1 : Int32) + (1 : Int32)))])) _
    refine XS.icmpNo X59.here hx rfl (hb hby d1_27) rfl (tlt (by decide : ((1 : Int32) + (1 : Int32)) < (4 : Int32))).2.1 ?_
    show Steps p.tables e below (T59.setTop (mkF m 30 #[.val (.ref a0), .val (.ref a1), .val (.ref a2), .val (.int ((1 : Int32) + (1 : Int32)))] [])) _
    refine XS.aloadN X59.here hx rfl (hb hby d1_30) rfl rfl ?_
    show Steps p.tables e below (T59.setTop (mkF m 31 #[.val (.ref a0), .val (.ref a1), .val (.ref a2), .val (.int ((1 : Int32) + (1 : Int32)))] [(.ref a0)])) _
    refine st69 _ ?_
    show Steps p.tables e below (T69.setTop (mkF m 34 #[.val (.ref a0), .val (.ref a1), .val (.ref a2), .val (.int ((1 : Int32) + (1 : Int32)))] [(.ref b36)])) _
    refine XS.iloadN X69.here hx rfl (hb hby d1_34) rfl ?_
    show Steps p.tables e below (T69.setTop (mkF m 35 #[.val (.ref a0), .val (.ref a1), .val (.ref a2), .val (.int ((1 : Int32) + (1 : Int32)))] [(.int ((1 : Int32) + (1 : Int32))), (.ref b36)])) _
    refine XS.aloadN X69.here hx rfl (hb hby d1_35) rfl rfl ?_
    show Steps p.tables e below (T69.setTop (mkF m 36 #[.val (.ref a0), .val (.ref a1), .val (.ref a2), .val (.int ((1 : Int32) + (1 : Int32)))] [(.ref a0), (.int ((1 : Int32) + (1 : Int32))), (.ref b36)])) _
    refine XS.aloadN X69.here hx rfl (hb hby d1_36) rfl rfl ?_
    show Steps p.tables e below (T69.setTop (mkF m 37 #[.val (.ref a0), .val (.ref a1), .val (.ref a2), .val (.int ((1 : Int32) + (1 : Int32)))] [(.ref a0), (.ref a0), (.int ((1 : Int32) + (1 : Int32))), (.ref b36)])) _
    refine st70 _ ?_
    show Steps p.tables e below (T70.setTop (mkF m 40 #[.val (.ref a0), .val (.ref a1), .val (.ref a2), .val (.int ((1 : Int32) + (1 : Int32)))] [(.ref b36), (.ref a0), (.int ((1 : Int32) + (1 : Int32))), (.ref b36)])) _
    refine XS.iloadN X70.here hx rfl (hb hby d1_40) rfl ?_
    show Steps p.tables e below (T70.setTop (mkF m 41 #[.val (.ref a0), .val (.ref a1), .val (.ref a2), .val (.int ((1 : Int32) + (1 : Int32)))] [(.int ((1 : Int32) + (1 : Int32))), (.ref b36), (.ref a0), (.int ((1 : Int32) + (1 : Int32))), (.ref b36)])) _
    refine XS.iconst X70.here hx rfl (hb hby d1_41) ?_
    show Steps p.tables e below (T70.setTop (mkF m 42 #[.val (.ref a0), .val (.ref a1), .val (.ref a2), .val (.int ((1 : Int32) + (1 : Int32)))] [(.int (1 : Int32)), (.int ((1 : Int32) + (1 : Int32))), (.ref b36), (.ref a0), (.int ((1 : Int32) + (1 : Int32))), (.ref b36)])) _
    refine XS.isub X70.here hx rfl (hb hby d1_42) rfl ?_
    show Steps p.tables e below (T70.setTop (mkF m 43 #[.val (.ref a0), .val (.ref a1), .val (.ref a2), .val (.int ((1 : Int32) + (1 : Int32)))] [(.int (((1 : Int32) + (1 : Int32)) - (1 : Int32))), (.ref b36), (.ref a0), (.int ((1 : Int32) + (1 : Int32))), (.ref b36)])) _
    refine own_rdI X70 hx hZ e70 V59 (j := (((1 : Int32) + (1 : Int32)) - (1 : Int32))) (i := 1) (by decide) (by decide) (g := (mkF m 43 #[.val (.ref a0), .val (.ref a1), .val (.ref a2), .val (.int ((1 : Int32) + (1 : Int32)))] [(.int (((1 : Int32) + (1 : Int32)) - (1 : Int32))), (.ref b36), (.ref a0), (.int ((1 : Int32) + (1 : Int32))), (.ref b36)])) rfl rfl (hb hby d1_43) _ ?_
    show Steps p.tables e below (T70.setTop (mkF m 44 #[.val (.ref a0), .val (.ref a1), .val (.ref a2), .val (.int ((1 : Int32) + (1 : Int32)))] [(.int (Int32.ofNat r1)), (.ref a0), (.int ((1 : Int32) + (1 : Int32))), (.ref b36)])) _
    refine XS.aloadN X70.here hx rfl (hb hby d1_44) rfl rfl ?_
    show Steps p.tables e below (T70.setTop (mkF m 45 #[.val (.ref a0), .val (.ref a1), .val (.ref a2), .val (.int ((1 : Int32) + (1 : Int32)))] [(.ref a2), (.int (Int32.ofNat r1)), (.ref a0), (.int ((1 : Int32) + (1 : Int32))), (.ref b36)])) _
    refine XS.iloadN X70.here hx rfl (hb hby d1_45) rfl ?_
    show Steps p.tables e below (T70.setTop (mkF m 46 #[.val (.ref a0), .val (.ref a1), .val (.ref a2), .val (.int ((1 : Int32) + (1 : Int32)))] [(.int ((1 : Int32) + (1 : Int32))), (.ref a2), (.int (Int32.ofNat r1)), (.ref a0), (.int ((1 : Int32) + (1 : Int32))), (.ref b36)])) _
    refine own_rdI X70 hx hZ e70 V61 (j := ((1 : Int32) + (1 : Int32))) (i := 2) (by decide) (by decide) (g := (mkF m 46 #[.val (.ref a0), .val (.ref a1), .val (.ref a2), .val (.int ((1 : Int32) + (1 : Int32)))] [(.int ((1 : Int32) + (1 : Int32))), (.ref a2), (.int (Int32.ofNat r1)), (.ref a0), (.int ((1 : Int32) + (1 : Int32))), (.ref b36)])) rfl rfl (hb hby d1_46) _ ?_
    show Steps p.tables e below (T70.setTop (mkF m 47 #[.val (.ref a0), .val (.ref a1), .val (.ref a2), .val (.int ((1 : Int32) + (1 : Int32)))] [(.int (u 2)), (.int (Int32.ofNat r1)), (.ref a0), (.int ((1 : Int32) + (1 : Int32))), (.ref b36)])) _
    refine st71.trans ?_
    show Steps p.tables e below (T71.setTop (mkF m 50 #[.val (.ref a0), .val (.ref a1), .val (.ref a2), .val (.int ((1 : Int32) + (1 : Int32)))] [(.int (Int32.ofNat r2)), (.int ((1 : Int32) + (1 : Int32))), (.ref b36)])) _
    refine st73 _ ?_
    show Steps p.tables e below (T73.setTop (mkF m 51 #[.val (.ref a0), .val (.ref a1), .val (.ref a2), .val (.int ((1 : Int32) + (1 : Int32)))] [])) _
    refine XS.iinc X73.here hx rfl (hb hby d1_51) rfl (l' := #[.val (.ref a0), .val (.ref a1), .val (.ref a2), .val (.int (((1 : Int32) + (1 : Int32)) + (1 : Int32)))]) rfl ?_
    show Steps p.tables e below (T73.setTop (mkF m 54 #[.val (.ref a0), .val (.ref a1), .val (.ref a2), .val (.int (((1 : Int32) + (1 : Int32)) + (1 : Int32)))] [])) _
    refine XS.goto X73.here hx rfl (pc0 := 54) (pc' := 24) rfl (hb hby d1_54) (by decide) (by decide) ?_
    show Steps p.tables e below (T73.setTop (mkF m 24 #[.val (.ref a0), .val (.ref a1), .val (.ref a2), .val (.int (((1 : Int32) + (1 : Int32)) + (1 : Int32)))] [])) _
    refine XS.iloadN X73.here hx rfl (hb hby d1_24) rfl ?_
    show Steps p.tables e below (T73.setTop (mkF m 25 #[.val (.ref a0), .val (.ref a1), .val (.ref a2), .val (.int (((1 : Int32) + (1 : Int32)) + (1 : Int32)))] [(.int (((1 : Int32) + (1 : Int32)) + (1 : Int32)))])) _
    refine XS.aloadN X73.here hx rfl (hb hby d1_25) rfl rfl ?_
    show Steps p.tables e below (T73.setTop (mkF m 26 #[.val (.ref a0), .val (.ref a1), .val (.ref a2), .val (.int (((1 : Int32) + (1 : Int32)) + (1 : Int32)))] [(.ref a2), (.int (((1 : Int32) + (1 : Int32)) + (1 : Int32)))])) _
    refine own_len X73 hx hZ e73 V75 (z := (4 : Int32)) (by decide) (g := (mkF m 26 #[.val (.ref a0), .val (.ref a1), .val (.ref a2), .val (.int (((1 : Int32) + (1 : Int32)) + (1 : Int32)))] [(.ref a2), (.int (((1 : Int32) + (1 : Int32)) + (1 : Int32)))])) rfl rfl (hb hby d1_26) _ ?_
    show Steps p.tables e below (T73.setTop (mkF m 27 #[.val (.ref a0), .val (.ref a1), .val (.ref a2), .val (.int (((1 : Int32) + (1 : Int32)) + (1 : Int32)))] [(.int (4 : Int32)), (.int (((1 : Int32) + (1 : Int32)) + (1 : Int32)))])) _
    refine XS.icmpNo X73.here hx rfl (hb hby d1_27) rfl (tlt (by decide : (((1 : Int32) + (1 : Int32)) + (1 : Int32)) < (4 : Int32))).2.1 ?_
    show Steps p.tables e below (T73.setTop (mkF m 30 #[.val (.ref a0), .val (.ref a1), .val (.ref a2), .val (.int (((1 : Int32) + (1 : Int32)) + (1 : Int32)))] [])) _
    refine XS.aloadN X73.here hx rfl (hb hby d1_30) rfl rfl ?_
    show Steps p.tables e below (T73.setTop (mkF m 31 #[.val (.ref a0), .val (.ref a1), .val (.ref a2), .val (.int (((1 : Int32) + (1 : Int32)) + (1 : Int32)))] [(.ref a0)])) _
    refine st83 _ ?_
    show Steps p.tables e below (T83.setTop (mkF m 34 #[.val (.ref a0), .val (.ref a1), .val (.ref a2), .val (.int (((1 : Int32) + (1 : Int32)) + (1 : Int32)))] [(.ref b36)])) _
    refine XS.iloadN X83.here hx rfl (hb hby d1_34) rfl ?_
    show Steps p.tables e below (T83.setTop (mkF m 35 #[.val (.ref a0), .val (.ref a1), .val (.ref a2), .val (.int (((1 : Int32) + (1 : Int32)) + (1 : Int32)))] [(.int (((1 : Int32) + (1 : Int32)) + (1 : Int32))), (.ref b36)])) _
    refine XS.aloadN X83.here hx rfl (hb hby d1_35) rfl rfl ?_
    show Steps p.tables e below (T83.setTop (mkF m 36 #[.val (.ref a0), .val (.ref a1), .val (.ref a2), .val (.int (((1 : Int32) + (1 : Int32)) + (1 : Int32)))] [(.ref a0), (.int (((1 : Int32) + (1 : Int32)) + (1 : Int32))), (.ref b36)])) _
    refine XS.aloadN X83.here hx rfl (hb hby d1_36) rfl rfl ?_
    show Steps p.tables e below (T83.setTop (mkF m 37 #[.val (.ref a0), .val (.ref a1), .val (.ref a2), .val (.int (((1 : Int32) + (1 : Int32)) + (1 : Int32)))] [(.ref a0), (.ref a0), (.int (((1 : Int32) + (1 : Int32)) + (1 : Int32))), (.ref b36)])) _
    refine st84 _ ?_
    show Steps p.tables e below (T84.setTop (mkF m 40 #[.val (.ref a0), .val (.ref a1), .val (.ref a2), .val (.int (((1 : Int32) + (1 : Int32)) + (1 : Int32)))] [(.ref b36), (.ref a0), (.int (((1 : Int32) + (1 : Int32)) + (1 : Int32))), (.ref b36)])) _
    refine XS.iloadN X84.here hx rfl (hb hby d1_40) rfl ?_
    show Steps p.tables e below (T84.setTop (mkF m 41 #[.val (.ref a0), .val (.ref a1), .val (.ref a2), .val (.int (((1 : Int32) + (1 : Int32)) + (1 : Int32)))] [(.int (((1 : Int32) + (1 : Int32)) + (1 : Int32))), (.ref b36), (.ref a0), (.int (((1 : Int32) + (1 : Int32)) + (1 : Int32))), (.ref b36)])) _
    refine XS.iconst X84.here hx rfl (hb hby d1_41) ?_
    show Steps p.tables e below (T84.setTop (mkF m 42 #[.val (.ref a0), .val (.ref a1), .val (.ref a2), .val (.int (((1 : Int32) + (1 : Int32)) + (1 : Int32)))] [(.int (1 : Int32)), (.int (((1 : Int32) + (1 : Int32)) + (1 : Int32))), (.ref b36), (.ref a0), (.int (((1 : Int32) + (1 : Int32)) + (1 : Int32))), (.ref b36)])) _
    refine XS.isub X84.here hx rfl (hb hby d1_42) rfl ?_
    show Steps p.tables e below (T84.setTop (mkF m 43 #[.val (.ref a0), .val (.ref a1), .val (.ref a2), .val (.int (((1 : Int32) + (1 : Int32)) + (1 : Int32)))] [(.int ((((1 : Int32) + (1 : Int32)) + (1 : Int32)) - (1 : Int32))), (.ref b36), (.ref a0), (.int (((1 : Int32) + (1 : Int32)) + (1 : Int32))), (.ref b36)])) _
    refine own_rdI X84 hx hZ e84 V73 (j := ((((1 : Int32) + (1 : Int32)) + (1 : Int32)) - (1 : Int32))) (i := 2) (by decide) (by decide) (g := (mkF m 43 #[.val (.ref a0), .val (.ref a1), .val (.ref a2), .val (.int (((1 : Int32) + (1 : Int32)) + (1 : Int32)))] [(.int ((((1 : Int32) + (1 : Int32)) + (1 : Int32)) - (1 : Int32))), (.ref b36), (.ref a0), (.int (((1 : Int32) + (1 : Int32)) + (1 : Int32))), (.ref b36)])) rfl rfl (hb hby d1_43) _ ?_
    show Steps p.tables e below (T84.setTop (mkF m 44 #[.val (.ref a0), .val (.ref a1), .val (.ref a2), .val (.int (((1 : Int32) + (1 : Int32)) + (1 : Int32)))] [(.int (Int32.ofNat r2)), (.ref a0), (.int (((1 : Int32) + (1 : Int32)) + (1 : Int32))), (.ref b36)])) _
    refine XS.aloadN X84.here hx rfl (hb hby d1_44) rfl rfl ?_
    show Steps p.tables e below (T84.setTop (mkF m 45 #[.val (.ref a0), .val (.ref a1), .val (.ref a2), .val (.int (((1 : Int32) + (1 : Int32)) + (1 : Int32)))] [(.ref a2), (.int (Int32.ofNat r2)), (.ref a0), (.int (((1 : Int32) + (1 : Int32)) + (1 : Int32))), (.ref b36)])) _
    refine XS.iloadN X84.here hx rfl (hb hby d1_45) rfl ?_
    show Steps p.tables e below (T84.setTop (mkF m 46 #[.val (.ref a0), .val (.ref a1), .val (.ref a2), .val (.int (((1 : Int32) + (1 : Int32)) + (1 : Int32)))] [(.int (((1 : Int32) + (1 : Int32)) + (1 : Int32))), (.ref a2), (.int (Int32.ofNat r2)), (.ref a0), (.int (((1 : Int32) + (1 : Int32)) + (1 : Int32))), (.ref b36)])) _
    refine own_rdI X84 hx hZ e84 V75 (j := (((1 : Int32) + (1 : Int32)) + (1 : Int32))) (i := 3) (by decide) (by decide) (g := (mkF m 46 #[.val (.ref a0), .val (.ref a1), .val (.ref a2), .val (.int (((1 : Int32) + (1 : Int32)) + (1 : Int32)))] [(.int (((1 : Int32) + (1 : Int32)) + (1 : Int32))), (.ref a2), (.int (Int32.ofNat r2)), (.ref a0), (.int (((1 : Int32) + (1 : Int32)) + (1 : Int32))), (.ref b36)])) rfl rfl (hb hby d1_46) _ ?_
    show Steps p.tables e below (T84.setTop (mkF m 47 #[.val (.ref a0), .val (.ref a1), .val (.ref a2), .val (.int (((1 : Int32) + (1 : Int32)) + (1 : Int32)))] [(.int (u 3)), (.int (Int32.ofNat r2)), (.ref a0), (.int (((1 : Int32) + (1 : Int32)) + (1 : Int32))), (.ref b36)])) _
    refine st85.trans ?_
    show Steps p.tables e below (T85.setTop (mkF m 50 #[.val (.ref a0), .val (.ref a1), .val (.ref a2), .val (.int (((1 : Int32) + (1 : Int32)) + (1 : Int32)))] [(.int (Int32.ofNat r3)), (.int (((1 : Int32) + (1 : Int32)) + (1 : Int32))), (.ref b36)])) _
    refine st87 _ ?_
    show Steps p.tables e below (T87.setTop (mkF m 51 #[.val (.ref a0), .val (.ref a1), .val (.ref a2), .val (.int (((1 : Int32) + (1 : Int32)) + (1 : Int32)))] [])) _
    refine XS.iinc X87.here hx rfl (hb hby d1_51) rfl (l' := #[.val (.ref a0), .val (.ref a1), .val (.ref a2), .val (.int ((((1 : Int32) + (1 : Int32)) + (1 : Int32)) + (1 : Int32)))]) rfl ?_
    show Steps p.tables e below (T87.setTop (mkF m 54 #[.val (.ref a0), .val (.ref a1), .val (.ref a2), .val (.int ((((1 : Int32) + (1 : Int32)) + (1 : Int32)) + (1 : Int32)))] [])) _
    refine XS.goto X87.here hx rfl (pc0 := 54) (pc' := 24) rfl (hb hby d1_54) (by decide) (by decide) ?_
    show Steps p.tables e below (T87.setTop (mkF m 24 #[.val (.ref a0), .val (.ref a1), .val (.ref a2), .val (.int ((((1 : Int32) + (1 : Int32)) + (1 : Int32)) + (1 : Int32)))] [])) _
    refine XS.iloadN X87.here hx rfl (hb hby d1_24) rfl ?_
    show Steps p.tables e below (T87.setTop (mkF m 25 #[.val (.ref a0), .val (.ref a1), .val (.ref a2), .val (.int ((((1 : Int32) + (1 : Int32)) + (1 : Int32)) + (1 : Int32)))] [(.int ((((1 : Int32) + (1 : Int32)) + (1 : Int32)) + (1 : Int32)))])) _
    refine XS.aloadN X87.here hx rfl (hb hby d1_25) rfl rfl ?_
    show Steps p.tables e below (T87.setTop (mkF m 26 #[.val (.ref a0), .val (.ref a1), .val (.ref a2), .val (.int ((((1 : Int32) + (1 : Int32)) + (1 : Int32)) + (1 : Int32)))] [(.ref a2), (.int ((((1 : Int32) + (1 : Int32)) + (1 : Int32)) + (1 : Int32)))])) _
    refine own_len X87 hx hZ e87 V89 (z := (4 : Int32)) (by decide) (g := (mkF m 26 #[.val (.ref a0), .val (.ref a1), .val (.ref a2), .val (.int ((((1 : Int32) + (1 : Int32)) + (1 : Int32)) + (1 : Int32)))] [(.ref a2), (.int ((((1 : Int32) + (1 : Int32)) + (1 : Int32)) + (1 : Int32)))])) rfl rfl (hb hby d1_26) _ ?_
    show Steps p.tables e below (T87.setTop (mkF m 27 #[.val (.ref a0), .val (.ref a1), .val (.ref a2), .val (.int ((((1 : Int32) + (1 : Int32)) + (1 : Int32)) + (1 : Int32)))] [(.int (4 : Int32)), (.int ((((1 : Int32) + (1 : Int32)) + (1 : Int32)) + (1 : Int32)))])) _
    refine XS.icmpYes X87.here hx rfl (pc0 := 27) (pc' := 57) rfl (hb hby d1_27) rfl (flt (by decide : ¬ (((((1 : Int32) + (1 : Int32)) + (1 : Int32)) + (1 : Int32)) < (4 : Int32)))).2.1 (by decide) (by decide) ?_
    show Steps p.tables e below (T87.setTop (mkF m 57 #[.val (.ref a0), .val (.ref a1), .val (.ref a2), .val (.int ((((1 : Int32) + (1 : Int32)) + (1 : Int32)) + (1 : Int32)))] [])) _
    exact kt
  obtain ⟨fs, hr, hrun, hended, hW, hsame⟩ := X87.leave (v := none) (fun _ => rfl)
  refine ⟨_, _, pre97 _ ?_, hrun, hended, _, _, rfl, ?_, ⟨_, rfl⟩, hW, hsame.mono (by decide) (by decide)⟩
  · exact X87.returnOut hx Bd.returns (hb hby d1_57) hr
  · show Q1 Z a0 a1 a2 u h0 n0 _ T87.heap _
    rw [e87]
    exact ⟨b36, r1, r2, r3, hr1, hr2, hr3, (by omega), (by omega), (by omega), rfl, N94, K95, E88, F91, F92, V89, V87⟩
theorem d5_0 : decode method_2_code 0 = .ok (.iload_n 3, 1) := by decide +kernel
theorem d5_1 : decode method_2_code 1 = .ok (.iload_n 1, 1) := by decide +kernel
theorem d5_2 : decode method_2_code 2 = .ok (.if_icmp .ge 9, 3) := by decide +kernel
theorem d5_5 : decode method_2_code 5 = .ok (.aload_n 0, 1) := by decide +kernel
theorem d5_6 : decode method_2_code 6 = .ok (.iload_n 3, 1) := by decide +kernel
theorem d5_7 : decode method_2_code 7 = .ok (.iaload, 1) := by decide +kernel
theorem d5_8 : decode method_2_code 8 = .ok (.goto 4, 3) := by decide +kernel
theorem d5_11 : decode method_2_code 11 = .ok (.iload_n 2, 1) := by decide +kernel
theorem d5_12 : decode method_2_code 12 = .ok (.ireturn, 1) := by decide +kernel
theorem pn51678678 : plainName "com/example/xcu/xcu/UnitStringExtendPinLaw" = true := by first | (simp [plainName, overriddenIn]; done) | decide +kernel
theorem ef_5_0_0 (m : MethodId) (a0 : Addr) (p2 : Int32) : entryFrame m #[(.ref a0), (.int (0 : Int32)), (.int p2), (.int (0 : Int32))] 4 = mkF m 0 #[.val (.ref a0), .val (.int (0 : Int32)), .val (.int p2), .val (.int (0 : Int32))] [] := by first | (simp [entryFrame, mkF, argsToLocals, Value.category]; done) | rfl
def Q5_0_0 (Z : State) (a0 : Addr) (p2 : Int32) (f : Nat → Int32) (h0 : Heap) (n0 : Nat) (v : Option Value) (h : Heap) (L : List Loc) : Prop := v = some (.int p2) ∧ Fr n0 L ∧ h = h0
set_option maxRecDepth 65536 in
set_option maxHeartbeats 40000000 in
theorem rm5_0_0 (l : Launch) (Z : State) (aq : Array Value) (hw : ∀ d ∈ tables_1, d.before aq Z = true) (ws : List Jvm.Cond) (a0 : Addr) (p2 : Int32) (f : Nat → Int32) (h0 : Heap) (n0 : Nat) (Z0 : n0 ≤ h0.size) (V_a0 : own_Ar Z h0 a0 .int 4 f) :
    MetFree l (⟨"com/example/xcu/xcu/UnitStringExtendPinLaw", "sAt", "([IIII)I"⟩ : MethodName) (head1 (Jvm.Cond.code (⟨"com/example/xcu/xcu/UnitStringExtendPinLaw", "sAt", "([IIII)I"⟩ : MethodName) method_2_code 4 (some .int) :: ws) ({ frames := 0, cells := 0, slots := 0, locals := 0 } : Room)) (fun a U => a = #[(.ref a0), (.int (0 : Int32)), (.int p2), (.int (0 : Int32))] ∧ Z.Warmed39 U.vm ∧ U.heap = h0) (fun _ _ _ _ _ => True) (fun _ U o U' => ∃ v L, o = .returned v ∧ Q5_0_0 Z a0 p2 f h0 n0 v U'.heap L ∧ FrameEnd U o U' L ({ frames := 0, cells := 0, slots := 0, locals := 0 } : Room).cells ({ frames := 0, cells := 0, slots := 0, locals := 0 } : Room).slots) := by
  refine MetFree.of_bodySF (plainFor_of_name pn51678678) hisR ?_
  intro p e s m args below meth c s₁ Bd hml0 hP hK
  obtain ⟨rfl, hZ, hh⟩ := hP
  have hx := Bd.exec
  have hby := Bd.bytes
  have hml : c.maxLocals = 4 := hml0
  have hown : s.vm.findClass "com/example/xcu/xcu/UnitStringExtendPinLaw" = some m.cls := findClass_of_methodNamed Bd.named
  have hnm := (name_of_methodNamed Bd.named Bd.method).1
  have X0 : Stand p l e ({ frames := 0, cells := 0, slots := 0, locals := 0 } : Room) s m #[(.ref a0), (.int (0 : Int32)), (.int p2), (.int (0 : Int32))] below meth c s₁ [] 0 0 := Stand.of_body Bd
  have e0 : s₁.heap = h0 := by rw [← hh, Bd.state]; rfl
  have N0 := Fr.nil n0
  have pre0 : ∀ t, Steps p.tables e below (s₁.setTop (mkF m 0 #[.val (.ref a0), .val (.int (0 : Int32)), .val (.int p2), .val (.int (0 : Int32))] [])) t → Steps p.tables e below (s₁.setTop (entryFrame m #[(.ref a0), (.int (0 : Int32)), (.int p2), (.int (0 : Int32))] 4)) t := fun t k => castTop (ef_5_0_0 m a0 p2) k
  have pre98 : ∀ t, Steps p.tables e below (s₁.setTop (mkF m 12 #[.val (.ref a0), .val (.int (0 : Int32)), .val (.int p2), .val (.int (0 : Int32))] [(.int p2)])) t → Steps p.tables e below (s₁.setTop (entryFrame m #[(.ref a0), (.int (0 : Int32)), (.int p2), (.int (0 : Int32))] 4)) t := fun t kt => by
    refine pre0 _ ?_
    show Steps p.tables e below (s₁.setTop (mkF m 0 #[.val (.ref a0), .val (.int (0 : Int32)), .val (.int p2), .val (.int (0 : Int32))] [])) _
    refine XS.iloadN X0.here hx rfl (hb hby d5_0) rfl ?_
    show Steps p.tables e below (s₁.setTop (mkF m 1 #[.val (.ref a0), .val (.int (0 : Int32)), .val (.int p2), .val (.int (0 : Int32))] [(.int (0 : Int32))])) _
    refine XS.iloadN X0.here hx rfl (hb hby d5_1) rfl ?_
    show Steps p.tables e below (s₁.setTop (mkF m 2 #[.val (.ref a0), .val (.int (0 : Int32)), .val (.int p2), .val (.int (0 : Int32))] [(.int (0 : Int32)), (.int (0 : Int32))])) _
    refine XS.icmpYes X0.here hx rfl (pc0 := 2) (pc' := 11) rfl (hb hby d5_2) rfl (flt (by decide : ¬ ((0 : Int32) < (0 : Int32)))).2.1 (by decide) (by decide) ?_
    show Steps p.tables e below (s₁.setTop (mkF m 11 #[.val (.ref a0), .val (.int (0 : Int32)), .val (.int p2), .val (.int (0 : Int32))] [])) _
    refine XS.iloadN X0.here hx rfl (hb hby d5_11) rfl ?_
    show Steps p.tables e below (s₁.setTop (mkF m 12 #[.val (.ref a0), .val (.int (0 : Int32)), .val (.int p2), .val (.int (0 : Int32))] [(.int p2)])) _
    exact kt
  obtain ⟨fs, hr, hrun, hended, hW, hsame⟩ := X0.leave (v := some (.int p2)) (fun h => by rw [Bd.returns] at h; cases h)
  refine ⟨_, _, pre98 _ ?_, hrun, hended, _, _, rfl, ?_, ⟨_, rfl⟩, hW, hsame.mono (by decide) (by decide)⟩
  · exact retI X0 hx Bd.returns (hb hby d5_12) hr
  · show Q5_0_0 Z a0 p2 f h0 n0 _ s₁.heap _
    rw [e0]
    exact ⟨rfl, N0, rfl⟩
theorem ef_5_1_0 (m : MethodId) (a0 : Addr) (p2 : Int32) : entryFrame m #[(.ref a0), (.int (1 : Int32)), (.int p2), (.int (0 : Int32))] 4 = mkF m 0 #[.val (.ref a0), .val (.int (1 : Int32)), .val (.int p2), .val (.int (0 : Int32))] [] := by first | (simp [entryFrame, mkF, argsToLocals, Value.category]; done) | rfl
def Q5_1_0 (Z : State) (a0 : Addr) (p2 : Int32) (f : Nat → Int32) (h0 : Heap) (n0 : Nat) (v : Option Value) (h : Heap) (L : List Loc) : Prop := v = some (.int (f 0)) ∧ Fr n0 L ∧ h = h0
set_option maxRecDepth 65536 in
set_option maxHeartbeats 40000000 in
theorem rm5_1_0 (l : Launch) (Z : State) (aq : Array Value) (hw : ∀ d ∈ tables_1, d.before aq Z = true) (ws : List Jvm.Cond) (a0 : Addr) (p2 : Int32) (f : Nat → Int32) (h0 : Heap) (n0 : Nat) (Z0 : n0 ≤ h0.size) (V_a0 : own_Ar Z h0 a0 .int 4 f) :
    MetFree l (⟨"com/example/xcu/xcu/UnitStringExtendPinLaw", "sAt", "([IIII)I"⟩ : MethodName) (head1 (Jvm.Cond.code (⟨"com/example/xcu/xcu/UnitStringExtendPinLaw", "sAt", "([IIII)I"⟩ : MethodName) method_2_code 4 (some .int) :: ws) ({ frames := 0, cells := 0, slots := 0, locals := 0 } : Room)) (fun a U => a = #[(.ref a0), (.int (1 : Int32)), (.int p2), (.int (0 : Int32))] ∧ Z.Warmed39 U.vm ∧ U.heap = h0) (fun _ _ _ _ _ => True) (fun _ U o U' => ∃ v L, o = .returned v ∧ Q5_1_0 Z a0 p2 f h0 n0 v U'.heap L ∧ FrameEnd U o U' L ({ frames := 0, cells := 0, slots := 0, locals := 0 } : Room).cells ({ frames := 0, cells := 0, slots := 0, locals := 0 } : Room).slots) := by
  refine MetFree.of_bodySF (plainFor_of_name pn51678678) hisR ?_
  intro p e s m args below meth c s₁ Bd hml0 hP hK
  obtain ⟨rfl, hZ, hh⟩ := hP
  have hx := Bd.exec
  have hby := Bd.bytes
  have hml : c.maxLocals = 4 := hml0
  have hown : s.vm.findClass "com/example/xcu/xcu/UnitStringExtendPinLaw" = some m.cls := findClass_of_methodNamed Bd.named
  have hnm := (name_of_methodNamed Bd.named Bd.method).1
  have X0 : Stand p l e ({ frames := 0, cells := 0, slots := 0, locals := 0 } : Room) s m #[(.ref a0), (.int (1 : Int32)), (.int p2), (.int (0 : Int32))] below meth c s₁ [] 0 0 := Stand.of_body Bd
  have e0 : s₁.heap = h0 := by rw [← hh, Bd.state]; rfl
  have N0 := Fr.nil n0
  have pre0 : ∀ t, Steps p.tables e below (s₁.setTop (mkF m 0 #[.val (.ref a0), .val (.int (1 : Int32)), .val (.int p2), .val (.int (0 : Int32))] [])) t → Steps p.tables e below (s₁.setTop (entryFrame m #[(.ref a0), (.int (1 : Int32)), (.int p2), (.int (0 : Int32))] 4)) t := fun t k => castTop (ef_5_1_0 m a0 p2) k
  have pre99 : ∀ t, Steps p.tables e below (s₁.setTop (mkF m 12 #[.val (.ref a0), .val (.int (1 : Int32)), .val (.int p2), .val (.int (0 : Int32))] [(.int (f 0))])) t → Steps p.tables e below (s₁.setTop (entryFrame m #[(.ref a0), (.int (1 : Int32)), (.int p2), (.int (0 : Int32))] 4)) t := fun t kt => by
    refine pre0 _ ?_
    show Steps p.tables e below (s₁.setTop (mkF m 0 #[.val (.ref a0), .val (.int (1 : Int32)), .val (.int p2), .val (.int (0 : Int32))] [])) _
    refine XS.iloadN X0.here hx rfl (hb hby d5_0) rfl ?_
    show Steps p.tables e below (s₁.setTop (mkF m 1 #[.val (.ref a0), .val (.int (1 : Int32)), .val (.int p2), .val (.int (0 : Int32))] [(.int (0 : Int32))])) _
    refine XS.iloadN X0.here hx rfl (hb hby d5_1) rfl ?_
    show Steps p.tables e below (s₁.setTop (mkF m 2 #[.val (.ref a0), .val (.int (1 : Int32)), .val (.int p2), .val (.int (0 : Int32))] [(.int (1 : Int32)), (.int (0 : Int32))])) _
    refine XS.icmpNo X0.here hx rfl (hb hby d5_2) rfl (tlt (by decide : (0 : Int32) < (1 : Int32))).2.1 ?_
    show Steps p.tables e below (s₁.setTop (mkF m 5 #[.val (.ref a0), .val (.int (1 : Int32)), .val (.int p2), .val (.int (0 : Int32))] [])) _
    refine XS.aloadN X0.here hx rfl (hb hby d5_5) rfl rfl ?_
    show Steps p.tables e below (s₁.setTop (mkF m 6 #[.val (.ref a0), .val (.int (1 : Int32)), .val (.int p2), .val (.int (0 : Int32))] [(.ref a0)])) _
    refine XS.iloadN X0.here hx rfl (hb hby d5_6) rfl ?_
    show Steps p.tables e below (s₁.setTop (mkF m 7 #[.val (.ref a0), .val (.int (1 : Int32)), .val (.int p2), .val (.int (0 : Int32))] [(.int (0 : Int32)), (.ref a0)])) _
    refine own_rdI X0 hx hZ e0 V_a0 (j := (0 : Int32)) (i := 0) (by decide) (by decide) (g := (mkF m 7 #[.val (.ref a0), .val (.int (1 : Int32)), .val (.int p2), .val (.int (0 : Int32))] [(.int (0 : Int32)), (.ref a0)])) rfl rfl (hb hby d5_7) _ ?_
    show Steps p.tables e below (s₁.setTop (mkF m 8 #[.val (.ref a0), .val (.int (1 : Int32)), .val (.int p2), .val (.int (0 : Int32))] [(.int (f 0))])) _
    refine XS.goto X0.here hx rfl (pc0 := 8) (pc' := 12) rfl (hb hby d5_8) (by decide) (by decide) ?_
    show Steps p.tables e below (s₁.setTop (mkF m 12 #[.val (.ref a0), .val (.int (1 : Int32)), .val (.int p2), .val (.int (0 : Int32))] [(.int (f 0))])) _
    exact kt
  obtain ⟨fs, hr, hrun, hended, hW, hsame⟩ := X0.leave (v := some (.int (f 0))) (fun h => by rw [Bd.returns] at h; cases h)
  refine ⟨_, _, pre99 _ ?_, hrun, hended, _, _, rfl, ?_, ⟨_, rfl⟩, hW, hsame.mono (by decide) (by decide)⟩
  · exact retI X0 hx Bd.returns (hb hby d5_12) hr
  · show Q5_1_0 Z a0 p2 f h0 n0 _ s₁.heap _
    rw [e0]
    exact ⟨rfl, N0, rfl⟩
theorem ef_5_1_1 (m : MethodId) (a0 : Addr) (p2 : Int32) : entryFrame m #[(.ref a0), (.int (1 : Int32)), (.int p2), (.int (1 : Int32))] 4 = mkF m 0 #[.val (.ref a0), .val (.int (1 : Int32)), .val (.int p2), .val (.int (1 : Int32))] [] := by first | (simp [entryFrame, mkF, argsToLocals, Value.category]; done) | rfl
def Q5_1_1 (Z : State) (a0 : Addr) (p2 : Int32) (f : Nat → Int32) (h0 : Heap) (n0 : Nat) (v : Option Value) (h : Heap) (L : List Loc) : Prop := v = some (.int p2) ∧ Fr n0 L ∧ h = h0
set_option maxRecDepth 65536 in
set_option maxHeartbeats 40000000 in
theorem rm5_1_1 (l : Launch) (Z : State) (aq : Array Value) (hw : ∀ d ∈ tables_1, d.before aq Z = true) (ws : List Jvm.Cond) (a0 : Addr) (p2 : Int32) (f : Nat → Int32) (h0 : Heap) (n0 : Nat) (Z0 : n0 ≤ h0.size) (V_a0 : own_Ar Z h0 a0 .int 4 f) :
    MetFree l (⟨"com/example/xcu/xcu/UnitStringExtendPinLaw", "sAt", "([IIII)I"⟩ : MethodName) (head1 (Jvm.Cond.code (⟨"com/example/xcu/xcu/UnitStringExtendPinLaw", "sAt", "([IIII)I"⟩ : MethodName) method_2_code 4 (some .int) :: ws) ({ frames := 0, cells := 0, slots := 0, locals := 0 } : Room)) (fun a U => a = #[(.ref a0), (.int (1 : Int32)), (.int p2), (.int (1 : Int32))] ∧ Z.Warmed39 U.vm ∧ U.heap = h0) (fun _ _ _ _ _ => True) (fun _ U o U' => ∃ v L, o = .returned v ∧ Q5_1_1 Z a0 p2 f h0 n0 v U'.heap L ∧ FrameEnd U o U' L ({ frames := 0, cells := 0, slots := 0, locals := 0 } : Room).cells ({ frames := 0, cells := 0, slots := 0, locals := 0 } : Room).slots) := by
  refine MetFree.of_bodySF (plainFor_of_name pn51678678) hisR ?_
  intro p e s m args below meth c s₁ Bd hml0 hP hK
  obtain ⟨rfl, hZ, hh⟩ := hP
  have hx := Bd.exec
  have hby := Bd.bytes
  have hml : c.maxLocals = 4 := hml0
  have hown : s.vm.findClass "com/example/xcu/xcu/UnitStringExtendPinLaw" = some m.cls := findClass_of_methodNamed Bd.named
  have hnm := (name_of_methodNamed Bd.named Bd.method).1
  have X0 : Stand p l e ({ frames := 0, cells := 0, slots := 0, locals := 0 } : Room) s m #[(.ref a0), (.int (1 : Int32)), (.int p2), (.int (1 : Int32))] below meth c s₁ [] 0 0 := Stand.of_body Bd
  have e0 : s₁.heap = h0 := by rw [← hh, Bd.state]; rfl
  have N0 := Fr.nil n0
  have pre0 : ∀ t, Steps p.tables e below (s₁.setTop (mkF m 0 #[.val (.ref a0), .val (.int (1 : Int32)), .val (.int p2), .val (.int (1 : Int32))] [])) t → Steps p.tables e below (s₁.setTop (entryFrame m #[(.ref a0), (.int (1 : Int32)), (.int p2), (.int (1 : Int32))] 4)) t := fun t k => castTop (ef_5_1_1 m a0 p2) k
  have pre100 : ∀ t, Steps p.tables e below (s₁.setTop (mkF m 12 #[.val (.ref a0), .val (.int (1 : Int32)), .val (.int p2), .val (.int (1 : Int32))] [(.int p2)])) t → Steps p.tables e below (s₁.setTop (entryFrame m #[(.ref a0), (.int (1 : Int32)), (.int p2), (.int (1 : Int32))] 4)) t := fun t kt => by
    refine pre0 _ ?_
    show Steps p.tables e below (s₁.setTop (mkF m 0 #[.val (.ref a0), .val (.int (1 : Int32)), .val (.int p2), .val (.int (1 : Int32))] [])) _
    refine XS.iloadN X0.here hx rfl (hb hby d5_0) rfl ?_
    show Steps p.tables e below (s₁.setTop (mkF m 1 #[.val (.ref a0), .val (.int (1 : Int32)), .val (.int p2), .val (.int (1 : Int32))] [(.int (1 : Int32))])) _
    refine XS.iloadN X0.here hx rfl (hb hby d5_1) rfl ?_
    show Steps p.tables e below (s₁.setTop (mkF m 2 #[.val (.ref a0), .val (.int (1 : Int32)), .val (.int p2), .val (.int (1 : Int32))] [(.int (1 : Int32)), (.int (1 : Int32))])) _
    refine XS.icmpYes X0.here hx rfl (pc0 := 2) (pc' := 11) rfl (hb hby d5_2) rfl (flt (by decide : ¬ ((1 : Int32) < (1 : Int32)))).2.1 (by decide) (by decide) ?_
    show Steps p.tables e below (s₁.setTop (mkF m 11 #[.val (.ref a0), .val (.int (1 : Int32)), .val (.int p2), .val (.int (1 : Int32))] [])) _
    refine XS.iloadN X0.here hx rfl (hb hby d5_11) rfl ?_
    show Steps p.tables e below (s₁.setTop (mkF m 12 #[.val (.ref a0), .val (.int (1 : Int32)), .val (.int p2), .val (.int (1 : Int32))] [(.int p2)])) _
    exact kt
  obtain ⟨fs, hr, hrun, hended, hW, hsame⟩ := X0.leave (v := some (.int p2)) (fun h => by rw [Bd.returns] at h; cases h)
  refine ⟨_, _, pre100 _ ?_, hrun, hended, _, _, rfl, ?_, ⟨_, rfl⟩, hW, hsame.mono (by decide) (by decide)⟩
  · exact retI X0 hx Bd.returns (hb hby d5_12) hr
  · show Q5_1_1 Z a0 p2 f h0 n0 _ s₁.heap _
    rw [e0]
    exact ⟨rfl, N0, rfl⟩
theorem ef_5_2_0 (m : MethodId) (a0 : Addr) (p2 : Int32) : entryFrame m #[(.ref a0), (.int (2 : Int32)), (.int p2), (.int (0 : Int32))] 4 = mkF m 0 #[.val (.ref a0), .val (.int (2 : Int32)), .val (.int p2), .val (.int (0 : Int32))] [] := by first | (simp [entryFrame, mkF, argsToLocals, Value.category]; done) | rfl
def Q5_2_0 (Z : State) (a0 : Addr) (p2 : Int32) (f : Nat → Int32) (h0 : Heap) (n0 : Nat) (v : Option Value) (h : Heap) (L : List Loc) : Prop := v = some (.int (f 0)) ∧ Fr n0 L ∧ h = h0
set_option maxRecDepth 65536 in
set_option maxHeartbeats 40000000 in
theorem rm5_2_0 (l : Launch) (Z : State) (aq : Array Value) (hw : ∀ d ∈ tables_1, d.before aq Z = true) (ws : List Jvm.Cond) (a0 : Addr) (p2 : Int32) (f : Nat → Int32) (h0 : Heap) (n0 : Nat) (Z0 : n0 ≤ h0.size) (V_a0 : own_Ar Z h0 a0 .int 4 f) :
    MetFree l (⟨"com/example/xcu/xcu/UnitStringExtendPinLaw", "sAt", "([IIII)I"⟩ : MethodName) (head1 (Jvm.Cond.code (⟨"com/example/xcu/xcu/UnitStringExtendPinLaw", "sAt", "([IIII)I"⟩ : MethodName) method_2_code 4 (some .int) :: ws) ({ frames := 0, cells := 0, slots := 0, locals := 0 } : Room)) (fun a U => a = #[(.ref a0), (.int (2 : Int32)), (.int p2), (.int (0 : Int32))] ∧ Z.Warmed39 U.vm ∧ U.heap = h0) (fun _ _ _ _ _ => True) (fun _ U o U' => ∃ v L, o = .returned v ∧ Q5_2_0 Z a0 p2 f h0 n0 v U'.heap L ∧ FrameEnd U o U' L ({ frames := 0, cells := 0, slots := 0, locals := 0 } : Room).cells ({ frames := 0, cells := 0, slots := 0, locals := 0 } : Room).slots) := by
  refine MetFree.of_bodySF (plainFor_of_name pn51678678) hisR ?_
  intro p e s m args below meth c s₁ Bd hml0 hP hK
  obtain ⟨rfl, hZ, hh⟩ := hP
  have hx := Bd.exec
  have hby := Bd.bytes
  have hml : c.maxLocals = 4 := hml0
  have hown : s.vm.findClass "com/example/xcu/xcu/UnitStringExtendPinLaw" = some m.cls := findClass_of_methodNamed Bd.named
  have hnm := (name_of_methodNamed Bd.named Bd.method).1
  have X0 : Stand p l e ({ frames := 0, cells := 0, slots := 0, locals := 0 } : Room) s m #[(.ref a0), (.int (2 : Int32)), (.int p2), (.int (0 : Int32))] below meth c s₁ [] 0 0 := Stand.of_body Bd
  have e0 : s₁.heap = h0 := by rw [← hh, Bd.state]; rfl
  have N0 := Fr.nil n0
  have pre0 : ∀ t, Steps p.tables e below (s₁.setTop (mkF m 0 #[.val (.ref a0), .val (.int (2 : Int32)), .val (.int p2), .val (.int (0 : Int32))] [])) t → Steps p.tables e below (s₁.setTop (entryFrame m #[(.ref a0), (.int (2 : Int32)), (.int p2), (.int (0 : Int32))] 4)) t := fun t k => castTop (ef_5_2_0 m a0 p2) k
  have pre101 : ∀ t, Steps p.tables e below (s₁.setTop (mkF m 12 #[.val (.ref a0), .val (.int (2 : Int32)), .val (.int p2), .val (.int (0 : Int32))] [(.int (f 0))])) t → Steps p.tables e below (s₁.setTop (entryFrame m #[(.ref a0), (.int (2 : Int32)), (.int p2), (.int (0 : Int32))] 4)) t := fun t kt => by
    refine pre0 _ ?_
    show Steps p.tables e below (s₁.setTop (mkF m 0 #[.val (.ref a0), .val (.int (2 : Int32)), .val (.int p2), .val (.int (0 : Int32))] [])) _
    refine XS.iloadN X0.here hx rfl (hb hby d5_0) rfl ?_
    show Steps p.tables e below (s₁.setTop (mkF m 1 #[.val (.ref a0), .val (.int (2 : Int32)), .val (.int p2), .val (.int (0 : Int32))] [(.int (0 : Int32))])) _
    refine XS.iloadN X0.here hx rfl (hb hby d5_1) rfl ?_
    show Steps p.tables e below (s₁.setTop (mkF m 2 #[.val (.ref a0), .val (.int (2 : Int32)), .val (.int p2), .val (.int (0 : Int32))] [(.int (2 : Int32)), (.int (0 : Int32))])) _
    refine XS.icmpNo X0.here hx rfl (hb hby d5_2) rfl (tlt (by decide : (0 : Int32) < (2 : Int32))).2.1 ?_
    show Steps p.tables e below (s₁.setTop (mkF m 5 #[.val (.ref a0), .val (.int (2 : Int32)), .val (.int p2), .val (.int (0 : Int32))] [])) _
    refine XS.aloadN X0.here hx rfl (hb hby d5_5) rfl rfl ?_
    show Steps p.tables e below (s₁.setTop (mkF m 6 #[.val (.ref a0), .val (.int (2 : Int32)), .val (.int p2), .val (.int (0 : Int32))] [(.ref a0)])) _
    refine XS.iloadN X0.here hx rfl (hb hby d5_6) rfl ?_
    show Steps p.tables e below (s₁.setTop (mkF m 7 #[.val (.ref a0), .val (.int (2 : Int32)), .val (.int p2), .val (.int (0 : Int32))] [(.int (0 : Int32)), (.ref a0)])) _
    refine own_rdI X0 hx hZ e0 V_a0 (j := (0 : Int32)) (i := 0) (by decide) (by decide) (g := (mkF m 7 #[.val (.ref a0), .val (.int (2 : Int32)), .val (.int p2), .val (.int (0 : Int32))] [(.int (0 : Int32)), (.ref a0)])) rfl rfl (hb hby d5_7) _ ?_
    show Steps p.tables e below (s₁.setTop (mkF m 8 #[.val (.ref a0), .val (.int (2 : Int32)), .val (.int p2), .val (.int (0 : Int32))] [(.int (f 0))])) _
    refine XS.goto X0.here hx rfl (pc0 := 8) (pc' := 12) rfl (hb hby d5_8) (by decide) (by decide) ?_
    show Steps p.tables e below (s₁.setTop (mkF m 12 #[.val (.ref a0), .val (.int (2 : Int32)), .val (.int p2), .val (.int (0 : Int32))] [(.int (f 0))])) _
    exact kt
  obtain ⟨fs, hr, hrun, hended, hW, hsame⟩ := X0.leave (v := some (.int (f 0))) (fun h => by rw [Bd.returns] at h; cases h)
  refine ⟨_, _, pre101 _ ?_, hrun, hended, _, _, rfl, ?_, ⟨_, rfl⟩, hW, hsame.mono (by decide) (by decide)⟩
  · exact retI X0 hx Bd.returns (hb hby d5_12) hr
  · show Q5_2_0 Z a0 p2 f h0 n0 _ s₁.heap _
    rw [e0]
    exact ⟨rfl, N0, rfl⟩
theorem ef_5_2_1 (m : MethodId) (a0 : Addr) (p2 : Int32) : entryFrame m #[(.ref a0), (.int (2 : Int32)), (.int p2), (.int (1 : Int32))] 4 = mkF m 0 #[.val (.ref a0), .val (.int (2 : Int32)), .val (.int p2), .val (.int (1 : Int32))] [] := by first | (simp [entryFrame, mkF, argsToLocals, Value.category]; done) | rfl
def Q5_2_1 (Z : State) (a0 : Addr) (p2 : Int32) (f : Nat → Int32) (h0 : Heap) (n0 : Nat) (v : Option Value) (h : Heap) (L : List Loc) : Prop := v = some (.int (f 1)) ∧ Fr n0 L ∧ h = h0
set_option maxRecDepth 65536 in
set_option maxHeartbeats 40000000 in
theorem rm5_2_1 (l : Launch) (Z : State) (aq : Array Value) (hw : ∀ d ∈ tables_1, d.before aq Z = true) (ws : List Jvm.Cond) (a0 : Addr) (p2 : Int32) (f : Nat → Int32) (h0 : Heap) (n0 : Nat) (Z0 : n0 ≤ h0.size) (V_a0 : own_Ar Z h0 a0 .int 4 f) :
    MetFree l (⟨"com/example/xcu/xcu/UnitStringExtendPinLaw", "sAt", "([IIII)I"⟩ : MethodName) (head1 (Jvm.Cond.code (⟨"com/example/xcu/xcu/UnitStringExtendPinLaw", "sAt", "([IIII)I"⟩ : MethodName) method_2_code 4 (some .int) :: ws) ({ frames := 0, cells := 0, slots := 0, locals := 0 } : Room)) (fun a U => a = #[(.ref a0), (.int (2 : Int32)), (.int p2), (.int (1 : Int32))] ∧ Z.Warmed39 U.vm ∧ U.heap = h0) (fun _ _ _ _ _ => True) (fun _ U o U' => ∃ v L, o = .returned v ∧ Q5_2_1 Z a0 p2 f h0 n0 v U'.heap L ∧ FrameEnd U o U' L ({ frames := 0, cells := 0, slots := 0, locals := 0 } : Room).cells ({ frames := 0, cells := 0, slots := 0, locals := 0 } : Room).slots) := by
  refine MetFree.of_bodySF (plainFor_of_name pn51678678) hisR ?_
  intro p e s m args below meth c s₁ Bd hml0 hP hK
  obtain ⟨rfl, hZ, hh⟩ := hP
  have hx := Bd.exec
  have hby := Bd.bytes
  have hml : c.maxLocals = 4 := hml0
  have hown : s.vm.findClass "com/example/xcu/xcu/UnitStringExtendPinLaw" = some m.cls := findClass_of_methodNamed Bd.named
  have hnm := (name_of_methodNamed Bd.named Bd.method).1
  have X0 : Stand p l e ({ frames := 0, cells := 0, slots := 0, locals := 0 } : Room) s m #[(.ref a0), (.int (2 : Int32)), (.int p2), (.int (1 : Int32))] below meth c s₁ [] 0 0 := Stand.of_body Bd
  have e0 : s₁.heap = h0 := by rw [← hh, Bd.state]; rfl
  have N0 := Fr.nil n0
  have pre0 : ∀ t, Steps p.tables e below (s₁.setTop (mkF m 0 #[.val (.ref a0), .val (.int (2 : Int32)), .val (.int p2), .val (.int (1 : Int32))] [])) t → Steps p.tables e below (s₁.setTop (entryFrame m #[(.ref a0), (.int (2 : Int32)), (.int p2), (.int (1 : Int32))] 4)) t := fun t k => castTop (ef_5_2_1 m a0 p2) k
  have pre102 : ∀ t, Steps p.tables e below (s₁.setTop (mkF m 12 #[.val (.ref a0), .val (.int (2 : Int32)), .val (.int p2), .val (.int (1 : Int32))] [(.int (f 1))])) t → Steps p.tables e below (s₁.setTop (entryFrame m #[(.ref a0), (.int (2 : Int32)), (.int p2), (.int (1 : Int32))] 4)) t := fun t kt => by
    refine pre0 _ ?_
    show Steps p.tables e below (s₁.setTop (mkF m 0 #[.val (.ref a0), .val (.int (2 : Int32)), .val (.int p2), .val (.int (1 : Int32))] [])) _
    refine XS.iloadN X0.here hx rfl (hb hby d5_0) rfl ?_
    show Steps p.tables e below (s₁.setTop (mkF m 1 #[.val (.ref a0), .val (.int (2 : Int32)), .val (.int p2), .val (.int (1 : Int32))] [(.int (1 : Int32))])) _
    refine XS.iloadN X0.here hx rfl (hb hby d5_1) rfl ?_
    show Steps p.tables e below (s₁.setTop (mkF m 2 #[.val (.ref a0), .val (.int (2 : Int32)), .val (.int p2), .val (.int (1 : Int32))] [(.int (2 : Int32)), (.int (1 : Int32))])) _
    refine XS.icmpNo X0.here hx rfl (hb hby d5_2) rfl (tlt (by decide : (1 : Int32) < (2 : Int32))).2.1 ?_
    show Steps p.tables e below (s₁.setTop (mkF m 5 #[.val (.ref a0), .val (.int (2 : Int32)), .val (.int p2), .val (.int (1 : Int32))] [])) _
    refine XS.aloadN X0.here hx rfl (hb hby d5_5) rfl rfl ?_
    show Steps p.tables e below (s₁.setTop (mkF m 6 #[.val (.ref a0), .val (.int (2 : Int32)), .val (.int p2), .val (.int (1 : Int32))] [(.ref a0)])) _
    refine XS.iloadN X0.here hx rfl (hb hby d5_6) rfl ?_
    show Steps p.tables e below (s₁.setTop (mkF m 7 #[.val (.ref a0), .val (.int (2 : Int32)), .val (.int p2), .val (.int (1 : Int32))] [(.int (1 : Int32)), (.ref a0)])) _
    refine own_rdI X0 hx hZ e0 V_a0 (j := (1 : Int32)) (i := 1) (by decide) (by decide) (g := (mkF m 7 #[.val (.ref a0), .val (.int (2 : Int32)), .val (.int p2), .val (.int (1 : Int32))] [(.int (1 : Int32)), (.ref a0)])) rfl rfl (hb hby d5_7) _ ?_
    show Steps p.tables e below (s₁.setTop (mkF m 8 #[.val (.ref a0), .val (.int (2 : Int32)), .val (.int p2), .val (.int (1 : Int32))] [(.int (f 1))])) _
    refine XS.goto X0.here hx rfl (pc0 := 8) (pc' := 12) rfl (hb hby d5_8) (by decide) (by decide) ?_
    show Steps p.tables e below (s₁.setTop (mkF m 12 #[.val (.ref a0), .val (.int (2 : Int32)), .val (.int p2), .val (.int (1 : Int32))] [(.int (f 1))])) _
    exact kt
  obtain ⟨fs, hr, hrun, hended, hW, hsame⟩ := X0.leave (v := some (.int (f 1))) (fun h => by rw [Bd.returns] at h; cases h)
  refine ⟨_, _, pre102 _ ?_, hrun, hended, _, _, rfl, ?_, ⟨_, rfl⟩, hW, hsame.mono (by decide) (by decide)⟩
  · exact retI X0 hx Bd.returns (hb hby d5_12) hr
  · show Q5_2_1 Z a0 p2 f h0 n0 _ s₁.heap _
    rw [e0]
    exact ⟨rfl, N0, rfl⟩
theorem ef_5_2_2 (m : MethodId) (a0 : Addr) (p2 : Int32) : entryFrame m #[(.ref a0), (.int (2 : Int32)), (.int p2), (.int (2 : Int32))] 4 = mkF m 0 #[.val (.ref a0), .val (.int (2 : Int32)), .val (.int p2), .val (.int (2 : Int32))] [] := by first | (simp [entryFrame, mkF, argsToLocals, Value.category]; done) | rfl
def Q5_2_2 (Z : State) (a0 : Addr) (p2 : Int32) (f : Nat → Int32) (h0 : Heap) (n0 : Nat) (v : Option Value) (h : Heap) (L : List Loc) : Prop := v = some (.int p2) ∧ Fr n0 L ∧ h = h0
set_option maxRecDepth 65536 in
set_option maxHeartbeats 40000000 in
theorem rm5_2_2 (l : Launch) (Z : State) (aq : Array Value) (hw : ∀ d ∈ tables_1, d.before aq Z = true) (ws : List Jvm.Cond) (a0 : Addr) (p2 : Int32) (f : Nat → Int32) (h0 : Heap) (n0 : Nat) (Z0 : n0 ≤ h0.size) (V_a0 : own_Ar Z h0 a0 .int 4 f) :
    MetFree l (⟨"com/example/xcu/xcu/UnitStringExtendPinLaw", "sAt", "([IIII)I"⟩ : MethodName) (head1 (Jvm.Cond.code (⟨"com/example/xcu/xcu/UnitStringExtendPinLaw", "sAt", "([IIII)I"⟩ : MethodName) method_2_code 4 (some .int) :: ws) ({ frames := 0, cells := 0, slots := 0, locals := 0 } : Room)) (fun a U => a = #[(.ref a0), (.int (2 : Int32)), (.int p2), (.int (2 : Int32))] ∧ Z.Warmed39 U.vm ∧ U.heap = h0) (fun _ _ _ _ _ => True) (fun _ U o U' => ∃ v L, o = .returned v ∧ Q5_2_2 Z a0 p2 f h0 n0 v U'.heap L ∧ FrameEnd U o U' L ({ frames := 0, cells := 0, slots := 0, locals := 0 } : Room).cells ({ frames := 0, cells := 0, slots := 0, locals := 0 } : Room).slots) := by
  refine MetFree.of_bodySF (plainFor_of_name pn51678678) hisR ?_
  intro p e s m args below meth c s₁ Bd hml0 hP hK
  obtain ⟨rfl, hZ, hh⟩ := hP
  have hx := Bd.exec
  have hby := Bd.bytes
  have hml : c.maxLocals = 4 := hml0
  have hown : s.vm.findClass "com/example/xcu/xcu/UnitStringExtendPinLaw" = some m.cls := findClass_of_methodNamed Bd.named
  have hnm := (name_of_methodNamed Bd.named Bd.method).1
  have X0 : Stand p l e ({ frames := 0, cells := 0, slots := 0, locals := 0 } : Room) s m #[(.ref a0), (.int (2 : Int32)), (.int p2), (.int (2 : Int32))] below meth c s₁ [] 0 0 := Stand.of_body Bd
  have e0 : s₁.heap = h0 := by rw [← hh, Bd.state]; rfl
  have N0 := Fr.nil n0
  have pre0 : ∀ t, Steps p.tables e below (s₁.setTop (mkF m 0 #[.val (.ref a0), .val (.int (2 : Int32)), .val (.int p2), .val (.int (2 : Int32))] [])) t → Steps p.tables e below (s₁.setTop (entryFrame m #[(.ref a0), (.int (2 : Int32)), (.int p2), (.int (2 : Int32))] 4)) t := fun t k => castTop (ef_5_2_2 m a0 p2) k
  have pre103 : ∀ t, Steps p.tables e below (s₁.setTop (mkF m 12 #[.val (.ref a0), .val (.int (2 : Int32)), .val (.int p2), .val (.int (2 : Int32))] [(.int p2)])) t → Steps p.tables e below (s₁.setTop (entryFrame m #[(.ref a0), (.int (2 : Int32)), (.int p2), (.int (2 : Int32))] 4)) t := fun t kt => by
    refine pre0 _ ?_
    show Steps p.tables e below (s₁.setTop (mkF m 0 #[.val (.ref a0), .val (.int (2 : Int32)), .val (.int p2), .val (.int (2 : Int32))] [])) _
    refine XS.iloadN X0.here hx rfl (hb hby d5_0) rfl ?_
    show Steps p.tables e below (s₁.setTop (mkF m 1 #[.val (.ref a0), .val (.int (2 : Int32)), .val (.int p2), .val (.int (2 : Int32))] [(.int (2 : Int32))])) _
    refine XS.iloadN X0.here hx rfl (hb hby d5_1) rfl ?_
    show Steps p.tables e below (s₁.setTop (mkF m 2 #[.val (.ref a0), .val (.int (2 : Int32)), .val (.int p2), .val (.int (2 : Int32))] [(.int (2 : Int32)), (.int (2 : Int32))])) _
    refine XS.icmpYes X0.here hx rfl (pc0 := 2) (pc' := 11) rfl (hb hby d5_2) rfl (flt (by decide : ¬ ((2 : Int32) < (2 : Int32)))).2.1 (by decide) (by decide) ?_
    show Steps p.tables e below (s₁.setTop (mkF m 11 #[.val (.ref a0), .val (.int (2 : Int32)), .val (.int p2), .val (.int (2 : Int32))] [])) _
    refine XS.iloadN X0.here hx rfl (hb hby d5_11) rfl ?_
    show Steps p.tables e below (s₁.setTop (mkF m 12 #[.val (.ref a0), .val (.int (2 : Int32)), .val (.int p2), .val (.int (2 : Int32))] [(.int p2)])) _
    exact kt
  obtain ⟨fs, hr, hrun, hended, hW, hsame⟩ := X0.leave (v := some (.int p2)) (fun h => by rw [Bd.returns] at h; cases h)
  refine ⟨_, _, pre103 _ ?_, hrun, hended, _, _, rfl, ?_, ⟨_, rfl⟩, hW, hsame.mono (by decide) (by decide)⟩
  · exact retI X0 hx Bd.returns (hb hby d5_12) hr
  · show Q5_2_2 Z a0 p2 f h0 n0 _ s₁.heap _
    rw [e0]
    exact ⟨rfl, N0, rfl⟩
theorem ef_5_3_0 (m : MethodId) (a0 : Addr) (p2 : Int32) : entryFrame m #[(.ref a0), (.int (3 : Int32)), (.int p2), (.int (0 : Int32))] 4 = mkF m 0 #[.val (.ref a0), .val (.int (3 : Int32)), .val (.int p2), .val (.int (0 : Int32))] [] := by first | (simp [entryFrame, mkF, argsToLocals, Value.category]; done) | rfl
def Q5_3_0 (Z : State) (a0 : Addr) (p2 : Int32) (f : Nat → Int32) (h0 : Heap) (n0 : Nat) (v : Option Value) (h : Heap) (L : List Loc) : Prop := v = some (.int (f 0)) ∧ Fr n0 L ∧ h = h0
set_option maxRecDepth 65536 in
set_option maxHeartbeats 40000000 in
theorem rm5_3_0 (l : Launch) (Z : State) (aq : Array Value) (hw : ∀ d ∈ tables_1, d.before aq Z = true) (ws : List Jvm.Cond) (a0 : Addr) (p2 : Int32) (f : Nat → Int32) (h0 : Heap) (n0 : Nat) (Z0 : n0 ≤ h0.size) (V_a0 : own_Ar Z h0 a0 .int 4 f) :
    MetFree l (⟨"com/example/xcu/xcu/UnitStringExtendPinLaw", "sAt", "([IIII)I"⟩ : MethodName) (head1 (Jvm.Cond.code (⟨"com/example/xcu/xcu/UnitStringExtendPinLaw", "sAt", "([IIII)I"⟩ : MethodName) method_2_code 4 (some .int) :: ws) ({ frames := 0, cells := 0, slots := 0, locals := 0 } : Room)) (fun a U => a = #[(.ref a0), (.int (3 : Int32)), (.int p2), (.int (0 : Int32))] ∧ Z.Warmed39 U.vm ∧ U.heap = h0) (fun _ _ _ _ _ => True) (fun _ U o U' => ∃ v L, o = .returned v ∧ Q5_3_0 Z a0 p2 f h0 n0 v U'.heap L ∧ FrameEnd U o U' L ({ frames := 0, cells := 0, slots := 0, locals := 0 } : Room).cells ({ frames := 0, cells := 0, slots := 0, locals := 0 } : Room).slots) := by
  refine MetFree.of_bodySF (plainFor_of_name pn51678678) hisR ?_
  intro p e s m args below meth c s₁ Bd hml0 hP hK
  obtain ⟨rfl, hZ, hh⟩ := hP
  have hx := Bd.exec
  have hby := Bd.bytes
  have hml : c.maxLocals = 4 := hml0
  have hown : s.vm.findClass "com/example/xcu/xcu/UnitStringExtendPinLaw" = some m.cls := findClass_of_methodNamed Bd.named
  have hnm := (name_of_methodNamed Bd.named Bd.method).1
  have X0 : Stand p l e ({ frames := 0, cells := 0, slots := 0, locals := 0 } : Room) s m #[(.ref a0), (.int (3 : Int32)), (.int p2), (.int (0 : Int32))] below meth c s₁ [] 0 0 := Stand.of_body Bd
  have e0 : s₁.heap = h0 := by rw [← hh, Bd.state]; rfl
  have N0 := Fr.nil n0
  have pre0 : ∀ t, Steps p.tables e below (s₁.setTop (mkF m 0 #[.val (.ref a0), .val (.int (3 : Int32)), .val (.int p2), .val (.int (0 : Int32))] [])) t → Steps p.tables e below (s₁.setTop (entryFrame m #[(.ref a0), (.int (3 : Int32)), (.int p2), (.int (0 : Int32))] 4)) t := fun t k => castTop (ef_5_3_0 m a0 p2) k
  have pre104 : ∀ t, Steps p.tables e below (s₁.setTop (mkF m 12 #[.val (.ref a0), .val (.int (3 : Int32)), .val (.int p2), .val (.int (0 : Int32))] [(.int (f 0))])) t → Steps p.tables e below (s₁.setTop (entryFrame m #[(.ref a0), (.int (3 : Int32)), (.int p2), (.int (0 : Int32))] 4)) t := fun t kt => by
    refine pre0 _ ?_
    show Steps p.tables e below (s₁.setTop (mkF m 0 #[.val (.ref a0), .val (.int (3 : Int32)), .val (.int p2), .val (.int (0 : Int32))] [])) _
    refine XS.iloadN X0.here hx rfl (hb hby d5_0) rfl ?_
    show Steps p.tables e below (s₁.setTop (mkF m 1 #[.val (.ref a0), .val (.int (3 : Int32)), .val (.int p2), .val (.int (0 : Int32))] [(.int (0 : Int32))])) _
    refine XS.iloadN X0.here hx rfl (hb hby d5_1) rfl ?_
    show Steps p.tables e below (s₁.setTop (mkF m 2 #[.val (.ref a0), .val (.int (3 : Int32)), .val (.int p2), .val (.int (0 : Int32))] [(.int (3 : Int32)), (.int (0 : Int32))])) _
    refine XS.icmpNo X0.here hx rfl (hb hby d5_2) rfl (tlt (by decide : (0 : Int32) < (3 : Int32))).2.1 ?_
    show Steps p.tables e below (s₁.setTop (mkF m 5 #[.val (.ref a0), .val (.int (3 : Int32)), .val (.int p2), .val (.int (0 : Int32))] [])) _
    refine XS.aloadN X0.here hx rfl (hb hby d5_5) rfl rfl ?_
    show Steps p.tables e below (s₁.setTop (mkF m 6 #[.val (.ref a0), .val (.int (3 : Int32)), .val (.int p2), .val (.int (0 : Int32))] [(.ref a0)])) _
    refine XS.iloadN X0.here hx rfl (hb hby d5_6) rfl ?_
    show Steps p.tables e below (s₁.setTop (mkF m 7 #[.val (.ref a0), .val (.int (3 : Int32)), .val (.int p2), .val (.int (0 : Int32))] [(.int (0 : Int32)), (.ref a0)])) _
    refine own_rdI X0 hx hZ e0 V_a0 (j := (0 : Int32)) (i := 0) (by decide) (by decide) (g := (mkF m 7 #[.val (.ref a0), .val (.int (3 : Int32)), .val (.int p2), .val (.int (0 : Int32))] [(.int (0 : Int32)), (.ref a0)])) rfl rfl (hb hby d5_7) _ ?_
    show Steps p.tables e below (s₁.setTop (mkF m 8 #[.val (.ref a0), .val (.int (3 : Int32)), .val (.int p2), .val (.int (0 : Int32))] [(.int (f 0))])) _
    refine XS.goto X0.here hx rfl (pc0 := 8) (pc' := 12) rfl (hb hby d5_8) (by decide) (by decide) ?_
    show Steps p.tables e below (s₁.setTop (mkF m 12 #[.val (.ref a0), .val (.int (3 : Int32)), .val (.int p2), .val (.int (0 : Int32))] [(.int (f 0))])) _
    exact kt
  obtain ⟨fs, hr, hrun, hended, hW, hsame⟩ := X0.leave (v := some (.int (f 0))) (fun h => by rw [Bd.returns] at h; cases h)
  refine ⟨_, _, pre104 _ ?_, hrun, hended, _, _, rfl, ?_, ⟨_, rfl⟩, hW, hsame.mono (by decide) (by decide)⟩
  · exact retI X0 hx Bd.returns (hb hby d5_12) hr
  · show Q5_3_0 Z a0 p2 f h0 n0 _ s₁.heap _
    rw [e0]
    exact ⟨rfl, N0, rfl⟩
theorem ef_5_3_1 (m : MethodId) (a0 : Addr) (p2 : Int32) : entryFrame m #[(.ref a0), (.int (3 : Int32)), (.int p2), (.int (1 : Int32))] 4 = mkF m 0 #[.val (.ref a0), .val (.int (3 : Int32)), .val (.int p2), .val (.int (1 : Int32))] [] := by first | (simp [entryFrame, mkF, argsToLocals, Value.category]; done) | rfl
def Q5_3_1 (Z : State) (a0 : Addr) (p2 : Int32) (f : Nat → Int32) (h0 : Heap) (n0 : Nat) (v : Option Value) (h : Heap) (L : List Loc) : Prop := v = some (.int (f 1)) ∧ Fr n0 L ∧ h = h0
set_option maxRecDepth 65536 in
set_option maxHeartbeats 40000000 in
theorem rm5_3_1 (l : Launch) (Z : State) (aq : Array Value) (hw : ∀ d ∈ tables_1, d.before aq Z = true) (ws : List Jvm.Cond) (a0 : Addr) (p2 : Int32) (f : Nat → Int32) (h0 : Heap) (n0 : Nat) (Z0 : n0 ≤ h0.size) (V_a0 : own_Ar Z h0 a0 .int 4 f) :
    MetFree l (⟨"com/example/xcu/xcu/UnitStringExtendPinLaw", "sAt", "([IIII)I"⟩ : MethodName) (head1 (Jvm.Cond.code (⟨"com/example/xcu/xcu/UnitStringExtendPinLaw", "sAt", "([IIII)I"⟩ : MethodName) method_2_code 4 (some .int) :: ws) ({ frames := 0, cells := 0, slots := 0, locals := 0 } : Room)) (fun a U => a = #[(.ref a0), (.int (3 : Int32)), (.int p2), (.int (1 : Int32))] ∧ Z.Warmed39 U.vm ∧ U.heap = h0) (fun _ _ _ _ _ => True) (fun _ U o U' => ∃ v L, o = .returned v ∧ Q5_3_1 Z a0 p2 f h0 n0 v U'.heap L ∧ FrameEnd U o U' L ({ frames := 0, cells := 0, slots := 0, locals := 0 } : Room).cells ({ frames := 0, cells := 0, slots := 0, locals := 0 } : Room).slots) := by
  refine MetFree.of_bodySF (plainFor_of_name pn51678678) hisR ?_
  intro p e s m args below meth c s₁ Bd hml0 hP hK
  obtain ⟨rfl, hZ, hh⟩ := hP
  have hx := Bd.exec
  have hby := Bd.bytes
  have hml : c.maxLocals = 4 := hml0
  have hown : s.vm.findClass "com/example/xcu/xcu/UnitStringExtendPinLaw" = some m.cls := findClass_of_methodNamed Bd.named
  have hnm := (name_of_methodNamed Bd.named Bd.method).1
  have X0 : Stand p l e ({ frames := 0, cells := 0, slots := 0, locals := 0 } : Room) s m #[(.ref a0), (.int (3 : Int32)), (.int p2), (.int (1 : Int32))] below meth c s₁ [] 0 0 := Stand.of_body Bd
  have e0 : s₁.heap = h0 := by rw [← hh, Bd.state]; rfl
  have N0 := Fr.nil n0
  have pre0 : ∀ t, Steps p.tables e below (s₁.setTop (mkF m 0 #[.val (.ref a0), .val (.int (3 : Int32)), .val (.int p2), .val (.int (1 : Int32))] [])) t → Steps p.tables e below (s₁.setTop (entryFrame m #[(.ref a0), (.int (3 : Int32)), (.int p2), (.int (1 : Int32))] 4)) t := fun t k => castTop (ef_5_3_1 m a0 p2) k
  have pre105 : ∀ t, Steps p.tables e below (s₁.setTop (mkF m 12 #[.val (.ref a0), .val (.int (3 : Int32)), .val (.int p2), .val (.int (1 : Int32))] [(.int (f 1))])) t → Steps p.tables e below (s₁.setTop (entryFrame m #[(.ref a0), (.int (3 : Int32)), (.int p2), (.int (1 : Int32))] 4)) t := fun t kt => by
    refine pre0 _ ?_
    show Steps p.tables e below (s₁.setTop (mkF m 0 #[.val (.ref a0), .val (.int (3 : Int32)), .val (.int p2), .val (.int (1 : Int32))] [])) _
    refine XS.iloadN X0.here hx rfl (hb hby d5_0) rfl ?_
    show Steps p.tables e below (s₁.setTop (mkF m 1 #[.val (.ref a0), .val (.int (3 : Int32)), .val (.int p2), .val (.int (1 : Int32))] [(.int (1 : Int32))])) _
    refine XS.iloadN X0.here hx rfl (hb hby d5_1) rfl ?_
    show Steps p.tables e below (s₁.setTop (mkF m 2 #[.val (.ref a0), .val (.int (3 : Int32)), .val (.int p2), .val (.int (1 : Int32))] [(.int (3 : Int32)), (.int (1 : Int32))])) _
    refine XS.icmpNo X0.here hx rfl (hb hby d5_2) rfl (tlt (by decide : (1 : Int32) < (3 : Int32))).2.1 ?_
    show Steps p.tables e below (s₁.setTop (mkF m 5 #[.val (.ref a0), .val (.int (3 : Int32)), .val (.int p2), .val (.int (1 : Int32))] [])) _
    refine XS.aloadN X0.here hx rfl (hb hby d5_5) rfl rfl ?_
    show Steps p.tables e below (s₁.setTop (mkF m 6 #[.val (.ref a0), .val (.int (3 : Int32)), .val (.int p2), .val (.int (1 : Int32))] [(.ref a0)])) _
    refine XS.iloadN X0.here hx rfl (hb hby d5_6) rfl ?_
    show Steps p.tables e below (s₁.setTop (mkF m 7 #[.val (.ref a0), .val (.int (3 : Int32)), .val (.int p2), .val (.int (1 : Int32))] [(.int (1 : Int32)), (.ref a0)])) _
    refine own_rdI X0 hx hZ e0 V_a0 (j := (1 : Int32)) (i := 1) (by decide) (by decide) (g := (mkF m 7 #[.val (.ref a0), .val (.int (3 : Int32)), .val (.int p2), .val (.int (1 : Int32))] [(.int (1 : Int32)), (.ref a0)])) rfl rfl (hb hby d5_7) _ ?_
    show Steps p.tables e below (s₁.setTop (mkF m 8 #[.val (.ref a0), .val (.int (3 : Int32)), .val (.int p2), .val (.int (1 : Int32))] [(.int (f 1))])) _
    refine XS.goto X0.here hx rfl (pc0 := 8) (pc' := 12) rfl (hb hby d5_8) (by decide) (by decide) ?_
    show Steps p.tables e below (s₁.setTop (mkF m 12 #[.val (.ref a0), .val (.int (3 : Int32)), .val (.int p2), .val (.int (1 : Int32))] [(.int (f 1))])) _
    exact kt
  obtain ⟨fs, hr, hrun, hended, hW, hsame⟩ := X0.leave (v := some (.int (f 1))) (fun h => by rw [Bd.returns] at h; cases h)
  refine ⟨_, _, pre105 _ ?_, hrun, hended, _, _, rfl, ?_, ⟨_, rfl⟩, hW, hsame.mono (by decide) (by decide)⟩
  · exact retI X0 hx Bd.returns (hb hby d5_12) hr
  · show Q5_3_1 Z a0 p2 f h0 n0 _ s₁.heap _
    rw [e0]
    exact ⟨rfl, N0, rfl⟩
theorem ef_5_3_2 (m : MethodId) (a0 : Addr) (p2 : Int32) : entryFrame m #[(.ref a0), (.int (3 : Int32)), (.int p2), (.int (2 : Int32))] 4 = mkF m 0 #[.val (.ref a0), .val (.int (3 : Int32)), .val (.int p2), .val (.int (2 : Int32))] [] := by first | (simp [entryFrame, mkF, argsToLocals, Value.category]; done) | rfl
def Q5_3_2 (Z : State) (a0 : Addr) (p2 : Int32) (f : Nat → Int32) (h0 : Heap) (n0 : Nat) (v : Option Value) (h : Heap) (L : List Loc) : Prop := v = some (.int (f 2)) ∧ Fr n0 L ∧ h = h0
set_option maxRecDepth 65536 in
set_option maxHeartbeats 40000000 in
theorem rm5_3_2 (l : Launch) (Z : State) (aq : Array Value) (hw : ∀ d ∈ tables_1, d.before aq Z = true) (ws : List Jvm.Cond) (a0 : Addr) (p2 : Int32) (f : Nat → Int32) (h0 : Heap) (n0 : Nat) (Z0 : n0 ≤ h0.size) (V_a0 : own_Ar Z h0 a0 .int 4 f) :
    MetFree l (⟨"com/example/xcu/xcu/UnitStringExtendPinLaw", "sAt", "([IIII)I"⟩ : MethodName) (head1 (Jvm.Cond.code (⟨"com/example/xcu/xcu/UnitStringExtendPinLaw", "sAt", "([IIII)I"⟩ : MethodName) method_2_code 4 (some .int) :: ws) ({ frames := 0, cells := 0, slots := 0, locals := 0 } : Room)) (fun a U => a = #[(.ref a0), (.int (3 : Int32)), (.int p2), (.int (2 : Int32))] ∧ Z.Warmed39 U.vm ∧ U.heap = h0) (fun _ _ _ _ _ => True) (fun _ U o U' => ∃ v L, o = .returned v ∧ Q5_3_2 Z a0 p2 f h0 n0 v U'.heap L ∧ FrameEnd U o U' L ({ frames := 0, cells := 0, slots := 0, locals := 0 } : Room).cells ({ frames := 0, cells := 0, slots := 0, locals := 0 } : Room).slots) := by
  refine MetFree.of_bodySF (plainFor_of_name pn51678678) hisR ?_
  intro p e s m args below meth c s₁ Bd hml0 hP hK
  obtain ⟨rfl, hZ, hh⟩ := hP
  have hx := Bd.exec
  have hby := Bd.bytes
  have hml : c.maxLocals = 4 := hml0
  have hown : s.vm.findClass "com/example/xcu/xcu/UnitStringExtendPinLaw" = some m.cls := findClass_of_methodNamed Bd.named
  have hnm := (name_of_methodNamed Bd.named Bd.method).1
  have X0 : Stand p l e ({ frames := 0, cells := 0, slots := 0, locals := 0 } : Room) s m #[(.ref a0), (.int (3 : Int32)), (.int p2), (.int (2 : Int32))] below meth c s₁ [] 0 0 := Stand.of_body Bd
  have e0 : s₁.heap = h0 := by rw [← hh, Bd.state]; rfl
  have N0 := Fr.nil n0
  have pre0 : ∀ t, Steps p.tables e below (s₁.setTop (mkF m 0 #[.val (.ref a0), .val (.int (3 : Int32)), .val (.int p2), .val (.int (2 : Int32))] [])) t → Steps p.tables e below (s₁.setTop (entryFrame m #[(.ref a0), (.int (3 : Int32)), (.int p2), (.int (2 : Int32))] 4)) t := fun t k => castTop (ef_5_3_2 m a0 p2) k
  have pre106 : ∀ t, Steps p.tables e below (s₁.setTop (mkF m 12 #[.val (.ref a0), .val (.int (3 : Int32)), .val (.int p2), .val (.int (2 : Int32))] [(.int (f 2))])) t → Steps p.tables e below (s₁.setTop (entryFrame m #[(.ref a0), (.int (3 : Int32)), (.int p2), (.int (2 : Int32))] 4)) t := fun t kt => by
    refine pre0 _ ?_
    show Steps p.tables e below (s₁.setTop (mkF m 0 #[.val (.ref a0), .val (.int (3 : Int32)), .val (.int p2), .val (.int (2 : Int32))] [])) _
    refine XS.iloadN X0.here hx rfl (hb hby d5_0) rfl ?_
    show Steps p.tables e below (s₁.setTop (mkF m 1 #[.val (.ref a0), .val (.int (3 : Int32)), .val (.int p2), .val (.int (2 : Int32))] [(.int (2 : Int32))])) _
    refine XS.iloadN X0.here hx rfl (hb hby d5_1) rfl ?_
    show Steps p.tables e below (s₁.setTop (mkF m 2 #[.val (.ref a0), .val (.int (3 : Int32)), .val (.int p2), .val (.int (2 : Int32))] [(.int (3 : Int32)), (.int (2 : Int32))])) _
    refine XS.icmpNo X0.here hx rfl (hb hby d5_2) rfl (tlt (by decide : (2 : Int32) < (3 : Int32))).2.1 ?_
    show Steps p.tables e below (s₁.setTop (mkF m 5 #[.val (.ref a0), .val (.int (3 : Int32)), .val (.int p2), .val (.int (2 : Int32))] [])) _
    refine XS.aloadN X0.here hx rfl (hb hby d5_5) rfl rfl ?_
    show Steps p.tables e below (s₁.setTop (mkF m 6 #[.val (.ref a0), .val (.int (3 : Int32)), .val (.int p2), .val (.int (2 : Int32))] [(.ref a0)])) _
    refine XS.iloadN X0.here hx rfl (hb hby d5_6) rfl ?_
    show Steps p.tables e below (s₁.setTop (mkF m 7 #[.val (.ref a0), .val (.int (3 : Int32)), .val (.int p2), .val (.int (2 : Int32))] [(.int (2 : Int32)), (.ref a0)])) _
    refine own_rdI X0 hx hZ e0 V_a0 (j := (2 : Int32)) (i := 2) (by decide) (by decide) (g := (mkF m 7 #[.val (.ref a0), .val (.int (3 : Int32)), .val (.int p2), .val (.int (2 : Int32))] [(.int (2 : Int32)), (.ref a0)])) rfl rfl (hb hby d5_7) _ ?_
    show Steps p.tables e below (s₁.setTop (mkF m 8 #[.val (.ref a0), .val (.int (3 : Int32)), .val (.int p2), .val (.int (2 : Int32))] [(.int (f 2))])) _
    refine XS.goto X0.here hx rfl (pc0 := 8) (pc' := 12) rfl (hb hby d5_8) (by decide) (by decide) ?_
    show Steps p.tables e below (s₁.setTop (mkF m 12 #[.val (.ref a0), .val (.int (3 : Int32)), .val (.int p2), .val (.int (2 : Int32))] [(.int (f 2))])) _
    exact kt
  obtain ⟨fs, hr, hrun, hended, hW, hsame⟩ := X0.leave (v := some (.int (f 2))) (fun h => by rw [Bd.returns] at h; cases h)
  refine ⟨_, _, pre106 _ ?_, hrun, hended, _, _, rfl, ?_, ⟨_, rfl⟩, hW, hsame.mono (by decide) (by decide)⟩
  · exact retI X0 hx Bd.returns (hb hby d5_12) hr
  · show Q5_3_2 Z a0 p2 f h0 n0 _ s₁.heap _
    rw [e0]
    exact ⟨rfl, N0, rfl⟩
theorem ef_5_3_3 (m : MethodId) (a0 : Addr) (p2 : Int32) : entryFrame m #[(.ref a0), (.int (3 : Int32)), (.int p2), (.int (3 : Int32))] 4 = mkF m 0 #[.val (.ref a0), .val (.int (3 : Int32)), .val (.int p2), .val (.int (3 : Int32))] [] := by first | (simp [entryFrame, mkF, argsToLocals, Value.category]; done) | rfl
def Q5_3_3 (Z : State) (a0 : Addr) (p2 : Int32) (f : Nat → Int32) (h0 : Heap) (n0 : Nat) (v : Option Value) (h : Heap) (L : List Loc) : Prop := v = some (.int p2) ∧ Fr n0 L ∧ h = h0
set_option maxRecDepth 65536 in
set_option maxHeartbeats 40000000 in
theorem rm5_3_3 (l : Launch) (Z : State) (aq : Array Value) (hw : ∀ d ∈ tables_1, d.before aq Z = true) (ws : List Jvm.Cond) (a0 : Addr) (p2 : Int32) (f : Nat → Int32) (h0 : Heap) (n0 : Nat) (Z0 : n0 ≤ h0.size) (V_a0 : own_Ar Z h0 a0 .int 4 f) :
    MetFree l (⟨"com/example/xcu/xcu/UnitStringExtendPinLaw", "sAt", "([IIII)I"⟩ : MethodName) (head1 (Jvm.Cond.code (⟨"com/example/xcu/xcu/UnitStringExtendPinLaw", "sAt", "([IIII)I"⟩ : MethodName) method_2_code 4 (some .int) :: ws) ({ frames := 0, cells := 0, slots := 0, locals := 0 } : Room)) (fun a U => a = #[(.ref a0), (.int (3 : Int32)), (.int p2), (.int (3 : Int32))] ∧ Z.Warmed39 U.vm ∧ U.heap = h0) (fun _ _ _ _ _ => True) (fun _ U o U' => ∃ v L, o = .returned v ∧ Q5_3_3 Z a0 p2 f h0 n0 v U'.heap L ∧ FrameEnd U o U' L ({ frames := 0, cells := 0, slots := 0, locals := 0 } : Room).cells ({ frames := 0, cells := 0, slots := 0, locals := 0 } : Room).slots) := by
  refine MetFree.of_bodySF (plainFor_of_name pn51678678) hisR ?_
  intro p e s m args below meth c s₁ Bd hml0 hP hK
  obtain ⟨rfl, hZ, hh⟩ := hP
  have hx := Bd.exec
  have hby := Bd.bytes
  have hml : c.maxLocals = 4 := hml0
  have hown : s.vm.findClass "com/example/xcu/xcu/UnitStringExtendPinLaw" = some m.cls := findClass_of_methodNamed Bd.named
  have hnm := (name_of_methodNamed Bd.named Bd.method).1
  have X0 : Stand p l e ({ frames := 0, cells := 0, slots := 0, locals := 0 } : Room) s m #[(.ref a0), (.int (3 : Int32)), (.int p2), (.int (3 : Int32))] below meth c s₁ [] 0 0 := Stand.of_body Bd
  have e0 : s₁.heap = h0 := by rw [← hh, Bd.state]; rfl
  have N0 := Fr.nil n0
  have pre0 : ∀ t, Steps p.tables e below (s₁.setTop (mkF m 0 #[.val (.ref a0), .val (.int (3 : Int32)), .val (.int p2), .val (.int (3 : Int32))] [])) t → Steps p.tables e below (s₁.setTop (entryFrame m #[(.ref a0), (.int (3 : Int32)), (.int p2), (.int (3 : Int32))] 4)) t := fun t k => castTop (ef_5_3_3 m a0 p2) k
  have pre107 : ∀ t, Steps p.tables e below (s₁.setTop (mkF m 12 #[.val (.ref a0), .val (.int (3 : Int32)), .val (.int p2), .val (.int (3 : Int32))] [(.int p2)])) t → Steps p.tables e below (s₁.setTop (entryFrame m #[(.ref a0), (.int (3 : Int32)), (.int p2), (.int (3 : Int32))] 4)) t := fun t kt => by
    refine pre0 _ ?_
    show Steps p.tables e below (s₁.setTop (mkF m 0 #[.val (.ref a0), .val (.int (3 : Int32)), .val (.int p2), .val (.int (3 : Int32))] [])) _
    refine XS.iloadN X0.here hx rfl (hb hby d5_0) rfl ?_
    show Steps p.tables e below (s₁.setTop (mkF m 1 #[.val (.ref a0), .val (.int (3 : Int32)), .val (.int p2), .val (.int (3 : Int32))] [(.int (3 : Int32))])) _
    refine XS.iloadN X0.here hx rfl (hb hby d5_1) rfl ?_
    show Steps p.tables e below (s₁.setTop (mkF m 2 #[.val (.ref a0), .val (.int (3 : Int32)), .val (.int p2), .val (.int (3 : Int32))] [(.int (3 : Int32)), (.int (3 : Int32))])) _
    refine XS.icmpYes X0.here hx rfl (pc0 := 2) (pc' := 11) rfl (hb hby d5_2) rfl (flt (by decide : ¬ ((3 : Int32) < (3 : Int32)))).2.1 (by decide) (by decide) ?_
    show Steps p.tables e below (s₁.setTop (mkF m 11 #[.val (.ref a0), .val (.int (3 : Int32)), .val (.int p2), .val (.int (3 : Int32))] [])) _
    refine XS.iloadN X0.here hx rfl (hb hby d5_11) rfl ?_
    show Steps p.tables e below (s₁.setTop (mkF m 12 #[.val (.ref a0), .val (.int (3 : Int32)), .val (.int p2), .val (.int (3 : Int32))] [(.int p2)])) _
    exact kt
  obtain ⟨fs, hr, hrun, hended, hW, hsame⟩ := X0.leave (v := some (.int p2)) (fun h => by rw [Bd.returns] at h; cases h)
  refine ⟨_, _, pre107 _ ?_, hrun, hended, _, _, rfl, ?_, ⟨_, rfl⟩, hW, hsame.mono (by decide) (by decide)⟩
  · exact retI X0 hx Bd.returns (hb hby d5_12) hr
  · show Q5_3_3 Z a0 p2 f h0 n0 _ s₁.heap _
    rw [e0]
    exact ⟨rfl, N0, rfl⟩
theorem d4_0 : decode method_3_code 0 = .ok (.iload_n 3, 1) := by decide +kernel
theorem d4_1 : decode method_3_code 1 = .ok (.iload_n 1, 1) := by decide +kernel
theorem d4_2 : decode method_3_code 2 = .ok (.iconst 1, 1) := by decide +kernel
theorem d4_3 : decode method_3_code 3 = .ok (.iadd, 1) := by decide +kernel
theorem d4_4 : decode method_3_code 4 = .ok (.if_icmp .le 5, 3) := by decide +kernel
theorem d4_7 : decode method_3_code 7 = .ok (.iconst 0, 1) := by decide +kernel
theorem d4_8 : decode method_3_code 8 = .ok (.ireturn, 1) := by decide +kernel
theorem d4_9 : decode method_3_code 9 = .ok (.iload_n 1, 1) := by decide +kernel
theorem d4_10 : decode method_3_code 10 = .ok (.iconst 1, 1) := by decide +kernel
theorem d4_11 : decode method_3_code 11 = .ok (.iadd, 1) := by decide +kernel
theorem d4_12 : decode method_3_code 12 = .ok (.iload_n 3, 1) := by decide +kernel
theorem d4_13 : decode method_3_code 13 = .ok (.isub, 1) := by decide +kernel
theorem d4_14 : decode method_3_code 14 = .ok (.istore 4, 2) := by decide +kernel
theorem d4_16 : decode method_3_code 16 = .ok (.iload_n 3, 1) := by decide +kernel
theorem d4_17 : decode method_3_code 17 = .ok (.ifCond .le 19, 3) := by decide +kernel
theorem d4_20 : decode method_3_code 20 = .ok (.aload_n 0, 1) := by decide +kernel
theorem d4_21 : decode method_3_code 21 = .ok (.iconst 0, 1) := by decide +kernel
theorem d4_22 : decode method_3_code 22 = .ok (.iaload, 1) := by decide +kernel
theorem d4_23 : decode method_3_code 23 = .ok (.aload_n 0, 1) := by decide +kernel
theorem d4_24 : decode method_3_code 24 = .ok (.iload_n 1, 1) := by decide +kernel
theorem d4_25 : decode method_3_code 25 = .ok (.iload_n 2, 1) := by decide +kernel
theorem d4_26 : decode method_3_code 26 = .ok (.iload 4, 2) := by decide +kernel
theorem d4_28 : decode method_3_code 28 = .ok (.invokestatic 7, 3) := by decide +kernel
theorem d4_31 : decode method_3_code 31 = .ok (.if_icmp .eq 5, 3) := by decide +kernel
theorem d4_34 : decode method_3_code 34 = .ok (.iconst 0, 1) := by decide +kernel
theorem d4_35 : decode method_3_code 35 = .ok (.ireturn, 1) := by decide +kernel
theorem d4_36 : decode method_3_code 36 = .ok (.iload_n 3, 1) := by decide +kernel
theorem d4_37 : decode method_3_code 37 = .ok (.iconst 1, 1) := by decide +kernel
theorem d4_38 : decode method_3_code 38 = .ok (.if_icmp .le 21, 3) := by decide +kernel
theorem d4_41 : decode method_3_code 41 = .ok (.aload_n 0, 1) := by decide +kernel
theorem d4_42 : decode method_3_code 42 = .ok (.iconst 1, 1) := by decide +kernel
theorem d4_43 : decode method_3_code 43 = .ok (.iaload, 1) := by decide +kernel
theorem d4_44 : decode method_3_code 44 = .ok (.aload_n 0, 1) := by decide +kernel
theorem d4_45 : decode method_3_code 45 = .ok (.iload_n 1, 1) := by decide +kernel
theorem d4_46 : decode method_3_code 46 = .ok (.iload_n 2, 1) := by decide +kernel
theorem d4_47 : decode method_3_code 47 = .ok (.iload 4, 2) := by decide +kernel
theorem d4_49 : decode method_3_code 49 = .ok (.iconst 1, 1) := by decide +kernel
theorem d4_50 : decode method_3_code 50 = .ok (.iadd, 1) := by decide +kernel
theorem d4_51 : decode method_3_code 51 = .ok (.invokestatic 7, 3) := by decide +kernel
theorem d4_54 : decode method_3_code 54 = .ok (.if_icmp .eq 5, 3) := by decide +kernel
theorem d4_57 : decode method_3_code 57 = .ok (.iconst 0, 1) := by decide +kernel
theorem d4_58 : decode method_3_code 58 = .ok (.ireturn, 1) := by decide +kernel
theorem d4_59 : decode method_3_code 59 = .ok (.iload_n 3, 1) := by decide +kernel
theorem d4_60 : decode method_3_code 60 = .ok (.iconst 2, 1) := by decide +kernel
theorem d4_61 : decode method_3_code 61 = .ok (.if_icmp .le 21, 3) := by decide +kernel
theorem d4_64 : decode method_3_code 64 = .ok (.aload_n 0, 1) := by decide +kernel
theorem d4_65 : decode method_3_code 65 = .ok (.iconst 2, 1) := by decide +kernel
theorem d4_66 : decode method_3_code 66 = .ok (.iaload, 1) := by decide +kernel
theorem d4_67 : decode method_3_code 67 = .ok (.aload_n 0, 1) := by decide +kernel
theorem d4_68 : decode method_3_code 68 = .ok (.iload_n 1, 1) := by decide +kernel
theorem d4_69 : decode method_3_code 69 = .ok (.iload_n 2, 1) := by decide +kernel
theorem d4_70 : decode method_3_code 70 = .ok (.iload 4, 2) := by decide +kernel
theorem d4_72 : decode method_3_code 72 = .ok (.iconst 2, 1) := by decide +kernel
theorem d4_73 : decode method_3_code 73 = .ok (.iadd, 1) := by decide +kernel
theorem d4_74 : decode method_3_code 74 = .ok (.invokestatic 7, 3) := by decide +kernel
theorem d4_77 : decode method_3_code 77 = .ok (.if_icmp .eq 5, 3) := by decide +kernel
theorem d4_80 : decode method_3_code 80 = .ok (.iconst 0, 1) := by decide +kernel
theorem d4_81 : decode method_3_code 81 = .ok (.ireturn, 1) := by decide +kernel
theorem d4_82 : decode method_3_code 82 = .ok (.iload_n 3, 1) := by decide +kernel
theorem d4_83 : decode method_3_code 83 = .ok (.iconst 3, 1) := by decide +kernel
theorem d4_84 : decode method_3_code 84 = .ok (.if_icmp .le 21, 3) := by decide +kernel
theorem d4_87 : decode method_3_code 87 = .ok (.aload_n 0, 1) := by decide +kernel
theorem d4_88 : decode method_3_code 88 = .ok (.iconst 3, 1) := by decide +kernel
theorem d4_89 : decode method_3_code 89 = .ok (.iaload, 1) := by decide +kernel
theorem d4_90 : decode method_3_code 90 = .ok (.aload_n 0, 1) := by decide +kernel
theorem d4_91 : decode method_3_code 91 = .ok (.iload_n 1, 1) := by decide +kernel
theorem d4_92 : decode method_3_code 92 = .ok (.iload_n 2, 1) := by decide +kernel
theorem d4_93 : decode method_3_code 93 = .ok (.iload 4, 2) := by decide +kernel
theorem d4_95 : decode method_3_code 95 = .ok (.iconst 3, 1) := by decide +kernel
theorem d4_96 : decode method_3_code 96 = .ok (.iadd, 1) := by decide +kernel
theorem d4_97 : decode method_3_code 97 = .ok (.invokestatic 7, 3) := by decide +kernel
theorem d4_100 : decode method_3_code 100 = .ok (.if_icmp .eq 5, 3) := by decide +kernel
theorem d4_103 : decode method_3_code 103 = .ok (.iconst 0, 1) := by decide +kernel
theorem d4_104 : decode method_3_code 104 = .ok (.ireturn, 1) := by decide +kernel
theorem d4_105 : decode method_3_code 105 = .ok (.iconst 1, 1) := by decide +kernel
theorem d4_106 : decode method_3_code 106 = .ok (.ireturn, 1) := by decide +kernel
theorem pd21711166 : parseMethodDescriptor "([IIII)I" = some ⟨[(.array .int), .int, .int, .int], some .int⟩ := by decide +kernel
theorem ef_4_0_1 (m : MethodId) (a0 : Addr) (p2 : Int32) : entryFrame m #[(.ref a0), (.int (0 : Int32)), (.int p2), (.int (1 : Int32))] 5 = mkF m 0 #[.val (.ref a0), .val (.int (0 : Int32)), .val (.int p2), .val (.int (1 : Int32)), .unset] [] := by first | (simp [entryFrame, mkF, argsToLocals, Value.category]; done) | rfl
def Q4_0_1 (Z : State) (a0 : Addr) (p2 : Int32) (f : Nat → Int32) (h0 : Heap) (n0 : Nat) (v : Option Value) (h : Heap) (L : List Loc) : Prop := v = some (.int (if (f 0) = p2 then (1 : Int32) else (0 : Int32))) ∧ Fr n0 L ∧ h = h0
set_option maxRecDepth 65536 in
set_option maxHeartbeats 40000000 in
theorem rm4_0_1 (l : Launch) (Z : State) (aq : Array Value) (hw : ∀ d ∈ tables_1, d.before aq Z = true) (ws : List Jvm.Cond) (a0 : Addr) (p2 : Int32) (f : Nat → Int32) (h0 : Heap) (n0 : Nat) (Z0 : n0 ≤ h0.size) (V_a0 : own_Ar Z h0 a0 .int 4 f) :
    MetFree l (⟨"com/example/xcu/xcu/UnitStringExtendPinLaw", "fits", "([IIII)Z"⟩ : MethodName) (head1 (Jvm.Cond.code (⟨"com/example/xcu/xcu/UnitStringExtendPinLaw", "fits", "([IIII)Z"⟩ : MethodName) method_3_code 5 (some .boolean) :: ws) ({ frames := 1, cells := 0, slots := 0, locals := 16 } : Room)) (fun a U => a = #[(.ref a0), (.int (0 : Int32)), (.int p2), (.int (1 : Int32))] ∧ Z.Warmed39 U.vm ∧ U.heap = h0) (fun _ _ _ _ _ => True) (fun _ U o U' => ∃ v L, o = .returned v ∧ Q4_0_1 Z a0 p2 f h0 n0 v U'.heap L ∧ FrameEnd U o U' L ({ frames := 1, cells := 0, slots := 0, locals := 16 } : Room).cells ({ frames := 1, cells := 0, slots := 0, locals := 16 } : Room).slots) := by
  refine MetFree.of_bodySF (plainFor_of_name pn51678678) hisR ?_
  intro p e s m args below meth c s₁ Bd hml0 hP hK
  obtain ⟨rfl, hZ, hh⟩ := hP
  have hx := Bd.exec
  have hby := Bd.bytes
  have hml : c.maxLocals = 5 := hml0
  have hown : s.vm.findClass "com/example/xcu/xcu/UnitStringExtendPinLaw" = some m.cls := findClass_of_methodNamed Bd.named
  have hnm := (name_of_methodNamed Bd.named Bd.method).1
  have X0 : Stand p l e ({ frames := 1, cells := 0, slots := 0, locals := 16 } : Room) s m #[(.ref a0), (.int (0 : Int32)), (.int p2), (.int (1 : Int32))] below meth c s₁ [] 0 0 := Stand.of_body Bd
  have e0 : s₁.heap = h0 := by rw [← hh, Bd.state]; rfl
  have N0 := Fr.nil n0
  have pre0 : ∀ t, Steps p.tables e below (s₁.setTop (mkF m 0 #[.val (.ref a0), .val (.int (0 : Int32)), .val (.int p2), .val (.int (1 : Int32)), .unset] [])) t → Steps p.tables e below (s₁.setTop (entryFrame m #[(.ref a0), (.int (0 : Int32)), (.int p2), (.int (1 : Int32))] 5)) t := fun t k => castTop (ef_4_0_1 m a0 p2) k
  obtain ⟨_, _, ⟨T112, L112, k112, n112⟩, -, X112, ⟨Lc112, hQ112, l112, y112, z112⟩, st112⟩ := Jvm.LawKit.callS X0 hx (y := (⟨"com/example/xcu/xcu/UnitStringExtendPinLaw", "sAt", "([IIII)I"⟩ : MethodName)) hown (mvT hZ (hw _ (List.mem_of_getElem? (i := 35) rfl))) (mvT hZ (hw _ (List.mem_of_getElem? (i := 36) rfl))) (mvT hZ (hw _ (List.mem_of_getElem? (i := 33) rfl))) (mvT hZ (hw _ (List.mem_of_getElem? (i := 37) rfl))) (by decide) (backOf (W := 1) (rm5_0_0 l Z aq hw [] a0 p2 f h0 n0 Z0 V_a0) hZ (hw _ (List.mem_of_getElem? (i := 37) rfl)) (hw _ (List.mem_of_getElem? (i := 33) rfl)) (by decide) (by decide)) (g := (mkF m 28 #[.val (.ref a0), .val (.int (0 : Int32)), .val (.int p2), .val (.int (1 : Int32)), .val (.int (((0 : Int32) + (1 : Int32)) - (1 : Int32)))] [(.int (((0 : Int32) + (1 : Int32)) - (1 : Int32))), (.int p2), (.int (0 : Int32)), (.ref a0), (.int (f 0))])) rfl (by rw [hml]; rfl) (argsL := [(.ref a0), (.int (0 : Int32)), (.int p2), (.int (((0 : Int32) + (1 : Int32)) - (1 : Int32)))]) (rest := [(.int (f 0))]) (lenOf pd21711166 rfl) rfl (by show 2 * 0 + _ ≤ _; exact Nat.le_of_eq rfl) (hb hby d4_28) (fun _ _ => ⟨rfl, e0, (by decide : 0 + 0 ≤ _), (by decide : 0 + 0 ≤ _)⟩)
  dsimp only [Pt.U, Pt.locs, Pt.cells, Pt.slots] at X112 l112 y112 z112 st112 hQ112
  subst l112 y112 z112
  obtain ⟨rfl, N112q, e112⟩ := hQ112
  have N113 := Fr.app N0 N112q
  have pre114 : ∀ t, Steps p.tables e below (T112.setTop (mkF m 31 #[.val (.ref a0), .val (.int (0 : Int32)), .val (.int p2), .val (.int (1 : Int32)), .val (.int (((0 : Int32) + (1 : Int32)) - (1 : Int32)))] [(.int p2), (.int (f 0))])) t → Steps p.tables e below (s₁.setTop (entryFrame m #[(.ref a0), (.int (0 : Int32)), (.int p2), (.int (1 : Int32))] 5)) t := fun t kt => by
    refine pre0 _ ?_
    show Steps p.tables e below (s₁.setTop (mkF m 0 #[.val (.ref a0), .val (.int (0 : Int32)), .val (.int p2), .val (.int (1 : Int32)), .unset] [])) _
    refine XS.iloadN X0.here hx rfl (hb hby d4_0) rfl ?_
    show Steps p.tables e below (s₁.setTop (mkF m 1 #[.val (.ref a0), .val (.int (0 : Int32)), .val (.int p2), .val (.int (1 : Int32)), .unset] [(.int (1 : Int32))])) _
    refine XS.iloadN X0.here hx rfl (hb hby d4_1) rfl ?_
    show Steps p.tables e below (s₁.setTop (mkF m 2 #[.val (.ref a0), .val (.int (0 : Int32)), .val (.int p2), .val (.int (1 : Int32)), .unset] [(.int (0 : Int32)), (.int (1 : Int32))])) _
    refine XS.iconst X0.here hx rfl (hb hby d4_2) ?_
    show Steps p.tables e below (s₁.setTop (mkF m 3 #[.val (.ref a0), .val (.int (0 : Int32)), .val (.int p2), .val (.int (1 : Int32)), .unset] [(.int (1 : Int32)), (.int (0 : Int32)), (.int (1 : Int32))])) _
    refine XS.iadd X0.here hx rfl (hb hby d4_3) rfl ?_
    show Steps p.tables e below (s₁.setTop (mkF m 4 #[.val (.ref a0), .val (.int (0 : Int32)), .val (.int p2), .val (.int (1 : Int32)), .unset] [(.int ((0 : Int32) + (1 : Int32))), (.int (1 : Int32))])) _
    refine XS.icmpYes X0.here hx rfl (pc0 := 4) (pc' := 9) rfl (hb hby d4_4) rfl (flt (by decide : ¬ (((0 : Int32) + (1 : Int32)) < (1 : Int32)))).2.2.2 (by decide) (by decide) ?_
    show Steps p.tables e below (s₁.setTop (mkF m 9 #[.val (.ref a0), .val (.int (0 : Int32)), .val (.int p2), .val (.int (1 : Int32)), .unset] [])) _
    refine XS.iloadN X0.here hx rfl (hb hby d4_9) rfl ?_
    show Steps p.tables e below (s₁.setTop (mkF m 10 #[.val (.ref a0), .val (.int (0 : Int32)), .val (.int p2), .val (.int (1 : Int32)), .unset] [(.int (0 : Int32))])) _
    refine XS.iconst X0.here hx rfl (hb hby d4_10) ?_
    show Steps p.tables e below (s₁.setTop (mkF m 11 #[.val (.ref a0), .val (.int (0 : Int32)), .val (.int p2), .val (.int (1 : Int32)), .unset] [(.int (1 : Int32)), (.int (0 : Int32))])) _
    refine XS.iadd X0.here hx rfl (hb hby d4_11) rfl ?_
    show Steps p.tables e below (s₁.setTop (mkF m 12 #[.val (.ref a0), .val (.int (0 : Int32)), .val (.int p2), .val (.int (1 : Int32)), .unset] [(.int ((0 : Int32) + (1 : Int32)))])) _
    refine XS.iloadN X0.here hx rfl (hb hby d4_12) rfl ?_
    show Steps p.tables e below (s₁.setTop (mkF m 13 #[.val (.ref a0), .val (.int (0 : Int32)), .val (.int p2), .val (.int (1 : Int32)), .unset] [(.int (1 : Int32)), (.int ((0 : Int32) + (1 : Int32)))])) _
    refine XS.isub X0.here hx rfl (hb hby d4_13) rfl ?_
    show Steps p.tables e below (s₁.setTop (mkF m 14 #[.val (.ref a0), .val (.int (0 : Int32)), .val (.int p2), .val (.int (1 : Int32)), .unset] [(.int (((0 : Int32) + (1 : Int32)) - (1 : Int32)))])) _
    refine XS.istore X0.here hx rfl (hb hby d4_14) rfl (l' := #[.val (.ref a0), .val (.int (0 : Int32)), .val (.int p2), .val (.int (1 : Int32)), .val (.int (((0 : Int32) + (1 : Int32)) - (1 : Int32)))]) rfl ?_
    show Steps p.tables e below (s₁.setTop (mkF m 16 #[.val (.ref a0), .val (.int (0 : Int32)), .val (.int p2), .val (.int (1 : Int32)), .val (.int (((0 : Int32) + (1 : Int32)) - (1 : Int32)))] [])) _
    refine XS.iloadN X0.here hx rfl (hb hby d4_16) rfl ?_
    show Steps p.tables e below (s₁.setTop (mkF m 17 #[.val (.ref a0), .val (.int (0 : Int32)), .val (.int p2), .val (.int (1 : Int32)), .val (.int (((0 : Int32) + (1 : Int32)) - (1 : Int32)))] [(.int (1 : Int32))])) _
    refine XS.ifNo X0.here hx rfl (hb hby d4_17) rfl ((if0 _ _).trans (tlt (by decide : (0 : Int32) < (1 : Int32))).2.2.2) ?_
    show Steps p.tables e below (s₁.setTop (mkF m 20 #[.val (.ref a0), .val (.int (0 : Int32)), .val (.int p2), .val (.int (1 : Int32)), .val (.int (((0 : Int32) + (1 : Int32)) - (1 : Int32)))] [])) _
    refine XS.aloadN X0.here hx rfl (hb hby d4_20) rfl rfl ?_
    show Steps p.tables e below (s₁.setTop (mkF m 21 #[.val (.ref a0), .val (.int (0 : Int32)), .val (.int p2), .val (.int (1 : Int32)), .val (.int (((0 : Int32) + (1 : Int32)) - (1 : Int32)))] [(.ref a0)])) _
    refine XS.iconst X0.here hx rfl (hb hby d4_21) ?_
    show Steps p.tables e below (s₁.setTop (mkF m 22 #[.val (.ref a0), .val (.int (0 : Int32)), .val (.int p2), .val (.int (1 : Int32)), .val (.int (((0 : Int32) + (1 : Int32)) - (1 : Int32)))] [(.int (0 : Int32)), (.ref a0)])) _
    refine own_rdI X0 hx hZ e0 V_a0 (j := (0 : Int32)) (i := 0) (by decide) (by decide) (g := (mkF m 22 #[.val (.ref a0), .val (.int (0 : Int32)), .val (.int p2), .val (.int (1 : Int32)), .val (.int (((0 : Int32) + (1 : Int32)) - (1 : Int32)))] [(.int (0 : Int32)), (.ref a0)])) rfl rfl (hb hby d4_22) _ ?_
    show Steps p.tables e below (s₁.setTop (mkF m 23 #[.val (.ref a0), .val (.int (0 : Int32)), .val (.int p2), .val (.int (1 : Int32)), .val (.int (((0 : Int32) + (1 : Int32)) - (1 : Int32)))] [(.int (f 0))])) _
    refine XS.aloadN X0.here hx rfl (hb hby d4_23) rfl rfl ?_
    show Steps p.tables e below (s₁.setTop (mkF m 24 #[.val (.ref a0), .val (.int (0 : Int32)), .val (.int p2), .val (.int (1 : Int32)), .val (.int (((0 : Int32) + (1 : Int32)) - (1 : Int32)))] [(.ref a0), (.int (f 0))])) _
    refine XS.iloadN X0.here hx rfl (hb hby d4_24) rfl ?_
    show Steps p.tables e below (s₁.setTop (mkF m 25 #[.val (.ref a0), .val (.int (0 : Int32)), .val (.int p2), .val (.int (1 : Int32)), .val (.int (((0 : Int32) + (1 : Int32)) - (1 : Int32)))] [(.int (0 : Int32)), (.ref a0), (.int (f 0))])) _
    refine XS.iloadN X0.here hx rfl (hb hby d4_25) rfl ?_
    show Steps p.tables e below (s₁.setTop (mkF m 26 #[.val (.ref a0), .val (.int (0 : Int32)), .val (.int p2), .val (.int (1 : Int32)), .val (.int (((0 : Int32) + (1 : Int32)) - (1 : Int32)))] [(.int p2), (.int (0 : Int32)), (.ref a0), (.int (f 0))])) _
    refine XS.iload X0.here hx rfl (hb hby d4_26) rfl ?_
    show Steps p.tables e below (s₁.setTop (mkF m 28 #[.val (.ref a0), .val (.int (0 : Int32)), .val (.int p2), .val (.int (1 : Int32)), .val (.int (((0 : Int32) + (1 : Int32)) - (1 : Int32)))] [(.int (((0 : Int32) + (1 : Int32)) - (1 : Int32))), (.int p2), (.int (0 : Int32)), (.ref a0), (.int (f 0))])) _
    refine st112 _ ?_
    show Steps p.tables e below (T112.setTop (mkF m 31 #[.val (.ref a0), .val (.int (0 : Int32)), .val (.int p2), .val (.int (1 : Int32)), .val (.int (((0 : Int32) + (1 : Int32)) - (1 : Int32)))] [(.int p2), (.int (f 0))])) _
    exact kt
  by_cases hc115 : (f 0) = p2
  · skip
    have pre116 : ∀ t, Steps p.tables e below (T112.setTop (mkF m 106 #[.val (.ref a0), .val (.int (0 : Int32)), .val (.int p2), .val (.int (1 : Int32)), .val (.int (((0 : Int32) + (1 : Int32)) - (1 : Int32)))] [(.int (1 : Int32))])) t → Steps p.tables e below (s₁.setTop (entryFrame m #[(.ref a0), (.int (0 : Int32)), (.int p2), (.int (1 : Int32))] 5)) t := fun t kt => by
      refine pre114 _ ?_
      show Steps p.tables e below (T112.setTop (mkF m 31 #[.val (.ref a0), .val (.int (0 : Int32)), .val (.int p2), .val (.int (1 : Int32)), .val (.int (((0 : Int32) + (1 : Int32)) - (1 : Int32)))] [(.int p2), (.int (f 0))])) _
      refine XS.icmpYes X112.here hx rfl (pc0 := 31) (pc' := 36) rfl (hb hby d4_31) rfl (teq hc115).1 (by decide) (by decide) ?_
      show Steps p.tables e below (T112.setTop (mkF m 36 #[.val (.ref a0), .val (.int (0 : Int32)), .val (.int p2), .val (.int (1 : Int32)), .val (.int (((0 : Int32) + (1 : Int32)) - (1 : Int32)))] [])) _
      refine XS.iloadN X112.here hx rfl (hb hby d4_36) rfl ?_
      show Steps p.tables e below (T112.setTop (mkF m 37 #[.val (.ref a0), .val (.int (0 : Int32)), .val (.int p2), .val (.int (1 : Int32)), .val (.int (((0 : Int32) + (1 : Int32)) - (1 : Int32)))] [(.int (1 : Int32))])) _
      refine XS.iconst X112.here hx rfl (hb hby d4_37) ?_
      show Steps p.tables e below (T112.setTop (mkF m 38 #[.val (.ref a0), .val (.int (0 : Int32)), .val (.int p2), .val (.int (1 : Int32)), .val (.int (((0 : Int32) + (1 : Int32)) - (1 : Int32)))] [(.int (1 : Int32)), (.int (1 : Int32))])) _
      refine XS.icmpYes X112.here hx rfl (pc0 := 38) (pc' := 59) rfl (hb hby d4_38) rfl (flt (by decide : ¬ ((1 : Int32) < (1 : Int32)))).2.2.2 (by decide) (by decide) ?_
      show Steps p.tables e below (T112.setTop (mkF m 59 #[.val (.ref a0), .val (.int (0 : Int32)), .val (.int p2), .val (.int (1 : Int32)), .val (.int (((0 : Int32) + (1 : Int32)) - (1 : Int32)))] [])) _
      refine XS.iloadN X112.here hx rfl (hb hby d4_59) rfl ?_
      show Steps p.tables e below (T112.setTop (mkF m 60 #[.val (.ref a0), .val (.int (0 : Int32)), .val (.int p2), .val (.int (1 : Int32)), .val (.int (((0 : Int32) + (1 : Int32)) - (1 : Int32)))] [(.int (1 : Int32))])) _
      refine XS.iconst X112.here hx rfl (hb hby d4_60) ?_
      show Steps p.tables e below (T112.setTop (mkF m 61 #[.val (.ref a0), .val (.int (0 : Int32)), .val (.int p2), .val (.int (1 : Int32)), .val (.int (((0 : Int32) + (1 : Int32)) - (1 : Int32)))] [(.int (2 : Int32)), (.int (1 : Int32))])) _
      refine XS.icmpYes X112.here hx rfl (pc0 := 61) (pc' := 82) rfl (hb hby d4_61) rfl (flt (by decide : ¬ ((2 : Int32) < (1 : Int32)))).2.2.2 (by decide) (by decide) ?_
      show Steps p.tables e below (T112.setTop (mkF m 82 #[.val (.ref a0), .val (.int (0 : Int32)), .val (.int p2), .val (.int (1 : Int32)), .val (.int (((0 : Int32) + (1 : Int32)) - (1 : Int32)))] [])) _
      refine XS.iloadN X112.here hx rfl (hb hby d4_82) rfl ?_
      show Steps p.tables e below (T112.setTop (mkF m 83 #[.val (.ref a0), .val (.int (0 : Int32)), .val (.int p2), .val (.int (1 : Int32)), .val (.int (((0 : Int32) + (1 : Int32)) - (1 : Int32)))] [(.int (1 : Int32))])) _
      refine XS.iconst X112.here hx rfl (hb hby d4_83) ?_
      show Steps p.tables e below (T112.setTop (mkF m 84 #[.val (.ref a0), .val (.int (0 : Int32)), .val (.int p2), .val (.int (1 : Int32)), .val (.int (((0 : Int32) + (1 : Int32)) - (1 : Int32)))] [(.int (3 : Int32)), (.int (1 : Int32))])) _
      refine XS.icmpYes X112.here hx rfl (pc0 := 84) (pc' := 105) rfl (hb hby d4_84) rfl (flt (by decide : ¬ ((3 : Int32) < (1 : Int32)))).2.2.2 (by decide) (by decide) ?_
      show Steps p.tables e below (T112.setTop (mkF m 105 #[.val (.ref a0), .val (.int (0 : Int32)), .val (.int p2), .val (.int (1 : Int32)), .val (.int (((0 : Int32) + (1 : Int32)) - (1 : Int32)))] [])) _
      refine XS.iconst X112.here hx rfl (hb hby d4_105) ?_
      show Steps p.tables e below (T112.setTop (mkF m 106 #[.val (.ref a0), .val (.int (0 : Int32)), .val (.int p2), .val (.int (1 : Int32)), .val (.int (((0 : Int32) + (1 : Int32)) - (1 : Int32)))] [(.int (1 : Int32))])) _
      exact kt
    obtain ⟨fs, hr, hrun, hended, hW, hsame⟩ := X112.leave (v := some (.int (1 : Int32))) (fun h => by rw [Bd.returns] at h; cases h)
    refine ⟨_, _, pre116 _ ?_, hrun, hended, _, _, rfl, ?_, ⟨_, rfl⟩, hW, hsame.mono (by decide) (by decide)⟩
    · exact retN X112 hx (t := .boolean) Bd.returns (by simp) (hb hby d4_106) hr
    · show Q4_0_1 Z a0 p2 f h0 n0 _ T112.heap _
      rw [e112]
      exact ⟨(own_rI (by rw [if_pos hc115] : (1 : Int32) = (if (f 0) = p2 then (1 : Int32) else (0 : Int32)))), N113, rfl⟩
  · skip
    have pre117 : ∀ t, Steps p.tables e below (T112.setTop (mkF m 35 #[.val (.ref a0), .val (.int (0 : Int32)), .val (.int p2), .val (.int (1 : Int32)), .val (.int (((0 : Int32) + (1 : Int32)) - (1 : Int32)))] [(.int (0 : Int32))])) t → Steps p.tables e below (s₁.setTop (entryFrame m #[(.ref a0), (.int (0 : Int32)), (.int p2), (.int (1 : Int32))] 5)) t := fun t kt => by
      refine pre114 _ ?_
      show Steps p.tables e below (T112.setTop (mkF m 31 #[.val (.ref a0), .val (.int (0 : Int32)), .val (.int p2), .val (.int (1 : Int32)), .val (.int (((0 : Int32) + (1 : Int32)) - (1 : Int32)))] [(.int p2), (.int (f 0))])) _
      refine XS.icmpNo X112.here hx rfl (hb hby d4_31) rfl (feq hc115).1 ?_
      show Steps p.tables e below (T112.setTop (mkF m 34 #[.val (.ref a0), .val (.int (0 : Int32)), .val (.int p2), .val (.int (1 : Int32)), .val (.int (((0 : Int32) + (1 : Int32)) - (1 : Int32)))] [])) _
      refine XS.iconst X112.here hx rfl (hb hby d4_34) ?_
      show Steps p.tables e below (T112.setTop (mkF m 35 #[.val (.ref a0), .val (.int (0 : Int32)), .val (.int p2), .val (.int (1 : Int32)), .val (.int (((0 : Int32) + (1 : Int32)) - (1 : Int32)))] [(.int (0 : Int32))])) _
      exact kt
    obtain ⟨fs, hr, hrun, hended, hW, hsame⟩ := X112.leave (v := some (.int (0 : Int32))) (fun h => by rw [Bd.returns] at h; cases h)
    refine ⟨_, _, pre117 _ ?_, hrun, hended, _, _, rfl, ?_, ⟨_, rfl⟩, hW, hsame.mono (by decide) (by decide)⟩
    · exact retN X112 hx (t := .boolean) Bd.returns (by simp) (hb hby d4_35) hr
    · show Q4_0_1 Z a0 p2 f h0 n0 _ T112.heap _
      rw [e112]
      exact ⟨(own_rI (by rw [if_neg hc115] : (0 : Int32) = (if (f 0) = p2 then (1 : Int32) else (0 : Int32)))), N113, rfl⟩
theorem ef_4_0_2 (m : MethodId) (a0 : Addr) (p2 : Int32) : entryFrame m #[(.ref a0), (.int (0 : Int32)), (.int p2), (.int (2 : Int32))] 5 = mkF m 0 #[.val (.ref a0), .val (.int (0 : Int32)), .val (.int p2), .val (.int (2 : Int32)), .unset] [] := by first | (simp [entryFrame, mkF, argsToLocals, Value.category]; done) | rfl
def Q4_0_2 (Z : State) (a0 : Addr) (p2 : Int32) (f : Nat → Int32) (h0 : Heap) (n0 : Nat) (v : Option Value) (h : Heap) (L : List Loc) : Prop := v = some (.int (0 : Int32)) ∧ Fr n0 L ∧ h = h0
set_option maxRecDepth 65536 in
set_option maxHeartbeats 40000000 in
theorem rm4_0_2 (l : Launch) (Z : State) (aq : Array Value) (hw : ∀ d ∈ tables_1, d.before aq Z = true) (ws : List Jvm.Cond) (a0 : Addr) (p2 : Int32) (f : Nat → Int32) (h0 : Heap) (n0 : Nat) (Z0 : n0 ≤ h0.size) (V_a0 : own_Ar Z h0 a0 .int 4 f) :
    MetFree l (⟨"com/example/xcu/xcu/UnitStringExtendPinLaw", "fits", "([IIII)Z"⟩ : MethodName) (head1 (Jvm.Cond.code (⟨"com/example/xcu/xcu/UnitStringExtendPinLaw", "fits", "([IIII)Z"⟩ : MethodName) method_3_code 5 (some .boolean) :: ws) ({ frames := 0, cells := 0, slots := 0, locals := 0 } : Room)) (fun a U => a = #[(.ref a0), (.int (0 : Int32)), (.int p2), (.int (2 : Int32))] ∧ Z.Warmed39 U.vm ∧ U.heap = h0) (fun _ _ _ _ _ => True) (fun _ U o U' => ∃ v L, o = .returned v ∧ Q4_0_2 Z a0 p2 f h0 n0 v U'.heap L ∧ FrameEnd U o U' L ({ frames := 0, cells := 0, slots := 0, locals := 0 } : Room).cells ({ frames := 0, cells := 0, slots := 0, locals := 0 } : Room).slots) := by
  refine MetFree.of_bodySF (plainFor_of_name pn51678678) hisR ?_
  intro p e s m args below meth c s₁ Bd hml0 hP hK
  obtain ⟨rfl, hZ, hh⟩ := hP
  have hx := Bd.exec
  have hby := Bd.bytes
  have hml : c.maxLocals = 5 := hml0
  have hown : s.vm.findClass "com/example/xcu/xcu/UnitStringExtendPinLaw" = some m.cls := findClass_of_methodNamed Bd.named
  have hnm := (name_of_methodNamed Bd.named Bd.method).1
  have X0 : Stand p l e ({ frames := 0, cells := 0, slots := 0, locals := 0 } : Room) s m #[(.ref a0), (.int (0 : Int32)), (.int p2), (.int (2 : Int32))] below meth c s₁ [] 0 0 := Stand.of_body Bd
  have e0 : s₁.heap = h0 := by rw [← hh, Bd.state]; rfl
  have N0 := Fr.nil n0
  have pre0 : ∀ t, Steps p.tables e below (s₁.setTop (mkF m 0 #[.val (.ref a0), .val (.int (0 : Int32)), .val (.int p2), .val (.int (2 : Int32)), .unset] [])) t → Steps p.tables e below (s₁.setTop (entryFrame m #[(.ref a0), (.int (0 : Int32)), (.int p2), (.int (2 : Int32))] 5)) t := fun t k => castTop (ef_4_0_2 m a0 p2) k
  have pre118 : ∀ t, Steps p.tables e below (s₁.setTop (mkF m 8 #[.val (.ref a0), .val (.int (0 : Int32)), .val (.int p2), .val (.int (2 : Int32)), .unset] [(.int (0 : Int32))])) t → Steps p.tables e below (s₁.setTop (entryFrame m #[(.ref a0), (.int (0 : Int32)), (.int p2), (.int (2 : Int32))] 5)) t := fun t kt => by
    refine pre0 _ ?_
    show Steps p.tables e below (s₁.setTop (mkF m 0 #[.val (.ref a0), .val (.int (0 : Int32)), .val (.int p2), .val (.int (2 : Int32)), .unset] [])) _
    refine XS.iloadN X0.here hx rfl (hb hby d4_0) rfl ?_
    show Steps p.tables e below (s₁.setTop (mkF m 1 #[.val (.ref a0), .val (.int (0 : Int32)), .val (.int p2), .val (.int (2 : Int32)), .unset] [(.int (2 : Int32))])) _
    refine XS.iloadN X0.here hx rfl (hb hby d4_1) rfl ?_
    show Steps p.tables e below (s₁.setTop (mkF m 2 #[.val (.ref a0), .val (.int (0 : Int32)), .val (.int p2), .val (.int (2 : Int32)), .unset] [(.int (0 : Int32)), (.int (2 : Int32))])) _
    refine XS.iconst X0.here hx rfl (hb hby d4_2) ?_
    show Steps p.tables e below (s₁.setTop (mkF m 3 #[.val (.ref a0), .val (.int (0 : Int32)), .val (.int p2), .val (.int (2 : Int32)), .unset] [(.int (1 : Int32)), (.int (0 : Int32)), (.int (2 : Int32))])) _
    refine XS.iadd X0.here hx rfl (hb hby d4_3) rfl ?_
    show Steps p.tables e below (s₁.setTop (mkF m 4 #[.val (.ref a0), .val (.int (0 : Int32)), .val (.int p2), .val (.int (2 : Int32)), .unset] [(.int ((0 : Int32) + (1 : Int32))), (.int (2 : Int32))])) _
    refine XS.icmpNo X0.here hx rfl (hb hby d4_4) rfl (tlt (by decide : ((0 : Int32) + (1 : Int32)) < (2 : Int32))).2.2.2 ?_
    show Steps p.tables e below (s₁.setTop (mkF m 7 #[.val (.ref a0), .val (.int (0 : Int32)), .val (.int p2), .val (.int (2 : Int32)), .unset] [])) _
    refine XS.iconst X0.here hx rfl (hb hby d4_7) ?_
    show Steps p.tables e below (s₁.setTop (mkF m 8 #[.val (.ref a0), .val (.int (0 : Int32)), .val (.int p2), .val (.int (2 : Int32)), .unset] [(.int (0 : Int32))])) _
    exact kt
  obtain ⟨fs, hr, hrun, hended, hW, hsame⟩ := X0.leave (v := some (.int (0 : Int32))) (fun h => by rw [Bd.returns] at h; cases h)
  refine ⟨_, _, pre118 _ ?_, hrun, hended, _, _, rfl, ?_, ⟨_, rfl⟩, hW, hsame.mono (by decide) (by decide)⟩
  · exact retN X0 hx (t := .boolean) Bd.returns (by simp) (hb hby d4_8) hr
  · show Q4_0_2 Z a0 p2 f h0 n0 _ s₁.heap _
    rw [e0]
    exact ⟨rfl, N0, rfl⟩
theorem ef_4_0_3 (m : MethodId) (a0 : Addr) (p2 : Int32) : entryFrame m #[(.ref a0), (.int (0 : Int32)), (.int p2), (.int (3 : Int32))] 5 = mkF m 0 #[.val (.ref a0), .val (.int (0 : Int32)), .val (.int p2), .val (.int (3 : Int32)), .unset] [] := by first | (simp [entryFrame, mkF, argsToLocals, Value.category]; done) | rfl
def Q4_0_3 (Z : State) (a0 : Addr) (p2 : Int32) (f : Nat → Int32) (h0 : Heap) (n0 : Nat) (v : Option Value) (h : Heap) (L : List Loc) : Prop := v = some (.int (0 : Int32)) ∧ Fr n0 L ∧ h = h0
set_option maxRecDepth 65536 in
set_option maxHeartbeats 40000000 in
theorem rm4_0_3 (l : Launch) (Z : State) (aq : Array Value) (hw : ∀ d ∈ tables_1, d.before aq Z = true) (ws : List Jvm.Cond) (a0 : Addr) (p2 : Int32) (f : Nat → Int32) (h0 : Heap) (n0 : Nat) (Z0 : n0 ≤ h0.size) (V_a0 : own_Ar Z h0 a0 .int 4 f) :
    MetFree l (⟨"com/example/xcu/xcu/UnitStringExtendPinLaw", "fits", "([IIII)Z"⟩ : MethodName) (head1 (Jvm.Cond.code (⟨"com/example/xcu/xcu/UnitStringExtendPinLaw", "fits", "([IIII)Z"⟩ : MethodName) method_3_code 5 (some .boolean) :: ws) ({ frames := 0, cells := 0, slots := 0, locals := 0 } : Room)) (fun a U => a = #[(.ref a0), (.int (0 : Int32)), (.int p2), (.int (3 : Int32))] ∧ Z.Warmed39 U.vm ∧ U.heap = h0) (fun _ _ _ _ _ => True) (fun _ U o U' => ∃ v L, o = .returned v ∧ Q4_0_3 Z a0 p2 f h0 n0 v U'.heap L ∧ FrameEnd U o U' L ({ frames := 0, cells := 0, slots := 0, locals := 0 } : Room).cells ({ frames := 0, cells := 0, slots := 0, locals := 0 } : Room).slots) := by
  refine MetFree.of_bodySF (plainFor_of_name pn51678678) hisR ?_
  intro p e s m args below meth c s₁ Bd hml0 hP hK
  obtain ⟨rfl, hZ, hh⟩ := hP
  have hx := Bd.exec
  have hby := Bd.bytes
  have hml : c.maxLocals = 5 := hml0
  have hown : s.vm.findClass "com/example/xcu/xcu/UnitStringExtendPinLaw" = some m.cls := findClass_of_methodNamed Bd.named
  have hnm := (name_of_methodNamed Bd.named Bd.method).1
  have X0 : Stand p l e ({ frames := 0, cells := 0, slots := 0, locals := 0 } : Room) s m #[(.ref a0), (.int (0 : Int32)), (.int p2), (.int (3 : Int32))] below meth c s₁ [] 0 0 := Stand.of_body Bd
  have e0 : s₁.heap = h0 := by rw [← hh, Bd.state]; rfl
  have N0 := Fr.nil n0
  have pre0 : ∀ t, Steps p.tables e below (s₁.setTop (mkF m 0 #[.val (.ref a0), .val (.int (0 : Int32)), .val (.int p2), .val (.int (3 : Int32)), .unset] [])) t → Steps p.tables e below (s₁.setTop (entryFrame m #[(.ref a0), (.int (0 : Int32)), (.int p2), (.int (3 : Int32))] 5)) t := fun t k => castTop (ef_4_0_3 m a0 p2) k
  have pre119 : ∀ t, Steps p.tables e below (s₁.setTop (mkF m 8 #[.val (.ref a0), .val (.int (0 : Int32)), .val (.int p2), .val (.int (3 : Int32)), .unset] [(.int (0 : Int32))])) t → Steps p.tables e below (s₁.setTop (entryFrame m #[(.ref a0), (.int (0 : Int32)), (.int p2), (.int (3 : Int32))] 5)) t := fun t kt => by
    refine pre0 _ ?_
    show Steps p.tables e below (s₁.setTop (mkF m 0 #[.val (.ref a0), .val (.int (0 : Int32)), .val (.int p2), .val (.int (3 : Int32)), .unset] [])) _
    refine XS.iloadN X0.here hx rfl (hb hby d4_0) rfl ?_
    show Steps p.tables e below (s₁.setTop (mkF m 1 #[.val (.ref a0), .val (.int (0 : Int32)), .val (.int p2), .val (.int (3 : Int32)), .unset] [(.int (3 : Int32))])) _
    refine XS.iloadN X0.here hx rfl (hb hby d4_1) rfl ?_
    show Steps p.tables e below (s₁.setTop (mkF m 2 #[.val (.ref a0), .val (.int (0 : Int32)), .val (.int p2), .val (.int (3 : Int32)), .unset] [(.int (0 : Int32)), (.int (3 : Int32))])) _
    refine XS.iconst X0.here hx rfl (hb hby d4_2) ?_
    show Steps p.tables e below (s₁.setTop (mkF m 3 #[.val (.ref a0), .val (.int (0 : Int32)), .val (.int p2), .val (.int (3 : Int32)), .unset] [(.int (1 : Int32)), (.int (0 : Int32)), (.int (3 : Int32))])) _
    refine XS.iadd X0.here hx rfl (hb hby d4_3) rfl ?_
    show Steps p.tables e below (s₁.setTop (mkF m 4 #[.val (.ref a0), .val (.int (0 : Int32)), .val (.int p2), .val (.int (3 : Int32)), .unset] [(.int ((0 : Int32) + (1 : Int32))), (.int (3 : Int32))])) _
    refine XS.icmpNo X0.here hx rfl (hb hby d4_4) rfl (tlt (by decide : ((0 : Int32) + (1 : Int32)) < (3 : Int32))).2.2.2 ?_
    show Steps p.tables e below (s₁.setTop (mkF m 7 #[.val (.ref a0), .val (.int (0 : Int32)), .val (.int p2), .val (.int (3 : Int32)), .unset] [])) _
    refine XS.iconst X0.here hx rfl (hb hby d4_7) ?_
    show Steps p.tables e below (s₁.setTop (mkF m 8 #[.val (.ref a0), .val (.int (0 : Int32)), .val (.int p2), .val (.int (3 : Int32)), .unset] [(.int (0 : Int32))])) _
    exact kt
  obtain ⟨fs, hr, hrun, hended, hW, hsame⟩ := X0.leave (v := some (.int (0 : Int32))) (fun h => by rw [Bd.returns] at h; cases h)
  refine ⟨_, _, pre119 _ ?_, hrun, hended, _, _, rfl, ?_, ⟨_, rfl⟩, hW, hsame.mono (by decide) (by decide)⟩
  · exact retN X0 hx (t := .boolean) Bd.returns (by simp) (hb hby d4_8) hr
  · show Q4_0_3 Z a0 p2 f h0 n0 _ s₁.heap _
    rw [e0]
    exact ⟨rfl, N0, rfl⟩
theorem ef_4_0_4 (m : MethodId) (a0 : Addr) (p2 : Int32) : entryFrame m #[(.ref a0), (.int (0 : Int32)), (.int p2), (.int (4 : Int32))] 5 = mkF m 0 #[.val (.ref a0), .val (.int (0 : Int32)), .val (.int p2), .val (.int (4 : Int32)), .unset] [] := by first | (simp [entryFrame, mkF, argsToLocals, Value.category]; done) | rfl
def Q4_0_4 (Z : State) (a0 : Addr) (p2 : Int32) (f : Nat → Int32) (h0 : Heap) (n0 : Nat) (v : Option Value) (h : Heap) (L : List Loc) : Prop := v = some (.int (0 : Int32)) ∧ Fr n0 L ∧ h = h0
set_option maxRecDepth 65536 in
set_option maxHeartbeats 40000000 in
theorem rm4_0_4 (l : Launch) (Z : State) (aq : Array Value) (hw : ∀ d ∈ tables_1, d.before aq Z = true) (ws : List Jvm.Cond) (a0 : Addr) (p2 : Int32) (f : Nat → Int32) (h0 : Heap) (n0 : Nat) (Z0 : n0 ≤ h0.size) (V_a0 : own_Ar Z h0 a0 .int 4 f) :
    MetFree l (⟨"com/example/xcu/xcu/UnitStringExtendPinLaw", "fits", "([IIII)Z"⟩ : MethodName) (head1 (Jvm.Cond.code (⟨"com/example/xcu/xcu/UnitStringExtendPinLaw", "fits", "([IIII)Z"⟩ : MethodName) method_3_code 5 (some .boolean) :: ws) ({ frames := 0, cells := 0, slots := 0, locals := 0 } : Room)) (fun a U => a = #[(.ref a0), (.int (0 : Int32)), (.int p2), (.int (4 : Int32))] ∧ Z.Warmed39 U.vm ∧ U.heap = h0) (fun _ _ _ _ _ => True) (fun _ U o U' => ∃ v L, o = .returned v ∧ Q4_0_4 Z a0 p2 f h0 n0 v U'.heap L ∧ FrameEnd U o U' L ({ frames := 0, cells := 0, slots := 0, locals := 0 } : Room).cells ({ frames := 0, cells := 0, slots := 0, locals := 0 } : Room).slots) := by
  refine MetFree.of_bodySF (plainFor_of_name pn51678678) hisR ?_
  intro p e s m args below meth c s₁ Bd hml0 hP hK
  obtain ⟨rfl, hZ, hh⟩ := hP
  have hx := Bd.exec
  have hby := Bd.bytes
  have hml : c.maxLocals = 5 := hml0
  have hown : s.vm.findClass "com/example/xcu/xcu/UnitStringExtendPinLaw" = some m.cls := findClass_of_methodNamed Bd.named
  have hnm := (name_of_methodNamed Bd.named Bd.method).1
  have X0 : Stand p l e ({ frames := 0, cells := 0, slots := 0, locals := 0 } : Room) s m #[(.ref a0), (.int (0 : Int32)), (.int p2), (.int (4 : Int32))] below meth c s₁ [] 0 0 := Stand.of_body Bd
  have e0 : s₁.heap = h0 := by rw [← hh, Bd.state]; rfl
  have N0 := Fr.nil n0
  have pre0 : ∀ t, Steps p.tables e below (s₁.setTop (mkF m 0 #[.val (.ref a0), .val (.int (0 : Int32)), .val (.int p2), .val (.int (4 : Int32)), .unset] [])) t → Steps p.tables e below (s₁.setTop (entryFrame m #[(.ref a0), (.int (0 : Int32)), (.int p2), (.int (4 : Int32))] 5)) t := fun t k => castTop (ef_4_0_4 m a0 p2) k
  have pre120 : ∀ t, Steps p.tables e below (s₁.setTop (mkF m 8 #[.val (.ref a0), .val (.int (0 : Int32)), .val (.int p2), .val (.int (4 : Int32)), .unset] [(.int (0 : Int32))])) t → Steps p.tables e below (s₁.setTop (entryFrame m #[(.ref a0), (.int (0 : Int32)), (.int p2), (.int (4 : Int32))] 5)) t := fun t kt => by
    refine pre0 _ ?_
    show Steps p.tables e below (s₁.setTop (mkF m 0 #[.val (.ref a0), .val (.int (0 : Int32)), .val (.int p2), .val (.int (4 : Int32)), .unset] [])) _
    refine XS.iloadN X0.here hx rfl (hb hby d4_0) rfl ?_
    show Steps p.tables e below (s₁.setTop (mkF m 1 #[.val (.ref a0), .val (.int (0 : Int32)), .val (.int p2), .val (.int (4 : Int32)), .unset] [(.int (4 : Int32))])) _
    refine XS.iloadN X0.here hx rfl (hb hby d4_1) rfl ?_
    show Steps p.tables e below (s₁.setTop (mkF m 2 #[.val (.ref a0), .val (.int (0 : Int32)), .val (.int p2), .val (.int (4 : Int32)), .unset] [(.int (0 : Int32)), (.int (4 : Int32))])) _
    refine XS.iconst X0.here hx rfl (hb hby d4_2) ?_
    show Steps p.tables e below (s₁.setTop (mkF m 3 #[.val (.ref a0), .val (.int (0 : Int32)), .val (.int p2), .val (.int (4 : Int32)), .unset] [(.int (1 : Int32)), (.int (0 : Int32)), (.int (4 : Int32))])) _
    refine XS.iadd X0.here hx rfl (hb hby d4_3) rfl ?_
    show Steps p.tables e below (s₁.setTop (mkF m 4 #[.val (.ref a0), .val (.int (0 : Int32)), .val (.int p2), .val (.int (4 : Int32)), .unset] [(.int ((0 : Int32) + (1 : Int32))), (.int (4 : Int32))])) _
    refine XS.icmpNo X0.here hx rfl (hb hby d4_4) rfl (tlt (by decide : ((0 : Int32) + (1 : Int32)) < (4 : Int32))).2.2.2 ?_
    show Steps p.tables e below (s₁.setTop (mkF m 7 #[.val (.ref a0), .val (.int (0 : Int32)), .val (.int p2), .val (.int (4 : Int32)), .unset] [])) _
    refine XS.iconst X0.here hx rfl (hb hby d4_7) ?_
    show Steps p.tables e below (s₁.setTop (mkF m 8 #[.val (.ref a0), .val (.int (0 : Int32)), .val (.int p2), .val (.int (4 : Int32)), .unset] [(.int (0 : Int32))])) _
    exact kt
  obtain ⟨fs, hr, hrun, hended, hW, hsame⟩ := X0.leave (v := some (.int (0 : Int32))) (fun h => by rw [Bd.returns] at h; cases h)
  refine ⟨_, _, pre120 _ ?_, hrun, hended, _, _, rfl, ?_, ⟨_, rfl⟩, hW, hsame.mono (by decide) (by decide)⟩
  · exact retN X0 hx (t := .boolean) Bd.returns (by simp) (hb hby d4_8) hr
  · show Q4_0_4 Z a0 p2 f h0 n0 _ s₁.heap _
    rw [e0]
    exact ⟨rfl, N0, rfl⟩
theorem ef_4_1_1 (m : MethodId) (a0 : Addr) (p2 : Int32) : entryFrame m #[(.ref a0), (.int (1 : Int32)), (.int p2), (.int (1 : Int32))] 5 = mkF m 0 #[.val (.ref a0), .val (.int (1 : Int32)), .val (.int p2), .val (.int (1 : Int32)), .unset] [] := by first | (simp [entryFrame, mkF, argsToLocals, Value.category]; done) | rfl
def Q4_1_1 (Z : State) (a0 : Addr) (p2 : Int32) (f : Nat → Int32) (h0 : Heap) (n0 : Nat) (v : Option Value) (h : Heap) (L : List Loc) : Prop := v = some (.int (if (f 0) = p2 then (1 : Int32) else (0 : Int32))) ∧ Fr n0 L ∧ h = h0
set_option maxRecDepth 65536 in
set_option maxHeartbeats 40000000 in
theorem rm4_1_1 (l : Launch) (Z : State) (aq : Array Value) (hw : ∀ d ∈ tables_1, d.before aq Z = true) (ws : List Jvm.Cond) (a0 : Addr) (p2 : Int32) (f : Nat → Int32) (h0 : Heap) (n0 : Nat) (Z0 : n0 ≤ h0.size) (V_a0 : own_Ar Z h0 a0 .int 4 f) :
    MetFree l (⟨"com/example/xcu/xcu/UnitStringExtendPinLaw", "fits", "([IIII)Z"⟩ : MethodName) (head1 (Jvm.Cond.code (⟨"com/example/xcu/xcu/UnitStringExtendPinLaw", "fits", "([IIII)Z"⟩ : MethodName) method_3_code 5 (some .boolean) :: ws) ({ frames := 1, cells := 0, slots := 0, locals := 16 } : Room)) (fun a U => a = #[(.ref a0), (.int (1 : Int32)), (.int p2), (.int (1 : Int32))] ∧ Z.Warmed39 U.vm ∧ U.heap = h0) (fun _ _ _ _ _ => True) (fun _ U o U' => ∃ v L, o = .returned v ∧ Q4_1_1 Z a0 p2 f h0 n0 v U'.heap L ∧ FrameEnd U o U' L ({ frames := 1, cells := 0, slots := 0, locals := 16 } : Room).cells ({ frames := 1, cells := 0, slots := 0, locals := 16 } : Room).slots) := by
  refine MetFree.of_bodySF (plainFor_of_name pn51678678) hisR ?_
  intro p e s m args below meth c s₁ Bd hml0 hP hK
  obtain ⟨rfl, hZ, hh⟩ := hP
  have hx := Bd.exec
  have hby := Bd.bytes
  have hml : c.maxLocals = 5 := hml0
  have hown : s.vm.findClass "com/example/xcu/xcu/UnitStringExtendPinLaw" = some m.cls := findClass_of_methodNamed Bd.named
  have hnm := (name_of_methodNamed Bd.named Bd.method).1
  have X0 : Stand p l e ({ frames := 1, cells := 0, slots := 0, locals := 16 } : Room) s m #[(.ref a0), (.int (1 : Int32)), (.int p2), (.int (1 : Int32))] below meth c s₁ [] 0 0 := Stand.of_body Bd
  have e0 : s₁.heap = h0 := by rw [← hh, Bd.state]; rfl
  have N0 := Fr.nil n0
  have pre0 : ∀ t, Steps p.tables e below (s₁.setTop (mkF m 0 #[.val (.ref a0), .val (.int (1 : Int32)), .val (.int p2), .val (.int (1 : Int32)), .unset] [])) t → Steps p.tables e below (s₁.setTop (entryFrame m #[(.ref a0), (.int (1 : Int32)), (.int p2), (.int (1 : Int32))] 5)) t := fun t k => castTop (ef_4_1_1 m a0 p2) k
  obtain ⟨_, _, ⟨T125, L125, k125, n125⟩, -, X125, ⟨Lc125, hQ125, l125, y125, z125⟩, st125⟩ := Jvm.LawKit.callS X0 hx (y := (⟨"com/example/xcu/xcu/UnitStringExtendPinLaw", "sAt", "([IIII)I"⟩ : MethodName)) hown (mvT hZ (hw _ (List.mem_of_getElem? (i := 35) rfl))) (mvT hZ (hw _ (List.mem_of_getElem? (i := 36) rfl))) (mvT hZ (hw _ (List.mem_of_getElem? (i := 33) rfl))) (mvT hZ (hw _ (List.mem_of_getElem? (i := 37) rfl))) (by decide) (backOf (W := 1) (rm5_1_1 l Z aq hw [] a0 p2 f h0 n0 Z0 V_a0) hZ (hw _ (List.mem_of_getElem? (i := 37) rfl)) (hw _ (List.mem_of_getElem? (i := 33) rfl)) (by decide) (by decide)) (g := (mkF m 28 #[.val (.ref a0), .val (.int (1 : Int32)), .val (.int p2), .val (.int (1 : Int32)), .val (.int (((1 : Int32) + (1 : Int32)) - (1 : Int32)))] [(.int (((1 : Int32) + (1 : Int32)) - (1 : Int32))), (.int p2), (.int (1 : Int32)), (.ref a0), (.int (f 0))])) rfl (by rw [hml]; rfl) (argsL := [(.ref a0), (.int (1 : Int32)), (.int p2), (.int (((1 : Int32) + (1 : Int32)) - (1 : Int32)))]) (rest := [(.int (f 0))]) (lenOf pd21711166 rfl) rfl (by show 2 * 0 + _ ≤ _; exact Nat.le_of_eq rfl) (hb hby d4_28) (fun _ _ => ⟨rfl, e0, (by decide : 0 + 0 ≤ _), (by decide : 0 + 0 ≤ _)⟩)
  dsimp only [Pt.U, Pt.locs, Pt.cells, Pt.slots] at X125 l125 y125 z125 st125 hQ125
  subst l125 y125 z125
  obtain ⟨rfl, N125q, e125⟩ := hQ125
  have N126 := Fr.app N0 N125q
  have pre127 : ∀ t, Steps p.tables e below (T125.setTop (mkF m 31 #[.val (.ref a0), .val (.int (1 : Int32)), .val (.int p2), .val (.int (1 : Int32)), .val (.int (((1 : Int32) + (1 : Int32)) - (1 : Int32)))] [(.int p2), (.int (f 0))])) t → Steps p.tables e below (s₁.setTop (entryFrame m #[(.ref a0), (.int (1 : Int32)), (.int p2), (.int (1 : Int32))] 5)) t := fun t kt => by
    refine pre0 _ ?_
    show Steps p.tables e below (s₁.setTop (mkF m 0 #[.val (.ref a0), .val (.int (1 : Int32)), .val (.int p2), .val (.int (1 : Int32)), .unset] [])) _
    refine XS.iloadN X0.here hx rfl (hb hby d4_0) rfl ?_
    show Steps p.tables e below (s₁.setTop (mkF m 1 #[.val (.ref a0), .val (.int (1 : Int32)), .val (.int p2), .val (.int (1 : Int32)), .unset] [(.int (1 : Int32))])) _
    refine XS.iloadN X0.here hx rfl (hb hby d4_1) rfl ?_
    show Steps p.tables e below (s₁.setTop (mkF m 2 #[.val (.ref a0), .val (.int (1 : Int32)), .val (.int p2), .val (.int (1 : Int32)), .unset] [(.int (1 : Int32)), (.int (1 : Int32))])) _
    refine XS.iconst X0.here hx rfl (hb hby d4_2) ?_
    show Steps p.tables e below (s₁.setTop (mkF m 3 #[.val (.ref a0), .val (.int (1 : Int32)), .val (.int p2), .val (.int (1 : Int32)), .unset] [(.int (1 : Int32)), (.int (1 : Int32)), (.int (1 : Int32))])) _
    refine XS.iadd X0.here hx rfl (hb hby d4_3) rfl ?_
    show Steps p.tables e below (s₁.setTop (mkF m 4 #[.val (.ref a0), .val (.int (1 : Int32)), .val (.int p2), .val (.int (1 : Int32)), .unset] [(.int ((1 : Int32) + (1 : Int32))), (.int (1 : Int32))])) _
    refine XS.icmpYes X0.here hx rfl (pc0 := 4) (pc' := 9) rfl (hb hby d4_4) rfl (flt (by decide : ¬ (((1 : Int32) + (1 : Int32)) < (1 : Int32)))).2.2.2 (by decide) (by decide) ?_
    show Steps p.tables e below (s₁.setTop (mkF m 9 #[.val (.ref a0), .val (.int (1 : Int32)), .val (.int p2), .val (.int (1 : Int32)), .unset] [])) _
    refine XS.iloadN X0.here hx rfl (hb hby d4_9) rfl ?_
    show Steps p.tables e below (s₁.setTop (mkF m 10 #[.val (.ref a0), .val (.int (1 : Int32)), .val (.int p2), .val (.int (1 : Int32)), .unset] [(.int (1 : Int32))])) _
    refine XS.iconst X0.here hx rfl (hb hby d4_10) ?_
    show Steps p.tables e below (s₁.setTop (mkF m 11 #[.val (.ref a0), .val (.int (1 : Int32)), .val (.int p2), .val (.int (1 : Int32)), .unset] [(.int (1 : Int32)), (.int (1 : Int32))])) _
    refine XS.iadd X0.here hx rfl (hb hby d4_11) rfl ?_
    show Steps p.tables e below (s₁.setTop (mkF m 12 #[.val (.ref a0), .val (.int (1 : Int32)), .val (.int p2), .val (.int (1 : Int32)), .unset] [(.int ((1 : Int32) + (1 : Int32)))])) _
    refine XS.iloadN X0.here hx rfl (hb hby d4_12) rfl ?_
    show Steps p.tables e below (s₁.setTop (mkF m 13 #[.val (.ref a0), .val (.int (1 : Int32)), .val (.int p2), .val (.int (1 : Int32)), .unset] [(.int (1 : Int32)), (.int ((1 : Int32) + (1 : Int32)))])) _
    refine XS.isub X0.here hx rfl (hb hby d4_13) rfl ?_
    show Steps p.tables e below (s₁.setTop (mkF m 14 #[.val (.ref a0), .val (.int (1 : Int32)), .val (.int p2), .val (.int (1 : Int32)), .unset] [(.int (((1 : Int32) + (1 : Int32)) - (1 : Int32)))])) _
    refine XS.istore X0.here hx rfl (hb hby d4_14) rfl (l' := #[.val (.ref a0), .val (.int (1 : Int32)), .val (.int p2), .val (.int (1 : Int32)), .val (.int (((1 : Int32) + (1 : Int32)) - (1 : Int32)))]) rfl ?_
    show Steps p.tables e below (s₁.setTop (mkF m 16 #[.val (.ref a0), .val (.int (1 : Int32)), .val (.int p2), .val (.int (1 : Int32)), .val (.int (((1 : Int32) + (1 : Int32)) - (1 : Int32)))] [])) _
    refine XS.iloadN X0.here hx rfl (hb hby d4_16) rfl ?_
    show Steps p.tables e below (s₁.setTop (mkF m 17 #[.val (.ref a0), .val (.int (1 : Int32)), .val (.int p2), .val (.int (1 : Int32)), .val (.int (((1 : Int32) + (1 : Int32)) - (1 : Int32)))] [(.int (1 : Int32))])) _
    refine XS.ifNo X0.here hx rfl (hb hby d4_17) rfl ((if0 _ _).trans (tlt (by decide : (0 : Int32) < (1 : Int32))).2.2.2) ?_
    show Steps p.tables e below (s₁.setTop (mkF m 20 #[.val (.ref a0), .val (.int (1 : Int32)), .val (.int p2), .val (.int (1 : Int32)), .val (.int (((1 : Int32) + (1 : Int32)) - (1 : Int32)))] [])) _
    refine XS.aloadN X0.here hx rfl (hb hby d4_20) rfl rfl ?_
    show Steps p.tables e below (s₁.setTop (mkF m 21 #[.val (.ref a0), .val (.int (1 : Int32)), .val (.int p2), .val (.int (1 : Int32)), .val (.int (((1 : Int32) + (1 : Int32)) - (1 : Int32)))] [(.ref a0)])) _
    refine XS.iconst X0.here hx rfl (hb hby d4_21) ?_
    show Steps p.tables e below (s₁.setTop (mkF m 22 #[.val (.ref a0), .val (.int (1 : Int32)), .val (.int p2), .val (.int (1 : Int32)), .val (.int (((1 : Int32) + (1 : Int32)) - (1 : Int32)))] [(.int (0 : Int32)), (.ref a0)])) _
    refine own_rdI X0 hx hZ e0 V_a0 (j := (0 : Int32)) (i := 0) (by decide) (by decide) (g := (mkF m 22 #[.val (.ref a0), .val (.int (1 : Int32)), .val (.int p2), .val (.int (1 : Int32)), .val (.int (((1 : Int32) + (1 : Int32)) - (1 : Int32)))] [(.int (0 : Int32)), (.ref a0)])) rfl rfl (hb hby d4_22) _ ?_
    show Steps p.tables e below (s₁.setTop (mkF m 23 #[.val (.ref a0), .val (.int (1 : Int32)), .val (.int p2), .val (.int (1 : Int32)), .val (.int (((1 : Int32) + (1 : Int32)) - (1 : Int32)))] [(.int (f 0))])) _
    refine XS.aloadN X0.here hx rfl (hb hby d4_23) rfl rfl ?_
    show Steps p.tables e below (s₁.setTop (mkF m 24 #[.val (.ref a0), .val (.int (1 : Int32)), .val (.int p2), .val (.int (1 : Int32)), .val (.int (((1 : Int32) + (1 : Int32)) - (1 : Int32)))] [(.ref a0), (.int (f 0))])) _
    refine XS.iloadN X0.here hx rfl (hb hby d4_24) rfl ?_
    show Steps p.tables e below (s₁.setTop (mkF m 25 #[.val (.ref a0), .val (.int (1 : Int32)), .val (.int p2), .val (.int (1 : Int32)), .val (.int (((1 : Int32) + (1 : Int32)) - (1 : Int32)))] [(.int (1 : Int32)), (.ref a0), (.int (f 0))])) _
    refine XS.iloadN X0.here hx rfl (hb hby d4_25) rfl ?_
    show Steps p.tables e below (s₁.setTop (mkF m 26 #[.val (.ref a0), .val (.int (1 : Int32)), .val (.int p2), .val (.int (1 : Int32)), .val (.int (((1 : Int32) + (1 : Int32)) - (1 : Int32)))] [(.int p2), (.int (1 : Int32)), (.ref a0), (.int (f 0))])) _
    refine XS.iload X0.here hx rfl (hb hby d4_26) rfl ?_
    show Steps p.tables e below (s₁.setTop (mkF m 28 #[.val (.ref a0), .val (.int (1 : Int32)), .val (.int p2), .val (.int (1 : Int32)), .val (.int (((1 : Int32) + (1 : Int32)) - (1 : Int32)))] [(.int (((1 : Int32) + (1 : Int32)) - (1 : Int32))), (.int p2), (.int (1 : Int32)), (.ref a0), (.int (f 0))])) _
    refine st125 _ ?_
    show Steps p.tables e below (T125.setTop (mkF m 31 #[.val (.ref a0), .val (.int (1 : Int32)), .val (.int p2), .val (.int (1 : Int32)), .val (.int (((1 : Int32) + (1 : Int32)) - (1 : Int32)))] [(.int p2), (.int (f 0))])) _
    exact kt
  by_cases hc128 : (f 0) = p2
  · skip
    have pre129 : ∀ t, Steps p.tables e below (T125.setTop (mkF m 106 #[.val (.ref a0), .val (.int (1 : Int32)), .val (.int p2), .val (.int (1 : Int32)), .val (.int (((1 : Int32) + (1 : Int32)) - (1 : Int32)))] [(.int (1 : Int32))])) t → Steps p.tables e below (s₁.setTop (entryFrame m #[(.ref a0), (.int (1 : Int32)), (.int p2), (.int (1 : Int32))] 5)) t := fun t kt => by
      refine pre127 _ ?_
      show Steps p.tables e below (T125.setTop (mkF m 31 #[.val (.ref a0), .val (.int (1 : Int32)), .val (.int p2), .val (.int (1 : Int32)), .val (.int (((1 : Int32) + (1 : Int32)) - (1 : Int32)))] [(.int p2), (.int (f 0))])) _
      refine XS.icmpYes X125.here hx rfl (pc0 := 31) (pc' := 36) rfl (hb hby d4_31) rfl (teq hc128).1 (by decide) (by decide) ?_
      show Steps p.tables e below (T125.setTop (mkF m 36 #[.val (.ref a0), .val (.int (1 : Int32)), .val (.int p2), .val (.int (1 : Int32)), .val (.int (((1 : Int32) + (1 : Int32)) - (1 : Int32)))] [])) _
      refine XS.iloadN X125.here hx rfl (hb hby d4_36) rfl ?_
      show Steps p.tables e below (T125.setTop (mkF m 37 #[.val (.ref a0), .val (.int (1 : Int32)), .val (.int p2), .val (.int (1 : Int32)), .val (.int (((1 : Int32) + (1 : Int32)) - (1 : Int32)))] [(.int (1 : Int32))])) _
      refine XS.iconst X125.here hx rfl (hb hby d4_37) ?_
      show Steps p.tables e below (T125.setTop (mkF m 38 #[.val (.ref a0), .val (.int (1 : Int32)), .val (.int p2), .val (.int (1 : Int32)), .val (.int (((1 : Int32) + (1 : Int32)) - (1 : Int32)))] [(.int (1 : Int32)), (.int (1 : Int32))])) _
      refine XS.icmpYes X125.here hx rfl (pc0 := 38) (pc' := 59) rfl (hb hby d4_38) rfl (flt (by decide : ¬ ((1 : Int32) < (1 : Int32)))).2.2.2 (by decide) (by decide) ?_
      show Steps p.tables e below (T125.setTop (mkF m 59 #[.val (.ref a0), .val (.int (1 : Int32)), .val (.int p2), .val (.int (1 : Int32)), .val (.int (((1 : Int32) + (1 : Int32)) - (1 : Int32)))] [])) _
      refine XS.iloadN X125.here hx rfl (hb hby d4_59) rfl ?_
      show Steps p.tables e below (T125.setTop (mkF m 60 #[.val (.ref a0), .val (.int (1 : Int32)), .val (.int p2), .val (.int (1 : Int32)), .val (.int (((1 : Int32) + (1 : Int32)) - (1 : Int32)))] [(.int (1 : Int32))])) _
      refine XS.iconst X125.here hx rfl (hb hby d4_60) ?_
      show Steps p.tables e below (T125.setTop (mkF m 61 #[.val (.ref a0), .val (.int (1 : Int32)), .val (.int p2), .val (.int (1 : Int32)), .val (.int (((1 : Int32) + (1 : Int32)) - (1 : Int32)))] [(.int (2 : Int32)), (.int (1 : Int32))])) _
      refine XS.icmpYes X125.here hx rfl (pc0 := 61) (pc' := 82) rfl (hb hby d4_61) rfl (flt (by decide : ¬ ((2 : Int32) < (1 : Int32)))).2.2.2 (by decide) (by decide) ?_
      show Steps p.tables e below (T125.setTop (mkF m 82 #[.val (.ref a0), .val (.int (1 : Int32)), .val (.int p2), .val (.int (1 : Int32)), .val (.int (((1 : Int32) + (1 : Int32)) - (1 : Int32)))] [])) _
      refine XS.iloadN X125.here hx rfl (hb hby d4_82) rfl ?_
      show Steps p.tables e below (T125.setTop (mkF m 83 #[.val (.ref a0), .val (.int (1 : Int32)), .val (.int p2), .val (.int (1 : Int32)), .val (.int (((1 : Int32) + (1 : Int32)) - (1 : Int32)))] [(.int (1 : Int32))])) _
      refine XS.iconst X125.here hx rfl (hb hby d4_83) ?_
      show Steps p.tables e below (T125.setTop (mkF m 84 #[.val (.ref a0), .val (.int (1 : Int32)), .val (.int p2), .val (.int (1 : Int32)), .val (.int (((1 : Int32) + (1 : Int32)) - (1 : Int32)))] [(.int (3 : Int32)), (.int (1 : Int32))])) _
      refine XS.icmpYes X125.here hx rfl (pc0 := 84) (pc' := 105) rfl (hb hby d4_84) rfl (flt (by decide : ¬ ((3 : Int32) < (1 : Int32)))).2.2.2 (by decide) (by decide) ?_
      show Steps p.tables e below (T125.setTop (mkF m 105 #[.val (.ref a0), .val (.int (1 : Int32)), .val (.int p2), .val (.int (1 : Int32)), .val (.int (((1 : Int32) + (1 : Int32)) - (1 : Int32)))] [])) _
      refine XS.iconst X125.here hx rfl (hb hby d4_105) ?_
      show Steps p.tables e below (T125.setTop (mkF m 106 #[.val (.ref a0), .val (.int (1 : Int32)), .val (.int p2), .val (.int (1 : Int32)), .val (.int (((1 : Int32) + (1 : Int32)) - (1 : Int32)))] [(.int (1 : Int32))])) _
      exact kt
    obtain ⟨fs, hr, hrun, hended, hW, hsame⟩ := X125.leave (v := some (.int (1 : Int32))) (fun h => by rw [Bd.returns] at h; cases h)
    refine ⟨_, _, pre129 _ ?_, hrun, hended, _, _, rfl, ?_, ⟨_, rfl⟩, hW, hsame.mono (by decide) (by decide)⟩
    · exact retN X125 hx (t := .boolean) Bd.returns (by simp) (hb hby d4_106) hr
    · show Q4_1_1 Z a0 p2 f h0 n0 _ T125.heap _
      rw [e125]
      exact ⟨(own_rI (by rw [if_pos hc128] : (1 : Int32) = (if (f 0) = p2 then (1 : Int32) else (0 : Int32)))), N126, rfl⟩
  · skip
    have pre130 : ∀ t, Steps p.tables e below (T125.setTop (mkF m 35 #[.val (.ref a0), .val (.int (1 : Int32)), .val (.int p2), .val (.int (1 : Int32)), .val (.int (((1 : Int32) + (1 : Int32)) - (1 : Int32)))] [(.int (0 : Int32))])) t → Steps p.tables e below (s₁.setTop (entryFrame m #[(.ref a0), (.int (1 : Int32)), (.int p2), (.int (1 : Int32))] 5)) t := fun t kt => by
      refine pre127 _ ?_
      show Steps p.tables e below (T125.setTop (mkF m 31 #[.val (.ref a0), .val (.int (1 : Int32)), .val (.int p2), .val (.int (1 : Int32)), .val (.int (((1 : Int32) + (1 : Int32)) - (1 : Int32)))] [(.int p2), (.int (f 0))])) _
      refine XS.icmpNo X125.here hx rfl (hb hby d4_31) rfl (feq hc128).1 ?_
      show Steps p.tables e below (T125.setTop (mkF m 34 #[.val (.ref a0), .val (.int (1 : Int32)), .val (.int p2), .val (.int (1 : Int32)), .val (.int (((1 : Int32) + (1 : Int32)) - (1 : Int32)))] [])) _
      refine XS.iconst X125.here hx rfl (hb hby d4_34) ?_
      show Steps p.tables e below (T125.setTop (mkF m 35 #[.val (.ref a0), .val (.int (1 : Int32)), .val (.int p2), .val (.int (1 : Int32)), .val (.int (((1 : Int32) + (1 : Int32)) - (1 : Int32)))] [(.int (0 : Int32))])) _
      exact kt
    obtain ⟨fs, hr, hrun, hended, hW, hsame⟩ := X125.leave (v := some (.int (0 : Int32))) (fun h => by rw [Bd.returns] at h; cases h)
    refine ⟨_, _, pre130 _ ?_, hrun, hended, _, _, rfl, ?_, ⟨_, rfl⟩, hW, hsame.mono (by decide) (by decide)⟩
    · exact retN X125 hx (t := .boolean) Bd.returns (by simp) (hb hby d4_35) hr
    · show Q4_1_1 Z a0 p2 f h0 n0 _ T125.heap _
      rw [e125]
      exact ⟨(own_rI (by rw [if_neg hc128] : (0 : Int32) = (if (f 0) = p2 then (1 : Int32) else (0 : Int32)))), N126, rfl⟩
theorem ef_4_1_2 (m : MethodId) (a0 : Addr) (p2 : Int32) : entryFrame m #[(.ref a0), (.int (1 : Int32)), (.int p2), (.int (2 : Int32))] 5 = mkF m 0 #[.val (.ref a0), .val (.int (1 : Int32)), .val (.int p2), .val (.int (2 : Int32)), .unset] [] := by first | (simp [entryFrame, mkF, argsToLocals, Value.category]; done) | rfl
def Q4_1_2 (Z : State) (a0 : Addr) (p2 : Int32) (f : Nat → Int32) (h0 : Heap) (n0 : Nat) (v : Option Value) (h : Heap) (L : List Loc) : Prop := v = some (.int (if (f 1) = p2 then (1 : Int32) else (0 : Int32))) ∧ Fr n0 L ∧ h = h0
set_option maxRecDepth 65536 in
set_option maxHeartbeats 40000000 in
theorem rm4_1_2 (l : Launch) (Z : State) (aq : Array Value) (hw : ∀ d ∈ tables_1, d.before aq Z = true) (ws : List Jvm.Cond) (a0 : Addr) (p2 : Int32) (f : Nat → Int32) (h0 : Heap) (n0 : Nat) (Z0 : n0 ≤ h0.size) (V_a0 : own_Ar Z h0 a0 .int 4 f) :
    MetFree l (⟨"com/example/xcu/xcu/UnitStringExtendPinLaw", "fits", "([IIII)Z"⟩ : MethodName) (head1 (Jvm.Cond.code (⟨"com/example/xcu/xcu/UnitStringExtendPinLaw", "fits", "([IIII)Z"⟩ : MethodName) method_3_code 5 (some .boolean) :: ws) ({ frames := 1, cells := 0, slots := 0, locals := 16 } : Room)) (fun a U => a = #[(.ref a0), (.int (1 : Int32)), (.int p2), (.int (2 : Int32))] ∧ Z.Warmed39 U.vm ∧ U.heap = h0) (fun _ _ _ _ _ => True) (fun _ U o U' => ∃ v L, o = .returned v ∧ Q4_1_2 Z a0 p2 f h0 n0 v U'.heap L ∧ FrameEnd U o U' L ({ frames := 1, cells := 0, slots := 0, locals := 16 } : Room).cells ({ frames := 1, cells := 0, slots := 0, locals := 16 } : Room).slots) := by
  refine MetFree.of_bodySF (plainFor_of_name pn51678678) hisR ?_
  intro p e s m args below meth c s₁ Bd hml0 hP hK
  obtain ⟨rfl, hZ, hh⟩ := hP
  have hx := Bd.exec
  have hby := Bd.bytes
  have hml : c.maxLocals = 5 := hml0
  have hown : s.vm.findClass "com/example/xcu/xcu/UnitStringExtendPinLaw" = some m.cls := findClass_of_methodNamed Bd.named
  have hnm := (name_of_methodNamed Bd.named Bd.method).1
  have X0 : Stand p l e ({ frames := 1, cells := 0, slots := 0, locals := 16 } : Room) s m #[(.ref a0), (.int (1 : Int32)), (.int p2), (.int (2 : Int32))] below meth c s₁ [] 0 0 := Stand.of_body Bd
  have e0 : s₁.heap = h0 := by rw [← hh, Bd.state]; rfl
  have N0 := Fr.nil n0
  have pre0 : ∀ t, Steps p.tables e below (s₁.setTop (mkF m 0 #[.val (.ref a0), .val (.int (1 : Int32)), .val (.int p2), .val (.int (2 : Int32)), .unset] [])) t → Steps p.tables e below (s₁.setTop (entryFrame m #[(.ref a0), (.int (1 : Int32)), (.int p2), (.int (2 : Int32))] 5)) t := fun t k => castTop (ef_4_1_2 m a0 p2) k
  obtain ⟨_, _, ⟨T137, L137, k137, n137⟩, -, X137, ⟨Lc137, hQ137, l137, y137, z137⟩, st137⟩ := Jvm.LawKit.callS X0 hx (y := (⟨"com/example/xcu/xcu/UnitStringExtendPinLaw", "sAt", "([IIII)I"⟩ : MethodName)) hown (mvT hZ (hw _ (List.mem_of_getElem? (i := 35) rfl))) (mvT hZ (hw _ (List.mem_of_getElem? (i := 36) rfl))) (mvT hZ (hw _ (List.mem_of_getElem? (i := 33) rfl))) (mvT hZ (hw _ (List.mem_of_getElem? (i := 37) rfl))) (by decide) (backOf (W := 1) (rm5_1_0 l Z aq hw [] a0 p2 f h0 n0 Z0 V_a0) hZ (hw _ (List.mem_of_getElem? (i := 37) rfl)) (hw _ (List.mem_of_getElem? (i := 33) rfl)) (by decide) (by decide)) (g := (mkF m 28 #[.val (.ref a0), .val (.int (1 : Int32)), .val (.int p2), .val (.int (2 : Int32)), .val (.int (((1 : Int32) + (1 : Int32)) - (2 : Int32)))] [(.int (((1 : Int32) + (1 : Int32)) - (2 : Int32))), (.int p2), (.int (1 : Int32)), (.ref a0), (.int (f 0))])) rfl (by rw [hml]; rfl) (argsL := [(.ref a0), (.int (1 : Int32)), (.int p2), (.int (((1 : Int32) + (1 : Int32)) - (2 : Int32)))]) (rest := [(.int (f 0))]) (lenOf pd21711166 rfl) rfl (by show 2 * 0 + _ ≤ _; exact Nat.le_of_eq rfl) (hb hby d4_28) (fun _ _ => ⟨rfl, e0, (by decide : 0 + 0 ≤ _), (by decide : 0 + 0 ≤ _)⟩)
  dsimp only [Pt.U, Pt.locs, Pt.cells, Pt.slots] at X137 l137 y137 z137 st137 hQ137
  subst l137 y137 z137
  obtain ⟨rfl, N137q, e137⟩ := hQ137
  have N138 := Fr.app N0 N137q
  obtain ⟨_, _, ⟨T139, L139, k139, n139⟩, -, X139, ⟨Lc139, hQ139, l139, y139, z139⟩, st139⟩ := Jvm.LawKit.callS X137 hx (y := (⟨"com/example/xcu/xcu/UnitStringExtendPinLaw", "sAt", "([IIII)I"⟩ : MethodName)) hown (mvT hZ (hw _ (List.mem_of_getElem? (i := 35) rfl))) (mvT hZ (hw _ (List.mem_of_getElem? (i := 36) rfl))) (mvT hZ (hw _ (List.mem_of_getElem? (i := 33) rfl))) (mvT hZ (hw _ (List.mem_of_getElem? (i := 37) rfl))) (by decide) (backOf (W := 1) (rm5_1_1 l Z aq hw [] a0 p2 f h0 n0 Z0 V_a0) hZ (hw _ (List.mem_of_getElem? (i := 37) rfl)) (hw _ (List.mem_of_getElem? (i := 33) rfl)) (by decide) (by decide)) (g := (mkF m 51 #[.val (.ref a0), .val (.int (1 : Int32)), .val (.int p2), .val (.int (2 : Int32)), .val (.int (((1 : Int32) + (1 : Int32)) - (2 : Int32)))] [(.int ((((1 : Int32) + (1 : Int32)) - (2 : Int32)) + (1 : Int32))), (.int p2), (.int (1 : Int32)), (.ref a0), (.int (f 1))])) rfl (by rw [hml]; rfl) (argsL := [(.ref a0), (.int (1 : Int32)), (.int p2), (.int ((((1 : Int32) + (1 : Int32)) - (2 : Int32)) + (1 : Int32)))]) (rest := [(.int (f 1))]) (lenOf pd21711166 rfl) rfl (by show 2 * 0 + _ ≤ _; exact Nat.le_of_eq rfl) (hb hby d4_51) (fun _ _ => ⟨rfl, e137, (by decide : 0 + 0 ≤ _), (by decide : 0 + 0 ≤ _)⟩)
  dsimp only [Pt.U, Pt.locs, Pt.cells, Pt.slots] at X139 l139 y139 z139 st139 hQ139
  subst l139 y139 z139
  obtain ⟨rfl, N139q, e139⟩ := hQ139
  have N140 := Fr.app N138 N139q
  have pre141 : ∀ t, Steps p.tables e below (T139.setTop (mkF m 54 #[.val (.ref a0), .val (.int (1 : Int32)), .val (.int p2), .val (.int (2 : Int32)), .val (.int (((1 : Int32) + (1 : Int32)) - (2 : Int32)))] [(.int p2), (.int (f 1))])) t → Steps p.tables e below (s₁.setTop (entryFrame m #[(.ref a0), (.int (1 : Int32)), (.int p2), (.int (2 : Int32))] 5)) t := fun t kt => by
    refine pre0 _ ?_
    show Steps p.tables e below (s₁.setTop (mkF m 0 #[.val (.ref a0), .val (.int (1 : Int32)), .val (.int p2), .val (.int (2 : Int32)), .unset] [])) _
    refine XS.iloadN X0.here hx rfl (hb hby d4_0) rfl ?_
    show Steps p.tables e below (s₁.setTop (mkF m 1 #[.val (.ref a0), .val (.int (1 : Int32)), .val (.int p2), .val (.int (2 : Int32)), .unset] [(.int (2 : Int32))])) _
    refine XS.iloadN X0.here hx rfl (hb hby d4_1) rfl ?_
    show Steps p.tables e below (s₁.setTop (mkF m 2 #[.val (.ref a0), .val (.int (1 : Int32)), .val (.int p2), .val (.int (2 : Int32)), .unset] [(.int (1 : Int32)), (.int (2 : Int32))])) _
    refine XS.iconst X0.here hx rfl (hb hby d4_2) ?_
    show Steps p.tables e below (s₁.setTop (mkF m 3 #[.val (.ref a0), .val (.int (1 : Int32)), .val (.int p2), .val (.int (2 : Int32)), .unset] [(.int (1 : Int32)), (.int (1 : Int32)), (.int (2 : Int32))])) _
    refine XS.iadd X0.here hx rfl (hb hby d4_3) rfl ?_
    show Steps p.tables e below (s₁.setTop (mkF m 4 #[.val (.ref a0), .val (.int (1 : Int32)), .val (.int p2), .val (.int (2 : Int32)), .unset] [(.int ((1 : Int32) + (1 : Int32))), (.int (2 : Int32))])) _
    refine XS.icmpYes X0.here hx rfl (pc0 := 4) (pc' := 9) rfl (hb hby d4_4) rfl (flt (by decide : ¬ (((1 : Int32) + (1 : Int32)) < (2 : Int32)))).2.2.2 (by decide) (by decide) ?_
    show Steps p.tables e below (s₁.setTop (mkF m 9 #[.val (.ref a0), .val (.int (1 : Int32)), .val (.int p2), .val (.int (2 : Int32)), .unset] [])) _
    refine XS.iloadN X0.here hx rfl (hb hby d4_9) rfl ?_
    show Steps p.tables e below (s₁.setTop (mkF m 10 #[.val (.ref a0), .val (.int (1 : Int32)), .val (.int p2), .val (.int (2 : Int32)), .unset] [(.int (1 : Int32))])) _
    refine XS.iconst X0.here hx rfl (hb hby d4_10) ?_
    show Steps p.tables e below (s₁.setTop (mkF m 11 #[.val (.ref a0), .val (.int (1 : Int32)), .val (.int p2), .val (.int (2 : Int32)), .unset] [(.int (1 : Int32)), (.int (1 : Int32))])) _
    refine XS.iadd X0.here hx rfl (hb hby d4_11) rfl ?_
    show Steps p.tables e below (s₁.setTop (mkF m 12 #[.val (.ref a0), .val (.int (1 : Int32)), .val (.int p2), .val (.int (2 : Int32)), .unset] [(.int ((1 : Int32) + (1 : Int32)))])) _
    refine XS.iloadN X0.here hx rfl (hb hby d4_12) rfl ?_
    show Steps p.tables e below (s₁.setTop (mkF m 13 #[.val (.ref a0), .val (.int (1 : Int32)), .val (.int p2), .val (.int (2 : Int32)), .unset] [(.int (2 : Int32)), (.int ((1 : Int32) + (1 : Int32)))])) _
    refine XS.isub X0.here hx rfl (hb hby d4_13) rfl ?_
    show Steps p.tables e below (s₁.setTop (mkF m 14 #[.val (.ref a0), .val (.int (1 : Int32)), .val (.int p2), .val (.int (2 : Int32)), .unset] [(.int (((1 : Int32) + (1 : Int32)) - (2 : Int32)))])) _
    refine XS.istore X0.here hx rfl (hb hby d4_14) rfl (l' := #[.val (.ref a0), .val (.int (1 : Int32)), .val (.int p2), .val (.int (2 : Int32)), .val (.int (((1 : Int32) + (1 : Int32)) - (2 : Int32)))]) rfl ?_
    show Steps p.tables e below (s₁.setTop (mkF m 16 #[.val (.ref a0), .val (.int (1 : Int32)), .val (.int p2), .val (.int (2 : Int32)), .val (.int (((1 : Int32) + (1 : Int32)) - (2 : Int32)))] [])) _
    refine XS.iloadN X0.here hx rfl (hb hby d4_16) rfl ?_
    show Steps p.tables e below (s₁.setTop (mkF m 17 #[.val (.ref a0), .val (.int (1 : Int32)), .val (.int p2), .val (.int (2 : Int32)), .val (.int (((1 : Int32) + (1 : Int32)) - (2 : Int32)))] [(.int (2 : Int32))])) _
    refine XS.ifNo X0.here hx rfl (hb hby d4_17) rfl ((if0 _ _).trans (tlt (by decide : (0 : Int32) < (2 : Int32))).2.2.2) ?_
    show Steps p.tables e below (s₁.setTop (mkF m 20 #[.val (.ref a0), .val (.int (1 : Int32)), .val (.int p2), .val (.int (2 : Int32)), .val (.int (((1 : Int32) + (1 : Int32)) - (2 : Int32)))] [])) _
    refine XS.aloadN X0.here hx rfl (hb hby d4_20) rfl rfl ?_
    show Steps p.tables e below (s₁.setTop (mkF m 21 #[.val (.ref a0), .val (.int (1 : Int32)), .val (.int p2), .val (.int (2 : Int32)), .val (.int (((1 : Int32) + (1 : Int32)) - (2 : Int32)))] [(.ref a0)])) _
    refine XS.iconst X0.here hx rfl (hb hby d4_21) ?_
    show Steps p.tables e below (s₁.setTop (mkF m 22 #[.val (.ref a0), .val (.int (1 : Int32)), .val (.int p2), .val (.int (2 : Int32)), .val (.int (((1 : Int32) + (1 : Int32)) - (2 : Int32)))] [(.int (0 : Int32)), (.ref a0)])) _
    refine own_rdI X0 hx hZ e0 V_a0 (j := (0 : Int32)) (i := 0) (by decide) (by decide) (g := (mkF m 22 #[.val (.ref a0), .val (.int (1 : Int32)), .val (.int p2), .val (.int (2 : Int32)), .val (.int (((1 : Int32) + (1 : Int32)) - (2 : Int32)))] [(.int (0 : Int32)), (.ref a0)])) rfl rfl (hb hby d4_22) _ ?_
    show Steps p.tables e below (s₁.setTop (mkF m 23 #[.val (.ref a0), .val (.int (1 : Int32)), .val (.int p2), .val (.int (2 : Int32)), .val (.int (((1 : Int32) + (1 : Int32)) - (2 : Int32)))] [(.int (f 0))])) _
    refine XS.aloadN X0.here hx rfl (hb hby d4_23) rfl rfl ?_
    show Steps p.tables e below (s₁.setTop (mkF m 24 #[.val (.ref a0), .val (.int (1 : Int32)), .val (.int p2), .val (.int (2 : Int32)), .val (.int (((1 : Int32) + (1 : Int32)) - (2 : Int32)))] [(.ref a0), (.int (f 0))])) _
    refine XS.iloadN X0.here hx rfl (hb hby d4_24) rfl ?_
    show Steps p.tables e below (s₁.setTop (mkF m 25 #[.val (.ref a0), .val (.int (1 : Int32)), .val (.int p2), .val (.int (2 : Int32)), .val (.int (((1 : Int32) + (1 : Int32)) - (2 : Int32)))] [(.int (1 : Int32)), (.ref a0), (.int (f 0))])) _
    refine XS.iloadN X0.here hx rfl (hb hby d4_25) rfl ?_
    show Steps p.tables e below (s₁.setTop (mkF m 26 #[.val (.ref a0), .val (.int (1 : Int32)), .val (.int p2), .val (.int (2 : Int32)), .val (.int (((1 : Int32) + (1 : Int32)) - (2 : Int32)))] [(.int p2), (.int (1 : Int32)), (.ref a0), (.int (f 0))])) _
    refine XS.iload X0.here hx rfl (hb hby d4_26) rfl ?_
    show Steps p.tables e below (s₁.setTop (mkF m 28 #[.val (.ref a0), .val (.int (1 : Int32)), .val (.int p2), .val (.int (2 : Int32)), .val (.int (((1 : Int32) + (1 : Int32)) - (2 : Int32)))] [(.int (((1 : Int32) + (1 : Int32)) - (2 : Int32))), (.int p2), (.int (1 : Int32)), (.ref a0), (.int (f 0))])) _
    refine st137 _ ?_
    show Steps p.tables e below (T137.setTop (mkF m 31 #[.val (.ref a0), .val (.int (1 : Int32)), .val (.int p2), .val (.int (2 : Int32)), .val (.int (((1 : Int32) + (1 : Int32)) - (2 : Int32)))] [(.int (f 0)), (.int (f 0))])) _
    refine XS.icmpYes X137.here hx rfl (pc0 := 31) (pc' := 36) rfl (hb hby d4_31) rfl (teq (rfl : (f 0) = (f 0))).1 (by decide) (by decide) ?_
    show Steps p.tables e below (T137.setTop (mkF m 36 #[.val (.ref a0), .val (.int (1 : Int32)), .val (.int p2), .val (.int (2 : Int32)), .val (.int (((1 : Int32) + (1 : Int32)) - (2 : Int32)))] [])) _
    refine XS.iloadN X137.here hx rfl (hb hby d4_36) rfl ?_
    show Steps p.tables e below (T137.setTop (mkF m 37 #[.val (.ref a0), .val (.int (1 : Int32)), .val (.int p2), .val (.int (2 : Int32)), .val (.int (((1 : Int32) + (1 : Int32)) - (2 : Int32)))] [(.int (2 : Int32))])) _
    refine XS.iconst X137.here hx rfl (hb hby d4_37) ?_
    show Steps p.tables e below (T137.setTop (mkF m 38 #[.val (.ref a0), .val (.int (1 : Int32)), .val (.int p2), .val (.int (2 : Int32)), .val (.int (((1 : Int32) + (1 : Int32)) - (2 : Int32)))] [(.int (1 : Int32)), (.int (2 : Int32))])) _
    refine XS.icmpNo X137.here hx rfl (hb hby d4_38) rfl (tlt (by decide : (1 : Int32) < (2 : Int32))).2.2.2 ?_
    show Steps p.tables e below (T137.setTop (mkF m 41 #[.val (.ref a0), .val (.int (1 : Int32)), .val (.int p2), .val (.int (2 : Int32)), .val (.int (((1 : Int32) + (1 : Int32)) - (2 : Int32)))] [])) _
    refine XS.aloadN X137.here hx rfl (hb hby d4_41) rfl rfl ?_
    show Steps p.tables e below (T137.setTop (mkF m 42 #[.val (.ref a0), .val (.int (1 : Int32)), .val (.int p2), .val (.int (2 : Int32)), .val (.int (((1 : Int32) + (1 : Int32)) - (2 : Int32)))] [(.ref a0)])) _
    refine XS.iconst X137.here hx rfl (hb hby d4_42) ?_
    show Steps p.tables e below (T137.setTop (mkF m 43 #[.val (.ref a0), .val (.int (1 : Int32)), .val (.int p2), .val (.int (2 : Int32)), .val (.int (((1 : Int32) + (1 : Int32)) - (2 : Int32)))] [(.int (1 : Int32)), (.ref a0)])) _
    refine own_rdI X137 hx hZ e137 V_a0 (j := (1 : Int32)) (i := 1) (by decide) (by decide) (g := (mkF m 43 #[.val (.ref a0), .val (.int (1 : Int32)), .val (.int p2), .val (.int (2 : Int32)), .val (.int (((1 : Int32) + (1 : Int32)) - (2 : Int32)))] [(.int (1 : Int32)), (.ref a0)])) rfl rfl (hb hby d4_43) _ ?_
    show Steps p.tables e below (T137.setTop (mkF m 44 #[.val (.ref a0), .val (.int (1 : Int32)), .val (.int p2), .val (.int (2 : Int32)), .val (.int (((1 : Int32) + (1 : Int32)) - (2 : Int32)))] [(.int (f 1))])) _
    refine XS.aloadN X137.here hx rfl (hb hby d4_44) rfl rfl ?_
    show Steps p.tables e below (T137.setTop (mkF m 45 #[.val (.ref a0), .val (.int (1 : Int32)), .val (.int p2), .val (.int (2 : Int32)), .val (.int (((1 : Int32) + (1 : Int32)) - (2 : Int32)))] [(.ref a0), (.int (f 1))])) _
    refine XS.iloadN X137.here hx rfl (hb hby d4_45) rfl ?_
    show Steps p.tables e below (T137.setTop (mkF m 46 #[.val (.ref a0), .val (.int (1 : Int32)), .val (.int p2), .val (.int (2 : Int32)), .val (.int (((1 : Int32) + (1 : Int32)) - (2 : Int32)))] [(.int (1 : Int32)), (.ref a0), (.int (f 1))])) _
    refine XS.iloadN X137.here hx rfl (hb hby d4_46) rfl ?_
    show Steps p.tables e below (T137.setTop (mkF m 47 #[.val (.ref a0), .val (.int (1 : Int32)), .val (.int p2), .val (.int (2 : Int32)), .val (.int (((1 : Int32) + (1 : Int32)) - (2 : Int32)))] [(.int p2), (.int (1 : Int32)), (.ref a0), (.int (f 1))])) _
    refine XS.iload X137.here hx rfl (hb hby d4_47) rfl ?_
    show Steps p.tables e below (T137.setTop (mkF m 49 #[.val (.ref a0), .val (.int (1 : Int32)), .val (.int p2), .val (.int (2 : Int32)), .val (.int (((1 : Int32) + (1 : Int32)) - (2 : Int32)))] [(.int (((1 : Int32) + (1 : Int32)) - (2 : Int32))), (.int p2), (.int (1 : Int32)), (.ref a0), (.int (f 1))])) _
    refine XS.iconst X137.here hx rfl (hb hby d4_49) ?_
    show Steps p.tables e below (T137.setTop (mkF m 50 #[.val (.ref a0), .val (.int (1 : Int32)), .val (.int p2), .val (.int (2 : Int32)), .val (.int (((1 : Int32) + (1 : Int32)) - (2 : Int32)))] [(.int (1 : Int32)), (.int (((1 : Int32) + (1 : Int32)) - (2 : Int32))), (.int p2), (.int (1 : Int32)), (.ref a0), (.int (f 1))])) _
    refine XS.iadd X137.here hx rfl (hb hby d4_50) rfl ?_
    show Steps p.tables e below (T137.setTop (mkF m 51 #[.val (.ref a0), .val (.int (1 : Int32)), .val (.int p2), .val (.int (2 : Int32)), .val (.int (((1 : Int32) + (1 : Int32)) - (2 : Int32)))] [(.int ((((1 : Int32) + (1 : Int32)) - (2 : Int32)) + (1 : Int32))), (.int p2), (.int (1 : Int32)), (.ref a0), (.int (f 1))])) _
    refine st139 _ ?_
    show Steps p.tables e below (T139.setTop (mkF m 54 #[.val (.ref a0), .val (.int (1 : Int32)), .val (.int p2), .val (.int (2 : Int32)), .val (.int (((1 : Int32) + (1 : Int32)) - (2 : Int32)))] [(.int p2), (.int (f 1))])) _
    exact kt
  by_cases hc142 : (f 1) = p2
  · skip
    have pre143 : ∀ t, Steps p.tables e below (T139.setTop (mkF m 106 #[.val (.ref a0), .val (.int (1 : Int32)), .val (.int p2), .val (.int (2 : Int32)), .val (.int (((1 : Int32) + (1 : Int32)) - (2 : Int32)))] [(.int (1 : Int32))])) t → Steps p.tables e below (s₁.setTop (entryFrame m #[(.ref a0), (.int (1 : Int32)), (.int p2), (.int (2 : Int32))] 5)) t := fun t kt => by
      refine pre141 _ ?_
      show Steps p.tables e below (T139.setTop (mkF m 54 #[.val (.ref a0), .val (.int (1 : Int32)), .val (.int p2), .val (.int (2 : Int32)), .val (.int (((1 : Int32) + (1 : Int32)) - (2 : Int32)))] [(.int p2), (.int (f 1))])) _
      refine XS.icmpYes X139.here hx rfl (pc0 := 54) (pc' := 59) rfl (hb hby d4_54) rfl (teq hc142).1 (by decide) (by decide) ?_
      show Steps p.tables e below (T139.setTop (mkF m 59 #[.val (.ref a0), .val (.int (1 : Int32)), .val (.int p2), .val (.int (2 : Int32)), .val (.int (((1 : Int32) + (1 : Int32)) - (2 : Int32)))] [])) _
      refine XS.iloadN X139.here hx rfl (hb hby d4_59) rfl ?_
      show Steps p.tables e below (T139.setTop (mkF m 60 #[.val (.ref a0), .val (.int (1 : Int32)), .val (.int p2), .val (.int (2 : Int32)), .val (.int (((1 : Int32) + (1 : Int32)) - (2 : Int32)))] [(.int (2 : Int32))])) _
      refine XS.iconst X139.here hx rfl (hb hby d4_60) ?_
      show Steps p.tables e below (T139.setTop (mkF m 61 #[.val (.ref a0), .val (.int (1 : Int32)), .val (.int p2), .val (.int (2 : Int32)), .val (.int (((1 : Int32) + (1 : Int32)) - (2 : Int32)))] [(.int (2 : Int32)), (.int (2 : Int32))])) _
      refine XS.icmpYes X139.here hx rfl (pc0 := 61) (pc' := 82) rfl (hb hby d4_61) rfl (flt (by decide : ¬ ((2 : Int32) < (2 : Int32)))).2.2.2 (by decide) (by decide) ?_
      show Steps p.tables e below (T139.setTop (mkF m 82 #[.val (.ref a0), .val (.int (1 : Int32)), .val (.int p2), .val (.int (2 : Int32)), .val (.int (((1 : Int32) + (1 : Int32)) - (2 : Int32)))] [])) _
      refine XS.iloadN X139.here hx rfl (hb hby d4_82) rfl ?_
      show Steps p.tables e below (T139.setTop (mkF m 83 #[.val (.ref a0), .val (.int (1 : Int32)), .val (.int p2), .val (.int (2 : Int32)), .val (.int (((1 : Int32) + (1 : Int32)) - (2 : Int32)))] [(.int (2 : Int32))])) _
      refine XS.iconst X139.here hx rfl (hb hby d4_83) ?_
      show Steps p.tables e below (T139.setTop (mkF m 84 #[.val (.ref a0), .val (.int (1 : Int32)), .val (.int p2), .val (.int (2 : Int32)), .val (.int (((1 : Int32) + (1 : Int32)) - (2 : Int32)))] [(.int (3 : Int32)), (.int (2 : Int32))])) _
      refine XS.icmpYes X139.here hx rfl (pc0 := 84) (pc' := 105) rfl (hb hby d4_84) rfl (flt (by decide : ¬ ((3 : Int32) < (2 : Int32)))).2.2.2 (by decide) (by decide) ?_
      show Steps p.tables e below (T139.setTop (mkF m 105 #[.val (.ref a0), .val (.int (1 : Int32)), .val (.int p2), .val (.int (2 : Int32)), .val (.int (((1 : Int32) + (1 : Int32)) - (2 : Int32)))] [])) _
      refine XS.iconst X139.here hx rfl (hb hby d4_105) ?_
      show Steps p.tables e below (T139.setTop (mkF m 106 #[.val (.ref a0), .val (.int (1 : Int32)), .val (.int p2), .val (.int (2 : Int32)), .val (.int (((1 : Int32) + (1 : Int32)) - (2 : Int32)))] [(.int (1 : Int32))])) _
      exact kt
    obtain ⟨fs, hr, hrun, hended, hW, hsame⟩ := X139.leave (v := some (.int (1 : Int32))) (fun h => by rw [Bd.returns] at h; cases h)
    refine ⟨_, _, pre143 _ ?_, hrun, hended, _, _, rfl, ?_, ⟨_, rfl⟩, hW, hsame.mono (by decide) (by decide)⟩
    · exact retN X139 hx (t := .boolean) Bd.returns (by simp) (hb hby d4_106) hr
    · show Q4_1_2 Z a0 p2 f h0 n0 _ T139.heap _
      rw [e139]
      exact ⟨(own_rI (by rw [if_pos hc142] : (1 : Int32) = (if (f 1) = p2 then (1 : Int32) else (0 : Int32)))), N140, rfl⟩
  · skip
    have pre144 : ∀ t, Steps p.tables e below (T139.setTop (mkF m 58 #[.val (.ref a0), .val (.int (1 : Int32)), .val (.int p2), .val (.int (2 : Int32)), .val (.int (((1 : Int32) + (1 : Int32)) - (2 : Int32)))] [(.int (0 : Int32))])) t → Steps p.tables e below (s₁.setTop (entryFrame m #[(.ref a0), (.int (1 : Int32)), (.int p2), (.int (2 : Int32))] 5)) t := fun t kt => by
      refine pre141 _ ?_
      show Steps p.tables e below (T139.setTop (mkF m 54 #[.val (.ref a0), .val (.int (1 : Int32)), .val (.int p2), .val (.int (2 : Int32)), .val (.int (((1 : Int32) + (1 : Int32)) - (2 : Int32)))] [(.int p2), (.int (f 1))])) _
      refine XS.icmpNo X139.here hx rfl (hb hby d4_54) rfl (feq hc142).1 ?_
      show Steps p.tables e below (T139.setTop (mkF m 57 #[.val (.ref a0), .val (.int (1 : Int32)), .val (.int p2), .val (.int (2 : Int32)), .val (.int (((1 : Int32) + (1 : Int32)) - (2 : Int32)))] [])) _
      refine XS.iconst X139.here hx rfl (hb hby d4_57) ?_
      show Steps p.tables e below (T139.setTop (mkF m 58 #[.val (.ref a0), .val (.int (1 : Int32)), .val (.int p2), .val (.int (2 : Int32)), .val (.int (((1 : Int32) + (1 : Int32)) - (2 : Int32)))] [(.int (0 : Int32))])) _
      exact kt
    obtain ⟨fs, hr, hrun, hended, hW, hsame⟩ := X139.leave (v := some (.int (0 : Int32))) (fun h => by rw [Bd.returns] at h; cases h)
    refine ⟨_, _, pre144 _ ?_, hrun, hended, _, _, rfl, ?_, ⟨_, rfl⟩, hW, hsame.mono (by decide) (by decide)⟩
    · exact retN X139 hx (t := .boolean) Bd.returns (by simp) (hb hby d4_58) hr
    · show Q4_1_2 Z a0 p2 f h0 n0 _ T139.heap _
      rw [e139]
      exact ⟨(own_rI (by rw [if_neg hc142] : (0 : Int32) = (if (f 1) = p2 then (1 : Int32) else (0 : Int32)))), N140, rfl⟩
theorem ef_4_1_3 (m : MethodId) (a0 : Addr) (p2 : Int32) : entryFrame m #[(.ref a0), (.int (1 : Int32)), (.int p2), (.int (3 : Int32))] 5 = mkF m 0 #[.val (.ref a0), .val (.int (1 : Int32)), .val (.int p2), .val (.int (3 : Int32)), .unset] [] := by first | (simp [entryFrame, mkF, argsToLocals, Value.category]; done) | rfl
def Q4_1_3 (Z : State) (a0 : Addr) (p2 : Int32) (f : Nat → Int32) (h0 : Heap) (n0 : Nat) (v : Option Value) (h : Heap) (L : List Loc) : Prop := v = some (.int (0 : Int32)) ∧ Fr n0 L ∧ h = h0
set_option maxRecDepth 65536 in
set_option maxHeartbeats 40000000 in
theorem rm4_1_3 (l : Launch) (Z : State) (aq : Array Value) (hw : ∀ d ∈ tables_1, d.before aq Z = true) (ws : List Jvm.Cond) (a0 : Addr) (p2 : Int32) (f : Nat → Int32) (h0 : Heap) (n0 : Nat) (Z0 : n0 ≤ h0.size) (V_a0 : own_Ar Z h0 a0 .int 4 f) :
    MetFree l (⟨"com/example/xcu/xcu/UnitStringExtendPinLaw", "fits", "([IIII)Z"⟩ : MethodName) (head1 (Jvm.Cond.code (⟨"com/example/xcu/xcu/UnitStringExtendPinLaw", "fits", "([IIII)Z"⟩ : MethodName) method_3_code 5 (some .boolean) :: ws) ({ frames := 0, cells := 0, slots := 0, locals := 0 } : Room)) (fun a U => a = #[(.ref a0), (.int (1 : Int32)), (.int p2), (.int (3 : Int32))] ∧ Z.Warmed39 U.vm ∧ U.heap = h0) (fun _ _ _ _ _ => True) (fun _ U o U' => ∃ v L, o = .returned v ∧ Q4_1_3 Z a0 p2 f h0 n0 v U'.heap L ∧ FrameEnd U o U' L ({ frames := 0, cells := 0, slots := 0, locals := 0 } : Room).cells ({ frames := 0, cells := 0, slots := 0, locals := 0 } : Room).slots) := by
  refine MetFree.of_bodySF (plainFor_of_name pn51678678) hisR ?_
  intro p e s m args below meth c s₁ Bd hml0 hP hK
  obtain ⟨rfl, hZ, hh⟩ := hP
  have hx := Bd.exec
  have hby := Bd.bytes
  have hml : c.maxLocals = 5 := hml0
  have hown : s.vm.findClass "com/example/xcu/xcu/UnitStringExtendPinLaw" = some m.cls := findClass_of_methodNamed Bd.named
  have hnm := (name_of_methodNamed Bd.named Bd.method).1
  have X0 : Stand p l e ({ frames := 0, cells := 0, slots := 0, locals := 0 } : Room) s m #[(.ref a0), (.int (1 : Int32)), (.int p2), (.int (3 : Int32))] below meth c s₁ [] 0 0 := Stand.of_body Bd
  have e0 : s₁.heap = h0 := by rw [← hh, Bd.state]; rfl
  have N0 := Fr.nil n0
  have pre0 : ∀ t, Steps p.tables e below (s₁.setTop (mkF m 0 #[.val (.ref a0), .val (.int (1 : Int32)), .val (.int p2), .val (.int (3 : Int32)), .unset] [])) t → Steps p.tables e below (s₁.setTop (entryFrame m #[(.ref a0), (.int (1 : Int32)), (.int p2), (.int (3 : Int32))] 5)) t := fun t k => castTop (ef_4_1_3 m a0 p2) k
  have pre145 : ∀ t, Steps p.tables e below (s₁.setTop (mkF m 8 #[.val (.ref a0), .val (.int (1 : Int32)), .val (.int p2), .val (.int (3 : Int32)), .unset] [(.int (0 : Int32))])) t → Steps p.tables e below (s₁.setTop (entryFrame m #[(.ref a0), (.int (1 : Int32)), (.int p2), (.int (3 : Int32))] 5)) t := fun t kt => by
    refine pre0 _ ?_
    show Steps p.tables e below (s₁.setTop (mkF m 0 #[.val (.ref a0), .val (.int (1 : Int32)), .val (.int p2), .val (.int (3 : Int32)), .unset] [])) _
    refine XS.iloadN X0.here hx rfl (hb hby d4_0) rfl ?_
    show Steps p.tables e below (s₁.setTop (mkF m 1 #[.val (.ref a0), .val (.int (1 : Int32)), .val (.int p2), .val (.int (3 : Int32)), .unset] [(.int (3 : Int32))])) _
    refine XS.iloadN X0.here hx rfl (hb hby d4_1) rfl ?_
    show Steps p.tables e below (s₁.setTop (mkF m 2 #[.val (.ref a0), .val (.int (1 : Int32)), .val (.int p2), .val (.int (3 : Int32)), .unset] [(.int (1 : Int32)), (.int (3 : Int32))])) _
    refine XS.iconst X0.here hx rfl (hb hby d4_2) ?_
    show Steps p.tables e below (s₁.setTop (mkF m 3 #[.val (.ref a0), .val (.int (1 : Int32)), .val (.int p2), .val (.int (3 : Int32)), .unset] [(.int (1 : Int32)), (.int (1 : Int32)), (.int (3 : Int32))])) _
    refine XS.iadd X0.here hx rfl (hb hby d4_3) rfl ?_
    show Steps p.tables e below (s₁.setTop (mkF m 4 #[.val (.ref a0), .val (.int (1 : Int32)), .val (.int p2), .val (.int (3 : Int32)), .unset] [(.int ((1 : Int32) + (1 : Int32))), (.int (3 : Int32))])) _
    refine XS.icmpNo X0.here hx rfl (hb hby d4_4) rfl (tlt (by decide : ((1 : Int32) + (1 : Int32)) < (3 : Int32))).2.2.2 ?_
    show Steps p.tables e below (s₁.setTop (mkF m 7 #[.val (.ref a0), .val (.int (1 : Int32)), .val (.int p2), .val (.int (3 : Int32)), .unset] [])) _
    refine XS.iconst X0.here hx rfl (hb hby d4_7) ?_
    show Steps p.tables e below (s₁.setTop (mkF m 8 #[.val (.ref a0), .val (.int (1 : Int32)), .val (.int p2), .val (.int (3 : Int32)), .unset] [(.int (0 : Int32))])) _
    exact kt
  obtain ⟨fs, hr, hrun, hended, hW, hsame⟩ := X0.leave (v := some (.int (0 : Int32))) (fun h => by rw [Bd.returns] at h; cases h)
  refine ⟨_, _, pre145 _ ?_, hrun, hended, _, _, rfl, ?_, ⟨_, rfl⟩, hW, hsame.mono (by decide) (by decide)⟩
  · exact retN X0 hx (t := .boolean) Bd.returns (by simp) (hb hby d4_8) hr
  · show Q4_1_3 Z a0 p2 f h0 n0 _ s₁.heap _
    rw [e0]
    exact ⟨rfl, N0, rfl⟩
theorem ef_4_1_4 (m : MethodId) (a0 : Addr) (p2 : Int32) : entryFrame m #[(.ref a0), (.int (1 : Int32)), (.int p2), (.int (4 : Int32))] 5 = mkF m 0 #[.val (.ref a0), .val (.int (1 : Int32)), .val (.int p2), .val (.int (4 : Int32)), .unset] [] := by first | (simp [entryFrame, mkF, argsToLocals, Value.category]; done) | rfl
def Q4_1_4 (Z : State) (a0 : Addr) (p2 : Int32) (f : Nat → Int32) (h0 : Heap) (n0 : Nat) (v : Option Value) (h : Heap) (L : List Loc) : Prop := v = some (.int (0 : Int32)) ∧ Fr n0 L ∧ h = h0
set_option maxRecDepth 65536 in
set_option maxHeartbeats 40000000 in
theorem rm4_1_4 (l : Launch) (Z : State) (aq : Array Value) (hw : ∀ d ∈ tables_1, d.before aq Z = true) (ws : List Jvm.Cond) (a0 : Addr) (p2 : Int32) (f : Nat → Int32) (h0 : Heap) (n0 : Nat) (Z0 : n0 ≤ h0.size) (V_a0 : own_Ar Z h0 a0 .int 4 f) :
    MetFree l (⟨"com/example/xcu/xcu/UnitStringExtendPinLaw", "fits", "([IIII)Z"⟩ : MethodName) (head1 (Jvm.Cond.code (⟨"com/example/xcu/xcu/UnitStringExtendPinLaw", "fits", "([IIII)Z"⟩ : MethodName) method_3_code 5 (some .boolean) :: ws) ({ frames := 0, cells := 0, slots := 0, locals := 0 } : Room)) (fun a U => a = #[(.ref a0), (.int (1 : Int32)), (.int p2), (.int (4 : Int32))] ∧ Z.Warmed39 U.vm ∧ U.heap = h0) (fun _ _ _ _ _ => True) (fun _ U o U' => ∃ v L, o = .returned v ∧ Q4_1_4 Z a0 p2 f h0 n0 v U'.heap L ∧ FrameEnd U o U' L ({ frames := 0, cells := 0, slots := 0, locals := 0 } : Room).cells ({ frames := 0, cells := 0, slots := 0, locals := 0 } : Room).slots) := by
  refine MetFree.of_bodySF (plainFor_of_name pn51678678) hisR ?_
  intro p e s m args below meth c s₁ Bd hml0 hP hK
  obtain ⟨rfl, hZ, hh⟩ := hP
  have hx := Bd.exec
  have hby := Bd.bytes
  have hml : c.maxLocals = 5 := hml0
  have hown : s.vm.findClass "com/example/xcu/xcu/UnitStringExtendPinLaw" = some m.cls := findClass_of_methodNamed Bd.named
  have hnm := (name_of_methodNamed Bd.named Bd.method).1
  have X0 : Stand p l e ({ frames := 0, cells := 0, slots := 0, locals := 0 } : Room) s m #[(.ref a0), (.int (1 : Int32)), (.int p2), (.int (4 : Int32))] below meth c s₁ [] 0 0 := Stand.of_body Bd
  have e0 : s₁.heap = h0 := by rw [← hh, Bd.state]; rfl
  have N0 := Fr.nil n0
  have pre0 : ∀ t, Steps p.tables e below (s₁.setTop (mkF m 0 #[.val (.ref a0), .val (.int (1 : Int32)), .val (.int p2), .val (.int (4 : Int32)), .unset] [])) t → Steps p.tables e below (s₁.setTop (entryFrame m #[(.ref a0), (.int (1 : Int32)), (.int p2), (.int (4 : Int32))] 5)) t := fun t k => castTop (ef_4_1_4 m a0 p2) k
  have pre146 : ∀ t, Steps p.tables e below (s₁.setTop (mkF m 8 #[.val (.ref a0), .val (.int (1 : Int32)), .val (.int p2), .val (.int (4 : Int32)), .unset] [(.int (0 : Int32))])) t → Steps p.tables e below (s₁.setTop (entryFrame m #[(.ref a0), (.int (1 : Int32)), (.int p2), (.int (4 : Int32))] 5)) t := fun t kt => by
    refine pre0 _ ?_
    show Steps p.tables e below (s₁.setTop (mkF m 0 #[.val (.ref a0), .val (.int (1 : Int32)), .val (.int p2), .val (.int (4 : Int32)), .unset] [])) _
    refine XS.iloadN X0.here hx rfl (hb hby d4_0) rfl ?_
    show Steps p.tables e below (s₁.setTop (mkF m 1 #[.val (.ref a0), .val (.int (1 : Int32)), .val (.int p2), .val (.int (4 : Int32)), .unset] [(.int (4 : Int32))])) _
    refine XS.iloadN X0.here hx rfl (hb hby d4_1) rfl ?_
    show Steps p.tables e below (s₁.setTop (mkF m 2 #[.val (.ref a0), .val (.int (1 : Int32)), .val (.int p2), .val (.int (4 : Int32)), .unset] [(.int (1 : Int32)), (.int (4 : Int32))])) _
    refine XS.iconst X0.here hx rfl (hb hby d4_2) ?_
    show Steps p.tables e below (s₁.setTop (mkF m 3 #[.val (.ref a0), .val (.int (1 : Int32)), .val (.int p2), .val (.int (4 : Int32)), .unset] [(.int (1 : Int32)), (.int (1 : Int32)), (.int (4 : Int32))])) _
    refine XS.iadd X0.here hx rfl (hb hby d4_3) rfl ?_
    show Steps p.tables e below (s₁.setTop (mkF m 4 #[.val (.ref a0), .val (.int (1 : Int32)), .val (.int p2), .val (.int (4 : Int32)), .unset] [(.int ((1 : Int32) + (1 : Int32))), (.int (4 : Int32))])) _
    refine XS.icmpNo X0.here hx rfl (hb hby d4_4) rfl (tlt (by decide : ((1 : Int32) + (1 : Int32)) < (4 : Int32))).2.2.2 ?_
    show Steps p.tables e below (s₁.setTop (mkF m 7 #[.val (.ref a0), .val (.int (1 : Int32)), .val (.int p2), .val (.int (4 : Int32)), .unset] [])) _
    refine XS.iconst X0.here hx rfl (hb hby d4_7) ?_
    show Steps p.tables e below (s₁.setTop (mkF m 8 #[.val (.ref a0), .val (.int (1 : Int32)), .val (.int p2), .val (.int (4 : Int32)), .unset] [(.int (0 : Int32))])) _
    exact kt
  obtain ⟨fs, hr, hrun, hended, hW, hsame⟩ := X0.leave (v := some (.int (0 : Int32))) (fun h => by rw [Bd.returns] at h; cases h)
  refine ⟨_, _, pre146 _ ?_, hrun, hended, _, _, rfl, ?_, ⟨_, rfl⟩, hW, hsame.mono (by decide) (by decide)⟩
  · exact retN X0 hx (t := .boolean) Bd.returns (by simp) (hb hby d4_8) hr
  · show Q4_1_4 Z a0 p2 f h0 n0 _ s₁.heap _
    rw [e0]
    exact ⟨rfl, N0, rfl⟩
theorem ef_4_2_1 (m : MethodId) (a0 : Addr) (p2 : Int32) : entryFrame m #[(.ref a0), (.int (2 : Int32)), (.int p2), (.int (1 : Int32))] 5 = mkF m 0 #[.val (.ref a0), .val (.int (2 : Int32)), .val (.int p2), .val (.int (1 : Int32)), .unset] [] := by first | (simp [entryFrame, mkF, argsToLocals, Value.category]; done) | rfl
def Q4_2_1 (Z : State) (a0 : Addr) (p2 : Int32) (f : Nat → Int32) (h0 : Heap) (n0 : Nat) (v : Option Value) (h : Heap) (L : List Loc) : Prop := v = some (.int (if (f 0) = p2 then (1 : Int32) else (0 : Int32))) ∧ Fr n0 L ∧ h = h0
set_option maxRecDepth 65536 in
set_option maxHeartbeats 40000000 in
theorem rm4_2_1 (l : Launch) (Z : State) (aq : Array Value) (hw : ∀ d ∈ tables_1, d.before aq Z = true) (ws : List Jvm.Cond) (a0 : Addr) (p2 : Int32) (f : Nat → Int32) (h0 : Heap) (n0 : Nat) (Z0 : n0 ≤ h0.size) (V_a0 : own_Ar Z h0 a0 .int 4 f) :
    MetFree l (⟨"com/example/xcu/xcu/UnitStringExtendPinLaw", "fits", "([IIII)Z"⟩ : MethodName) (head1 (Jvm.Cond.code (⟨"com/example/xcu/xcu/UnitStringExtendPinLaw", "fits", "([IIII)Z"⟩ : MethodName) method_3_code 5 (some .boolean) :: ws) ({ frames := 1, cells := 0, slots := 0, locals := 16 } : Room)) (fun a U => a = #[(.ref a0), (.int (2 : Int32)), (.int p2), (.int (1 : Int32))] ∧ Z.Warmed39 U.vm ∧ U.heap = h0) (fun _ _ _ _ _ => True) (fun _ U o U' => ∃ v L, o = .returned v ∧ Q4_2_1 Z a0 p2 f h0 n0 v U'.heap L ∧ FrameEnd U o U' L ({ frames := 1, cells := 0, slots := 0, locals := 16 } : Room).cells ({ frames := 1, cells := 0, slots := 0, locals := 16 } : Room).slots) := by
  refine MetFree.of_bodySF (plainFor_of_name pn51678678) hisR ?_
  intro p e s m args below meth c s₁ Bd hml0 hP hK
  obtain ⟨rfl, hZ, hh⟩ := hP
  have hx := Bd.exec
  have hby := Bd.bytes
  have hml : c.maxLocals = 5 := hml0
  have hown : s.vm.findClass "com/example/xcu/xcu/UnitStringExtendPinLaw" = some m.cls := findClass_of_methodNamed Bd.named
  have hnm := (name_of_methodNamed Bd.named Bd.method).1
  have X0 : Stand p l e ({ frames := 1, cells := 0, slots := 0, locals := 16 } : Room) s m #[(.ref a0), (.int (2 : Int32)), (.int p2), (.int (1 : Int32))] below meth c s₁ [] 0 0 := Stand.of_body Bd
  have e0 : s₁.heap = h0 := by rw [← hh, Bd.state]; rfl
  have N0 := Fr.nil n0
  have pre0 : ∀ t, Steps p.tables e below (s₁.setTop (mkF m 0 #[.val (.ref a0), .val (.int (2 : Int32)), .val (.int p2), .val (.int (1 : Int32)), .unset] [])) t → Steps p.tables e below (s₁.setTop (entryFrame m #[(.ref a0), (.int (2 : Int32)), (.int p2), (.int (1 : Int32))] 5)) t := fun t k => castTop (ef_4_2_1 m a0 p2) k
  obtain ⟨_, _, ⟨T151, L151, k151, n151⟩, -, X151, ⟨Lc151, hQ151, l151, y151, z151⟩, st151⟩ := Jvm.LawKit.callS X0 hx (y := (⟨"com/example/xcu/xcu/UnitStringExtendPinLaw", "sAt", "([IIII)I"⟩ : MethodName)) hown (mvT hZ (hw _ (List.mem_of_getElem? (i := 35) rfl))) (mvT hZ (hw _ (List.mem_of_getElem? (i := 36) rfl))) (mvT hZ (hw _ (List.mem_of_getElem? (i := 33) rfl))) (mvT hZ (hw _ (List.mem_of_getElem? (i := 37) rfl))) (by decide) (backOf (W := 1) (rm5_2_2 l Z aq hw [] a0 p2 f h0 n0 Z0 V_a0) hZ (hw _ (List.mem_of_getElem? (i := 37) rfl)) (hw _ (List.mem_of_getElem? (i := 33) rfl)) (by decide) (by decide)) (g := (mkF m 28 #[.val (.ref a0), .val (.int (2 : Int32)), .val (.int p2), .val (.int (1 : Int32)), .val (.int (((2 : Int32) + (1 : Int32)) - (1 : Int32)))] [(.int (((2 : Int32) + (1 : Int32)) - (1 : Int32))), (.int p2), (.int (2 : Int32)), (.ref a0), (.int (f 0))])) rfl (by rw [hml]; rfl) (argsL := [(.ref a0), (.int (2 : Int32)), (.int p2), (.int (((2 : Int32) + (1 : Int32)) - (1 : Int32)))]) (rest := [(.int (f 0))]) (lenOf pd21711166 rfl) rfl (by show 2 * 0 + _ ≤ _; exact Nat.le_of_eq rfl) (hb hby d4_28) (fun _ _ => ⟨rfl, e0, (by decide : 0 + 0 ≤ _), (by decide : 0 + 0 ≤ _)⟩)
  dsimp only [Pt.U, Pt.locs, Pt.cells, Pt.slots] at X151 l151 y151 z151 st151 hQ151
  subst l151 y151 z151
  obtain ⟨rfl, N151q, e151⟩ := hQ151
  have N152 := Fr.app N0 N151q
  have pre153 : ∀ t, Steps p.tables e below (T151.setTop (mkF m 31 #[.val (.ref a0), .val (.int (2 : Int32)), .val (.int p2), .val (.int (1 : Int32)), .val (.int (((2 : Int32) + (1 : Int32)) - (1 : Int32)))] [(.int p2), (.int (f 0))])) t → Steps p.tables e below (s₁.setTop (entryFrame m #[(.ref a0), (.int (2 : Int32)), (.int p2), (.int (1 : Int32))] 5)) t := fun t kt => by
    refine pre0 _ ?_
    show Steps p.tables e below (s₁.setTop (mkF m 0 #[.val (.ref a0), .val (.int (2 : Int32)), .val (.int p2), .val (.int (1 : Int32)), .unset] [])) _
    refine XS.iloadN X0.here hx rfl (hb hby d4_0) rfl ?_
    show Steps p.tables e below (s₁.setTop (mkF m 1 #[.val (.ref a0), .val (.int (2 : Int32)), .val (.int p2), .val (.int (1 : Int32)), .unset] [(.int (1 : Int32))])) _
    refine XS.iloadN X0.here hx rfl (hb hby d4_1) rfl ?_
    show Steps p.tables e below (s₁.setTop (mkF m 2 #[.val (.ref a0), .val (.int (2 : Int32)), .val (.int p2), .val (.int (1 : Int32)), .unset] [(.int (2 : Int32)), (.int (1 : Int32))])) _
    refine XS.iconst X0.here hx rfl (hb hby d4_2) ?_
    show Steps p.tables e below (s₁.setTop (mkF m 3 #[.val (.ref a0), .val (.int (2 : Int32)), .val (.int p2), .val (.int (1 : Int32)), .unset] [(.int (1 : Int32)), (.int (2 : Int32)), (.int (1 : Int32))])) _
    refine XS.iadd X0.here hx rfl (hb hby d4_3) rfl ?_
    show Steps p.tables e below (s₁.setTop (mkF m 4 #[.val (.ref a0), .val (.int (2 : Int32)), .val (.int p2), .val (.int (1 : Int32)), .unset] [(.int ((2 : Int32) + (1 : Int32))), (.int (1 : Int32))])) _
    refine XS.icmpYes X0.here hx rfl (pc0 := 4) (pc' := 9) rfl (hb hby d4_4) rfl (flt (by decide : ¬ (((2 : Int32) + (1 : Int32)) < (1 : Int32)))).2.2.2 (by decide) (by decide) ?_
    show Steps p.tables e below (s₁.setTop (mkF m 9 #[.val (.ref a0), .val (.int (2 : Int32)), .val (.int p2), .val (.int (1 : Int32)), .unset] [])) _
    refine XS.iloadN X0.here hx rfl (hb hby d4_9) rfl ?_
    show Steps p.tables e below (s₁.setTop (mkF m 10 #[.val (.ref a0), .val (.int (2 : Int32)), .val (.int p2), .val (.int (1 : Int32)), .unset] [(.int (2 : Int32))])) _
    refine XS.iconst X0.here hx rfl (hb hby d4_10) ?_
    show Steps p.tables e below (s₁.setTop (mkF m 11 #[.val (.ref a0), .val (.int (2 : Int32)), .val (.int p2), .val (.int (1 : Int32)), .unset] [(.int (1 : Int32)), (.int (2 : Int32))])) _
    refine XS.iadd X0.here hx rfl (hb hby d4_11) rfl ?_
    show Steps p.tables e below (s₁.setTop (mkF m 12 #[.val (.ref a0), .val (.int (2 : Int32)), .val (.int p2), .val (.int (1 : Int32)), .unset] [(.int ((2 : Int32) + (1 : Int32)))])) _
    refine XS.iloadN X0.here hx rfl (hb hby d4_12) rfl ?_
    show Steps p.tables e below (s₁.setTop (mkF m 13 #[.val (.ref a0), .val (.int (2 : Int32)), .val (.int p2), .val (.int (1 : Int32)), .unset] [(.int (1 : Int32)), (.int ((2 : Int32) + (1 : Int32)))])) _
    refine XS.isub X0.here hx rfl (hb hby d4_13) rfl ?_
    show Steps p.tables e below (s₁.setTop (mkF m 14 #[.val (.ref a0), .val (.int (2 : Int32)), .val (.int p2), .val (.int (1 : Int32)), .unset] [(.int (((2 : Int32) + (1 : Int32)) - (1 : Int32)))])) _
    refine XS.istore X0.here hx rfl (hb hby d4_14) rfl (l' := #[.val (.ref a0), .val (.int (2 : Int32)), .val (.int p2), .val (.int (1 : Int32)), .val (.int (((2 : Int32) + (1 : Int32)) - (1 : Int32)))]) rfl ?_
    show Steps p.tables e below (s₁.setTop (mkF m 16 #[.val (.ref a0), .val (.int (2 : Int32)), .val (.int p2), .val (.int (1 : Int32)), .val (.int (((2 : Int32) + (1 : Int32)) - (1 : Int32)))] [])) _
    refine XS.iloadN X0.here hx rfl (hb hby d4_16) rfl ?_
    show Steps p.tables e below (s₁.setTop (mkF m 17 #[.val (.ref a0), .val (.int (2 : Int32)), .val (.int p2), .val (.int (1 : Int32)), .val (.int (((2 : Int32) + (1 : Int32)) - (1 : Int32)))] [(.int (1 : Int32))])) _
    refine XS.ifNo X0.here hx rfl (hb hby d4_17) rfl ((if0 _ _).trans (tlt (by decide : (0 : Int32) < (1 : Int32))).2.2.2) ?_
    show Steps p.tables e below (s₁.setTop (mkF m 20 #[.val (.ref a0), .val (.int (2 : Int32)), .val (.int p2), .val (.int (1 : Int32)), .val (.int (((2 : Int32) + (1 : Int32)) - (1 : Int32)))] [])) _
    refine XS.aloadN X0.here hx rfl (hb hby d4_20) rfl rfl ?_
    show Steps p.tables e below (s₁.setTop (mkF m 21 #[.val (.ref a0), .val (.int (2 : Int32)), .val (.int p2), .val (.int (1 : Int32)), .val (.int (((2 : Int32) + (1 : Int32)) - (1 : Int32)))] [(.ref a0)])) _
    refine XS.iconst X0.here hx rfl (hb hby d4_21) ?_
    show Steps p.tables e below (s₁.setTop (mkF m 22 #[.val (.ref a0), .val (.int (2 : Int32)), .val (.int p2), .val (.int (1 : Int32)), .val (.int (((2 : Int32) + (1 : Int32)) - (1 : Int32)))] [(.int (0 : Int32)), (.ref a0)])) _
    refine own_rdI X0 hx hZ e0 V_a0 (j := (0 : Int32)) (i := 0) (by decide) (by decide) (g := (mkF m 22 #[.val (.ref a0), .val (.int (2 : Int32)), .val (.int p2), .val (.int (1 : Int32)), .val (.int (((2 : Int32) + (1 : Int32)) - (1 : Int32)))] [(.int (0 : Int32)), (.ref a0)])) rfl rfl (hb hby d4_22) _ ?_
    show Steps p.tables e below (s₁.setTop (mkF m 23 #[.val (.ref a0), .val (.int (2 : Int32)), .val (.int p2), .val (.int (1 : Int32)), .val (.int (((2 : Int32) + (1 : Int32)) - (1 : Int32)))] [(.int (f 0))])) _
    refine XS.aloadN X0.here hx rfl (hb hby d4_23) rfl rfl ?_
    show Steps p.tables e below (s₁.setTop (mkF m 24 #[.val (.ref a0), .val (.int (2 : Int32)), .val (.int p2), .val (.int (1 : Int32)), .val (.int (((2 : Int32) + (1 : Int32)) - (1 : Int32)))] [(.ref a0), (.int (f 0))])) _
    refine XS.iloadN X0.here hx rfl (hb hby d4_24) rfl ?_
    show Steps p.tables e below (s₁.setTop (mkF m 25 #[.val (.ref a0), .val (.int (2 : Int32)), .val (.int p2), .val (.int (1 : Int32)), .val (.int (((2 : Int32) + (1 : Int32)) - (1 : Int32)))] [(.int (2 : Int32)), (.ref a0), (.int (f 0))])) _
    refine XS.iloadN X0.here hx rfl (hb hby d4_25) rfl ?_
    show Steps p.tables e below (s₁.setTop (mkF m 26 #[.val (.ref a0), .val (.int (2 : Int32)), .val (.int p2), .val (.int (1 : Int32)), .val (.int (((2 : Int32) + (1 : Int32)) - (1 : Int32)))] [(.int p2), (.int (2 : Int32)), (.ref a0), (.int (f 0))])) _
    refine XS.iload X0.here hx rfl (hb hby d4_26) rfl ?_
    show Steps p.tables e below (s₁.setTop (mkF m 28 #[.val (.ref a0), .val (.int (2 : Int32)), .val (.int p2), .val (.int (1 : Int32)), .val (.int (((2 : Int32) + (1 : Int32)) - (1 : Int32)))] [(.int (((2 : Int32) + (1 : Int32)) - (1 : Int32))), (.int p2), (.int (2 : Int32)), (.ref a0), (.int (f 0))])) _
    refine st151 _ ?_
    show Steps p.tables e below (T151.setTop (mkF m 31 #[.val (.ref a0), .val (.int (2 : Int32)), .val (.int p2), .val (.int (1 : Int32)), .val (.int (((2 : Int32) + (1 : Int32)) - (1 : Int32)))] [(.int p2), (.int (f 0))])) _
    exact kt
  by_cases hc154 : (f 0) = p2
  · skip
    have pre155 : ∀ t, Steps p.tables e below (T151.setTop (mkF m 106 #[.val (.ref a0), .val (.int (2 : Int32)), .val (.int p2), .val (.int (1 : Int32)), .val (.int (((2 : Int32) + (1 : Int32)) - (1 : Int32)))] [(.int (1 : Int32))])) t → Steps p.tables e below (s₁.setTop (entryFrame m #[(.ref a0), (.int (2 : Int32)), (.int p2), (.int (1 : Int32))] 5)) t := fun t kt => by
      refine pre153 _ ?_
      show Steps p.tables e below (T151.setTop (mkF m 31 #[.val (.ref a0), .val (.int (2 : Int32)), .val (.int p2), .val (.int (1 : Int32)), .val (.int (((2 : Int32) + (1 : Int32)) - (1 : Int32)))] [(.int p2), (.int (f 0))])) _
      refine XS.icmpYes X151.here hx rfl (pc0 := 31) (pc' := 36) rfl (hb hby d4_31) rfl (teq hc154).1 (by decide) (by decide) ?_
      show Steps p.tables e below (T151.setTop (mkF m 36 #[.val (.ref a0), .val (.int (2 : Int32)), .val (.int p2), .val (.int (1 : Int32)), .val (.int (((2 : Int32) + (1 : Int32)) - (1 : Int32)))] [])) _
      refine XS.iloadN X151.here hx rfl (hb hby d4_36) rfl ?_
      show Steps p.tables e below (T151.setTop (mkF m 37 #[.val (.ref a0), .val (.int (2 : Int32)), .val (.int p2), .val (.int (1 : Int32)), .val (.int (((2 : Int32) + (1 : Int32)) - (1 : Int32)))] [(.int (1 : Int32))])) _
      refine XS.iconst X151.here hx rfl (hb hby d4_37) ?_
      show Steps p.tables e below (T151.setTop (mkF m 38 #[.val (.ref a0), .val (.int (2 : Int32)), .val (.int p2), .val (.int (1 : Int32)), .val (.int (((2 : Int32) + (1 : Int32)) - (1 : Int32)))] [(.int (1 : Int32)), (.int (1 : Int32))])) _
      refine XS.icmpYes X151.here hx rfl (pc0 := 38) (pc' := 59) rfl (hb hby d4_38) rfl (flt (by decide : ¬ ((1 : Int32) < (1 : Int32)))).2.2.2 (by decide) (by decide) ?_
      show Steps p.tables e below (T151.setTop (mkF m 59 #[.val (.ref a0), .val (.int (2 : Int32)), .val (.int p2), .val (.int (1 : Int32)), .val (.int (((2 : Int32) + (1 : Int32)) - (1 : Int32)))] [])) _
      refine XS.iloadN X151.here hx rfl (hb hby d4_59) rfl ?_
      show Steps p.tables e below (T151.setTop (mkF m 60 #[.val (.ref a0), .val (.int (2 : Int32)), .val (.int p2), .val (.int (1 : Int32)), .val (.int (((2 : Int32) + (1 : Int32)) - (1 : Int32)))] [(.int (1 : Int32))])) _
      refine XS.iconst X151.here hx rfl (hb hby d4_60) ?_
      show Steps p.tables e below (T151.setTop (mkF m 61 #[.val (.ref a0), .val (.int (2 : Int32)), .val (.int p2), .val (.int (1 : Int32)), .val (.int (((2 : Int32) + (1 : Int32)) - (1 : Int32)))] [(.int (2 : Int32)), (.int (1 : Int32))])) _
      refine XS.icmpYes X151.here hx rfl (pc0 := 61) (pc' := 82) rfl (hb hby d4_61) rfl (flt (by decide : ¬ ((2 : Int32) < (1 : Int32)))).2.2.2 (by decide) (by decide) ?_
      show Steps p.tables e below (T151.setTop (mkF m 82 #[.val (.ref a0), .val (.int (2 : Int32)), .val (.int p2), .val (.int (1 : Int32)), .val (.int (((2 : Int32) + (1 : Int32)) - (1 : Int32)))] [])) _
      refine XS.iloadN X151.here hx rfl (hb hby d4_82) rfl ?_
      show Steps p.tables e below (T151.setTop (mkF m 83 #[.val (.ref a0), .val (.int (2 : Int32)), .val (.int p2), .val (.int (1 : Int32)), .val (.int (((2 : Int32) + (1 : Int32)) - (1 : Int32)))] [(.int (1 : Int32))])) _
      refine XS.iconst X151.here hx rfl (hb hby d4_83) ?_
      show Steps p.tables e below (T151.setTop (mkF m 84 #[.val (.ref a0), .val (.int (2 : Int32)), .val (.int p2), .val (.int (1 : Int32)), .val (.int (((2 : Int32) + (1 : Int32)) - (1 : Int32)))] [(.int (3 : Int32)), (.int (1 : Int32))])) _
      refine XS.icmpYes X151.here hx rfl (pc0 := 84) (pc' := 105) rfl (hb hby d4_84) rfl (flt (by decide : ¬ ((3 : Int32) < (1 : Int32)))).2.2.2 (by decide) (by decide) ?_
      show Steps p.tables e below (T151.setTop (mkF m 105 #[.val (.ref a0), .val (.int (2 : Int32)), .val (.int p2), .val (.int (1 : Int32)), .val (.int (((2 : Int32) + (1 : Int32)) - (1 : Int32)))] [])) _
      refine XS.iconst X151.here hx rfl (hb hby d4_105) ?_
      show Steps p.tables e below (T151.setTop (mkF m 106 #[.val (.ref a0), .val (.int (2 : Int32)), .val (.int p2), .val (.int (1 : Int32)), .val (.int (((2 : Int32) + (1 : Int32)) - (1 : Int32)))] [(.int (1 : Int32))])) _
      exact kt
    obtain ⟨fs, hr, hrun, hended, hW, hsame⟩ := X151.leave (v := some (.int (1 : Int32))) (fun h => by rw [Bd.returns] at h; cases h)
    refine ⟨_, _, pre155 _ ?_, hrun, hended, _, _, rfl, ?_, ⟨_, rfl⟩, hW, hsame.mono (by decide) (by decide)⟩
    · exact retN X151 hx (t := .boolean) Bd.returns (by simp) (hb hby d4_106) hr
    · show Q4_2_1 Z a0 p2 f h0 n0 _ T151.heap _
      rw [e151]
      exact ⟨(own_rI (by rw [if_pos hc154] : (1 : Int32) = (if (f 0) = p2 then (1 : Int32) else (0 : Int32)))), N152, rfl⟩
  · skip
    have pre156 : ∀ t, Steps p.tables e below (T151.setTop (mkF m 35 #[.val (.ref a0), .val (.int (2 : Int32)), .val (.int p2), .val (.int (1 : Int32)), .val (.int (((2 : Int32) + (1 : Int32)) - (1 : Int32)))] [(.int (0 : Int32))])) t → Steps p.tables e below (s₁.setTop (entryFrame m #[(.ref a0), (.int (2 : Int32)), (.int p2), (.int (1 : Int32))] 5)) t := fun t kt => by
      refine pre153 _ ?_
      show Steps p.tables e below (T151.setTop (mkF m 31 #[.val (.ref a0), .val (.int (2 : Int32)), .val (.int p2), .val (.int (1 : Int32)), .val (.int (((2 : Int32) + (1 : Int32)) - (1 : Int32)))] [(.int p2), (.int (f 0))])) _
      refine XS.icmpNo X151.here hx rfl (hb hby d4_31) rfl (feq hc154).1 ?_
      show Steps p.tables e below (T151.setTop (mkF m 34 #[.val (.ref a0), .val (.int (2 : Int32)), .val (.int p2), .val (.int (1 : Int32)), .val (.int (((2 : Int32) + (1 : Int32)) - (1 : Int32)))] [])) _
      refine XS.iconst X151.here hx rfl (hb hby d4_34) ?_
      show Steps p.tables e below (T151.setTop (mkF m 35 #[.val (.ref a0), .val (.int (2 : Int32)), .val (.int p2), .val (.int (1 : Int32)), .val (.int (((2 : Int32) + (1 : Int32)) - (1 : Int32)))] [(.int (0 : Int32))])) _
      exact kt
    obtain ⟨fs, hr, hrun, hended, hW, hsame⟩ := X151.leave (v := some (.int (0 : Int32))) (fun h => by rw [Bd.returns] at h; cases h)
    refine ⟨_, _, pre156 _ ?_, hrun, hended, _, _, rfl, ?_, ⟨_, rfl⟩, hW, hsame.mono (by decide) (by decide)⟩
    · exact retN X151 hx (t := .boolean) Bd.returns (by simp) (hb hby d4_35) hr
    · show Q4_2_1 Z a0 p2 f h0 n0 _ T151.heap _
      rw [e151]
      exact ⟨(own_rI (by rw [if_neg hc154] : (0 : Int32) = (if (f 0) = p2 then (1 : Int32) else (0 : Int32)))), N152, rfl⟩
theorem ef_4_2_2 (m : MethodId) (a0 : Addr) (p2 : Int32) : entryFrame m #[(.ref a0), (.int (2 : Int32)), (.int p2), (.int (2 : Int32))] 5 = mkF m 0 #[.val (.ref a0), .val (.int (2 : Int32)), .val (.int p2), .val (.int (2 : Int32)), .unset] [] := by first | (simp [entryFrame, mkF, argsToLocals, Value.category]; done) | rfl
def Q4_2_2 (Z : State) (a0 : Addr) (p2 : Int32) (f : Nat → Int32) (h0 : Heap) (n0 : Nat) (v : Option Value) (h : Heap) (L : List Loc) : Prop := v = some (.int (if (f 0) = (f 1) then (if (f 1) = p2 then (1 : Int32) else (0 : Int32)) else (0 : Int32))) ∧ Fr n0 L ∧ h = h0
set_option maxRecDepth 65536 in
set_option maxHeartbeats 40000000 in
theorem rm4_2_2 (l : Launch) (Z : State) (aq : Array Value) (hw : ∀ d ∈ tables_1, d.before aq Z = true) (ws : List Jvm.Cond) (a0 : Addr) (p2 : Int32) (f : Nat → Int32) (h0 : Heap) (n0 : Nat) (Z0 : n0 ≤ h0.size) (V_a0 : own_Ar Z h0 a0 .int 4 f) :
    MetFree l (⟨"com/example/xcu/xcu/UnitStringExtendPinLaw", "fits", "([IIII)Z"⟩ : MethodName) (head1 (Jvm.Cond.code (⟨"com/example/xcu/xcu/UnitStringExtendPinLaw", "fits", "([IIII)Z"⟩ : MethodName) method_3_code 5 (some .boolean) :: ws) ({ frames := 1, cells := 0, slots := 0, locals := 16 } : Room)) (fun a U => a = #[(.ref a0), (.int (2 : Int32)), (.int p2), (.int (2 : Int32))] ∧ Z.Warmed39 U.vm ∧ U.heap = h0) (fun _ _ _ _ _ => True) (fun _ U o U' => ∃ v L, o = .returned v ∧ Q4_2_2 Z a0 p2 f h0 n0 v U'.heap L ∧ FrameEnd U o U' L ({ frames := 1, cells := 0, slots := 0, locals := 16 } : Room).cells ({ frames := 1, cells := 0, slots := 0, locals := 16 } : Room).slots) := by
  refine MetFree.of_bodySF (plainFor_of_name pn51678678) hisR ?_
  intro p e s m args below meth c s₁ Bd hml0 hP hK
  obtain ⟨rfl, hZ, hh⟩ := hP
  have hx := Bd.exec
  have hby := Bd.bytes
  have hml : c.maxLocals = 5 := hml0
  have hown : s.vm.findClass "com/example/xcu/xcu/UnitStringExtendPinLaw" = some m.cls := findClass_of_methodNamed Bd.named
  have hnm := (name_of_methodNamed Bd.named Bd.method).1
  have X0 : Stand p l e ({ frames := 1, cells := 0, slots := 0, locals := 16 } : Room) s m #[(.ref a0), (.int (2 : Int32)), (.int p2), (.int (2 : Int32))] below meth c s₁ [] 0 0 := Stand.of_body Bd
  have e0 : s₁.heap = h0 := by rw [← hh, Bd.state]; rfl
  have N0 := Fr.nil n0
  have pre0 : ∀ t, Steps p.tables e below (s₁.setTop (mkF m 0 #[.val (.ref a0), .val (.int (2 : Int32)), .val (.int p2), .val (.int (2 : Int32)), .unset] [])) t → Steps p.tables e below (s₁.setTop (entryFrame m #[(.ref a0), (.int (2 : Int32)), (.int p2), (.int (2 : Int32))] 5)) t := fun t k => castTop (ef_4_2_2 m a0 p2) k
  obtain ⟨_, _, ⟨T165, L165, k165, n165⟩, -, X165, ⟨Lc165, hQ165, l165, y165, z165⟩, st165⟩ := Jvm.LawKit.callS X0 hx (y := (⟨"com/example/xcu/xcu/UnitStringExtendPinLaw", "sAt", "([IIII)I"⟩ : MethodName)) hown (mvT hZ (hw _ (List.mem_of_getElem? (i := 35) rfl))) (mvT hZ (hw _ (List.mem_of_getElem? (i := 36) rfl))) (mvT hZ (hw _ (List.mem_of_getElem? (i := 33) rfl))) (mvT hZ (hw _ (List.mem_of_getElem? (i := 37) rfl))) (by decide) (backOf (W := 1) (rm5_2_1 l Z aq hw [] a0 p2 f h0 n0 Z0 V_a0) hZ (hw _ (List.mem_of_getElem? (i := 37) rfl)) (hw _ (List.mem_of_getElem? (i := 33) rfl)) (by decide) (by decide)) (g := (mkF m 28 #[.val (.ref a0), .val (.int (2 : Int32)), .val (.int p2), .val (.int (2 : Int32)), .val (.int (((2 : Int32) + (1 : Int32)) - (2 : Int32)))] [(.int (((2 : Int32) + (1 : Int32)) - (2 : Int32))), (.int p2), (.int (2 : Int32)), (.ref a0), (.int (f 0))])) rfl (by rw [hml]; rfl) (argsL := [(.ref a0), (.int (2 : Int32)), (.int p2), (.int (((2 : Int32) + (1 : Int32)) - (2 : Int32)))]) (rest := [(.int (f 0))]) (lenOf pd21711166 rfl) rfl (by show 2 * 0 + _ ≤ _; exact Nat.le_of_eq rfl) (hb hby d4_28) (fun _ _ => ⟨rfl, e0, (by decide : 0 + 0 ≤ _), (by decide : 0 + 0 ≤ _)⟩)
  dsimp only [Pt.U, Pt.locs, Pt.cells, Pt.slots] at X165 l165 y165 z165 st165 hQ165
  subst l165 y165 z165
  obtain ⟨rfl, N165q, e165⟩ := hQ165
  have N166 := Fr.app N0 N165q
  have pre167 : ∀ t, Steps p.tables e below (T165.setTop (mkF m 31 #[.val (.ref a0), .val (.int (2 : Int32)), .val (.int p2), .val (.int (2 : Int32)), .val (.int (((2 : Int32) + (1 : Int32)) - (2 : Int32)))] [(.int (f 1)), (.int (f 0))])) t → Steps p.tables e below (s₁.setTop (entryFrame m #[(.ref a0), (.int (2 : Int32)), (.int p2), (.int (2 : Int32))] 5)) t := fun t kt => by
    refine pre0 _ ?_
    show Steps p.tables e below (s₁.setTop (mkF m 0 #[.val (.ref a0), .val (.int (2 : Int32)), .val (.int p2), .val (.int (2 : Int32)), .unset] [])) _
    refine XS.iloadN X0.here hx rfl (hb hby d4_0) rfl ?_
    show Steps p.tables e below (s₁.setTop (mkF m 1 #[.val (.ref a0), .val (.int (2 : Int32)), .val (.int p2), .val (.int (2 : Int32)), .unset] [(.int (2 : Int32))])) _
    refine XS.iloadN X0.here hx rfl (hb hby d4_1) rfl ?_
    show Steps p.tables e below (s₁.setTop (mkF m 2 #[.val (.ref a0), .val (.int (2 : Int32)), .val (.int p2), .val (.int (2 : Int32)), .unset] [(.int (2 : Int32)), (.int (2 : Int32))])) _
    refine XS.iconst X0.here hx rfl (hb hby d4_2) ?_
    show Steps p.tables e below (s₁.setTop (mkF m 3 #[.val (.ref a0), .val (.int (2 : Int32)), .val (.int p2), .val (.int (2 : Int32)), .unset] [(.int (1 : Int32)), (.int (2 : Int32)), (.int (2 : Int32))])) _
    refine XS.iadd X0.here hx rfl (hb hby d4_3) rfl ?_
    show Steps p.tables e below (s₁.setTop (mkF m 4 #[.val (.ref a0), .val (.int (2 : Int32)), .val (.int p2), .val (.int (2 : Int32)), .unset] [(.int ((2 : Int32) + (1 : Int32))), (.int (2 : Int32))])) _
    refine XS.icmpYes X0.here hx rfl (pc0 := 4) (pc' := 9) rfl (hb hby d4_4) rfl (flt (by decide : ¬ (((2 : Int32) + (1 : Int32)) < (2 : Int32)))).2.2.2 (by decide) (by decide) ?_
    show Steps p.tables e below (s₁.setTop (mkF m 9 #[.val (.ref a0), .val (.int (2 : Int32)), .val (.int p2), .val (.int (2 : Int32)), .unset] [])) _
    refine XS.iloadN X0.here hx rfl (hb hby d4_9) rfl ?_
    show Steps p.tables e below (s₁.setTop (mkF m 10 #[.val (.ref a0), .val (.int (2 : Int32)), .val (.int p2), .val (.int (2 : Int32)), .unset] [(.int (2 : Int32))])) _
    refine XS.iconst X0.here hx rfl (hb hby d4_10) ?_
    show Steps p.tables e below (s₁.setTop (mkF m 11 #[.val (.ref a0), .val (.int (2 : Int32)), .val (.int p2), .val (.int (2 : Int32)), .unset] [(.int (1 : Int32)), (.int (2 : Int32))])) _
    refine XS.iadd X0.here hx rfl (hb hby d4_11) rfl ?_
    show Steps p.tables e below (s₁.setTop (mkF m 12 #[.val (.ref a0), .val (.int (2 : Int32)), .val (.int p2), .val (.int (2 : Int32)), .unset] [(.int ((2 : Int32) + (1 : Int32)))])) _
    refine XS.iloadN X0.here hx rfl (hb hby d4_12) rfl ?_
    show Steps p.tables e below (s₁.setTop (mkF m 13 #[.val (.ref a0), .val (.int (2 : Int32)), .val (.int p2), .val (.int (2 : Int32)), .unset] [(.int (2 : Int32)), (.int ((2 : Int32) + (1 : Int32)))])) _
    refine XS.isub X0.here hx rfl (hb hby d4_13) rfl ?_
    show Steps p.tables e below (s₁.setTop (mkF m 14 #[.val (.ref a0), .val (.int (2 : Int32)), .val (.int p2), .val (.int (2 : Int32)), .unset] [(.int (((2 : Int32) + (1 : Int32)) - (2 : Int32)))])) _
    refine XS.istore X0.here hx rfl (hb hby d4_14) rfl (l' := #[.val (.ref a0), .val (.int (2 : Int32)), .val (.int p2), .val (.int (2 : Int32)), .val (.int (((2 : Int32) + (1 : Int32)) - (2 : Int32)))]) rfl ?_
    show Steps p.tables e below (s₁.setTop (mkF m 16 #[.val (.ref a0), .val (.int (2 : Int32)), .val (.int p2), .val (.int (2 : Int32)), .val (.int (((2 : Int32) + (1 : Int32)) - (2 : Int32)))] [])) _
    refine XS.iloadN X0.here hx rfl (hb hby d4_16) rfl ?_
    show Steps p.tables e below (s₁.setTop (mkF m 17 #[.val (.ref a0), .val (.int (2 : Int32)), .val (.int p2), .val (.int (2 : Int32)), .val (.int (((2 : Int32) + (1 : Int32)) - (2 : Int32)))] [(.int (2 : Int32))])) _
    refine XS.ifNo X0.here hx rfl (hb hby d4_17) rfl ((if0 _ _).trans (tlt (by decide : (0 : Int32) < (2 : Int32))).2.2.2) ?_
    show Steps p.tables e below (s₁.setTop (mkF m 20 #[.val (.ref a0), .val (.int (2 : Int32)), .val (.int p2), .val (.int (2 : Int32)), .val (.int (((2 : Int32) + (1 : Int32)) - (2 : Int32)))] [])) _
    refine XS.aloadN X0.here hx rfl (hb hby d4_20) rfl rfl ?_
    show Steps p.tables e below (s₁.setTop (mkF m 21 #[.val (.ref a0), .val (.int (2 : Int32)), .val (.int p2), .val (.int (2 : Int32)), .val (.int (((2 : Int32) + (1 : Int32)) - (2 : Int32)))] [(.ref a0)])) _
    refine XS.iconst X0.here hx rfl (hb hby d4_21) ?_
    show Steps p.tables e below (s₁.setTop (mkF m 22 #[.val (.ref a0), .val (.int (2 : Int32)), .val (.int p2), .val (.int (2 : Int32)), .val (.int (((2 : Int32) + (1 : Int32)) - (2 : Int32)))] [(.int (0 : Int32)), (.ref a0)])) _
    refine own_rdI X0 hx hZ e0 V_a0 (j := (0 : Int32)) (i := 0) (by decide) (by decide) (g := (mkF m 22 #[.val (.ref a0), .val (.int (2 : Int32)), .val (.int p2), .val (.int (2 : Int32)), .val (.int (((2 : Int32) + (1 : Int32)) - (2 : Int32)))] [(.int (0 : Int32)), (.ref a0)])) rfl rfl (hb hby d4_22) _ ?_
    show Steps p.tables e below (s₁.setTop (mkF m 23 #[.val (.ref a0), .val (.int (2 : Int32)), .val (.int p2), .val (.int (2 : Int32)), .val (.int (((2 : Int32) + (1 : Int32)) - (2 : Int32)))] [(.int (f 0))])) _
    refine XS.aloadN X0.here hx rfl (hb hby d4_23) rfl rfl ?_
    show Steps p.tables e below (s₁.setTop (mkF m 24 #[.val (.ref a0), .val (.int (2 : Int32)), .val (.int p2), .val (.int (2 : Int32)), .val (.int (((2 : Int32) + (1 : Int32)) - (2 : Int32)))] [(.ref a0), (.int (f 0))])) _
    refine XS.iloadN X0.here hx rfl (hb hby d4_24) rfl ?_
    show Steps p.tables e below (s₁.setTop (mkF m 25 #[.val (.ref a0), .val (.int (2 : Int32)), .val (.int p2), .val (.int (2 : Int32)), .val (.int (((2 : Int32) + (1 : Int32)) - (2 : Int32)))] [(.int (2 : Int32)), (.ref a0), (.int (f 0))])) _
    refine XS.iloadN X0.here hx rfl (hb hby d4_25) rfl ?_
    show Steps p.tables e below (s₁.setTop (mkF m 26 #[.val (.ref a0), .val (.int (2 : Int32)), .val (.int p2), .val (.int (2 : Int32)), .val (.int (((2 : Int32) + (1 : Int32)) - (2 : Int32)))] [(.int p2), (.int (2 : Int32)), (.ref a0), (.int (f 0))])) _
    refine XS.iload X0.here hx rfl (hb hby d4_26) rfl ?_
    show Steps p.tables e below (s₁.setTop (mkF m 28 #[.val (.ref a0), .val (.int (2 : Int32)), .val (.int p2), .val (.int (2 : Int32)), .val (.int (((2 : Int32) + (1 : Int32)) - (2 : Int32)))] [(.int (((2 : Int32) + (1 : Int32)) - (2 : Int32))), (.int p2), (.int (2 : Int32)), (.ref a0), (.int (f 0))])) _
    refine st165 _ ?_
    show Steps p.tables e below (T165.setTop (mkF m 31 #[.val (.ref a0), .val (.int (2 : Int32)), .val (.int p2), .val (.int (2 : Int32)), .val (.int (((2 : Int32) + (1 : Int32)) - (2 : Int32)))] [(.int (f 1)), (.int (f 0))])) _
    exact kt
  by_cases hc168 : (f 0) = (f 1)
  · skip
    obtain ⟨_, _, ⟨T169, L169, k169, n169⟩, -, X169, ⟨Lc169, hQ169, l169, y169, z169⟩, st169⟩ := Jvm.LawKit.callS X165 hx (y := (⟨"com/example/xcu/xcu/UnitStringExtendPinLaw", "sAt", "([IIII)I"⟩ : MethodName)) hown (mvT hZ (hw _ (List.mem_of_getElem? (i := 35) rfl))) (mvT hZ (hw _ (List.mem_of_getElem? (i := 36) rfl))) (mvT hZ (hw _ (List.mem_of_getElem? (i := 33) rfl))) (mvT hZ (hw _ (List.mem_of_getElem? (i := 37) rfl))) (by decide) (backOf (W := 1) (rm5_2_2 l Z aq hw [] a0 p2 f h0 n0 Z0 V_a0) hZ (hw _ (List.mem_of_getElem? (i := 37) rfl)) (hw _ (List.mem_of_getElem? (i := 33) rfl)) (by decide) (by decide)) (g := (mkF m 51 #[.val (.ref a0), .val (.int (2 : Int32)), .val (.int p2), .val (.int (2 : Int32)), .val (.int (((2 : Int32) + (1 : Int32)) - (2 : Int32)))] [(.int ((((2 : Int32) + (1 : Int32)) - (2 : Int32)) + (1 : Int32))), (.int p2), (.int (2 : Int32)), (.ref a0), (.int (f 1))])) rfl (by rw [hml]; rfl) (argsL := [(.ref a0), (.int (2 : Int32)), (.int p2), (.int ((((2 : Int32) + (1 : Int32)) - (2 : Int32)) + (1 : Int32)))]) (rest := [(.int (f 1))]) (lenOf pd21711166 rfl) rfl (by show 2 * 0 + _ ≤ _; exact Nat.le_of_eq rfl) (hb hby d4_51) (fun _ _ => ⟨rfl, e165, (by decide : 0 + 0 ≤ _), (by decide : 0 + 0 ≤ _)⟩)
    dsimp only [Pt.U, Pt.locs, Pt.cells, Pt.slots] at X169 l169 y169 z169 st169 hQ169
    subst l169 y169 z169
    obtain ⟨rfl, N169q, e169⟩ := hQ169
    have N170 := Fr.app N166 N169q
    have pre171 : ∀ t, Steps p.tables e below (T169.setTop (mkF m 54 #[.val (.ref a0), .val (.int (2 : Int32)), .val (.int p2), .val (.int (2 : Int32)), .val (.int (((2 : Int32) + (1 : Int32)) - (2 : Int32)))] [(.int p2), (.int (f 1))])) t → Steps p.tables e below (s₁.setTop (entryFrame m #[(.ref a0), (.int (2 : Int32)), (.int p2), (.int (2 : Int32))] 5)) t := fun t kt => by
      refine pre167 _ ?_
      show Steps p.tables e below (T165.setTop (mkF m 31 #[.val (.ref a0), .val (.int (2 : Int32)), .val (.int p2), .val (.int (2 : Int32)), .val (.int (((2 : Int32) + (1 : Int32)) - (2 : Int32)))] [(.int (f 1)), (.int (f 0))])) _
      refine XS.icmpYes X165.here hx rfl (pc0 := 31) (pc' := 36) rfl (hb hby d4_31) rfl (teq hc168).1 (by decide) (by decide) ?_
      show Steps p.tables e below (T165.setTop (mkF m 36 #[.val (.ref a0), .val (.int (2 : Int32)), .val (.int p2), .val (.int (2 : Int32)), .val (.int (((2 : Int32) + (1 : Int32)) - (2 : Int32)))] [])) _
      refine XS.iloadN X165.here hx rfl (hb hby d4_36) rfl ?_
      show Steps p.tables e below (T165.setTop (mkF m 37 #[.val (.ref a0), .val (.int (2 : Int32)), .val (.int p2), .val (.int (2 : Int32)), .val (.int (((2 : Int32) + (1 : Int32)) - (2 : Int32)))] [(.int (2 : Int32))])) _
      refine XS.iconst X165.here hx rfl (hb hby d4_37) ?_
      show Steps p.tables e below (T165.setTop (mkF m 38 #[.val (.ref a0), .val (.int (2 : Int32)), .val (.int p2), .val (.int (2 : Int32)), .val (.int (((2 : Int32) + (1 : Int32)) - (2 : Int32)))] [(.int (1 : Int32)), (.int (2 : Int32))])) _
      refine XS.icmpNo X165.here hx rfl (hb hby d4_38) rfl (tlt (by decide : (1 : Int32) < (2 : Int32))).2.2.2 ?_
      show Steps p.tables e below (T165.setTop (mkF m 41 #[.val (.ref a0), .val (.int (2 : Int32)), .val (.int p2), .val (.int (2 : Int32)), .val (.int (((2 : Int32) + (1 : Int32)) - (2 : Int32)))] [])) _
      refine XS.aloadN X165.here hx rfl (hb hby d4_41) rfl rfl ?_
      show Steps p.tables e below (T165.setTop (mkF m 42 #[.val (.ref a0), .val (.int (2 : Int32)), .val (.int p2), .val (.int (2 : Int32)), .val (.int (((2 : Int32) + (1 : Int32)) - (2 : Int32)))] [(.ref a0)])) _
      refine XS.iconst X165.here hx rfl (hb hby d4_42) ?_
      show Steps p.tables e below (T165.setTop (mkF m 43 #[.val (.ref a0), .val (.int (2 : Int32)), .val (.int p2), .val (.int (2 : Int32)), .val (.int (((2 : Int32) + (1 : Int32)) - (2 : Int32)))] [(.int (1 : Int32)), (.ref a0)])) _
      refine own_rdI X165 hx hZ e165 V_a0 (j := (1 : Int32)) (i := 1) (by decide) (by decide) (g := (mkF m 43 #[.val (.ref a0), .val (.int (2 : Int32)), .val (.int p2), .val (.int (2 : Int32)), .val (.int (((2 : Int32) + (1 : Int32)) - (2 : Int32)))] [(.int (1 : Int32)), (.ref a0)])) rfl rfl (hb hby d4_43) _ ?_
      show Steps p.tables e below (T165.setTop (mkF m 44 #[.val (.ref a0), .val (.int (2 : Int32)), .val (.int p2), .val (.int (2 : Int32)), .val (.int (((2 : Int32) + (1 : Int32)) - (2 : Int32)))] [(.int (f 1))])) _
      refine XS.aloadN X165.here hx rfl (hb hby d4_44) rfl rfl ?_
      show Steps p.tables e below (T165.setTop (mkF m 45 #[.val (.ref a0), .val (.int (2 : Int32)), .val (.int p2), .val (.int (2 : Int32)), .val (.int (((2 : Int32) + (1 : Int32)) - (2 : Int32)))] [(.ref a0), (.int (f 1))])) _
      refine XS.iloadN X165.here hx rfl (hb hby d4_45) rfl ?_
      show Steps p.tables e below (T165.setTop (mkF m 46 #[.val (.ref a0), .val (.int (2 : Int32)), .val (.int p2), .val (.int (2 : Int32)), .val (.int (((2 : Int32) + (1 : Int32)) - (2 : Int32)))] [(.int (2 : Int32)), (.ref a0), (.int (f 1))])) _
      refine XS.iloadN X165.here hx rfl (hb hby d4_46) rfl ?_
      show Steps p.tables e below (T165.setTop (mkF m 47 #[.val (.ref a0), .val (.int (2 : Int32)), .val (.int p2), .val (.int (2 : Int32)), .val (.int (((2 : Int32) + (1 : Int32)) - (2 : Int32)))] [(.int p2), (.int (2 : Int32)), (.ref a0), (.int (f 1))])) _
      refine XS.iload X165.here hx rfl (hb hby d4_47) rfl ?_
      show Steps p.tables e below (T165.setTop (mkF m 49 #[.val (.ref a0), .val (.int (2 : Int32)), .val (.int p2), .val (.int (2 : Int32)), .val (.int (((2 : Int32) + (1 : Int32)) - (2 : Int32)))] [(.int (((2 : Int32) + (1 : Int32)) - (2 : Int32))), (.int p2), (.int (2 : Int32)), (.ref a0), (.int (f 1))])) _
      refine XS.iconst X165.here hx rfl (hb hby d4_49) ?_
      show Steps p.tables e below (T165.setTop (mkF m 50 #[.val (.ref a0), .val (.int (2 : Int32)), .val (.int p2), .val (.int (2 : Int32)), .val (.int (((2 : Int32) + (1 : Int32)) - (2 : Int32)))] [(.int (1 : Int32)), (.int (((2 : Int32) + (1 : Int32)) - (2 : Int32))), (.int p2), (.int (2 : Int32)), (.ref a0), (.int (f 1))])) _
      refine XS.iadd X165.here hx rfl (hb hby d4_50) rfl ?_
      show Steps p.tables e below (T165.setTop (mkF m 51 #[.val (.ref a0), .val (.int (2 : Int32)), .val (.int p2), .val (.int (2 : Int32)), .val (.int (((2 : Int32) + (1 : Int32)) - (2 : Int32)))] [(.int ((((2 : Int32) + (1 : Int32)) - (2 : Int32)) + (1 : Int32))), (.int p2), (.int (2 : Int32)), (.ref a0), (.int (f 1))])) _
      refine st169 _ ?_
      show Steps p.tables e below (T169.setTop (mkF m 54 #[.val (.ref a0), .val (.int (2 : Int32)), .val (.int p2), .val (.int (2 : Int32)), .val (.int (((2 : Int32) + (1 : Int32)) - (2 : Int32)))] [(.int p2), (.int (f 1))])) _
      exact kt
    by_cases hc172 : (f 1) = p2
    · skip
      have pre173 : ∀ t, Steps p.tables e below (T169.setTop (mkF m 106 #[.val (.ref a0), .val (.int (2 : Int32)), .val (.int p2), .val (.int (2 : Int32)), .val (.int (((2 : Int32) + (1 : Int32)) - (2 : Int32)))] [(.int (1 : Int32))])) t → Steps p.tables e below (s₁.setTop (entryFrame m #[(.ref a0), (.int (2 : Int32)), (.int p2), (.int (2 : Int32))] 5)) t := fun t kt => by
        refine pre171 _ ?_
        show Steps p.tables e below (T169.setTop (mkF m 54 #[.val (.ref a0), .val (.int (2 : Int32)), .val (.int p2), .val (.int (2 : Int32)), .val (.int (((2 : Int32) + (1 : Int32)) - (2 : Int32)))] [(.int p2), (.int (f 1))])) _
        refine XS.icmpYes X169.here hx rfl (pc0 := 54) (pc' := 59) rfl (hb hby d4_54) rfl (teq hc172).1 (by decide) (by decide) ?_
        show Steps p.tables e below (T169.setTop (mkF m 59 #[.val (.ref a0), .val (.int (2 : Int32)), .val (.int p2), .val (.int (2 : Int32)), .val (.int (((2 : Int32) + (1 : Int32)) - (2 : Int32)))] [])) _
        refine XS.iloadN X169.here hx rfl (hb hby d4_59) rfl ?_
        show Steps p.tables e below (T169.setTop (mkF m 60 #[.val (.ref a0), .val (.int (2 : Int32)), .val (.int p2), .val (.int (2 : Int32)), .val (.int (((2 : Int32) + (1 : Int32)) - (2 : Int32)))] [(.int (2 : Int32))])) _
        refine XS.iconst X169.here hx rfl (hb hby d4_60) ?_
        show Steps p.tables e below (T169.setTop (mkF m 61 #[.val (.ref a0), .val (.int (2 : Int32)), .val (.int p2), .val (.int (2 : Int32)), .val (.int (((2 : Int32) + (1 : Int32)) - (2 : Int32)))] [(.int (2 : Int32)), (.int (2 : Int32))])) _
        refine XS.icmpYes X169.here hx rfl (pc0 := 61) (pc' := 82) rfl (hb hby d4_61) rfl (flt (by decide : ¬ ((2 : Int32) < (2 : Int32)))).2.2.2 (by decide) (by decide) ?_
        show Steps p.tables e below (T169.setTop (mkF m 82 #[.val (.ref a0), .val (.int (2 : Int32)), .val (.int p2), .val (.int (2 : Int32)), .val (.int (((2 : Int32) + (1 : Int32)) - (2 : Int32)))] [])) _
        refine XS.iloadN X169.here hx rfl (hb hby d4_82) rfl ?_
        show Steps p.tables e below (T169.setTop (mkF m 83 #[.val (.ref a0), .val (.int (2 : Int32)), .val (.int p2), .val (.int (2 : Int32)), .val (.int (((2 : Int32) + (1 : Int32)) - (2 : Int32)))] [(.int (2 : Int32))])) _
        refine XS.iconst X169.here hx rfl (hb hby d4_83) ?_
        show Steps p.tables e below (T169.setTop (mkF m 84 #[.val (.ref a0), .val (.int (2 : Int32)), .val (.int p2), .val (.int (2 : Int32)), .val (.int (((2 : Int32) + (1 : Int32)) - (2 : Int32)))] [(.int (3 : Int32)), (.int (2 : Int32))])) _
        refine XS.icmpYes X169.here hx rfl (pc0 := 84) (pc' := 105) rfl (hb hby d4_84) rfl (flt (by decide : ¬ ((3 : Int32) < (2 : Int32)))).2.2.2 (by decide) (by decide) ?_
        show Steps p.tables e below (T169.setTop (mkF m 105 #[.val (.ref a0), .val (.int (2 : Int32)), .val (.int p2), .val (.int (2 : Int32)), .val (.int (((2 : Int32) + (1 : Int32)) - (2 : Int32)))] [])) _
        refine XS.iconst X169.here hx rfl (hb hby d4_105) ?_
        show Steps p.tables e below (T169.setTop (mkF m 106 #[.val (.ref a0), .val (.int (2 : Int32)), .val (.int p2), .val (.int (2 : Int32)), .val (.int (((2 : Int32) + (1 : Int32)) - (2 : Int32)))] [(.int (1 : Int32))])) _
        exact kt
      obtain ⟨fs, hr, hrun, hended, hW, hsame⟩ := X169.leave (v := some (.int (1 : Int32))) (fun h => by rw [Bd.returns] at h; cases h)
      refine ⟨_, _, pre173 _ ?_, hrun, hended, _, _, rfl, ?_, ⟨_, rfl⟩, hW, hsame.mono (by decide) (by decide)⟩
      · exact retN X169 hx (t := .boolean) Bd.returns (by simp) (hb hby d4_106) hr
      · show Q4_2_2 Z a0 p2 f h0 n0 _ T169.heap _
        rw [e169]
        exact ⟨(own_rI (by rw [if_pos hc168, if_pos hc172] : (1 : Int32) = (if (f 0) = (f 1) then (if (f 1) = p2 then (1 : Int32) else (0 : Int32)) else (0 : Int32)))), N170, rfl⟩
    · skip
      have pre174 : ∀ t, Steps p.tables e below (T169.setTop (mkF m 58 #[.val (.ref a0), .val (.int (2 : Int32)), .val (.int p2), .val (.int (2 : Int32)), .val (.int (((2 : Int32) + (1 : Int32)) - (2 : Int32)))] [(.int (0 : Int32))])) t → Steps p.tables e below (s₁.setTop (entryFrame m #[(.ref a0), (.int (2 : Int32)), (.int p2), (.int (2 : Int32))] 5)) t := fun t kt => by
        refine pre171 _ ?_
        show Steps p.tables e below (T169.setTop (mkF m 54 #[.val (.ref a0), .val (.int (2 : Int32)), .val (.int p2), .val (.int (2 : Int32)), .val (.int (((2 : Int32) + (1 : Int32)) - (2 : Int32)))] [(.int p2), (.int (f 1))])) _
        refine XS.icmpNo X169.here hx rfl (hb hby d4_54) rfl (feq hc172).1 ?_
        show Steps p.tables e below (T169.setTop (mkF m 57 #[.val (.ref a0), .val (.int (2 : Int32)), .val (.int p2), .val (.int (2 : Int32)), .val (.int (((2 : Int32) + (1 : Int32)) - (2 : Int32)))] [])) _
        refine XS.iconst X169.here hx rfl (hb hby d4_57) ?_
        show Steps p.tables e below (T169.setTop (mkF m 58 #[.val (.ref a0), .val (.int (2 : Int32)), .val (.int p2), .val (.int (2 : Int32)), .val (.int (((2 : Int32) + (1 : Int32)) - (2 : Int32)))] [(.int (0 : Int32))])) _
        exact kt
      obtain ⟨fs, hr, hrun, hended, hW, hsame⟩ := X169.leave (v := some (.int (0 : Int32))) (fun h => by rw [Bd.returns] at h; cases h)
      refine ⟨_, _, pre174 _ ?_, hrun, hended, _, _, rfl, ?_, ⟨_, rfl⟩, hW, hsame.mono (by decide) (by decide)⟩
      · exact retN X169 hx (t := .boolean) Bd.returns (by simp) (hb hby d4_58) hr
      · show Q4_2_2 Z a0 p2 f h0 n0 _ T169.heap _
        rw [e169]
        exact ⟨(own_rI (by rw [if_pos hc168, if_neg hc172] : (0 : Int32) = (if (f 0) = (f 1) then (if (f 1) = p2 then (1 : Int32) else (0 : Int32)) else (0 : Int32)))), N170, rfl⟩
  · skip
    have pre175 : ∀ t, Steps p.tables e below (T165.setTop (mkF m 35 #[.val (.ref a0), .val (.int (2 : Int32)), .val (.int p2), .val (.int (2 : Int32)), .val (.int (((2 : Int32) + (1 : Int32)) - (2 : Int32)))] [(.int (0 : Int32))])) t → Steps p.tables e below (s₁.setTop (entryFrame m #[(.ref a0), (.int (2 : Int32)), (.int p2), (.int (2 : Int32))] 5)) t := fun t kt => by
      refine pre167 _ ?_
      show Steps p.tables e below (T165.setTop (mkF m 31 #[.val (.ref a0), .val (.int (2 : Int32)), .val (.int p2), .val (.int (2 : Int32)), .val (.int (((2 : Int32) + (1 : Int32)) - (2 : Int32)))] [(.int (f 1)), (.int (f 0))])) _
      refine XS.icmpNo X165.here hx rfl (hb hby d4_31) rfl (feq hc168).1 ?_
      show Steps p.tables e below (T165.setTop (mkF m 34 #[.val (.ref a0), .val (.int (2 : Int32)), .val (.int p2), .val (.int (2 : Int32)), .val (.int (((2 : Int32) + (1 : Int32)) - (2 : Int32)))] [])) _
      refine XS.iconst X165.here hx rfl (hb hby d4_34) ?_
      show Steps p.tables e below (T165.setTop (mkF m 35 #[.val (.ref a0), .val (.int (2 : Int32)), .val (.int p2), .val (.int (2 : Int32)), .val (.int (((2 : Int32) + (1 : Int32)) - (2 : Int32)))] [(.int (0 : Int32))])) _
      exact kt
    obtain ⟨fs, hr, hrun, hended, hW, hsame⟩ := X165.leave (v := some (.int (0 : Int32))) (fun h => by rw [Bd.returns] at h; cases h)
    refine ⟨_, _, pre175 _ ?_, hrun, hended, _, _, rfl, ?_, ⟨_, rfl⟩, hW, hsame.mono (by decide) (by decide)⟩
    · exact retN X165 hx (t := .boolean) Bd.returns (by simp) (hb hby d4_35) hr
    · show Q4_2_2 Z a0 p2 f h0 n0 _ T165.heap _
      rw [e165]
      exact ⟨(own_rI (by rw [if_neg hc168] : (0 : Int32) = (if (f 0) = (f 1) then (if (f 1) = p2 then (1 : Int32) else (0 : Int32)) else (0 : Int32)))), N166, rfl⟩
theorem ef_4_2_3 (m : MethodId) (a0 : Addr) (p2 : Int32) : entryFrame m #[(.ref a0), (.int (2 : Int32)), (.int p2), (.int (3 : Int32))] 5 = mkF m 0 #[.val (.ref a0), .val (.int (2 : Int32)), .val (.int p2), .val (.int (3 : Int32)), .unset] [] := by first | (simp [entryFrame, mkF, argsToLocals, Value.category]; done) | rfl
def Q4_2_3 (Z : State) (a0 : Addr) (p2 : Int32) (f : Nat → Int32) (h0 : Heap) (n0 : Nat) (v : Option Value) (h : Heap) (L : List Loc) : Prop := v = some (.int (if (f 2) = p2 then (1 : Int32) else (0 : Int32))) ∧ Fr n0 L ∧ h = h0
set_option maxRecDepth 65536 in
set_option maxHeartbeats 40000000 in
theorem rm4_2_3 (l : Launch) (Z : State) (aq : Array Value) (hw : ∀ d ∈ tables_1, d.before aq Z = true) (ws : List Jvm.Cond) (a0 : Addr) (p2 : Int32) (f : Nat → Int32) (h0 : Heap) (n0 : Nat) (Z0 : n0 ≤ h0.size) (V_a0 : own_Ar Z h0 a0 .int 4 f) :
    MetFree l (⟨"com/example/xcu/xcu/UnitStringExtendPinLaw", "fits", "([IIII)Z"⟩ : MethodName) (head1 (Jvm.Cond.code (⟨"com/example/xcu/xcu/UnitStringExtendPinLaw", "fits", "([IIII)Z"⟩ : MethodName) method_3_code 5 (some .boolean) :: ws) ({ frames := 1, cells := 0, slots := 0, locals := 16 } : Room)) (fun a U => a = #[(.ref a0), (.int (2 : Int32)), (.int p2), (.int (3 : Int32))] ∧ Z.Warmed39 U.vm ∧ U.heap = h0) (fun _ _ _ _ _ => True) (fun _ U o U' => ∃ v L, o = .returned v ∧ Q4_2_3 Z a0 p2 f h0 n0 v U'.heap L ∧ FrameEnd U o U' L ({ frames := 1, cells := 0, slots := 0, locals := 16 } : Room).cells ({ frames := 1, cells := 0, slots := 0, locals := 16 } : Room).slots) := by
  refine MetFree.of_bodySF (plainFor_of_name pn51678678) hisR ?_
  intro p e s m args below meth c s₁ Bd hml0 hP hK
  obtain ⟨rfl, hZ, hh⟩ := hP
  have hx := Bd.exec
  have hby := Bd.bytes
  have hml : c.maxLocals = 5 := hml0
  have hown : s.vm.findClass "com/example/xcu/xcu/UnitStringExtendPinLaw" = some m.cls := findClass_of_methodNamed Bd.named
  have hnm := (name_of_methodNamed Bd.named Bd.method).1
  have X0 : Stand p l e ({ frames := 1, cells := 0, slots := 0, locals := 16 } : Room) s m #[(.ref a0), (.int (2 : Int32)), (.int p2), (.int (3 : Int32))] below meth c s₁ [] 0 0 := Stand.of_body Bd
  have e0 : s₁.heap = h0 := by rw [← hh, Bd.state]; rfl
  have N0 := Fr.nil n0
  have pre0 : ∀ t, Steps p.tables e below (s₁.setTop (mkF m 0 #[.val (.ref a0), .val (.int (2 : Int32)), .val (.int p2), .val (.int (3 : Int32)), .unset] [])) t → Steps p.tables e below (s₁.setTop (entryFrame m #[(.ref a0), (.int (2 : Int32)), (.int p2), (.int (3 : Int32))] 5)) t := fun t k => castTop (ef_4_2_3 m a0 p2) k
  obtain ⟨_, _, ⟨T184, L184, k184, n184⟩, -, X184, ⟨Lc184, hQ184, l184, y184, z184⟩, st184⟩ := Jvm.LawKit.callS X0 hx (y := (⟨"com/example/xcu/xcu/UnitStringExtendPinLaw", "sAt", "([IIII)I"⟩ : MethodName)) hown (mvT hZ (hw _ (List.mem_of_getElem? (i := 35) rfl))) (mvT hZ (hw _ (List.mem_of_getElem? (i := 36) rfl))) (mvT hZ (hw _ (List.mem_of_getElem? (i := 33) rfl))) (mvT hZ (hw _ (List.mem_of_getElem? (i := 37) rfl))) (by decide) (backOf (W := 1) (rm5_2_0 l Z aq hw [] a0 p2 f h0 n0 Z0 V_a0) hZ (hw _ (List.mem_of_getElem? (i := 37) rfl)) (hw _ (List.mem_of_getElem? (i := 33) rfl)) (by decide) (by decide)) (g := (mkF m 28 #[.val (.ref a0), .val (.int (2 : Int32)), .val (.int p2), .val (.int (3 : Int32)), .val (.int (((2 : Int32) + (1 : Int32)) - (3 : Int32)))] [(.int (((2 : Int32) + (1 : Int32)) - (3 : Int32))), (.int p2), (.int (2 : Int32)), (.ref a0), (.int (f 0))])) rfl (by rw [hml]; rfl) (argsL := [(.ref a0), (.int (2 : Int32)), (.int p2), (.int (((2 : Int32) + (1 : Int32)) - (3 : Int32)))]) (rest := [(.int (f 0))]) (lenOf pd21711166 rfl) rfl (by show 2 * 0 + _ ≤ _; exact Nat.le_of_eq rfl) (hb hby d4_28) (fun _ _ => ⟨rfl, e0, (by decide : 0 + 0 ≤ _), (by decide : 0 + 0 ≤ _)⟩)
  dsimp only [Pt.U, Pt.locs, Pt.cells, Pt.slots] at X184 l184 y184 z184 st184 hQ184
  subst l184 y184 z184
  obtain ⟨rfl, N184q, e184⟩ := hQ184
  have N185 := Fr.app N0 N184q
  obtain ⟨_, _, ⟨T186, L186, k186, n186⟩, -, X186, ⟨Lc186, hQ186, l186, y186, z186⟩, st186⟩ := Jvm.LawKit.callS X184 hx (y := (⟨"com/example/xcu/xcu/UnitStringExtendPinLaw", "sAt", "([IIII)I"⟩ : MethodName)) hown (mvT hZ (hw _ (List.mem_of_getElem? (i := 35) rfl))) (mvT hZ (hw _ (List.mem_of_getElem? (i := 36) rfl))) (mvT hZ (hw _ (List.mem_of_getElem? (i := 33) rfl))) (mvT hZ (hw _ (List.mem_of_getElem? (i := 37) rfl))) (by decide) (backOf (W := 1) (rm5_2_1 l Z aq hw [] a0 p2 f h0 n0 Z0 V_a0) hZ (hw _ (List.mem_of_getElem? (i := 37) rfl)) (hw _ (List.mem_of_getElem? (i := 33) rfl)) (by decide) (by decide)) (g := (mkF m 51 #[.val (.ref a0), .val (.int (2 : Int32)), .val (.int p2), .val (.int (3 : Int32)), .val (.int (((2 : Int32) + (1 : Int32)) - (3 : Int32)))] [(.int ((((2 : Int32) + (1 : Int32)) - (3 : Int32)) + (1 : Int32))), (.int p2), (.int (2 : Int32)), (.ref a0), (.int (f 1))])) rfl (by rw [hml]; rfl) (argsL := [(.ref a0), (.int (2 : Int32)), (.int p2), (.int ((((2 : Int32) + (1 : Int32)) - (3 : Int32)) + (1 : Int32)))]) (rest := [(.int (f 1))]) (lenOf pd21711166 rfl) rfl (by show 2 * 0 + _ ≤ _; exact Nat.le_of_eq rfl) (hb hby d4_51) (fun _ _ => ⟨rfl, e184, (by decide : 0 + 0 ≤ _), (by decide : 0 + 0 ≤ _)⟩)
  dsimp only [Pt.U, Pt.locs, Pt.cells, Pt.slots] at X186 l186 y186 z186 st186 hQ186
  subst l186 y186 z186
  obtain ⟨rfl, N186q, e186⟩ := hQ186
  have N187 := Fr.app N185 N186q
  obtain ⟨_, _, ⟨T188, L188, k188, n188⟩, -, X188, ⟨Lc188, hQ188, l188, y188, z188⟩, st188⟩ := Jvm.LawKit.callS X186 hx (y := (⟨"com/example/xcu/xcu/UnitStringExtendPinLaw", "sAt", "([IIII)I"⟩ : MethodName)) hown (mvT hZ (hw _ (List.mem_of_getElem? (i := 35) rfl))) (mvT hZ (hw _ (List.mem_of_getElem? (i := 36) rfl))) (mvT hZ (hw _ (List.mem_of_getElem? (i := 33) rfl))) (mvT hZ (hw _ (List.mem_of_getElem? (i := 37) rfl))) (by decide) (backOf (W := 1) (rm5_2_2 l Z aq hw [] a0 p2 f h0 n0 Z0 V_a0) hZ (hw _ (List.mem_of_getElem? (i := 37) rfl)) (hw _ (List.mem_of_getElem? (i := 33) rfl)) (by decide) (by decide)) (g := (mkF m 74 #[.val (.ref a0), .val (.int (2 : Int32)), .val (.int p2), .val (.int (3 : Int32)), .val (.int (((2 : Int32) + (1 : Int32)) - (3 : Int32)))] [(.int ((((2 : Int32) + (1 : Int32)) - (3 : Int32)) + (2 : Int32))), (.int p2), (.int (2 : Int32)), (.ref a0), (.int (f 2))])) rfl (by rw [hml]; rfl) (argsL := [(.ref a0), (.int (2 : Int32)), (.int p2), (.int ((((2 : Int32) + (1 : Int32)) - (3 : Int32)) + (2 : Int32)))]) (rest := [(.int (f 2))]) (lenOf pd21711166 rfl) rfl (by show 2 * 0 + _ ≤ _; exact Nat.le_of_eq rfl) (hb hby d4_74) (fun _ _ => ⟨rfl, e186, (by decide : 0 + 0 ≤ _), (by decide : 0 + 0 ≤ _)⟩)
  dsimp only [Pt.U, Pt.locs, Pt.cells, Pt.slots] at X188 l188 y188 z188 st188 hQ188
  subst l188 y188 z188
  obtain ⟨rfl, N188q, e188⟩ := hQ188
  have N189 := Fr.app N187 N188q
  have pre190 : ∀ t, Steps p.tables e below (T188.setTop (mkF m 77 #[.val (.ref a0), .val (.int (2 : Int32)), .val (.int p2), .val (.int (3 : Int32)), .val (.int (((2 : Int32) + (1 : Int32)) - (3 : Int32)))] [(.int p2), (.int (f 2))])) t → Steps p.tables e below (s₁.setTop (entryFrame m #[(.ref a0), (.int (2 : Int32)), (.int p2), (.int (3 : Int32))] 5)) t := fun t kt => by
    refine pre0 _ ?_
    show Steps p.tables e below (s₁.setTop (mkF m 0 #[.val (.ref a0), .val (.int (2 : Int32)), .val (.int p2), .val (.int (3 : Int32)), .unset] [])) _
    refine XS.iloadN X0.here hx rfl (hb hby d4_0) rfl ?_
    show Steps p.tables e below (s₁.setTop (mkF m 1 #[.val (.ref a0), .val (.int (2 : Int32)), .val (.int p2), .val (.int (3 : Int32)), .unset] [(.int (3 : Int32))])) _
    refine XS.iloadN X0.here hx rfl (hb hby d4_1) rfl ?_
    show Steps p.tables e below (s₁.setTop (mkF m 2 #[.val (.ref a0), .val (.int (2 : Int32)), .val (.int p2), .val (.int (3 : Int32)), .unset] [(.int (2 : Int32)), (.int (3 : Int32))])) _
    refine XS.iconst X0.here hx rfl (hb hby d4_2) ?_
    show Steps p.tables e below (s₁.setTop (mkF m 3 #[.val (.ref a0), .val (.int (2 : Int32)), .val (.int p2), .val (.int (3 : Int32)), .unset] [(.int (1 : Int32)), (.int (2 : Int32)), (.int (3 : Int32))])) _
    refine XS.iadd X0.here hx rfl (hb hby d4_3) rfl ?_
    show Steps p.tables e below (s₁.setTop (mkF m 4 #[.val (.ref a0), .val (.int (2 : Int32)), .val (.int p2), .val (.int (3 : Int32)), .unset] [(.int ((2 : Int32) + (1 : Int32))), (.int (3 : Int32))])) _
    refine XS.icmpYes X0.here hx rfl (pc0 := 4) (pc' := 9) rfl (hb hby d4_4) rfl (flt (by decide : ¬ (((2 : Int32) + (1 : Int32)) < (3 : Int32)))).2.2.2 (by decide) (by decide) ?_
    show Steps p.tables e below (s₁.setTop (mkF m 9 #[.val (.ref a0), .val (.int (2 : Int32)), .val (.int p2), .val (.int (3 : Int32)), .unset] [])) _
    refine XS.iloadN X0.here hx rfl (hb hby d4_9) rfl ?_
    show Steps p.tables e below (s₁.setTop (mkF m 10 #[.val (.ref a0), .val (.int (2 : Int32)), .val (.int p2), .val (.int (3 : Int32)), .unset] [(.int (2 : Int32))])) _
    refine XS.iconst X0.here hx rfl (hb hby d4_10) ?_
    show Steps p.tables e below (s₁.setTop (mkF m 11 #[.val (.ref a0), .val (.int (2 : Int32)), .val (.int p2), .val (.int (3 : Int32)), .unset] [(.int (1 : Int32)), (.int (2 : Int32))])) _
    refine XS.iadd X0.here hx rfl (hb hby d4_11) rfl ?_
    show Steps p.tables e below (s₁.setTop (mkF m 12 #[.val (.ref a0), .val (.int (2 : Int32)), .val (.int p2), .val (.int (3 : Int32)), .unset] [(.int ((2 : Int32) + (1 : Int32)))])) _
    refine XS.iloadN X0.here hx rfl (hb hby d4_12) rfl ?_
    show Steps p.tables e below (s₁.setTop (mkF m 13 #[.val (.ref a0), .val (.int (2 : Int32)), .val (.int p2), .val (.int (3 : Int32)), .unset] [(.int (3 : Int32)), (.int ((2 : Int32) + (1 : Int32)))])) _
    refine XS.isub X0.here hx rfl (hb hby d4_13) rfl ?_
    show Steps p.tables e below (s₁.setTop (mkF m 14 #[.val (.ref a0), .val (.int (2 : Int32)), .val (.int p2), .val (.int (3 : Int32)), .unset] [(.int (((2 : Int32) + (1 : Int32)) - (3 : Int32)))])) _
    refine XS.istore X0.here hx rfl (hb hby d4_14) rfl (l' := #[.val (.ref a0), .val (.int (2 : Int32)), .val (.int p2), .val (.int (3 : Int32)), .val (.int (((2 : Int32) + (1 : Int32)) - (3 : Int32)))]) rfl ?_
    show Steps p.tables e below (s₁.setTop (mkF m 16 #[.val (.ref a0), .val (.int (2 : Int32)), .val (.int p2), .val (.int (3 : Int32)), .val (.int (((2 : Int32) + (1 : Int32)) - (3 : Int32)))] [])) _
    refine XS.iloadN X0.here hx rfl (hb hby d4_16) rfl ?_
    show Steps p.tables e below (s₁.setTop (mkF m 17 #[.val (.ref a0), .val (.int (2 : Int32)), .val (.int p2), .val (.int (3 : Int32)), .val (.int (((2 : Int32) + (1 : Int32)) - (3 : Int32)))] [(.int (3 : Int32))])) _
    refine XS.ifNo X0.here hx rfl (hb hby d4_17) rfl ((if0 _ _).trans (tlt (by decide : (0 : Int32) < (3 : Int32))).2.2.2) ?_
    show Steps p.tables e below (s₁.setTop (mkF m 20 #[.val (.ref a0), .val (.int (2 : Int32)), .val (.int p2), .val (.int (3 : Int32)), .val (.int (((2 : Int32) + (1 : Int32)) - (3 : Int32)))] [])) _
    refine XS.aloadN X0.here hx rfl (hb hby d4_20) rfl rfl ?_
    show Steps p.tables e below (s₁.setTop (mkF m 21 #[.val (.ref a0), .val (.int (2 : Int32)), .val (.int p2), .val (.int (3 : Int32)), .val (.int (((2 : Int32) + (1 : Int32)) - (3 : Int32)))] [(.ref a0)])) _
    refine XS.iconst X0.here hx rfl (hb hby d4_21) ?_
    show Steps p.tables e below (s₁.setTop (mkF m 22 #[.val (.ref a0), .val (.int (2 : Int32)), .val (.int p2), .val (.int (3 : Int32)), .val (.int (((2 : Int32) + (1 : Int32)) - (3 : Int32)))] [(.int (0 : Int32)), (.ref a0)])) _
    refine own_rdI X0 hx hZ e0 V_a0 (j := (0 : Int32)) (i := 0) (by decide) (by decide) (g := (mkF m 22 #[.val (.ref a0), .val (.int (2 : Int32)), .val (.int p2), .val (.int (3 : Int32)), .val (.int (((2 : Int32) + (1 : Int32)) - (3 : Int32)))] [(.int (0 : Int32)), (.ref a0)])) rfl rfl (hb hby d4_22) _ ?_
    show Steps p.tables e below (s₁.setTop (mkF m 23 #[.val (.ref a0), .val (.int (2 : Int32)), .val (.int p2), .val (.int (3 : Int32)), .val (.int (((2 : Int32) + (1 : Int32)) - (3 : Int32)))] [(.int (f 0))])) _
    refine XS.aloadN X0.here hx rfl (hb hby d4_23) rfl rfl ?_
    show Steps p.tables e below (s₁.setTop (mkF m 24 #[.val (.ref a0), .val (.int (2 : Int32)), .val (.int p2), .val (.int (3 : Int32)), .val (.int (((2 : Int32) + (1 : Int32)) - (3 : Int32)))] [(.ref a0), (.int (f 0))])) _
    refine XS.iloadN X0.here hx rfl (hb hby d4_24) rfl ?_
    show Steps p.tables e below (s₁.setTop (mkF m 25 #[.val (.ref a0), .val (.int (2 : Int32)), .val (.int p2), .val (.int (3 : Int32)), .val (.int (((2 : Int32) + (1 : Int32)) - (3 : Int32)))] [(.int (2 : Int32)), (.ref a0), (.int (f 0))])) _
    refine XS.iloadN X0.here hx rfl (hb hby d4_25) rfl ?_
    show Steps p.tables e below (s₁.setTop (mkF m 26 #[.val (.ref a0), .val (.int (2 : Int32)), .val (.int p2), .val (.int (3 : Int32)), .val (.int (((2 : Int32) + (1 : Int32)) - (3 : Int32)))] [(.int p2), (.int (2 : Int32)), (.ref a0), (.int (f 0))])) _
    refine XS.iload X0.here hx rfl (hb hby d4_26) rfl ?_
    show Steps p.tables e below (s₁.setTop (mkF m 28 #[.val (.ref a0), .val (.int (2 : Int32)), .val (.int p2), .val (.int (3 : Int32)), .val (.int (((2 : Int32) + (1 : Int32)) - (3 : Int32)))] [(.int (((2 : Int32) + (1 : Int32)) - (3 : Int32))), (.int p2), (.int (2 : Int32)), (.ref a0), (.int (f 0))])) _
    refine st184 _ ?_
    show Steps p.tables e below (T184.setTop (mkF m 31 #[.val (.ref a0), .val (.int (2 : Int32)), .val (.int p2), .val (.int (3 : Int32)), .val (.int (((2 : Int32) + (1 : Int32)) - (3 : Int32)))] [(.int (f 0)), (.int (f 0))])) _
    refine XS.icmpYes X184.here hx rfl (pc0 := 31) (pc' := 36) rfl (hb hby d4_31) rfl (teq (rfl : (f 0) = (f 0))).1 (by decide) (by decide) ?_
    show Steps p.tables e below (T184.setTop (mkF m 36 #[.val (.ref a0), .val (.int (2 : Int32)), .val (.int p2), .val (.int (3 : Int32)), .val (.int (((2 : Int32) + (1 : Int32)) - (3 : Int32)))] [])) _
    refine XS.iloadN X184.here hx rfl (hb hby d4_36) rfl ?_
    show Steps p.tables e below (T184.setTop (mkF m 37 #[.val (.ref a0), .val (.int (2 : Int32)), .val (.int p2), .val (.int (3 : Int32)), .val (.int (((2 : Int32) + (1 : Int32)) - (3 : Int32)))] [(.int (3 : Int32))])) _
    refine XS.iconst X184.here hx rfl (hb hby d4_37) ?_
    show Steps p.tables e below (T184.setTop (mkF m 38 #[.val (.ref a0), .val (.int (2 : Int32)), .val (.int p2), .val (.int (3 : Int32)), .val (.int (((2 : Int32) + (1 : Int32)) - (3 : Int32)))] [(.int (1 : Int32)), (.int (3 : Int32))])) _
    refine XS.icmpNo X184.here hx rfl (hb hby d4_38) rfl (tlt (by decide : (1 : Int32) < (3 : Int32))).2.2.2 ?_
    show Steps p.tables e below (T184.setTop (mkF m 41 #[.val (.ref a0), .val (.int (2 : Int32)), .val (.int p2), .val (.int (3 : Int32)), .val (.int (((2 : Int32) + (1 : Int32)) - (3 : Int32)))] [])) _
    refine XS.aloadN X184.here hx rfl (hb hby d4_41) rfl rfl ?_
    show Steps p.tables e below (T184.setTop (mkF m 42 #[.val (.ref a0), .val (.int (2 : Int32)), .val (.int p2), .val (.int (3 : Int32)), .val (.int (((2 : Int32) + (1 : Int32)) - (3 : Int32)))] [(.ref a0)])) _
    refine XS.iconst X184.here hx rfl (hb hby d4_42) ?_
    show Steps p.tables e below (T184.setTop (mkF m 43 #[.val (.ref a0), .val (.int (2 : Int32)), .val (.int p2), .val (.int (3 : Int32)), .val (.int (((2 : Int32) + (1 : Int32)) - (3 : Int32)))] [(.int (1 : Int32)), (.ref a0)])) _
    refine own_rdI X184 hx hZ e184 V_a0 (j := (1 : Int32)) (i := 1) (by decide) (by decide) (g := (mkF m 43 #[.val (.ref a0), .val (.int (2 : Int32)), .val (.int p2), .val (.int (3 : Int32)), .val (.int (((2 : Int32) + (1 : Int32)) - (3 : Int32)))] [(.int (1 : Int32)), (.ref a0)])) rfl rfl (hb hby d4_43) _ ?_
    show Steps p.tables e below (T184.setTop (mkF m 44 #[.val (.ref a0), .val (.int (2 : Int32)), .val (.int p2), .val (.int (3 : Int32)), .val (.int (((2 : Int32) + (1 : Int32)) - (3 : Int32)))] [(.int (f 1))])) _
    refine XS.aloadN X184.here hx rfl (hb hby d4_44) rfl rfl ?_
    show Steps p.tables e below (T184.setTop (mkF m 45 #[.val (.ref a0), .val (.int (2 : Int32)), .val (.int p2), .val (.int (3 : Int32)), .val (.int (((2 : Int32) + (1 : Int32)) - (3 : Int32)))] [(.ref a0), (.int (f 1))])) _
    refine XS.iloadN X184.here hx rfl (hb hby d4_45) rfl ?_
    show Steps p.tables e below (T184.setTop (mkF m 46 #[.val (.ref a0), .val (.int (2 : Int32)), .val (.int p2), .val (.int (3 : Int32)), .val (.int (((2 : Int32) + (1 : Int32)) - (3 : Int32)))] [(.int (2 : Int32)), (.ref a0), (.int (f 1))])) _
    refine XS.iloadN X184.here hx rfl (hb hby d4_46) rfl ?_
    show Steps p.tables e below (T184.setTop (mkF m 47 #[.val (.ref a0), .val (.int (2 : Int32)), .val (.int p2), .val (.int (3 : Int32)), .val (.int (((2 : Int32) + (1 : Int32)) - (3 : Int32)))] [(.int p2), (.int (2 : Int32)), (.ref a0), (.int (f 1))])) _
    refine XS.iload X184.here hx rfl (hb hby d4_47) rfl ?_
    show Steps p.tables e below (T184.setTop (mkF m 49 #[.val (.ref a0), .val (.int (2 : Int32)), .val (.int p2), .val (.int (3 : Int32)), .val (.int (((2 : Int32) + (1 : Int32)) - (3 : Int32)))] [(.int (((2 : Int32) + (1 : Int32)) - (3 : Int32))), (.int p2), (.int (2 : Int32)), (.ref a0), (.int (f 1))])) _
    refine XS.iconst X184.here hx rfl (hb hby d4_49) ?_
    show Steps p.tables e below (T184.setTop (mkF m 50 #[.val (.ref a0), .val (.int (2 : Int32)), .val (.int p2), .val (.int (3 : Int32)), .val (.int (((2 : Int32) + (1 : Int32)) - (3 : Int32)))] [(.int (1 : Int32)), (.int (((2 : Int32) + (1 : Int32)) - (3 : Int32))), (.int p2), (.int (2 : Int32)), (.ref a0), (.int (f 1))])) _
    refine XS.iadd X184.here hx rfl (hb hby d4_50) rfl ?_
    show Steps p.tables e below (T184.setTop (mkF m 51 #[.val (.ref a0), .val (.int (2 : Int32)), .val (.int p2), .val (.int (3 : Int32)), .val (.int (((2 : Int32) + (1 : Int32)) - (3 : Int32)))] [(.int ((((2 : Int32) + (1 : Int32)) - (3 : Int32)) + (1 : Int32))), (.int p2), (.int (2 : Int32)), (.ref a0), (.int (f 1))])) _
    refine st186 _ ?_
    show Steps p.tables e below (T186.setTop (mkF m 54 #[.val (.ref a0), .val (.int (2 : Int32)), .val (.int p2), .val (.int (3 : Int32)), .val (.int (((2 : Int32) + (1 : Int32)) - (3 : Int32)))] [(.int (f 1)), (.int (f 1))])) _
    refine XS.icmpYes X186.here hx rfl (pc0 := 54) (pc' := 59) rfl (hb hby d4_54) rfl (teq (rfl : (f 1) = (f 1))).1 (by decide) (by decide) ?_
    show Steps p.tables e below (T186.setTop (mkF m 59 #[.val (.ref a0), .val (.int (2 : Int32)), .val (.int p2), .val (.int (3 : Int32)), .val (.int (((2 : Int32) + (1 : Int32)) - (3 : Int32)))] [])) _
    refine XS.iloadN X186.here hx rfl (hb hby d4_59) rfl ?_
    show Steps p.tables e below (T186.setTop (mkF m 60 #[.val (.ref a0), .val (.int (2 : Int32)), .val (.int p2), .val (.int (3 : Int32)), .val (.int (((2 : Int32) + (1 : Int32)) - (3 : Int32)))] [(.int (3 : Int32))])) _
    refine XS.iconst X186.here hx rfl (hb hby d4_60) ?_
    show Steps p.tables e below (T186.setTop (mkF m 61 #[.val (.ref a0), .val (.int (2 : Int32)), .val (.int p2), .val (.int (3 : Int32)), .val (.int (((2 : Int32) + (1 : Int32)) - (3 : Int32)))] [(.int (2 : Int32)), (.int (3 : Int32))])) _
    refine XS.icmpNo X186.here hx rfl (hb hby d4_61) rfl (tlt (by decide : (2 : Int32) < (3 : Int32))).2.2.2 ?_
    show Steps p.tables e below (T186.setTop (mkF m 64 #[.val (.ref a0), .val (.int (2 : Int32)), .val (.int p2), .val (.int (3 : Int32)), .val (.int (((2 : Int32) + (1 : Int32)) - (3 : Int32)))] [])) _
    refine XS.aloadN X186.here hx rfl (hb hby d4_64) rfl rfl ?_
    show Steps p.tables e below (T186.setTop (mkF m 65 #[.val (.ref a0), .val (.int (2 : Int32)), .val (.int p2), .val (.int (3 : Int32)), .val (.int (((2 : Int32) + (1 : Int32)) - (3 : Int32)))] [(.ref a0)])) _
    refine XS.iconst X186.here hx rfl (hb hby d4_65) ?_
    show Steps p.tables e below (T186.setTop (mkF m 66 #[.val (.ref a0), .val (.int (2 : Int32)), .val (.int p2), .val (.int (3 : Int32)), .val (.int (((2 : Int32) + (1 : Int32)) - (3 : Int32)))] [(.int (2 : Int32)), (.ref a0)])) _
    refine own_rdI X186 hx hZ e186 V_a0 (j := (2 : Int32)) (i := 2) (by decide) (by decide) (g := (mkF m 66 #[.val (.ref a0), .val (.int (2 : Int32)), .val (.int p2), .val (.int (3 : Int32)), .val (.int (((2 : Int32) + (1 : Int32)) - (3 : Int32)))] [(.int (2 : Int32)), (.ref a0)])) rfl rfl (hb hby d4_66) _ ?_
    show Steps p.tables e below (T186.setTop (mkF m 67 #[.val (.ref a0), .val (.int (2 : Int32)), .val (.int p2), .val (.int (3 : Int32)), .val (.int (((2 : Int32) + (1 : Int32)) - (3 : Int32)))] [(.int (f 2))])) _
    refine XS.aloadN X186.here hx rfl (hb hby d4_67) rfl rfl ?_
    show Steps p.tables e below (T186.setTop (mkF m 68 #[.val (.ref a0), .val (.int (2 : Int32)), .val (.int p2), .val (.int (3 : Int32)), .val (.int (((2 : Int32) + (1 : Int32)) - (3 : Int32)))] [(.ref a0), (.int (f 2))])) _
    refine XS.iloadN X186.here hx rfl (hb hby d4_68) rfl ?_
    show Steps p.tables e below (T186.setTop (mkF m 69 #[.val (.ref a0), .val (.int (2 : Int32)), .val (.int p2), .val (.int (3 : Int32)), .val (.int (((2 : Int32) + (1 : Int32)) - (3 : Int32)))] [(.int (2 : Int32)), (.ref a0), (.int (f 2))])) _
    refine XS.iloadN X186.here hx rfl (hb hby d4_69) rfl ?_
    show Steps p.tables e below (T186.setTop (mkF m 70 #[.val (.ref a0), .val (.int (2 : Int32)), .val (.int p2), .val (.int (3 : Int32)), .val (.int (((2 : Int32) + (1 : Int32)) - (3 : Int32)))] [(.int p2), (.int (2 : Int32)), (.ref a0), (.int (f 2))])) _
    refine XS.iload X186.here hx rfl (hb hby d4_70) rfl ?_
    show Steps p.tables e below (T186.setTop (mkF m 72 #[.val (.ref a0), .val (.int (2 : Int32)), .val (.int p2), .val (.int (3 : Int32)), .val (.int (((2 : Int32) + (1 : Int32)) - (3 : Int32)))] [(.int (((2 : Int32) + (1 : Int32)) - (3 : Int32))), (.int p2), (.int (2 : Int32)), (.ref a0), (.int (f 2))])) _
    refine XS.iconst X186.here hx rfl (hb hby d4_72) ?_
    show Steps p.tables e below (T186.setTop (mkF m 73 #[.val (.ref a0), .val (.int (2 : Int32)), .val (.int p2), .val (.int (3 : Int32)), .val (.int (((2 : Int32) + (1 : Int32)) - (3 : Int32)))] [(.int (2 : Int32)), (.int (((2 : Int32) + (1 : Int32)) - (3 : Int32))), (.int p2), (.int (2 : Int32)), (.ref a0), (.int (f 2))])) _
    refine XS.iadd X186.here hx rfl (hb hby d4_73) rfl ?_
    show Steps p.tables e below (T186.setTop (mkF m 74 #[.val (.ref a0), .val (.int (2 : Int32)), .val (.int p2), .val (.int (3 : Int32)), .val (.int (((2 : Int32) + (1 : Int32)) - (3 : Int32)))] [(.int ((((2 : Int32) + (1 : Int32)) - (3 : Int32)) + (2 : Int32))), (.int p2), (.int (2 : Int32)), (.ref a0), (.int (f 2))])) _
    refine st188 _ ?_
    show Steps p.tables e below (T188.setTop (mkF m 77 #[.val (.ref a0), .val (.int (2 : Int32)), .val (.int p2), .val (.int (3 : Int32)), .val (.int (((2 : Int32) + (1 : Int32)) - (3 : Int32)))] [(.int p2), (.int (f 2))])) _
    exact kt
  by_cases hc191 : (f 2) = p2
  · skip
    have pre192 : ∀ t, Steps p.tables e below (T188.setTop (mkF m 106 #[.val (.ref a0), .val (.int (2 : Int32)), .val (.int p2), .val (.int (3 : Int32)), .val (.int (((2 : Int32) + (1 : Int32)) - (3 : Int32)))] [(.int (1 : Int32))])) t → Steps p.tables e below (s₁.setTop (entryFrame m #[(.ref a0), (.int (2 : Int32)), (.int p2), (.int (3 : Int32))] 5)) t := fun t kt => by
      refine pre190 _ ?_
      show Steps p.tables e below (T188.setTop (mkF m 77 #[.val (.ref a0), .val (.int (2 : Int32)), .val (.int p2), .val (.int (3 : Int32)), .val (.int (((2 : Int32) + (1 : Int32)) - (3 : Int32)))] [(.int p2), (.int (f 2))])) _
      refine XS.icmpYes X188.here hx rfl (pc0 := 77) (pc' := 82) rfl (hb hby d4_77) rfl (teq hc191).1 (by decide) (by decide) ?_
      show Steps p.tables e below (T188.setTop (mkF m 82 #[.val (.ref a0), .val (.int (2 : Int32)), .val (.int p2), .val (.int (3 : Int32)), .val (.int (((2 : Int32) + (1 : Int32)) - (3 : Int32)))] [])) _
      refine XS.iloadN X188.here hx rfl (hb hby d4_82) rfl ?_
      show Steps p.tables e below (T188.setTop (mkF m 83 #[.val (.ref a0), .val (.int (2 : Int32)), .val (.int p2), .val (.int (3 : Int32)), .val (.int (((2 : Int32) + (1 : Int32)) - (3 : Int32)))] [(.int (3 : Int32))])) _
      refine XS.iconst X188.here hx rfl (hb hby d4_83) ?_
      show Steps p.tables e below (T188.setTop (mkF m 84 #[.val (.ref a0), .val (.int (2 : Int32)), .val (.int p2), .val (.int (3 : Int32)), .val (.int (((2 : Int32) + (1 : Int32)) - (3 : Int32)))] [(.int (3 : Int32)), (.int (3 : Int32))])) _
      refine XS.icmpYes X188.here hx rfl (pc0 := 84) (pc' := 105) rfl (hb hby d4_84) rfl (flt (by decide : ¬ ((3 : Int32) < (3 : Int32)))).2.2.2 (by decide) (by decide) ?_
      show Steps p.tables e below (T188.setTop (mkF m 105 #[.val (.ref a0), .val (.int (2 : Int32)), .val (.int p2), .val (.int (3 : Int32)), .val (.int (((2 : Int32) + (1 : Int32)) - (3 : Int32)))] [])) _
      refine XS.iconst X188.here hx rfl (hb hby d4_105) ?_
      show Steps p.tables e below (T188.setTop (mkF m 106 #[.val (.ref a0), .val (.int (2 : Int32)), .val (.int p2), .val (.int (3 : Int32)), .val (.int (((2 : Int32) + (1 : Int32)) - (3 : Int32)))] [(.int (1 : Int32))])) _
      exact kt
    obtain ⟨fs, hr, hrun, hended, hW, hsame⟩ := X188.leave (v := some (.int (1 : Int32))) (fun h => by rw [Bd.returns] at h; cases h)
    refine ⟨_, _, pre192 _ ?_, hrun, hended, _, _, rfl, ?_, ⟨_, rfl⟩, hW, hsame.mono (by decide) (by decide)⟩
    · exact retN X188 hx (t := .boolean) Bd.returns (by simp) (hb hby d4_106) hr
    · show Q4_2_3 Z a0 p2 f h0 n0 _ T188.heap _
      rw [e188]
      exact ⟨(own_rI (by rw [if_pos hc191] : (1 : Int32) = (if (f 2) = p2 then (1 : Int32) else (0 : Int32)))), N189, rfl⟩
  · skip
    have pre193 : ∀ t, Steps p.tables e below (T188.setTop (mkF m 81 #[.val (.ref a0), .val (.int (2 : Int32)), .val (.int p2), .val (.int (3 : Int32)), .val (.int (((2 : Int32) + (1 : Int32)) - (3 : Int32)))] [(.int (0 : Int32))])) t → Steps p.tables e below (s₁.setTop (entryFrame m #[(.ref a0), (.int (2 : Int32)), (.int p2), (.int (3 : Int32))] 5)) t := fun t kt => by
      refine pre190 _ ?_
      show Steps p.tables e below (T188.setTop (mkF m 77 #[.val (.ref a0), .val (.int (2 : Int32)), .val (.int p2), .val (.int (3 : Int32)), .val (.int (((2 : Int32) + (1 : Int32)) - (3 : Int32)))] [(.int p2), (.int (f 2))])) _
      refine XS.icmpNo X188.here hx rfl (hb hby d4_77) rfl (feq hc191).1 ?_
      show Steps p.tables e below (T188.setTop (mkF m 80 #[.val (.ref a0), .val (.int (2 : Int32)), .val (.int p2), .val (.int (3 : Int32)), .val (.int (((2 : Int32) + (1 : Int32)) - (3 : Int32)))] [])) _
      refine XS.iconst X188.here hx rfl (hb hby d4_80) ?_
      show Steps p.tables e below (T188.setTop (mkF m 81 #[.val (.ref a0), .val (.int (2 : Int32)), .val (.int p2), .val (.int (3 : Int32)), .val (.int (((2 : Int32) + (1 : Int32)) - (3 : Int32)))] [(.int (0 : Int32))])) _
      exact kt
    obtain ⟨fs, hr, hrun, hended, hW, hsame⟩ := X188.leave (v := some (.int (0 : Int32))) (fun h => by rw [Bd.returns] at h; cases h)
    refine ⟨_, _, pre193 _ ?_, hrun, hended, _, _, rfl, ?_, ⟨_, rfl⟩, hW, hsame.mono (by decide) (by decide)⟩
    · exact retN X188 hx (t := .boolean) Bd.returns (by simp) (hb hby d4_81) hr
    · show Q4_2_3 Z a0 p2 f h0 n0 _ T188.heap _
      rw [e188]
      exact ⟨(own_rI (by rw [if_neg hc191] : (0 : Int32) = (if (f 2) = p2 then (1 : Int32) else (0 : Int32)))), N189, rfl⟩
theorem ef_4_2_4 (m : MethodId) (a0 : Addr) (p2 : Int32) : entryFrame m #[(.ref a0), (.int (2 : Int32)), (.int p2), (.int (4 : Int32))] 5 = mkF m 0 #[.val (.ref a0), .val (.int (2 : Int32)), .val (.int p2), .val (.int (4 : Int32)), .unset] [] := by first | (simp [entryFrame, mkF, argsToLocals, Value.category]; done) | rfl
def Q4_2_4 (Z : State) (a0 : Addr) (p2 : Int32) (f : Nat → Int32) (h0 : Heap) (n0 : Nat) (v : Option Value) (h : Heap) (L : List Loc) : Prop := v = some (.int (0 : Int32)) ∧ Fr n0 L ∧ h = h0
set_option maxRecDepth 65536 in
set_option maxHeartbeats 40000000 in
theorem rm4_2_4 (l : Launch) (Z : State) (aq : Array Value) (hw : ∀ d ∈ tables_1, d.before aq Z = true) (ws : List Jvm.Cond) (a0 : Addr) (p2 : Int32) (f : Nat → Int32) (h0 : Heap) (n0 : Nat) (Z0 : n0 ≤ h0.size) (V_a0 : own_Ar Z h0 a0 .int 4 f) :
    MetFree l (⟨"com/example/xcu/xcu/UnitStringExtendPinLaw", "fits", "([IIII)Z"⟩ : MethodName) (head1 (Jvm.Cond.code (⟨"com/example/xcu/xcu/UnitStringExtendPinLaw", "fits", "([IIII)Z"⟩ : MethodName) method_3_code 5 (some .boolean) :: ws) ({ frames := 0, cells := 0, slots := 0, locals := 0 } : Room)) (fun a U => a = #[(.ref a0), (.int (2 : Int32)), (.int p2), (.int (4 : Int32))] ∧ Z.Warmed39 U.vm ∧ U.heap = h0) (fun _ _ _ _ _ => True) (fun _ U o U' => ∃ v L, o = .returned v ∧ Q4_2_4 Z a0 p2 f h0 n0 v U'.heap L ∧ FrameEnd U o U' L ({ frames := 0, cells := 0, slots := 0, locals := 0 } : Room).cells ({ frames := 0, cells := 0, slots := 0, locals := 0 } : Room).slots) := by
  refine MetFree.of_bodySF (plainFor_of_name pn51678678) hisR ?_
  intro p e s m args below meth c s₁ Bd hml0 hP hK
  obtain ⟨rfl, hZ, hh⟩ := hP
  have hx := Bd.exec
  have hby := Bd.bytes
  have hml : c.maxLocals = 5 := hml0
  have hown : s.vm.findClass "com/example/xcu/xcu/UnitStringExtendPinLaw" = some m.cls := findClass_of_methodNamed Bd.named
  have hnm := (name_of_methodNamed Bd.named Bd.method).1
  have X0 : Stand p l e ({ frames := 0, cells := 0, slots := 0, locals := 0 } : Room) s m #[(.ref a0), (.int (2 : Int32)), (.int p2), (.int (4 : Int32))] below meth c s₁ [] 0 0 := Stand.of_body Bd
  have e0 : s₁.heap = h0 := by rw [← hh, Bd.state]; rfl
  have N0 := Fr.nil n0
  have pre0 : ∀ t, Steps p.tables e below (s₁.setTop (mkF m 0 #[.val (.ref a0), .val (.int (2 : Int32)), .val (.int p2), .val (.int (4 : Int32)), .unset] [])) t → Steps p.tables e below (s₁.setTop (entryFrame m #[(.ref a0), (.int (2 : Int32)), (.int p2), (.int (4 : Int32))] 5)) t := fun t k => castTop (ef_4_2_4 m a0 p2) k
  have pre194 : ∀ t, Steps p.tables e below (s₁.setTop (mkF m 8 #[.val (.ref a0), .val (.int (2 : Int32)), .val (.int p2), .val (.int (4 : Int32)), .unset] [(.int (0 : Int32))])) t → Steps p.tables e below (s₁.setTop (entryFrame m #[(.ref a0), (.int (2 : Int32)), (.int p2), (.int (4 : Int32))] 5)) t := fun t kt => by
    refine pre0 _ ?_
    show Steps p.tables e below (s₁.setTop (mkF m 0 #[.val (.ref a0), .val (.int (2 : Int32)), .val (.int p2), .val (.int (4 : Int32)), .unset] [])) _
    refine XS.iloadN X0.here hx rfl (hb hby d4_0) rfl ?_
    show Steps p.tables e below (s₁.setTop (mkF m 1 #[.val (.ref a0), .val (.int (2 : Int32)), .val (.int p2), .val (.int (4 : Int32)), .unset] [(.int (4 : Int32))])) _
    refine XS.iloadN X0.here hx rfl (hb hby d4_1) rfl ?_
    show Steps p.tables e below (s₁.setTop (mkF m 2 #[.val (.ref a0), .val (.int (2 : Int32)), .val (.int p2), .val (.int (4 : Int32)), .unset] [(.int (2 : Int32)), (.int (4 : Int32))])) _
    refine XS.iconst X0.here hx rfl (hb hby d4_2) ?_
    show Steps p.tables e below (s₁.setTop (mkF m 3 #[.val (.ref a0), .val (.int (2 : Int32)), .val (.int p2), .val (.int (4 : Int32)), .unset] [(.int (1 : Int32)), (.int (2 : Int32)), (.int (4 : Int32))])) _
    refine XS.iadd X0.here hx rfl (hb hby d4_3) rfl ?_
    show Steps p.tables e below (s₁.setTop (mkF m 4 #[.val (.ref a0), .val (.int (2 : Int32)), .val (.int p2), .val (.int (4 : Int32)), .unset] [(.int ((2 : Int32) + (1 : Int32))), (.int (4 : Int32))])) _
    refine XS.icmpNo X0.here hx rfl (hb hby d4_4) rfl (tlt (by decide : ((2 : Int32) + (1 : Int32)) < (4 : Int32))).2.2.2 ?_
    show Steps p.tables e below (s₁.setTop (mkF m 7 #[.val (.ref a0), .val (.int (2 : Int32)), .val (.int p2), .val (.int (4 : Int32)), .unset] [])) _
    refine XS.iconst X0.here hx rfl (hb hby d4_7) ?_
    show Steps p.tables e below (s₁.setTop (mkF m 8 #[.val (.ref a0), .val (.int (2 : Int32)), .val (.int p2), .val (.int (4 : Int32)), .unset] [(.int (0 : Int32))])) _
    exact kt
  obtain ⟨fs, hr, hrun, hended, hW, hsame⟩ := X0.leave (v := some (.int (0 : Int32))) (fun h => by rw [Bd.returns] at h; cases h)
  refine ⟨_, _, pre194 _ ?_, hrun, hended, _, _, rfl, ?_, ⟨_, rfl⟩, hW, hsame.mono (by decide) (by decide)⟩
  · exact retN X0 hx (t := .boolean) Bd.returns (by simp) (hb hby d4_8) hr
  · show Q4_2_4 Z a0 p2 f h0 n0 _ s₁.heap _
    rw [e0]
    exact ⟨rfl, N0, rfl⟩
theorem ef_4_3_1 (m : MethodId) (a0 : Addr) (p2 : Int32) : entryFrame m #[(.ref a0), (.int (3 : Int32)), (.int p2), (.int (1 : Int32))] 5 = mkF m 0 #[.val (.ref a0), .val (.int (3 : Int32)), .val (.int p2), .val (.int (1 : Int32)), .unset] [] := by first | (simp [entryFrame, mkF, argsToLocals, Value.category]; done) | rfl
def Q4_3_1 (Z : State) (a0 : Addr) (p2 : Int32) (f : Nat → Int32) (h0 : Heap) (n0 : Nat) (v : Option Value) (h : Heap) (L : List Loc) : Prop := v = some (.int (if (f 0) = p2 then (1 : Int32) else (0 : Int32))) ∧ Fr n0 L ∧ h = h0
set_option maxRecDepth 65536 in
set_option maxHeartbeats 40000000 in
theorem rm4_3_1 (l : Launch) (Z : State) (aq : Array Value) (hw : ∀ d ∈ tables_1, d.before aq Z = true) (ws : List Jvm.Cond) (a0 : Addr) (p2 : Int32) (f : Nat → Int32) (h0 : Heap) (n0 : Nat) (Z0 : n0 ≤ h0.size) (V_a0 : own_Ar Z h0 a0 .int 4 f) :
    MetFree l (⟨"com/example/xcu/xcu/UnitStringExtendPinLaw", "fits", "([IIII)Z"⟩ : MethodName) (head1 (Jvm.Cond.code (⟨"com/example/xcu/xcu/UnitStringExtendPinLaw", "fits", "([IIII)Z"⟩ : MethodName) method_3_code 5 (some .boolean) :: ws) ({ frames := 1, cells := 0, slots := 0, locals := 16 } : Room)) (fun a U => a = #[(.ref a0), (.int (3 : Int32)), (.int p2), (.int (1 : Int32))] ∧ Z.Warmed39 U.vm ∧ U.heap = h0) (fun _ _ _ _ _ => True) (fun _ U o U' => ∃ v L, o = .returned v ∧ Q4_3_1 Z a0 p2 f h0 n0 v U'.heap L ∧ FrameEnd U o U' L ({ frames := 1, cells := 0, slots := 0, locals := 16 } : Room).cells ({ frames := 1, cells := 0, slots := 0, locals := 16 } : Room).slots) := by
  refine MetFree.of_bodySF (plainFor_of_name pn51678678) hisR ?_
  intro p e s m args below meth c s₁ Bd hml0 hP hK
  obtain ⟨rfl, hZ, hh⟩ := hP
  have hx := Bd.exec
  have hby := Bd.bytes
  have hml : c.maxLocals = 5 := hml0
  have hown : s.vm.findClass "com/example/xcu/xcu/UnitStringExtendPinLaw" = some m.cls := findClass_of_methodNamed Bd.named
  have hnm := (name_of_methodNamed Bd.named Bd.method).1
  have X0 : Stand p l e ({ frames := 1, cells := 0, slots := 0, locals := 16 } : Room) s m #[(.ref a0), (.int (3 : Int32)), (.int p2), (.int (1 : Int32))] below meth c s₁ [] 0 0 := Stand.of_body Bd
  have e0 : s₁.heap = h0 := by rw [← hh, Bd.state]; rfl
  have N0 := Fr.nil n0
  have pre0 : ∀ t, Steps p.tables e below (s₁.setTop (mkF m 0 #[.val (.ref a0), .val (.int (3 : Int32)), .val (.int p2), .val (.int (1 : Int32)), .unset] [])) t → Steps p.tables e below (s₁.setTop (entryFrame m #[(.ref a0), (.int (3 : Int32)), (.int p2), (.int (1 : Int32))] 5)) t := fun t k => castTop (ef_4_3_1 m a0 p2) k
  obtain ⟨_, _, ⟨T199, L199, k199, n199⟩, -, X199, ⟨Lc199, hQ199, l199, y199, z199⟩, st199⟩ := Jvm.LawKit.callS X0 hx (y := (⟨"com/example/xcu/xcu/UnitStringExtendPinLaw", "sAt", "([IIII)I"⟩ : MethodName)) hown (mvT hZ (hw _ (List.mem_of_getElem? (i := 35) rfl))) (mvT hZ (hw _ (List.mem_of_getElem? (i := 36) rfl))) (mvT hZ (hw _ (List.mem_of_getElem? (i := 33) rfl))) (mvT hZ (hw _ (List.mem_of_getElem? (i := 37) rfl))) (by decide) (backOf (W := 1) (rm5_3_3 l Z aq hw [] a0 p2 f h0 n0 Z0 V_a0) hZ (hw _ (List.mem_of_getElem? (i := 37) rfl)) (hw _ (List.mem_of_getElem? (i := 33) rfl)) (by decide) (by decide)) (g := (mkF m 28 #[.val (.ref a0), .val (.int (3 : Int32)), .val (.int p2), .val (.int (1 : Int32)), .val (.int (((3 : Int32) + (1 : Int32)) - (1 : Int32)))] [(.int (((3 : Int32) + (1 : Int32)) - (1 : Int32))), (.int p2), (.int (3 : Int32)), (.ref a0), (.int (f 0))])) rfl (by rw [hml]; rfl) (argsL := [(.ref a0), (.int (3 : Int32)), (.int p2), (.int (((3 : Int32) + (1 : Int32)) - (1 : Int32)))]) (rest := [(.int (f 0))]) (lenOf pd21711166 rfl) rfl (by show 2 * 0 + _ ≤ _; exact Nat.le_of_eq rfl) (hb hby d4_28) (fun _ _ => ⟨rfl, e0, (by decide : 0 + 0 ≤ _), (by decide : 0 + 0 ≤ _)⟩)
  dsimp only [Pt.U, Pt.locs, Pt.cells, Pt.slots] at X199 l199 y199 z199 st199 hQ199
  subst l199 y199 z199
  obtain ⟨rfl, N199q, e199⟩ := hQ199
  have N200 := Fr.app N0 N199q
  have pre201 : ∀ t, Steps p.tables e below (T199.setTop (mkF m 31 #[.val (.ref a0), .val (.int (3 : Int32)), .val (.int p2), .val (.int (1 : Int32)), .val (.int (((3 : Int32) + (1 : Int32)) - (1 : Int32)))] [(.int p2), (.int (f 0))])) t → Steps p.tables e below (s₁.setTop (entryFrame m #[(.ref a0), (.int (3 : Int32)), (.int p2), (.int (1 : Int32))] 5)) t := fun t kt => by
    refine pre0 _ ?_
    show Steps p.tables e below (s₁.setTop (mkF m 0 #[.val (.ref a0), .val (.int (3 : Int32)), .val (.int p2), .val (.int (1 : Int32)), .unset] [])) _
    refine XS.iloadN X0.here hx rfl (hb hby d4_0) rfl ?_
    show Steps p.tables e below (s₁.setTop (mkF m 1 #[.val (.ref a0), .val (.int (3 : Int32)), .val (.int p2), .val (.int (1 : Int32)), .unset] [(.int (1 : Int32))])) _
    refine XS.iloadN X0.here hx rfl (hb hby d4_1) rfl ?_
    show Steps p.tables e below (s₁.setTop (mkF m 2 #[.val (.ref a0), .val (.int (3 : Int32)), .val (.int p2), .val (.int (1 : Int32)), .unset] [(.int (3 : Int32)), (.int (1 : Int32))])) _
    refine XS.iconst X0.here hx rfl (hb hby d4_2) ?_
    show Steps p.tables e below (s₁.setTop (mkF m 3 #[.val (.ref a0), .val (.int (3 : Int32)), .val (.int p2), .val (.int (1 : Int32)), .unset] [(.int (1 : Int32)), (.int (3 : Int32)), (.int (1 : Int32))])) _
    refine XS.iadd X0.here hx rfl (hb hby d4_3) rfl ?_
    show Steps p.tables e below (s₁.setTop (mkF m 4 #[.val (.ref a0), .val (.int (3 : Int32)), .val (.int p2), .val (.int (1 : Int32)), .unset] [(.int ((3 : Int32) + (1 : Int32))), (.int (1 : Int32))])) _
    refine XS.icmpYes X0.here hx rfl (pc0 := 4) (pc' := 9) rfl (hb hby d4_4) rfl (flt (by decide : ¬ (((3 : Int32) + (1 : Int32)) < (1 : Int32)))).2.2.2 (by decide) (by decide) ?_
    show Steps p.tables e below (s₁.setTop (mkF m 9 #[.val (.ref a0), .val (.int (3 : Int32)), .val (.int p2), .val (.int (1 : Int32)), .unset] [])) _
    refine XS.iloadN X0.here hx rfl (hb hby d4_9) rfl ?_
    show Steps p.tables e below (s₁.setTop (mkF m 10 #[.val (.ref a0), .val (.int (3 : Int32)), .val (.int p2), .val (.int (1 : Int32)), .unset] [(.int (3 : Int32))])) _
    refine XS.iconst X0.here hx rfl (hb hby d4_10) ?_
    show Steps p.tables e below (s₁.setTop (mkF m 11 #[.val (.ref a0), .val (.int (3 : Int32)), .val (.int p2), .val (.int (1 : Int32)), .unset] [(.int (1 : Int32)), (.int (3 : Int32))])) _
    refine XS.iadd X0.here hx rfl (hb hby d4_11) rfl ?_
    show Steps p.tables e below (s₁.setTop (mkF m 12 #[.val (.ref a0), .val (.int (3 : Int32)), .val (.int p2), .val (.int (1 : Int32)), .unset] [(.int ((3 : Int32) + (1 : Int32)))])) _
    refine XS.iloadN X0.here hx rfl (hb hby d4_12) rfl ?_
    show Steps p.tables e below (s₁.setTop (mkF m 13 #[.val (.ref a0), .val (.int (3 : Int32)), .val (.int p2), .val (.int (1 : Int32)), .unset] [(.int (1 : Int32)), (.int ((3 : Int32) + (1 : Int32)))])) _
    refine XS.isub X0.here hx rfl (hb hby d4_13) rfl ?_
    show Steps p.tables e below (s₁.setTop (mkF m 14 #[.val (.ref a0), .val (.int (3 : Int32)), .val (.int p2), .val (.int (1 : Int32)), .unset] [(.int (((3 : Int32) + (1 : Int32)) - (1 : Int32)))])) _
    refine XS.istore X0.here hx rfl (hb hby d4_14) rfl (l' := #[.val (.ref a0), .val (.int (3 : Int32)), .val (.int p2), .val (.int (1 : Int32)), .val (.int (((3 : Int32) + (1 : Int32)) - (1 : Int32)))]) rfl ?_
    show Steps p.tables e below (s₁.setTop (mkF m 16 #[.val (.ref a0), .val (.int (3 : Int32)), .val (.int p2), .val (.int (1 : Int32)), .val (.int (((3 : Int32) + (1 : Int32)) - (1 : Int32)))] [])) _
    refine XS.iloadN X0.here hx rfl (hb hby d4_16) rfl ?_
    show Steps p.tables e below (s₁.setTop (mkF m 17 #[.val (.ref a0), .val (.int (3 : Int32)), .val (.int p2), .val (.int (1 : Int32)), .val (.int (((3 : Int32) + (1 : Int32)) - (1 : Int32)))] [(.int (1 : Int32))])) _
    refine XS.ifNo X0.here hx rfl (hb hby d4_17) rfl ((if0 _ _).trans (tlt (by decide : (0 : Int32) < (1 : Int32))).2.2.2) ?_
    show Steps p.tables e below (s₁.setTop (mkF m 20 #[.val (.ref a0), .val (.int (3 : Int32)), .val (.int p2), .val (.int (1 : Int32)), .val (.int (((3 : Int32) + (1 : Int32)) - (1 : Int32)))] [])) _
    refine XS.aloadN X0.here hx rfl (hb hby d4_20) rfl rfl ?_
    show Steps p.tables e below (s₁.setTop (mkF m 21 #[.val (.ref a0), .val (.int (3 : Int32)), .val (.int p2), .val (.int (1 : Int32)), .val (.int (((3 : Int32) + (1 : Int32)) - (1 : Int32)))] [(.ref a0)])) _
    refine XS.iconst X0.here hx rfl (hb hby d4_21) ?_
    show Steps p.tables e below (s₁.setTop (mkF m 22 #[.val (.ref a0), .val (.int (3 : Int32)), .val (.int p2), .val (.int (1 : Int32)), .val (.int (((3 : Int32) + (1 : Int32)) - (1 : Int32)))] [(.int (0 : Int32)), (.ref a0)])) _
    refine own_rdI X0 hx hZ e0 V_a0 (j := (0 : Int32)) (i := 0) (by decide) (by decide) (g := (mkF m 22 #[.val (.ref a0), .val (.int (3 : Int32)), .val (.int p2), .val (.int (1 : Int32)), .val (.int (((3 : Int32) + (1 : Int32)) - (1 : Int32)))] [(.int (0 : Int32)), (.ref a0)])) rfl rfl (hb hby d4_22) _ ?_
    show Steps p.tables e below (s₁.setTop (mkF m 23 #[.val (.ref a0), .val (.int (3 : Int32)), .val (.int p2), .val (.int (1 : Int32)), .val (.int (((3 : Int32) + (1 : Int32)) - (1 : Int32)))] [(.int (f 0))])) _
    refine XS.aloadN X0.here hx rfl (hb hby d4_23) rfl rfl ?_
    show Steps p.tables e below (s₁.setTop (mkF m 24 #[.val (.ref a0), .val (.int (3 : Int32)), .val (.int p2), .val (.int (1 : Int32)), .val (.int (((3 : Int32) + (1 : Int32)) - (1 : Int32)))] [(.ref a0), (.int (f 0))])) _
    refine XS.iloadN X0.here hx rfl (hb hby d4_24) rfl ?_
    show Steps p.tables e below (s₁.setTop (mkF m 25 #[.val (.ref a0), .val (.int (3 : Int32)), .val (.int p2), .val (.int (1 : Int32)), .val (.int (((3 : Int32) + (1 : Int32)) - (1 : Int32)))] [(.int (3 : Int32)), (.ref a0), (.int (f 0))])) _
    refine XS.iloadN X0.here hx rfl (hb hby d4_25) rfl ?_
    show Steps p.tables e below (s₁.setTop (mkF m 26 #[.val (.ref a0), .val (.int (3 : Int32)), .val (.int p2), .val (.int (1 : Int32)), .val (.int (((3 : Int32) + (1 : Int32)) - (1 : Int32)))] [(.int p2), (.int (3 : Int32)), (.ref a0), (.int (f 0))])) _
    refine XS.iload X0.here hx rfl (hb hby d4_26) rfl ?_
    show Steps p.tables e below (s₁.setTop (mkF m 28 #[.val (.ref a0), .val (.int (3 : Int32)), .val (.int p2), .val (.int (1 : Int32)), .val (.int (((3 : Int32) + (1 : Int32)) - (1 : Int32)))] [(.int (((3 : Int32) + (1 : Int32)) - (1 : Int32))), (.int p2), (.int (3 : Int32)), (.ref a0), (.int (f 0))])) _
    refine st199 _ ?_
    show Steps p.tables e below (T199.setTop (mkF m 31 #[.val (.ref a0), .val (.int (3 : Int32)), .val (.int p2), .val (.int (1 : Int32)), .val (.int (((3 : Int32) + (1 : Int32)) - (1 : Int32)))] [(.int p2), (.int (f 0))])) _
    exact kt
  by_cases hc202 : (f 0) = p2
  · skip
    have pre203 : ∀ t, Steps p.tables e below (T199.setTop (mkF m 106 #[.val (.ref a0), .val (.int (3 : Int32)), .val (.int p2), .val (.int (1 : Int32)), .val (.int (((3 : Int32) + (1 : Int32)) - (1 : Int32)))] [(.int (1 : Int32))])) t → Steps p.tables e below (s₁.setTop (entryFrame m #[(.ref a0), (.int (3 : Int32)), (.int p2), (.int (1 : Int32))] 5)) t := fun t kt => by
      refine pre201 _ ?_
      show Steps p.tables e below (T199.setTop (mkF m 31 #[.val (.ref a0), .val (.int (3 : Int32)), .val (.int p2), .val (.int (1 : Int32)), .val (.int (((3 : Int32) + (1 : Int32)) - (1 : Int32)))] [(.int p2), (.int (f 0))])) _
      refine XS.icmpYes X199.here hx rfl (pc0 := 31) (pc' := 36) rfl (hb hby d4_31) rfl (teq hc202).1 (by decide) (by decide) ?_
      show Steps p.tables e below (T199.setTop (mkF m 36 #[.val (.ref a0), .val (.int (3 : Int32)), .val (.int p2), .val (.int (1 : Int32)), .val (.int (((3 : Int32) + (1 : Int32)) - (1 : Int32)))] [])) _
      refine XS.iloadN X199.here hx rfl (hb hby d4_36) rfl ?_
      show Steps p.tables e below (T199.setTop (mkF m 37 #[.val (.ref a0), .val (.int (3 : Int32)), .val (.int p2), .val (.int (1 : Int32)), .val (.int (((3 : Int32) + (1 : Int32)) - (1 : Int32)))] [(.int (1 : Int32))])) _
      refine XS.iconst X199.here hx rfl (hb hby d4_37) ?_
      show Steps p.tables e below (T199.setTop (mkF m 38 #[.val (.ref a0), .val (.int (3 : Int32)), .val (.int p2), .val (.int (1 : Int32)), .val (.int (((3 : Int32) + (1 : Int32)) - (1 : Int32)))] [(.int (1 : Int32)), (.int (1 : Int32))])) _
      refine XS.icmpYes X199.here hx rfl (pc0 := 38) (pc' := 59) rfl (hb hby d4_38) rfl (flt (by decide : ¬ ((1 : Int32) < (1 : Int32)))).2.2.2 (by decide) (by decide) ?_
      show Steps p.tables e below (T199.setTop (mkF m 59 #[.val (.ref a0), .val (.int (3 : Int32)), .val (.int p2), .val (.int (1 : Int32)), .val (.int (((3 : Int32) + (1 : Int32)) - (1 : Int32)))] [])) _
      refine XS.iloadN X199.here hx rfl (hb hby d4_59) rfl ?_
      show Steps p.tables e below (T199.setTop (mkF m 60 #[.val (.ref a0), .val (.int (3 : Int32)), .val (.int p2), .val (.int (1 : Int32)), .val (.int (((3 : Int32) + (1 : Int32)) - (1 : Int32)))] [(.int (1 : Int32))])) _
      refine XS.iconst X199.here hx rfl (hb hby d4_60) ?_
      show Steps p.tables e below (T199.setTop (mkF m 61 #[.val (.ref a0), .val (.int (3 : Int32)), .val (.int p2), .val (.int (1 : Int32)), .val (.int (((3 : Int32) + (1 : Int32)) - (1 : Int32)))] [(.int (2 : Int32)), (.int (1 : Int32))])) _
      refine XS.icmpYes X199.here hx rfl (pc0 := 61) (pc' := 82) rfl (hb hby d4_61) rfl (flt (by decide : ¬ ((2 : Int32) < (1 : Int32)))).2.2.2 (by decide) (by decide) ?_
      show Steps p.tables e below (T199.setTop (mkF m 82 #[.val (.ref a0), .val (.int (3 : Int32)), .val (.int p2), .val (.int (1 : Int32)), .val (.int (((3 : Int32) + (1 : Int32)) - (1 : Int32)))] [])) _
      refine XS.iloadN X199.here hx rfl (hb hby d4_82) rfl ?_
      show Steps p.tables e below (T199.setTop (mkF m 83 #[.val (.ref a0), .val (.int (3 : Int32)), .val (.int p2), .val (.int (1 : Int32)), .val (.int (((3 : Int32) + (1 : Int32)) - (1 : Int32)))] [(.int (1 : Int32))])) _
      refine XS.iconst X199.here hx rfl (hb hby d4_83) ?_
      show Steps p.tables e below (T199.setTop (mkF m 84 #[.val (.ref a0), .val (.int (3 : Int32)), .val (.int p2), .val (.int (1 : Int32)), .val (.int (((3 : Int32) + (1 : Int32)) - (1 : Int32)))] [(.int (3 : Int32)), (.int (1 : Int32))])) _
      refine XS.icmpYes X199.here hx rfl (pc0 := 84) (pc' := 105) rfl (hb hby d4_84) rfl (flt (by decide : ¬ ((3 : Int32) < (1 : Int32)))).2.2.2 (by decide) (by decide) ?_
      show Steps p.tables e below (T199.setTop (mkF m 105 #[.val (.ref a0), .val (.int (3 : Int32)), .val (.int p2), .val (.int (1 : Int32)), .val (.int (((3 : Int32) + (1 : Int32)) - (1 : Int32)))] [])) _
      refine XS.iconst X199.here hx rfl (hb hby d4_105) ?_
      show Steps p.tables e below (T199.setTop (mkF m 106 #[.val (.ref a0), .val (.int (3 : Int32)), .val (.int p2), .val (.int (1 : Int32)), .val (.int (((3 : Int32) + (1 : Int32)) - (1 : Int32)))] [(.int (1 : Int32))])) _
      exact kt
    obtain ⟨fs, hr, hrun, hended, hW, hsame⟩ := X199.leave (v := some (.int (1 : Int32))) (fun h => by rw [Bd.returns] at h; cases h)
    refine ⟨_, _, pre203 _ ?_, hrun, hended, _, _, rfl, ?_, ⟨_, rfl⟩, hW, hsame.mono (by decide) (by decide)⟩
    · exact retN X199 hx (t := .boolean) Bd.returns (by simp) (hb hby d4_106) hr
    · show Q4_3_1 Z a0 p2 f h0 n0 _ T199.heap _
      rw [e199]
      exact ⟨(own_rI (by rw [if_pos hc202] : (1 : Int32) = (if (f 0) = p2 then (1 : Int32) else (0 : Int32)))), N200, rfl⟩
  · skip
    have pre204 : ∀ t, Steps p.tables e below (T199.setTop (mkF m 35 #[.val (.ref a0), .val (.int (3 : Int32)), .val (.int p2), .val (.int (1 : Int32)), .val (.int (((3 : Int32) + (1 : Int32)) - (1 : Int32)))] [(.int (0 : Int32))])) t → Steps p.tables e below (s₁.setTop (entryFrame m #[(.ref a0), (.int (3 : Int32)), (.int p2), (.int (1 : Int32))] 5)) t := fun t kt => by
      refine pre201 _ ?_
      show Steps p.tables e below (T199.setTop (mkF m 31 #[.val (.ref a0), .val (.int (3 : Int32)), .val (.int p2), .val (.int (1 : Int32)), .val (.int (((3 : Int32) + (1 : Int32)) - (1 : Int32)))] [(.int p2), (.int (f 0))])) _
      refine XS.icmpNo X199.here hx rfl (hb hby d4_31) rfl (feq hc202).1 ?_
      show Steps p.tables e below (T199.setTop (mkF m 34 #[.val (.ref a0), .val (.int (3 : Int32)), .val (.int p2), .val (.int (1 : Int32)), .val (.int (((3 : Int32) + (1 : Int32)) - (1 : Int32)))] [])) _
      refine XS.iconst X199.here hx rfl (hb hby d4_34) ?_
      show Steps p.tables e below (T199.setTop (mkF m 35 #[.val (.ref a0), .val (.int (3 : Int32)), .val (.int p2), .val (.int (1 : Int32)), .val (.int (((3 : Int32) + (1 : Int32)) - (1 : Int32)))] [(.int (0 : Int32))])) _
      exact kt
    obtain ⟨fs, hr, hrun, hended, hW, hsame⟩ := X199.leave (v := some (.int (0 : Int32))) (fun h => by rw [Bd.returns] at h; cases h)
    refine ⟨_, _, pre204 _ ?_, hrun, hended, _, _, rfl, ?_, ⟨_, rfl⟩, hW, hsame.mono (by decide) (by decide)⟩
    · exact retN X199 hx (t := .boolean) Bd.returns (by simp) (hb hby d4_35) hr
    · show Q4_3_1 Z a0 p2 f h0 n0 _ T199.heap _
      rw [e199]
      exact ⟨(own_rI (by rw [if_neg hc202] : (0 : Int32) = (if (f 0) = p2 then (1 : Int32) else (0 : Int32)))), N200, rfl⟩
theorem ef_4_3_2 (m : MethodId) (a0 : Addr) (p2 : Int32) : entryFrame m #[(.ref a0), (.int (3 : Int32)), (.int p2), (.int (2 : Int32))] 5 = mkF m 0 #[.val (.ref a0), .val (.int (3 : Int32)), .val (.int p2), .val (.int (2 : Int32)), .unset] [] := by first | (simp [entryFrame, mkF, argsToLocals, Value.category]; done) | rfl
def Q4_3_2 (Z : State) (a0 : Addr) (p2 : Int32) (f : Nat → Int32) (h0 : Heap) (n0 : Nat) (v : Option Value) (h : Heap) (L : List Loc) : Prop := v = some (.int (if (f 0) = (f 2) then (if (f 1) = p2 then (1 : Int32) else (0 : Int32)) else (0 : Int32))) ∧ Fr n0 L ∧ h = h0
set_option maxRecDepth 65536 in
set_option maxHeartbeats 40000000 in
theorem rm4_3_2 (l : Launch) (Z : State) (aq : Array Value) (hw : ∀ d ∈ tables_1, d.before aq Z = true) (ws : List Jvm.Cond) (a0 : Addr) (p2 : Int32) (f : Nat → Int32) (h0 : Heap) (n0 : Nat) (Z0 : n0 ≤ h0.size) (V_a0 : own_Ar Z h0 a0 .int 4 f) :
    MetFree l (⟨"com/example/xcu/xcu/UnitStringExtendPinLaw", "fits", "([IIII)Z"⟩ : MethodName) (head1 (Jvm.Cond.code (⟨"com/example/xcu/xcu/UnitStringExtendPinLaw", "fits", "([IIII)Z"⟩ : MethodName) method_3_code 5 (some .boolean) :: ws) ({ frames := 1, cells := 0, slots := 0, locals := 16 } : Room)) (fun a U => a = #[(.ref a0), (.int (3 : Int32)), (.int p2), (.int (2 : Int32))] ∧ Z.Warmed39 U.vm ∧ U.heap = h0) (fun _ _ _ _ _ => True) (fun _ U o U' => ∃ v L, o = .returned v ∧ Q4_3_2 Z a0 p2 f h0 n0 v U'.heap L ∧ FrameEnd U o U' L ({ frames := 1, cells := 0, slots := 0, locals := 16 } : Room).cells ({ frames := 1, cells := 0, slots := 0, locals := 16 } : Room).slots) := by
  refine MetFree.of_bodySF (plainFor_of_name pn51678678) hisR ?_
  intro p e s m args below meth c s₁ Bd hml0 hP hK
  obtain ⟨rfl, hZ, hh⟩ := hP
  have hx := Bd.exec
  have hby := Bd.bytes
  have hml : c.maxLocals = 5 := hml0
  have hown : s.vm.findClass "com/example/xcu/xcu/UnitStringExtendPinLaw" = some m.cls := findClass_of_methodNamed Bd.named
  have hnm := (name_of_methodNamed Bd.named Bd.method).1
  have X0 : Stand p l e ({ frames := 1, cells := 0, slots := 0, locals := 16 } : Room) s m #[(.ref a0), (.int (3 : Int32)), (.int p2), (.int (2 : Int32))] below meth c s₁ [] 0 0 := Stand.of_body Bd
  have e0 : s₁.heap = h0 := by rw [← hh, Bd.state]; rfl
  have N0 := Fr.nil n0
  have pre0 : ∀ t, Steps p.tables e below (s₁.setTop (mkF m 0 #[.val (.ref a0), .val (.int (3 : Int32)), .val (.int p2), .val (.int (2 : Int32)), .unset] [])) t → Steps p.tables e below (s₁.setTop (entryFrame m #[(.ref a0), (.int (3 : Int32)), (.int p2), (.int (2 : Int32))] 5)) t := fun t k => castTop (ef_4_3_2 m a0 p2) k
  obtain ⟨_, _, ⟨T213, L213, k213, n213⟩, -, X213, ⟨Lc213, hQ213, l213, y213, z213⟩, st213⟩ := Jvm.LawKit.callS X0 hx (y := (⟨"com/example/xcu/xcu/UnitStringExtendPinLaw", "sAt", "([IIII)I"⟩ : MethodName)) hown (mvT hZ (hw _ (List.mem_of_getElem? (i := 35) rfl))) (mvT hZ (hw _ (List.mem_of_getElem? (i := 36) rfl))) (mvT hZ (hw _ (List.mem_of_getElem? (i := 33) rfl))) (mvT hZ (hw _ (List.mem_of_getElem? (i := 37) rfl))) (by decide) (backOf (W := 1) (rm5_3_2 l Z aq hw [] a0 p2 f h0 n0 Z0 V_a0) hZ (hw _ (List.mem_of_getElem? (i := 37) rfl)) (hw _ (List.mem_of_getElem? (i := 33) rfl)) (by decide) (by decide)) (g := (mkF m 28 #[.val (.ref a0), .val (.int (3 : Int32)), .val (.int p2), .val (.int (2 : Int32)), .val (.int (((3 : Int32) + (1 : Int32)) - (2 : Int32)))] [(.int (((3 : Int32) + (1 : Int32)) - (2 : Int32))), (.int p2), (.int (3 : Int32)), (.ref a0), (.int (f 0))])) rfl (by rw [hml]; rfl) (argsL := [(.ref a0), (.int (3 : Int32)), (.int p2), (.int (((3 : Int32) + (1 : Int32)) - (2 : Int32)))]) (rest := [(.int (f 0))]) (lenOf pd21711166 rfl) rfl (by show 2 * 0 + _ ≤ _; exact Nat.le_of_eq rfl) (hb hby d4_28) (fun _ _ => ⟨rfl, e0, (by decide : 0 + 0 ≤ _), (by decide : 0 + 0 ≤ _)⟩)
  dsimp only [Pt.U, Pt.locs, Pt.cells, Pt.slots] at X213 l213 y213 z213 st213 hQ213
  subst l213 y213 z213
  obtain ⟨rfl, N213q, e213⟩ := hQ213
  have N214 := Fr.app N0 N213q
  have pre215 : ∀ t, Steps p.tables e below (T213.setTop (mkF m 31 #[.val (.ref a0), .val (.int (3 : Int32)), .val (.int p2), .val (.int (2 : Int32)), .val (.int (((3 : Int32) + (1 : Int32)) - (2 : Int32)))] [(.int (f 2)), (.int (f 0))])) t → Steps p.tables e below (s₁.setTop (entryFrame m #[(.ref a0), (.int (3 : Int32)), (.int p2), (.int (2 : Int32))] 5)) t := fun t kt => by
    refine pre0 _ ?_
    show Steps p.tables e below (s₁.setTop (mkF m 0 #[.val (.ref a0), .val (.int (3 : Int32)), .val (.int p2), .val (.int (2 : Int32)), .unset] [])) _
    refine XS.iloadN X0.here hx rfl (hb hby d4_0) rfl ?_
    show Steps p.tables e below (s₁.setTop (mkF m 1 #[.val (.ref a0), .val (.int (3 : Int32)), .val (.int p2), .val (.int (2 : Int32)), .unset] [(.int (2 : Int32))])) _
    refine XS.iloadN X0.here hx rfl (hb hby d4_1) rfl ?_
    show Steps p.tables e below (s₁.setTop (mkF m 2 #[.val (.ref a0), .val (.int (3 : Int32)), .val (.int p2), .val (.int (2 : Int32)), .unset] [(.int (3 : Int32)), (.int (2 : Int32))])) _
    refine XS.iconst X0.here hx rfl (hb hby d4_2) ?_
    show Steps p.tables e below (s₁.setTop (mkF m 3 #[.val (.ref a0), .val (.int (3 : Int32)), .val (.int p2), .val (.int (2 : Int32)), .unset] [(.int (1 : Int32)), (.int (3 : Int32)), (.int (2 : Int32))])) _
    refine XS.iadd X0.here hx rfl (hb hby d4_3) rfl ?_
    show Steps p.tables e below (s₁.setTop (mkF m 4 #[.val (.ref a0), .val (.int (3 : Int32)), .val (.int p2), .val (.int (2 : Int32)), .unset] [(.int ((3 : Int32) + (1 : Int32))), (.int (2 : Int32))])) _
    refine XS.icmpYes X0.here hx rfl (pc0 := 4) (pc' := 9) rfl (hb hby d4_4) rfl (flt (by decide : ¬ (((3 : Int32) + (1 : Int32)) < (2 : Int32)))).2.2.2 (by decide) (by decide) ?_
    show Steps p.tables e below (s₁.setTop (mkF m 9 #[.val (.ref a0), .val (.int (3 : Int32)), .val (.int p2), .val (.int (2 : Int32)), .unset] [])) _
    refine XS.iloadN X0.here hx rfl (hb hby d4_9) rfl ?_
    show Steps p.tables e below (s₁.setTop (mkF m 10 #[.val (.ref a0), .val (.int (3 : Int32)), .val (.int p2), .val (.int (2 : Int32)), .unset] [(.int (3 : Int32))])) _
    refine XS.iconst X0.here hx rfl (hb hby d4_10) ?_
    show Steps p.tables e below (s₁.setTop (mkF m 11 #[.val (.ref a0), .val (.int (3 : Int32)), .val (.int p2), .val (.int (2 : Int32)), .unset] [(.int (1 : Int32)), (.int (3 : Int32))])) _
    refine XS.iadd X0.here hx rfl (hb hby d4_11) rfl ?_
    show Steps p.tables e below (s₁.setTop (mkF m 12 #[.val (.ref a0), .val (.int (3 : Int32)), .val (.int p2), .val (.int (2 : Int32)), .unset] [(.int ((3 : Int32) + (1 : Int32)))])) _
    refine XS.iloadN X0.here hx rfl (hb hby d4_12) rfl ?_
    show Steps p.tables e below (s₁.setTop (mkF m 13 #[.val (.ref a0), .val (.int (3 : Int32)), .val (.int p2), .val (.int (2 : Int32)), .unset] [(.int (2 : Int32)), (.int ((3 : Int32) + (1 : Int32)))])) _
    refine XS.isub X0.here hx rfl (hb hby d4_13) rfl ?_
    show Steps p.tables e below (s₁.setTop (mkF m 14 #[.val (.ref a0), .val (.int (3 : Int32)), .val (.int p2), .val (.int (2 : Int32)), .unset] [(.int (((3 : Int32) + (1 : Int32)) - (2 : Int32)))])) _
    refine XS.istore X0.here hx rfl (hb hby d4_14) rfl (l' := #[.val (.ref a0), .val (.int (3 : Int32)), .val (.int p2), .val (.int (2 : Int32)), .val (.int (((3 : Int32) + (1 : Int32)) - (2 : Int32)))]) rfl ?_
    show Steps p.tables e below (s₁.setTop (mkF m 16 #[.val (.ref a0), .val (.int (3 : Int32)), .val (.int p2), .val (.int (2 : Int32)), .val (.int (((3 : Int32) + (1 : Int32)) - (2 : Int32)))] [])) _
    refine XS.iloadN X0.here hx rfl (hb hby d4_16) rfl ?_
    show Steps p.tables e below (s₁.setTop (mkF m 17 #[.val (.ref a0), .val (.int (3 : Int32)), .val (.int p2), .val (.int (2 : Int32)), .val (.int (((3 : Int32) + (1 : Int32)) - (2 : Int32)))] [(.int (2 : Int32))])) _
    refine XS.ifNo X0.here hx rfl (hb hby d4_17) rfl ((if0 _ _).trans (tlt (by decide : (0 : Int32) < (2 : Int32))).2.2.2) ?_
    show Steps p.tables e below (s₁.setTop (mkF m 20 #[.val (.ref a0), .val (.int (3 : Int32)), .val (.int p2), .val (.int (2 : Int32)), .val (.int (((3 : Int32) + (1 : Int32)) - (2 : Int32)))] [])) _
    refine XS.aloadN X0.here hx rfl (hb hby d4_20) rfl rfl ?_
    show Steps p.tables e below (s₁.setTop (mkF m 21 #[.val (.ref a0), .val (.int (3 : Int32)), .val (.int p2), .val (.int (2 : Int32)), .val (.int (((3 : Int32) + (1 : Int32)) - (2 : Int32)))] [(.ref a0)])) _
    refine XS.iconst X0.here hx rfl (hb hby d4_21) ?_
    show Steps p.tables e below (s₁.setTop (mkF m 22 #[.val (.ref a0), .val (.int (3 : Int32)), .val (.int p2), .val (.int (2 : Int32)), .val (.int (((3 : Int32) + (1 : Int32)) - (2 : Int32)))] [(.int (0 : Int32)), (.ref a0)])) _
    refine own_rdI X0 hx hZ e0 V_a0 (j := (0 : Int32)) (i := 0) (by decide) (by decide) (g := (mkF m 22 #[.val (.ref a0), .val (.int (3 : Int32)), .val (.int p2), .val (.int (2 : Int32)), .val (.int (((3 : Int32) + (1 : Int32)) - (2 : Int32)))] [(.int (0 : Int32)), (.ref a0)])) rfl rfl (hb hby d4_22) _ ?_
    show Steps p.tables e below (s₁.setTop (mkF m 23 #[.val (.ref a0), .val (.int (3 : Int32)), .val (.int p2), .val (.int (2 : Int32)), .val (.int (((3 : Int32) + (1 : Int32)) - (2 : Int32)))] [(.int (f 0))])) _
    refine XS.aloadN X0.here hx rfl (hb hby d4_23) rfl rfl ?_
    show Steps p.tables e below (s₁.setTop (mkF m 24 #[.val (.ref a0), .val (.int (3 : Int32)), .val (.int p2), .val (.int (2 : Int32)), .val (.int (((3 : Int32) + (1 : Int32)) - (2 : Int32)))] [(.ref a0), (.int (f 0))])) _
    refine XS.iloadN X0.here hx rfl (hb hby d4_24) rfl ?_
    show Steps p.tables e below (s₁.setTop (mkF m 25 #[.val (.ref a0), .val (.int (3 : Int32)), .val (.int p2), .val (.int (2 : Int32)), .val (.int (((3 : Int32) + (1 : Int32)) - (2 : Int32)))] [(.int (3 : Int32)), (.ref a0), (.int (f 0))])) _
    refine XS.iloadN X0.here hx rfl (hb hby d4_25) rfl ?_
    show Steps p.tables e below (s₁.setTop (mkF m 26 #[.val (.ref a0), .val (.int (3 : Int32)), .val (.int p2), .val (.int (2 : Int32)), .val (.int (((3 : Int32) + (1 : Int32)) - (2 : Int32)))] [(.int p2), (.int (3 : Int32)), (.ref a0), (.int (f 0))])) _
    refine XS.iload X0.here hx rfl (hb hby d4_26) rfl ?_
    show Steps p.tables e below (s₁.setTop (mkF m 28 #[.val (.ref a0), .val (.int (3 : Int32)), .val (.int p2), .val (.int (2 : Int32)), .val (.int (((3 : Int32) + (1 : Int32)) - (2 : Int32)))] [(.int (((3 : Int32) + (1 : Int32)) - (2 : Int32))), (.int p2), (.int (3 : Int32)), (.ref a0), (.int (f 0))])) _
    refine st213 _ ?_
    show Steps p.tables e below (T213.setTop (mkF m 31 #[.val (.ref a0), .val (.int (3 : Int32)), .val (.int p2), .val (.int (2 : Int32)), .val (.int (((3 : Int32) + (1 : Int32)) - (2 : Int32)))] [(.int (f 2)), (.int (f 0))])) _
    exact kt
  by_cases hc216 : (f 0) = (f 2)
  · skip
    obtain ⟨_, _, ⟨T217, L217, k217, n217⟩, -, X217, ⟨Lc217, hQ217, l217, y217, z217⟩, st217⟩ := Jvm.LawKit.callS X213 hx (y := (⟨"com/example/xcu/xcu/UnitStringExtendPinLaw", "sAt", "([IIII)I"⟩ : MethodName)) hown (mvT hZ (hw _ (List.mem_of_getElem? (i := 35) rfl))) (mvT hZ (hw _ (List.mem_of_getElem? (i := 36) rfl))) (mvT hZ (hw _ (List.mem_of_getElem? (i := 33) rfl))) (mvT hZ (hw _ (List.mem_of_getElem? (i := 37) rfl))) (by decide) (backOf (W := 1) (rm5_3_3 l Z aq hw [] a0 p2 f h0 n0 Z0 V_a0) hZ (hw _ (List.mem_of_getElem? (i := 37) rfl)) (hw _ (List.mem_of_getElem? (i := 33) rfl)) (by decide) (by decide)) (g := (mkF m 51 #[.val (.ref a0), .val (.int (3 : Int32)), .val (.int p2), .val (.int (2 : Int32)), .val (.int (((3 : Int32) + (1 : Int32)) - (2 : Int32)))] [(.int ((((3 : Int32) + (1 : Int32)) - (2 : Int32)) + (1 : Int32))), (.int p2), (.int (3 : Int32)), (.ref a0), (.int (f 1))])) rfl (by rw [hml]; rfl) (argsL := [(.ref a0), (.int (3 : Int32)), (.int p2), (.int ((((3 : Int32) + (1 : Int32)) - (2 : Int32)) + (1 : Int32)))]) (rest := [(.int (f 1))]) (lenOf pd21711166 rfl) rfl (by show 2 * 0 + _ ≤ _; exact Nat.le_of_eq rfl) (hb hby d4_51) (fun _ _ => ⟨rfl, e213, (by decide : 0 + 0 ≤ _), (by decide : 0 + 0 ≤ _)⟩)
    dsimp only [Pt.U, Pt.locs, Pt.cells, Pt.slots] at X217 l217 y217 z217 st217 hQ217
    subst l217 y217 z217
    obtain ⟨rfl, N217q, e217⟩ := hQ217
    have N218 := Fr.app N214 N217q
    have pre219 : ∀ t, Steps p.tables e below (T217.setTop (mkF m 54 #[.val (.ref a0), .val (.int (3 : Int32)), .val (.int p2), .val (.int (2 : Int32)), .val (.int (((3 : Int32) + (1 : Int32)) - (2 : Int32)))] [(.int p2), (.int (f 1))])) t → Steps p.tables e below (s₁.setTop (entryFrame m #[(.ref a0), (.int (3 : Int32)), (.int p2), (.int (2 : Int32))] 5)) t := fun t kt => by
      refine pre215 _ ?_
      show Steps p.tables e below (T213.setTop (mkF m 31 #[.val (.ref a0), .val (.int (3 : Int32)), .val (.int p2), .val (.int (2 : Int32)), .val (.int (((3 : Int32) + (1 : Int32)) - (2 : Int32)))] [(.int (f 2)), (.int (f 0))])) _
      refine XS.icmpYes X213.here hx rfl (pc0 := 31) (pc' := 36) rfl (hb hby d4_31) rfl (teq hc216).1 (by decide) (by decide) ?_
      show Steps p.tables e below (T213.setTop (mkF m 36 #[.val (.ref a0), .val (.int (3 : Int32)), .val (.int p2), .val (.int (2 : Int32)), .val (.int (((3 : Int32) + (1 : Int32)) - (2 : Int32)))] [])) _
      refine XS.iloadN X213.here hx rfl (hb hby d4_36) rfl ?_
      show Steps p.tables e below (T213.setTop (mkF m 37 #[.val (.ref a0), .val (.int (3 : Int32)), .val (.int p2), .val (.int (2 : Int32)), .val (.int (((3 : Int32) + (1 : Int32)) - (2 : Int32)))] [(.int (2 : Int32))])) _
      refine XS.iconst X213.here hx rfl (hb hby d4_37) ?_
      show Steps p.tables e below (T213.setTop (mkF m 38 #[.val (.ref a0), .val (.int (3 : Int32)), .val (.int p2), .val (.int (2 : Int32)), .val (.int (((3 : Int32) + (1 : Int32)) - (2 : Int32)))] [(.int (1 : Int32)), (.int (2 : Int32))])) _
      refine XS.icmpNo X213.here hx rfl (hb hby d4_38) rfl (tlt (by decide : (1 : Int32) < (2 : Int32))).2.2.2 ?_
      show Steps p.tables e below (T213.setTop (mkF m 41 #[.val (.ref a0), .val (.int (3 : Int32)), .val (.int p2), .val (.int (2 : Int32)), .val (.int (((3 : Int32) + (1 : Int32)) - (2 : Int32)))] [])) _
      refine XS.aloadN X213.here hx rfl (hb hby d4_41) rfl rfl ?_
      show Steps p.tables e below (T213.setTop (mkF m 42 #[.val (.ref a0), .val (.int (3 : Int32)), .val (.int p2), .val (.int (2 : Int32)), .val (.int (((3 : Int32) + (1 : Int32)) - (2 : Int32)))] [(.ref a0)])) _
      refine XS.iconst X213.here hx rfl (hb hby d4_42) ?_
      show Steps p.tables e below (T213.setTop (mkF m 43 #[.val (.ref a0), .val (.int (3 : Int32)), .val (.int p2), .val (.int (2 : Int32)), .val (.int (((3 : Int32) + (1 : Int32)) - (2 : Int32)))] [(.int (1 : Int32)), (.ref a0)])) _
      refine own_rdI X213 hx hZ e213 V_a0 (j := (1 : Int32)) (i := 1) (by decide) (by decide) (g := (mkF m 43 #[.val (.ref a0), .val (.int (3 : Int32)), .val (.int p2), .val (.int (2 : Int32)), .val (.int (((3 : Int32) + (1 : Int32)) - (2 : Int32)))] [(.int (1 : Int32)), (.ref a0)])) rfl rfl (hb hby d4_43) _ ?_
      show Steps p.tables e below (T213.setTop (mkF m 44 #[.val (.ref a0), .val (.int (3 : Int32)), .val (.int p2), .val (.int (2 : Int32)), .val (.int (((3 : Int32) + (1 : Int32)) - (2 : Int32)))] [(.int (f 1))])) _
      refine XS.aloadN X213.here hx rfl (hb hby d4_44) rfl rfl ?_
      show Steps p.tables e below (T213.setTop (mkF m 45 #[.val (.ref a0), .val (.int (3 : Int32)), .val (.int p2), .val (.int (2 : Int32)), .val (.int (((3 : Int32) + (1 : Int32)) - (2 : Int32)))] [(.ref a0), (.int (f 1))])) _
      refine XS.iloadN X213.here hx rfl (hb hby d4_45) rfl ?_
      show Steps p.tables e below (T213.setTop (mkF m 46 #[.val (.ref a0), .val (.int (3 : Int32)), .val (.int p2), .val (.int (2 : Int32)), .val (.int (((3 : Int32) + (1 : Int32)) - (2 : Int32)))] [(.int (3 : Int32)), (.ref a0), (.int (f 1))])) _
      refine XS.iloadN X213.here hx rfl (hb hby d4_46) rfl ?_
      show Steps p.tables e below (T213.setTop (mkF m 47 #[.val (.ref a0), .val (.int (3 : Int32)), .val (.int p2), .val (.int (2 : Int32)), .val (.int (((3 : Int32) + (1 : Int32)) - (2 : Int32)))] [(.int p2), (.int (3 : Int32)), (.ref a0), (.int (f 1))])) _
      refine XS.iload X213.here hx rfl (hb hby d4_47) rfl ?_
      show Steps p.tables e below (T213.setTop (mkF m 49 #[.val (.ref a0), .val (.int (3 : Int32)), .val (.int p2), .val (.int (2 : Int32)), .val (.int (((3 : Int32) + (1 : Int32)) - (2 : Int32)))] [(.int (((3 : Int32) + (1 : Int32)) - (2 : Int32))), (.int p2), (.int (3 : Int32)), (.ref a0), (.int (f 1))])) _
      refine XS.iconst X213.here hx rfl (hb hby d4_49) ?_
      show Steps p.tables e below (T213.setTop (mkF m 50 #[.val (.ref a0), .val (.int (3 : Int32)), .val (.int p2), .val (.int (2 : Int32)), .val (.int (((3 : Int32) + (1 : Int32)) - (2 : Int32)))] [(.int (1 : Int32)), (.int (((3 : Int32) + (1 : Int32)) - (2 : Int32))), (.int p2), (.int (3 : Int32)), (.ref a0), (.int (f 1))])) _
      refine XS.iadd X213.here hx rfl (hb hby d4_50) rfl ?_
      show Steps p.tables e below (T213.setTop (mkF m 51 #[.val (.ref a0), .val (.int (3 : Int32)), .val (.int p2), .val (.int (2 : Int32)), .val (.int (((3 : Int32) + (1 : Int32)) - (2 : Int32)))] [(.int ((((3 : Int32) + (1 : Int32)) - (2 : Int32)) + (1 : Int32))), (.int p2), (.int (3 : Int32)), (.ref a0), (.int (f 1))])) _
      refine st217 _ ?_
      show Steps p.tables e below (T217.setTop (mkF m 54 #[.val (.ref a0), .val (.int (3 : Int32)), .val (.int p2), .val (.int (2 : Int32)), .val (.int (((3 : Int32) + (1 : Int32)) - (2 : Int32)))] [(.int p2), (.int (f 1))])) _
      exact kt
    by_cases hc220 : (f 1) = p2
    · skip
      have pre221 : ∀ t, Steps p.tables e below (T217.setTop (mkF m 106 #[.val (.ref a0), .val (.int (3 : Int32)), .val (.int p2), .val (.int (2 : Int32)), .val (.int (((3 : Int32) + (1 : Int32)) - (2 : Int32)))] [(.int (1 : Int32))])) t → Steps p.tables e below (s₁.setTop (entryFrame m #[(.ref a0), (.int (3 : Int32)), (.int p2), (.int (2 : Int32))] 5)) t := fun t kt => by
        refine pre219 _ ?_
        show Steps p.tables e below (T217.setTop (mkF m 54 #[.val (.ref a0), .val (.int (3 : Int32)), .val (.int p2), .val (.int (2 : Int32)), .val (.int (((3 : Int32) + (1 : Int32)) - (2 : Int32)))] [(.int p2), (.int (f 1))])) _
        refine XS.icmpYes X217.here hx rfl (pc0 := 54) (pc' := 59) rfl (hb hby d4_54) rfl (teq hc220).1 (by decide) (by decide) ?_
        show Steps p.tables e below (T217.setTop (mkF m 59 #[.val (.ref a0), .val (.int (3 : Int32)), .val (.int p2), .val (.int (2 : Int32)), .val (.int (((3 : Int32) + (1 : Int32)) - (2 : Int32)))] [])) _
        refine XS.iloadN X217.here hx rfl (hb hby d4_59) rfl ?_
        show Steps p.tables e below (T217.setTop (mkF m 60 #[.val (.ref a0), .val (.int (3 : Int32)), .val (.int p2), .val (.int (2 : Int32)), .val (.int (((3 : Int32) + (1 : Int32)) - (2 : Int32)))] [(.int (2 : Int32))])) _
        refine XS.iconst X217.here hx rfl (hb hby d4_60) ?_
        show Steps p.tables e below (T217.setTop (mkF m 61 #[.val (.ref a0), .val (.int (3 : Int32)), .val (.int p2), .val (.int (2 : Int32)), .val (.int (((3 : Int32) + (1 : Int32)) - (2 : Int32)))] [(.int (2 : Int32)), (.int (2 : Int32))])) _
        refine XS.icmpYes X217.here hx rfl (pc0 := 61) (pc' := 82) rfl (hb hby d4_61) rfl (flt (by decide : ¬ ((2 : Int32) < (2 : Int32)))).2.2.2 (by decide) (by decide) ?_
        show Steps p.tables e below (T217.setTop (mkF m 82 #[.val (.ref a0), .val (.int (3 : Int32)), .val (.int p2), .val (.int (2 : Int32)), .val (.int (((3 : Int32) + (1 : Int32)) - (2 : Int32)))] [])) _
        refine XS.iloadN X217.here hx rfl (hb hby d4_82) rfl ?_
        show Steps p.tables e below (T217.setTop (mkF m 83 #[.val (.ref a0), .val (.int (3 : Int32)), .val (.int p2), .val (.int (2 : Int32)), .val (.int (((3 : Int32) + (1 : Int32)) - (2 : Int32)))] [(.int (2 : Int32))])) _
        refine XS.iconst X217.here hx rfl (hb hby d4_83) ?_
        show Steps p.tables e below (T217.setTop (mkF m 84 #[.val (.ref a0), .val (.int (3 : Int32)), .val (.int p2), .val (.int (2 : Int32)), .val (.int (((3 : Int32) + (1 : Int32)) - (2 : Int32)))] [(.int (3 : Int32)), (.int (2 : Int32))])) _
        refine XS.icmpYes X217.here hx rfl (pc0 := 84) (pc' := 105) rfl (hb hby d4_84) rfl (flt (by decide : ¬ ((3 : Int32) < (2 : Int32)))).2.2.2 (by decide) (by decide) ?_
        show Steps p.tables e below (T217.setTop (mkF m 105 #[.val (.ref a0), .val (.int (3 : Int32)), .val (.int p2), .val (.int (2 : Int32)), .val (.int (((3 : Int32) + (1 : Int32)) - (2 : Int32)))] [])) _
        refine XS.iconst X217.here hx rfl (hb hby d4_105) ?_
        show Steps p.tables e below (T217.setTop (mkF m 106 #[.val (.ref a0), .val (.int (3 : Int32)), .val (.int p2), .val (.int (2 : Int32)), .val (.int (((3 : Int32) + (1 : Int32)) - (2 : Int32)))] [(.int (1 : Int32))])) _
        exact kt
      obtain ⟨fs, hr, hrun, hended, hW, hsame⟩ := X217.leave (v := some (.int (1 : Int32))) (fun h => by rw [Bd.returns] at h; cases h)
      refine ⟨_, _, pre221 _ ?_, hrun, hended, _, _, rfl, ?_, ⟨_, rfl⟩, hW, hsame.mono (by decide) (by decide)⟩
      · exact retN X217 hx (t := .boolean) Bd.returns (by simp) (hb hby d4_106) hr
      · show Q4_3_2 Z a0 p2 f h0 n0 _ T217.heap _
        rw [e217]
        exact ⟨(own_rI (by rw [if_pos hc216, if_pos hc220] : (1 : Int32) = (if (f 0) = (f 2) then (if (f 1) = p2 then (1 : Int32) else (0 : Int32)) else (0 : Int32)))), N218, rfl⟩
    · skip
      have pre222 : ∀ t, Steps p.tables e below (T217.setTop (mkF m 58 #[.val (.ref a0), .val (.int (3 : Int32)), .val (.int p2), .val (.int (2 : Int32)), .val (.int (((3 : Int32) + (1 : Int32)) - (2 : Int32)))] [(.int (0 : Int32))])) t → Steps p.tables e below (s₁.setTop (entryFrame m #[(.ref a0), (.int (3 : Int32)), (.int p2), (.int (2 : Int32))] 5)) t := fun t kt => by
        refine pre219 _ ?_
        show Steps p.tables e below (T217.setTop (mkF m 54 #[.val (.ref a0), .val (.int (3 : Int32)), .val (.int p2), .val (.int (2 : Int32)), .val (.int (((3 : Int32) + (1 : Int32)) - (2 : Int32)))] [(.int p2), (.int (f 1))])) _
        refine XS.icmpNo X217.here hx rfl (hb hby d4_54) rfl (feq hc220).1 ?_
        show Steps p.tables e below (T217.setTop (mkF m 57 #[.val (.ref a0), .val (.int (3 : Int32)), .val (.int p2), .val (.int (2 : Int32)), .val (.int (((3 : Int32) + (1 : Int32)) - (2 : Int32)))] [])) _
        refine XS.iconst X217.here hx rfl (hb hby d4_57) ?_
        show Steps p.tables e below (T217.setTop (mkF m 58 #[.val (.ref a0), .val (.int (3 : Int32)), .val (.int p2), .val (.int (2 : Int32)), .val (.int (((3 : Int32) + (1 : Int32)) - (2 : Int32)))] [(.int (0 : Int32))])) _
        exact kt
      obtain ⟨fs, hr, hrun, hended, hW, hsame⟩ := X217.leave (v := some (.int (0 : Int32))) (fun h => by rw [Bd.returns] at h; cases h)
      refine ⟨_, _, pre222 _ ?_, hrun, hended, _, _, rfl, ?_, ⟨_, rfl⟩, hW, hsame.mono (by decide) (by decide)⟩
      · exact retN X217 hx (t := .boolean) Bd.returns (by simp) (hb hby d4_58) hr
      · show Q4_3_2 Z a0 p2 f h0 n0 _ T217.heap _
        rw [e217]
        exact ⟨(own_rI (by rw [if_pos hc216, if_neg hc220] : (0 : Int32) = (if (f 0) = (f 2) then (if (f 1) = p2 then (1 : Int32) else (0 : Int32)) else (0 : Int32)))), N218, rfl⟩
  · skip
    have pre223 : ∀ t, Steps p.tables e below (T213.setTop (mkF m 35 #[.val (.ref a0), .val (.int (3 : Int32)), .val (.int p2), .val (.int (2 : Int32)), .val (.int (((3 : Int32) + (1 : Int32)) - (2 : Int32)))] [(.int (0 : Int32))])) t → Steps p.tables e below (s₁.setTop (entryFrame m #[(.ref a0), (.int (3 : Int32)), (.int p2), (.int (2 : Int32))] 5)) t := fun t kt => by
      refine pre215 _ ?_
      show Steps p.tables e below (T213.setTop (mkF m 31 #[.val (.ref a0), .val (.int (3 : Int32)), .val (.int p2), .val (.int (2 : Int32)), .val (.int (((3 : Int32) + (1 : Int32)) - (2 : Int32)))] [(.int (f 2)), (.int (f 0))])) _
      refine XS.icmpNo X213.here hx rfl (hb hby d4_31) rfl (feq hc216).1 ?_
      show Steps p.tables e below (T213.setTop (mkF m 34 #[.val (.ref a0), .val (.int (3 : Int32)), .val (.int p2), .val (.int (2 : Int32)), .val (.int (((3 : Int32) + (1 : Int32)) - (2 : Int32)))] [])) _
      refine XS.iconst X213.here hx rfl (hb hby d4_34) ?_
      show Steps p.tables e below (T213.setTop (mkF m 35 #[.val (.ref a0), .val (.int (3 : Int32)), .val (.int p2), .val (.int (2 : Int32)), .val (.int (((3 : Int32) + (1 : Int32)) - (2 : Int32)))] [(.int (0 : Int32))])) _
      exact kt
    obtain ⟨fs, hr, hrun, hended, hW, hsame⟩ := X213.leave (v := some (.int (0 : Int32))) (fun h => by rw [Bd.returns] at h; cases h)
    refine ⟨_, _, pre223 _ ?_, hrun, hended, _, _, rfl, ?_, ⟨_, rfl⟩, hW, hsame.mono (by decide) (by decide)⟩
    · exact retN X213 hx (t := .boolean) Bd.returns (by simp) (hb hby d4_35) hr
    · show Q4_3_2 Z a0 p2 f h0 n0 _ T213.heap _
      rw [e213]
      exact ⟨(own_rI (by rw [if_neg hc216] : (0 : Int32) = (if (f 0) = (f 2) then (if (f 1) = p2 then (1 : Int32) else (0 : Int32)) else (0 : Int32)))), N214, rfl⟩
theorem ef_4_3_3 (m : MethodId) (a0 : Addr) (p2 : Int32) : entryFrame m #[(.ref a0), (.int (3 : Int32)), (.int p2), (.int (3 : Int32))] 5 = mkF m 0 #[.val (.ref a0), .val (.int (3 : Int32)), .val (.int p2), .val (.int (3 : Int32)), .unset] [] := by first | (simp [entryFrame, mkF, argsToLocals, Value.category]; done) | rfl
def Q4_3_3 (Z : State) (a0 : Addr) (p2 : Int32) (f : Nat → Int32) (h0 : Heap) (n0 : Nat) (v : Option Value) (h : Heap) (L : List Loc) : Prop := v = some (.int (if (f 0) = (f 1) then (if (f 1) = (f 2) then (if (f 2) = p2 then (1 : Int32) else (0 : Int32)) else (0 : Int32)) else (0 : Int32))) ∧ Fr n0 L ∧ h = h0
set_option maxRecDepth 65536 in
set_option maxHeartbeats 40000000 in
theorem rm4_3_3 (l : Launch) (Z : State) (aq : Array Value) (hw : ∀ d ∈ tables_1, d.before aq Z = true) (ws : List Jvm.Cond) (a0 : Addr) (p2 : Int32) (f : Nat → Int32) (h0 : Heap) (n0 : Nat) (Z0 : n0 ≤ h0.size) (V_a0 : own_Ar Z h0 a0 .int 4 f) :
    MetFree l (⟨"com/example/xcu/xcu/UnitStringExtendPinLaw", "fits", "([IIII)Z"⟩ : MethodName) (head1 (Jvm.Cond.code (⟨"com/example/xcu/xcu/UnitStringExtendPinLaw", "fits", "([IIII)Z"⟩ : MethodName) method_3_code 5 (some .boolean) :: ws) ({ frames := 1, cells := 0, slots := 0, locals := 16 } : Room)) (fun a U => a = #[(.ref a0), (.int (3 : Int32)), (.int p2), (.int (3 : Int32))] ∧ Z.Warmed39 U.vm ∧ U.heap = h0) (fun _ _ _ _ _ => True) (fun _ U o U' => ∃ v L, o = .returned v ∧ Q4_3_3 Z a0 p2 f h0 n0 v U'.heap L ∧ FrameEnd U o U' L ({ frames := 1, cells := 0, slots := 0, locals := 16 } : Room).cells ({ frames := 1, cells := 0, slots := 0, locals := 16 } : Room).slots) := by
  refine MetFree.of_bodySF (plainFor_of_name pn51678678) hisR ?_
  intro p e s m args below meth c s₁ Bd hml0 hP hK
  obtain ⟨rfl, hZ, hh⟩ := hP
  have hx := Bd.exec
  have hby := Bd.bytes
  have hml : c.maxLocals = 5 := hml0
  have hown : s.vm.findClass "com/example/xcu/xcu/UnitStringExtendPinLaw" = some m.cls := findClass_of_methodNamed Bd.named
  have hnm := (name_of_methodNamed Bd.named Bd.method).1
  have X0 : Stand p l e ({ frames := 1, cells := 0, slots := 0, locals := 16 } : Room) s m #[(.ref a0), (.int (3 : Int32)), (.int p2), (.int (3 : Int32))] below meth c s₁ [] 0 0 := Stand.of_body Bd
  have e0 : s₁.heap = h0 := by rw [← hh, Bd.state]; rfl
  have N0 := Fr.nil n0
  have pre0 : ∀ t, Steps p.tables e below (s₁.setTop (mkF m 0 #[.val (.ref a0), .val (.int (3 : Int32)), .val (.int p2), .val (.int (3 : Int32)), .unset] [])) t → Steps p.tables e below (s₁.setTop (entryFrame m #[(.ref a0), (.int (3 : Int32)), (.int p2), (.int (3 : Int32))] 5)) t := fun t k => castTop (ef_4_3_3 m a0 p2) k
  obtain ⟨_, _, ⟨T236, L236, k236, n236⟩, -, X236, ⟨Lc236, hQ236, l236, y236, z236⟩, st236⟩ := Jvm.LawKit.callS X0 hx (y := (⟨"com/example/xcu/xcu/UnitStringExtendPinLaw", "sAt", "([IIII)I"⟩ : MethodName)) hown (mvT hZ (hw _ (List.mem_of_getElem? (i := 35) rfl))) (mvT hZ (hw _ (List.mem_of_getElem? (i := 36) rfl))) (mvT hZ (hw _ (List.mem_of_getElem? (i := 33) rfl))) (mvT hZ (hw _ (List.mem_of_getElem? (i := 37) rfl))) (by decide) (backOf (W := 1) (rm5_3_1 l Z aq hw [] a0 p2 f h0 n0 Z0 V_a0) hZ (hw _ (List.mem_of_getElem? (i := 37) rfl)) (hw _ (List.mem_of_getElem? (i := 33) rfl)) (by decide) (by decide)) (g := (mkF m 28 #[.val (.ref a0), .val (.int (3 : Int32)), .val (.int p2), .val (.int (3 : Int32)), .val (.int (((3 : Int32) + (1 : Int32)) - (3 : Int32)))] [(.int (((3 : Int32) + (1 : Int32)) - (3 : Int32))), (.int p2), (.int (3 : Int32)), (.ref a0), (.int (f 0))])) rfl (by rw [hml]; rfl) (argsL := [(.ref a0), (.int (3 : Int32)), (.int p2), (.int (((3 : Int32) + (1 : Int32)) - (3 : Int32)))]) (rest := [(.int (f 0))]) (lenOf pd21711166 rfl) rfl (by show 2 * 0 + _ ≤ _; exact Nat.le_of_eq rfl) (hb hby d4_28) (fun _ _ => ⟨rfl, e0, (by decide : 0 + 0 ≤ _), (by decide : 0 + 0 ≤ _)⟩)
  dsimp only [Pt.U, Pt.locs, Pt.cells, Pt.slots] at X236 l236 y236 z236 st236 hQ236
  subst l236 y236 z236
  obtain ⟨rfl, N236q, e236⟩ := hQ236
  have N237 := Fr.app N0 N236q
  have pre238 : ∀ t, Steps p.tables e below (T236.setTop (mkF m 31 #[.val (.ref a0), .val (.int (3 : Int32)), .val (.int p2), .val (.int (3 : Int32)), .val (.int (((3 : Int32) + (1 : Int32)) - (3 : Int32)))] [(.int (f 1)), (.int (f 0))])) t → Steps p.tables e below (s₁.setTop (entryFrame m #[(.ref a0), (.int (3 : Int32)), (.int p2), (.int (3 : Int32))] 5)) t := fun t kt => by
    refine pre0 _ ?_
    show Steps p.tables e below (s₁.setTop (mkF m 0 #[.val (.ref a0), .val (.int (3 : Int32)), .val (.int p2), .val (.int (3 : Int32)), .unset] [])) _
    refine XS.iloadN X0.here hx rfl (hb hby d4_0) rfl ?_
    show Steps p.tables e below (s₁.setTop (mkF m 1 #[.val (.ref a0), .val (.int (3 : Int32)), .val (.int p2), .val (.int (3 : Int32)), .unset] [(.int (3 : Int32))])) _
    refine XS.iloadN X0.here hx rfl (hb hby d4_1) rfl ?_
    show Steps p.tables e below (s₁.setTop (mkF m 2 #[.val (.ref a0), .val (.int (3 : Int32)), .val (.int p2), .val (.int (3 : Int32)), .unset] [(.int (3 : Int32)), (.int (3 : Int32))])) _
    refine XS.iconst X0.here hx rfl (hb hby d4_2) ?_
    show Steps p.tables e below (s₁.setTop (mkF m 3 #[.val (.ref a0), .val (.int (3 : Int32)), .val (.int p2), .val (.int (3 : Int32)), .unset] [(.int (1 : Int32)), (.int (3 : Int32)), (.int (3 : Int32))])) _
    refine XS.iadd X0.here hx rfl (hb hby d4_3) rfl ?_
    show Steps p.tables e below (s₁.setTop (mkF m 4 #[.val (.ref a0), .val (.int (3 : Int32)), .val (.int p2), .val (.int (3 : Int32)), .unset] [(.int ((3 : Int32) + (1 : Int32))), (.int (3 : Int32))])) _
    refine XS.icmpYes X0.here hx rfl (pc0 := 4) (pc' := 9) rfl (hb hby d4_4) rfl (flt (by decide : ¬ (((3 : Int32) + (1 : Int32)) < (3 : Int32)))).2.2.2 (by decide) (by decide) ?_
    show Steps p.tables e below (s₁.setTop (mkF m 9 #[.val (.ref a0), .val (.int (3 : Int32)), .val (.int p2), .val (.int (3 : Int32)), .unset] [])) _
    refine XS.iloadN X0.here hx rfl (hb hby d4_9) rfl ?_
    show Steps p.tables e below (s₁.setTop (mkF m 10 #[.val (.ref a0), .val (.int (3 : Int32)), .val (.int p2), .val (.int (3 : Int32)), .unset] [(.int (3 : Int32))])) _
    refine XS.iconst X0.here hx rfl (hb hby d4_10) ?_
    show Steps p.tables e below (s₁.setTop (mkF m 11 #[.val (.ref a0), .val (.int (3 : Int32)), .val (.int p2), .val (.int (3 : Int32)), .unset] [(.int (1 : Int32)), (.int (3 : Int32))])) _
    refine XS.iadd X0.here hx rfl (hb hby d4_11) rfl ?_
    show Steps p.tables e below (s₁.setTop (mkF m 12 #[.val (.ref a0), .val (.int (3 : Int32)), .val (.int p2), .val (.int (3 : Int32)), .unset] [(.int ((3 : Int32) + (1 : Int32)))])) _
    refine XS.iloadN X0.here hx rfl (hb hby d4_12) rfl ?_
    show Steps p.tables e below (s₁.setTop (mkF m 13 #[.val (.ref a0), .val (.int (3 : Int32)), .val (.int p2), .val (.int (3 : Int32)), .unset] [(.int (3 : Int32)), (.int ((3 : Int32) + (1 : Int32)))])) _
    refine XS.isub X0.here hx rfl (hb hby d4_13) rfl ?_
    show Steps p.tables e below (s₁.setTop (mkF m 14 #[.val (.ref a0), .val (.int (3 : Int32)), .val (.int p2), .val (.int (3 : Int32)), .unset] [(.int (((3 : Int32) + (1 : Int32)) - (3 : Int32)))])) _
    refine XS.istore X0.here hx rfl (hb hby d4_14) rfl (l' := #[.val (.ref a0), .val (.int (3 : Int32)), .val (.int p2), .val (.int (3 : Int32)), .val (.int (((3 : Int32) + (1 : Int32)) - (3 : Int32)))]) rfl ?_
    show Steps p.tables e below (s₁.setTop (mkF m 16 #[.val (.ref a0), .val (.int (3 : Int32)), .val (.int p2), .val (.int (3 : Int32)), .val (.int (((3 : Int32) + (1 : Int32)) - (3 : Int32)))] [])) _
    refine XS.iloadN X0.here hx rfl (hb hby d4_16) rfl ?_
    show Steps p.tables e below (s₁.setTop (mkF m 17 #[.val (.ref a0), .val (.int (3 : Int32)), .val (.int p2), .val (.int (3 : Int32)), .val (.int (((3 : Int32) + (1 : Int32)) - (3 : Int32)))] [(.int (3 : Int32))])) _
    refine XS.ifNo X0.here hx rfl (hb hby d4_17) rfl ((if0 _ _).trans (tlt (by decide : (0 : Int32) < (3 : Int32))).2.2.2) ?_
    show Steps p.tables e below (s₁.setTop (mkF m 20 #[.val (.ref a0), .val (.int (3 : Int32)), .val (.int p2), .val (.int (3 : Int32)), .val (.int (((3 : Int32) + (1 : Int32)) - (3 : Int32)))] [])) _
    refine XS.aloadN X0.here hx rfl (hb hby d4_20) rfl rfl ?_
    show Steps p.tables e below (s₁.setTop (mkF m 21 #[.val (.ref a0), .val (.int (3 : Int32)), .val (.int p2), .val (.int (3 : Int32)), .val (.int (((3 : Int32) + (1 : Int32)) - (3 : Int32)))] [(.ref a0)])) _
    refine XS.iconst X0.here hx rfl (hb hby d4_21) ?_
    show Steps p.tables e below (s₁.setTop (mkF m 22 #[.val (.ref a0), .val (.int (3 : Int32)), .val (.int p2), .val (.int (3 : Int32)), .val (.int (((3 : Int32) + (1 : Int32)) - (3 : Int32)))] [(.int (0 : Int32)), (.ref a0)])) _
    refine own_rdI X0 hx hZ e0 V_a0 (j := (0 : Int32)) (i := 0) (by decide) (by decide) (g := (mkF m 22 #[.val (.ref a0), .val (.int (3 : Int32)), .val (.int p2), .val (.int (3 : Int32)), .val (.int (((3 : Int32) + (1 : Int32)) - (3 : Int32)))] [(.int (0 : Int32)), (.ref a0)])) rfl rfl (hb hby d4_22) _ ?_
    show Steps p.tables e below (s₁.setTop (mkF m 23 #[.val (.ref a0), .val (.int (3 : Int32)), .val (.int p2), .val (.int (3 : Int32)), .val (.int (((3 : Int32) + (1 : Int32)) - (3 : Int32)))] [(.int (f 0))])) _
    refine XS.aloadN X0.here hx rfl (hb hby d4_23) rfl rfl ?_
    show Steps p.tables e below (s₁.setTop (mkF m 24 #[.val (.ref a0), .val (.int (3 : Int32)), .val (.int p2), .val (.int (3 : Int32)), .val (.int (((3 : Int32) + (1 : Int32)) - (3 : Int32)))] [(.ref a0), (.int (f 0))])) _
    refine XS.iloadN X0.here hx rfl (hb hby d4_24) rfl ?_
    show Steps p.tables e below (s₁.setTop (mkF m 25 #[.val (.ref a0), .val (.int (3 : Int32)), .val (.int p2), .val (.int (3 : Int32)), .val (.int (((3 : Int32) + (1 : Int32)) - (3 : Int32)))] [(.int (3 : Int32)), (.ref a0), (.int (f 0))])) _
    refine XS.iloadN X0.here hx rfl (hb hby d4_25) rfl ?_
    show Steps p.tables e below (s₁.setTop (mkF m 26 #[.val (.ref a0), .val (.int (3 : Int32)), .val (.int p2), .val (.int (3 : Int32)), .val (.int (((3 : Int32) + (1 : Int32)) - (3 : Int32)))] [(.int p2), (.int (3 : Int32)), (.ref a0), (.int (f 0))])) _
    refine XS.iload X0.here hx rfl (hb hby d4_26) rfl ?_
    show Steps p.tables e below (s₁.setTop (mkF m 28 #[.val (.ref a0), .val (.int (3 : Int32)), .val (.int p2), .val (.int (3 : Int32)), .val (.int (((3 : Int32) + (1 : Int32)) - (3 : Int32)))] [(.int (((3 : Int32) + (1 : Int32)) - (3 : Int32))), (.int p2), (.int (3 : Int32)), (.ref a0), (.int (f 0))])) _
    refine st236 _ ?_
    show Steps p.tables e below (T236.setTop (mkF m 31 #[.val (.ref a0), .val (.int (3 : Int32)), .val (.int p2), .val (.int (3 : Int32)), .val (.int (((3 : Int32) + (1 : Int32)) - (3 : Int32)))] [(.int (f 1)), (.int (f 0))])) _
    exact kt
  by_cases hc239 : (f 0) = (f 1)
  · skip
    obtain ⟨_, _, ⟨T240, L240, k240, n240⟩, -, X240, ⟨Lc240, hQ240, l240, y240, z240⟩, st240⟩ := Jvm.LawKit.callS X236 hx (y := (⟨"com/example/xcu/xcu/UnitStringExtendPinLaw", "sAt", "([IIII)I"⟩ : MethodName)) hown (mvT hZ (hw _ (List.mem_of_getElem? (i := 35) rfl))) (mvT hZ (hw _ (List.mem_of_getElem? (i := 36) rfl))) (mvT hZ (hw _ (List.mem_of_getElem? (i := 33) rfl))) (mvT hZ (hw _ (List.mem_of_getElem? (i := 37) rfl))) (by decide) (backOf (W := 1) (rm5_3_2 l Z aq hw [] a0 p2 f h0 n0 Z0 V_a0) hZ (hw _ (List.mem_of_getElem? (i := 37) rfl)) (hw _ (List.mem_of_getElem? (i := 33) rfl)) (by decide) (by decide)) (g := (mkF m 51 #[.val (.ref a0), .val (.int (3 : Int32)), .val (.int p2), .val (.int (3 : Int32)), .val (.int (((3 : Int32) + (1 : Int32)) - (3 : Int32)))] [(.int ((((3 : Int32) + (1 : Int32)) - (3 : Int32)) + (1 : Int32))), (.int p2), (.int (3 : Int32)), (.ref a0), (.int (f 1))])) rfl (by rw [hml]; rfl) (argsL := [(.ref a0), (.int (3 : Int32)), (.int p2), (.int ((((3 : Int32) + (1 : Int32)) - (3 : Int32)) + (1 : Int32)))]) (rest := [(.int (f 1))]) (lenOf pd21711166 rfl) rfl (by show 2 * 0 + _ ≤ _; exact Nat.le_of_eq rfl) (hb hby d4_51) (fun _ _ => ⟨rfl, e236, (by decide : 0 + 0 ≤ _), (by decide : 0 + 0 ≤ _)⟩)
    dsimp only [Pt.U, Pt.locs, Pt.cells, Pt.slots] at X240 l240 y240 z240 st240 hQ240
    subst l240 y240 z240
    obtain ⟨rfl, N240q, e240⟩ := hQ240
    have N241 := Fr.app N237 N240q
    have pre242 : ∀ t, Steps p.tables e below (T240.setTop (mkF m 54 #[.val (.ref a0), .val (.int (3 : Int32)), .val (.int p2), .val (.int (3 : Int32)), .val (.int (((3 : Int32) + (1 : Int32)) - (3 : Int32)))] [(.int (f 2)), (.int (f 1))])) t → Steps p.tables e below (s₁.setTop (entryFrame m #[(.ref a0), (.int (3 : Int32)), (.int p2), (.int (3 : Int32))] 5)) t := fun t kt => by
      refine pre238 _ ?_
      show Steps p.tables e below (T236.setTop (mkF m 31 #[.val (.ref a0), .val (.int (3 : Int32)), .val (.int p2), .val (.int (3 : Int32)), .val (.int (((3 : Int32) + (1 : Int32)) - (3 : Int32)))] [(.int (f 1)), (.int (f 0))])) _
      refine XS.icmpYes X236.here hx rfl (pc0 := 31) (pc' := 36) rfl (hb hby d4_31) rfl (teq hc239).1 (by decide) (by decide) ?_
      show Steps p.tables e below (T236.setTop (mkF m 36 #[.val (.ref a0), .val (.int (3 : Int32)), .val (.int p2), .val (.int (3 : Int32)), .val (.int (((3 : Int32) + (1 : Int32)) - (3 : Int32)))] [])) _
      refine XS.iloadN X236.here hx rfl (hb hby d4_36) rfl ?_
      show Steps p.tables e below (T236.setTop (mkF m 37 #[.val (.ref a0), .val (.int (3 : Int32)), .val (.int p2), .val (.int (3 : Int32)), .val (.int (((3 : Int32) + (1 : Int32)) - (3 : Int32)))] [(.int (3 : Int32))])) _
      refine XS.iconst X236.here hx rfl (hb hby d4_37) ?_
      show Steps p.tables e below (T236.setTop (mkF m 38 #[.val (.ref a0), .val (.int (3 : Int32)), .val (.int p2), .val (.int (3 : Int32)), .val (.int (((3 : Int32) + (1 : Int32)) - (3 : Int32)))] [(.int (1 : Int32)), (.int (3 : Int32))])) _
      refine XS.icmpNo X236.here hx rfl (hb hby d4_38) rfl (tlt (by decide : (1 : Int32) < (3 : Int32))).2.2.2 ?_
      show Steps p.tables e below (T236.setTop (mkF m 41 #[.val (.ref a0), .val (.int (3 : Int32)), .val (.int p2), .val (.int (3 : Int32)), .val (.int (((3 : Int32) + (1 : Int32)) - (3 : Int32)))] [])) _
      refine XS.aloadN X236.here hx rfl (hb hby d4_41) rfl rfl ?_
      show Steps p.tables e below (T236.setTop (mkF m 42 #[.val (.ref a0), .val (.int (3 : Int32)), .val (.int p2), .val (.int (3 : Int32)), .val (.int (((3 : Int32) + (1 : Int32)) - (3 : Int32)))] [(.ref a0)])) _
      refine XS.iconst X236.here hx rfl (hb hby d4_42) ?_
      show Steps p.tables e below (T236.setTop (mkF m 43 #[.val (.ref a0), .val (.int (3 : Int32)), .val (.int p2), .val (.int (3 : Int32)), .val (.int (((3 : Int32) + (1 : Int32)) - (3 : Int32)))] [(.int (1 : Int32)), (.ref a0)])) _
      refine own_rdI X236 hx hZ e236 V_a0 (j := (1 : Int32)) (i := 1) (by decide) (by decide) (g := (mkF m 43 #[.val (.ref a0), .val (.int (3 : Int32)), .val (.int p2), .val (.int (3 : Int32)), .val (.int (((3 : Int32) + (1 : Int32)) - (3 : Int32)))] [(.int (1 : Int32)), (.ref a0)])) rfl rfl (hb hby d4_43) _ ?_
      show Steps p.tables e below (T236.setTop (mkF m 44 #[.val (.ref a0), .val (.int (3 : Int32)), .val (.int p2), .val (.int (3 : Int32)), .val (.int (((3 : Int32) + (1 : Int32)) - (3 : Int32)))] [(.int (f 1))])) _
      refine XS.aloadN X236.here hx rfl (hb hby d4_44) rfl rfl ?_
      show Steps p.tables e below (T236.setTop (mkF m 45 #[.val (.ref a0), .val (.int (3 : Int32)), .val (.int p2), .val (.int (3 : Int32)), .val (.int (((3 : Int32) + (1 : Int32)) - (3 : Int32)))] [(.ref a0), (.int (f 1))])) _
      refine XS.iloadN X236.here hx rfl (hb hby d4_45) rfl ?_
      show Steps p.tables e below (T236.setTop (mkF m 46 #[.val (.ref a0), .val (.int (3 : Int32)), .val (.int p2), .val (.int (3 : Int32)), .val (.int (((3 : Int32) + (1 : Int32)) - (3 : Int32)))] [(.int (3 : Int32)), (.ref a0), (.int (f 1))])) _
      refine XS.iloadN X236.here hx rfl (hb hby d4_46) rfl ?_
      show Steps p.tables e below (T236.setTop (mkF m 47 #[.val (.ref a0), .val (.int (3 : Int32)), .val (.int p2), .val (.int (3 : Int32)), .val (.int (((3 : Int32) + (1 : Int32)) - (3 : Int32)))] [(.int p2), (.int (3 : Int32)), (.ref a0), (.int (f 1))])) _
      refine XS.iload X236.here hx rfl (hb hby d4_47) rfl ?_
      show Steps p.tables e below (T236.setTop (mkF m 49 #[.val (.ref a0), .val (.int (3 : Int32)), .val (.int p2), .val (.int (3 : Int32)), .val (.int (((3 : Int32) + (1 : Int32)) - (3 : Int32)))] [(.int (((3 : Int32) + (1 : Int32)) - (3 : Int32))), (.int p2), (.int (3 : Int32)), (.ref a0), (.int (f 1))])) _
      refine XS.iconst X236.here hx rfl (hb hby d4_49) ?_
      show Steps p.tables e below (T236.setTop (mkF m 50 #[.val (.ref a0), .val (.int (3 : Int32)), .val (.int p2), .val (.int (3 : Int32)), .val (.int (((3 : Int32) + (1 : Int32)) - (3 : Int32)))] [(.int (1 : Int32)), (.int (((3 : Int32) + (1 : Int32)) - (3 : Int32))), (.int p2), (.int (3 : Int32)), (.ref a0), (.int (f 1))])) _
      refine XS.iadd X236.here hx rfl (hb hby d4_50) rfl ?_
      show Steps p.tables e below (T236.setTop (mkF m 51 #[.val (.ref a0), .val (.int (3 : Int32)), .val (.int p2), .val (.int (3 : Int32)), .val (.int (((3 : Int32) + (1 : Int32)) - (3 : Int32)))] [(.int ((((3 : Int32) + (1 : Int32)) - (3 : Int32)) + (1 : Int32))), (.int p2), (.int (3 : Int32)), (.ref a0), (.int (f 1))])) _
      refine st240 _ ?_
      show Steps p.tables e below (T240.setTop (mkF m 54 #[.val (.ref a0), .val (.int (3 : Int32)), .val (.int p2), .val (.int (3 : Int32)), .val (.int (((3 : Int32) + (1 : Int32)) - (3 : Int32)))] [(.int (f 2)), (.int (f 1))])) _
      exact kt
    by_cases hc243 : (f 1) = (f 2)
    · skip
      obtain ⟨_, _, ⟨T244, L244, k244, n244⟩, -, X244, ⟨Lc244, hQ244, l244, y244, z244⟩, st244⟩ := Jvm.LawKit.callS X240 hx (y := (⟨"com/example/xcu/xcu/UnitStringExtendPinLaw", "sAt", "([IIII)I"⟩ : MethodName)) hown (mvT hZ (hw _ (List.mem_of_getElem? (i := 35) rfl))) (mvT hZ (hw _ (List.mem_of_getElem? (i := 36) rfl))) (mvT hZ (hw _ (List.mem_of_getElem? (i := 33) rfl))) (mvT hZ (hw _ (List.mem_of_getElem? (i := 37) rfl))) (by decide) (backOf (W := 1) (rm5_3_3 l Z aq hw [] a0 p2 f h0 n0 Z0 V_a0) hZ (hw _ (List.mem_of_getElem? (i := 37) rfl)) (hw _ (List.mem_of_getElem? (i := 33) rfl)) (by decide) (by decide)) (g := (mkF m 74 #[.val (.ref a0), .val (.int (3 : Int32)), .val (.int p2), .val (.int (3 : Int32)), .val (.int (((3 : Int32) + (1 : Int32)) - (3 : Int32)))] [(.int ((((3 : Int32) + (1 : Int32)) - (3 : Int32)) + (2 : Int32))), (.int p2), (.int (3 : Int32)), (.ref a0), (.int (f 2))])) rfl (by rw [hml]; rfl) (argsL := [(.ref a0), (.int (3 : Int32)), (.int p2), (.int ((((3 : Int32) + (1 : Int32)) - (3 : Int32)) + (2 : Int32)))]) (rest := [(.int (f 2))]) (lenOf pd21711166 rfl) rfl (by show 2 * 0 + _ ≤ _; exact Nat.le_of_eq rfl) (hb hby d4_74) (fun _ _ => ⟨rfl, e240, (by decide : 0 + 0 ≤ _), (by decide : 0 + 0 ≤ _)⟩)
      dsimp only [Pt.U, Pt.locs, Pt.cells, Pt.slots] at X244 l244 y244 z244 st244 hQ244
      subst l244 y244 z244
      obtain ⟨rfl, N244q, e244⟩ := hQ244
      have N245 := Fr.app N241 N244q
      have pre246 : ∀ t, Steps p.tables e below (T244.setTop (mkF m 77 #[.val (.ref a0), .val (.int (3 : Int32)), .val (.int p2), .val (.int (3 : Int32)), .val (.int (((3 : Int32) + (1 : Int32)) - (3 : Int32)))] [(.int p2), (.int (f 2))])) t → Steps p.tables e below (s₁.setTop (entryFrame m #[(.ref a0), (.int (3 : Int32)), (.int p2), (.int (3 : Int32))] 5)) t := fun t kt => by
        refine pre242 _ ?_
        show Steps p.tables e below (T240.setTop (mkF m 54 #[.val (.ref a0), .val (.int (3 : Int32)), .val (.int p2), .val (.int (3 : Int32)), .val (.int (((3 : Int32) + (1 : Int32)) - (3 : Int32)))] [(.int (f 2)), (.int (f 1))])) _
        refine XS.icmpYes X240.here hx rfl (pc0 := 54) (pc' := 59) rfl (hb hby d4_54) rfl (teq hc243).1 (by decide) (by decide) ?_
        show Steps p.tables e below (T240.setTop (mkF m 59 #[.val (.ref a0), .val (.int (3 : Int32)), .val (.int p2), .val (.int (3 : Int32)), .val (.int (((3 : Int32) + (1 : Int32)) - (3 : Int32)))] [])) _
        refine XS.iloadN X240.here hx rfl (hb hby d4_59) rfl ?_
        show Steps p.tables e below (T240.setTop (mkF m 60 #[.val (.ref a0), .val (.int (3 : Int32)), .val (.int p2), .val (.int (3 : Int32)), .val (.int (((3 : Int32) + (1 : Int32)) - (3 : Int32)))] [(.int (3 : Int32))])) _
        refine XS.iconst X240.here hx rfl (hb hby d4_60) ?_
        show Steps p.tables e below (T240.setTop (mkF m 61 #[.val (.ref a0), .val (.int (3 : Int32)), .val (.int p2), .val (.int (3 : Int32)), .val (.int (((3 : Int32) + (1 : Int32)) - (3 : Int32)))] [(.int (2 : Int32)), (.int (3 : Int32))])) _
        refine XS.icmpNo X240.here hx rfl (hb hby d4_61) rfl (tlt (by decide : (2 : Int32) < (3 : Int32))).2.2.2 ?_
        show Steps p.tables e below (T240.setTop (mkF m 64 #[.val (.ref a0), .val (.int (3 : Int32)), .val (.int p2), .val (.int (3 : Int32)), .val (.int (((3 : Int32) + (1 : Int32)) - (3 : Int32)))] [])) _
        refine XS.aloadN X240.here hx rfl (hb hby d4_64) rfl rfl ?_
        show Steps p.tables e below (T240.setTop (mkF m 65 #[.val (.ref a0), .val (.int (3 : Int32)), .val (.int p2), .val (.int (3 : Int32)), .val (.int (((3 : Int32) + (1 : Int32)) - (3 : Int32)))] [(.ref a0)])) _
        refine XS.iconst X240.here hx rfl (hb hby d4_65) ?_
        show Steps p.tables e below (T240.setTop (mkF m 66 #[.val (.ref a0), .val (.int (3 : Int32)), .val (.int p2), .val (.int (3 : Int32)), .val (.int (((3 : Int32) + (1 : Int32)) - (3 : Int32)))] [(.int (2 : Int32)), (.ref a0)])) _
        refine own_rdI X240 hx hZ e240 V_a0 (j := (2 : Int32)) (i := 2) (by decide) (by decide) (g := (mkF m 66 #[.val (.ref a0), .val (.int (3 : Int32)), .val (.int p2), .val (.int (3 : Int32)), .val (.int (((3 : Int32) + (1 : Int32)) - (3 : Int32)))] [(.int (2 : Int32)), (.ref a0)])) rfl rfl (hb hby d4_66) _ ?_
        show Steps p.tables e below (T240.setTop (mkF m 67 #[.val (.ref a0), .val (.int (3 : Int32)), .val (.int p2), .val (.int (3 : Int32)), .val (.int (((3 : Int32) + (1 : Int32)) - (3 : Int32)))] [(.int (f 2))])) _
        refine XS.aloadN X240.here hx rfl (hb hby d4_67) rfl rfl ?_
        show Steps p.tables e below (T240.setTop (mkF m 68 #[.val (.ref a0), .val (.int (3 : Int32)), .val (.int p2), .val (.int (3 : Int32)), .val (.int (((3 : Int32) + (1 : Int32)) - (3 : Int32)))] [(.ref a0), (.int (f 2))])) _
        refine XS.iloadN X240.here hx rfl (hb hby d4_68) rfl ?_
        show Steps p.tables e below (T240.setTop (mkF m 69 #[.val (.ref a0), .val (.int (3 : Int32)), .val (.int p2), .val (.int (3 : Int32)), .val (.int (((3 : Int32) + (1 : Int32)) - (3 : Int32)))] [(.int (3 : Int32)), (.ref a0), (.int (f 2))])) _
        refine XS.iloadN X240.here hx rfl (hb hby d4_69) rfl ?_
        show Steps p.tables e below (T240.setTop (mkF m 70 #[.val (.ref a0), .val (.int (3 : Int32)), .val (.int p2), .val (.int (3 : Int32)), .val (.int (((3 : Int32) + (1 : Int32)) - (3 : Int32)))] [(.int p2), (.int (3 : Int32)), (.ref a0), (.int (f 2))])) _
        refine XS.iload X240.here hx rfl (hb hby d4_70) rfl ?_
        show Steps p.tables e below (T240.setTop (mkF m 72 #[.val (.ref a0), .val (.int (3 : Int32)), .val (.int p2), .val (.int (3 : Int32)), .val (.int (((3 : Int32) + (1 : Int32)) - (3 : Int32)))] [(.int (((3 : Int32) + (1 : Int32)) - (3 : Int32))), (.int p2), (.int (3 : Int32)), (.ref a0), (.int (f 2))])) _
        refine XS.iconst X240.here hx rfl (hb hby d4_72) ?_
        show Steps p.tables e below (T240.setTop (mkF m 73 #[.val (.ref a0), .val (.int (3 : Int32)), .val (.int p2), .val (.int (3 : Int32)), .val (.int (((3 : Int32) + (1 : Int32)) - (3 : Int32)))] [(.int (2 : Int32)), (.int (((3 : Int32) + (1 : Int32)) - (3 : Int32))), (.int p2), (.int (3 : Int32)), (.ref a0), (.int (f 2))])) _
        refine XS.iadd X240.here hx rfl (hb hby d4_73) rfl ?_
        show Steps p.tables e below (T240.setTop (mkF m 74 #[.val (.ref a0), .val (.int (3 : Int32)), .val (.int p2), .val (.int (3 : Int32)), .val (.int (((3 : Int32) + (1 : Int32)) - (3 : Int32)))] [(.int ((((3 : Int32) + (1 : Int32)) - (3 : Int32)) + (2 : Int32))), (.int p2), (.int (3 : Int32)), (.ref a0), (.int (f 2))])) _
        refine st244 _ ?_
        show Steps p.tables e below (T244.setTop (mkF m 77 #[.val (.ref a0), .val (.int (3 : Int32)), .val (.int p2), .val (.int (3 : Int32)), .val (.int (((3 : Int32) + (1 : Int32)) - (3 : Int32)))] [(.int p2), (.int (f 2))])) _
        exact kt
      by_cases hc247 : (f 2) = p2
      · skip
        have pre248 : ∀ t, Steps p.tables e below (T244.setTop (mkF m 106 #[.val (.ref a0), .val (.int (3 : Int32)), .val (.int p2), .val (.int (3 : Int32)), .val (.int (((3 : Int32) + (1 : Int32)) - (3 : Int32)))] [(.int (1 : Int32))])) t → Steps p.tables e below (s₁.setTop (entryFrame m #[(.ref a0), (.int (3 : Int32)), (.int p2), (.int (3 : Int32))] 5)) t := fun t kt => by
          refine pre246 _ ?_
          show Steps p.tables e below (T244.setTop (mkF m 77 #[.val (.ref a0), .val (.int (3 : Int32)), .val (.int p2), .val (.int (3 : Int32)), .val (.int (((3 : Int32) + (1 : Int32)) - (3 : Int32)))] [(.int p2), (.int (f 2))])) _
          refine XS.icmpYes X244.here hx rfl (pc0 := 77) (pc' := 82) rfl (hb hby d4_77) rfl (teq hc247).1 (by decide) (by decide) ?_
          show Steps p.tables e below (T244.setTop (mkF m 82 #[.val (.ref a0), .val (.int (3 : Int32)), .val (.int p2), .val (.int (3 : Int32)), .val (.int (((3 : Int32) + (1 : Int32)) - (3 : Int32)))] [])) _
          refine XS.iloadN X244.here hx rfl (hb hby d4_82) rfl ?_
          show Steps p.tables e below (T244.setTop (mkF m 83 #[.val (.ref a0), .val (.int (3 : Int32)), .val (.int p2), .val (.int (3 : Int32)), .val (.int (((3 : Int32) + (1 : Int32)) - (3 : Int32)))] [(.int (3 : Int32))])) _
          refine XS.iconst X244.here hx rfl (hb hby d4_83) ?_
          show Steps p.tables e below (T244.setTop (mkF m 84 #[.val (.ref a0), .val (.int (3 : Int32)), .val (.int p2), .val (.int (3 : Int32)), .val (.int (((3 : Int32) + (1 : Int32)) - (3 : Int32)))] [(.int (3 : Int32)), (.int (3 : Int32))])) _
          refine XS.icmpYes X244.here hx rfl (pc0 := 84) (pc' := 105) rfl (hb hby d4_84) rfl (flt (by decide : ¬ ((3 : Int32) < (3 : Int32)))).2.2.2 (by decide) (by decide) ?_
          show Steps p.tables e below (T244.setTop (mkF m 105 #[.val (.ref a0), .val (.int (3 : Int32)), .val (.int p2), .val (.int (3 : Int32)), .val (.int (((3 : Int32) + (1 : Int32)) - (3 : Int32)))] [])) _
          refine XS.iconst X244.here hx rfl (hb hby d4_105) ?_
          show Steps p.tables e below (T244.setTop (mkF m 106 #[.val (.ref a0), .val (.int (3 : Int32)), .val (.int p2), .val (.int (3 : Int32)), .val (.int (((3 : Int32) + (1 : Int32)) - (3 : Int32)))] [(.int (1 : Int32))])) _
          exact kt
        obtain ⟨fs, hr, hrun, hended, hW, hsame⟩ := X244.leave (v := some (.int (1 : Int32))) (fun h => by rw [Bd.returns] at h; cases h)
        refine ⟨_, _, pre248 _ ?_, hrun, hended, _, _, rfl, ?_, ⟨_, rfl⟩, hW, hsame.mono (by decide) (by decide)⟩
        · exact retN X244 hx (t := .boolean) Bd.returns (by simp) (hb hby d4_106) hr
        · show Q4_3_3 Z a0 p2 f h0 n0 _ T244.heap _
          rw [e244]
          exact ⟨(own_rI (by rw [if_pos hc239, if_pos hc243, if_pos hc247] : (1 : Int32) = (if (f 0) = (f 1) then (if (f 1) = (f 2) then (if (f 2) = p2 then (1 : Int32) else (0 : Int32)) else (0 : Int32)) else (0 : Int32)))), N245, rfl⟩
      · skip
        have pre249 : ∀ t, Steps p.tables e below (T244.setTop (mkF m 81 #[.val (.ref a0), .val (.int (3 : Int32)), .val (.int p2), .val (.int (3 : Int32)), .val (.int (((3 : Int32) + (1 : Int32)) - (3 : Int32)))] [(.int (0 : Int32))])) t → Steps p.tables e below (s₁.setTop (entryFrame m #[(.ref a0), (.int (3 : Int32)), (.int p2), (.int (3 : Int32))] 5)) t := fun t kt => by
          refine pre246 _ ?_
          show Steps p.tables e below (T244.setTop (mkF m 77 #[.val (.ref a0), .val (.int (3 : Int32)), .val (.int p2), .val (.int (3 : Int32)), .val (.int (((3 : Int32) + (1 : Int32)) - (3 : Int32)))] [(.int p2), (.int (f 2))])) _
          refine XS.icmpNo X244.here hx rfl (hb hby d4_77) rfl (feq hc247).1 ?_
          show Steps p.tables e below (T244.setTop (mkF m 80 #[.val (.ref a0), .val (.int (3 : Int32)), .val (.int p2), .val (.int (3 : Int32)), .val (.int (((3 : Int32) + (1 : Int32)) - (3 : Int32)))] [])) _
          refine XS.iconst X244.here hx rfl (hb hby d4_80) ?_
          show Steps p.tables e below (T244.setTop (mkF m 81 #[.val (.ref a0), .val (.int (3 : Int32)), .val (.int p2), .val (.int (3 : Int32)), .val (.int (((3 : Int32) + (1 : Int32)) - (3 : Int32)))] [(.int (0 : Int32))])) _
          exact kt
        obtain ⟨fs, hr, hrun, hended, hW, hsame⟩ := X244.leave (v := some (.int (0 : Int32))) (fun h => by rw [Bd.returns] at h; cases h)
        refine ⟨_, _, pre249 _ ?_, hrun, hended, _, _, rfl, ?_, ⟨_, rfl⟩, hW, hsame.mono (by decide) (by decide)⟩
        · exact retN X244 hx (t := .boolean) Bd.returns (by simp) (hb hby d4_81) hr
        · show Q4_3_3 Z a0 p2 f h0 n0 _ T244.heap _
          rw [e244]
          exact ⟨(own_rI (by rw [if_pos hc239, if_pos hc243, if_neg hc247] : (0 : Int32) = (if (f 0) = (f 1) then (if (f 1) = (f 2) then (if (f 2) = p2 then (1 : Int32) else (0 : Int32)) else (0 : Int32)) else (0 : Int32)))), N245, rfl⟩
    · skip
      have pre250 : ∀ t, Steps p.tables e below (T240.setTop (mkF m 58 #[.val (.ref a0), .val (.int (3 : Int32)), .val (.int p2), .val (.int (3 : Int32)), .val (.int (((3 : Int32) + (1 : Int32)) - (3 : Int32)))] [(.int (0 : Int32))])) t → Steps p.tables e below (s₁.setTop (entryFrame m #[(.ref a0), (.int (3 : Int32)), (.int p2), (.int (3 : Int32))] 5)) t := fun t kt => by
        refine pre242 _ ?_
        show Steps p.tables e below (T240.setTop (mkF m 54 #[.val (.ref a0), .val (.int (3 : Int32)), .val (.int p2), .val (.int (3 : Int32)), .val (.int (((3 : Int32) + (1 : Int32)) - (3 : Int32)))] [(.int (f 2)), (.int (f 1))])) _
        refine XS.icmpNo X240.here hx rfl (hb hby d4_54) rfl (feq hc243).1 ?_
        show Steps p.tables e below (T240.setTop (mkF m 57 #[.val (.ref a0), .val (.int (3 : Int32)), .val (.int p2), .val (.int (3 : Int32)), .val (.int (((3 : Int32) + (1 : Int32)) - (3 : Int32)))] [])) _
        refine XS.iconst X240.here hx rfl (hb hby d4_57) ?_
        show Steps p.tables e below (T240.setTop (mkF m 58 #[.val (.ref a0), .val (.int (3 : Int32)), .val (.int p2), .val (.int (3 : Int32)), .val (.int (((3 : Int32) + (1 : Int32)) - (3 : Int32)))] [(.int (0 : Int32))])) _
        exact kt
      obtain ⟨fs, hr, hrun, hended, hW, hsame⟩ := X240.leave (v := some (.int (0 : Int32))) (fun h => by rw [Bd.returns] at h; cases h)
      refine ⟨_, _, pre250 _ ?_, hrun, hended, _, _, rfl, ?_, ⟨_, rfl⟩, hW, hsame.mono (by decide) (by decide)⟩
      · exact retN X240 hx (t := .boolean) Bd.returns (by simp) (hb hby d4_58) hr
      · show Q4_3_3 Z a0 p2 f h0 n0 _ T240.heap _
        rw [e240]
        exact ⟨(own_rI (by rw [if_pos hc239, if_neg hc243] : (0 : Int32) = (if (f 0) = (f 1) then (if (f 1) = (f 2) then (if (f 2) = p2 then (1 : Int32) else (0 : Int32)) else (0 : Int32)) else (0 : Int32)))), N241, rfl⟩
  · skip
    have pre251 : ∀ t, Steps p.tables e below (T236.setTop (mkF m 35 #[.val (.ref a0), .val (.int (3 : Int32)), .val (.int p2), .val (.int (3 : Int32)), .val (.int (((3 : Int32) + (1 : Int32)) - (3 : Int32)))] [(.int (0 : Int32))])) t → Steps p.tables e below (s₁.setTop (entryFrame m #[(.ref a0), (.int (3 : Int32)), (.int p2), (.int (3 : Int32))] 5)) t := fun t kt => by
      refine pre238 _ ?_
      show Steps p.tables e below (T236.setTop (mkF m 31 #[.val (.ref a0), .val (.int (3 : Int32)), .val (.int p2), .val (.int (3 : Int32)), .val (.int (((3 : Int32) + (1 : Int32)) - (3 : Int32)))] [(.int (f 1)), (.int (f 0))])) _
      refine XS.icmpNo X236.here hx rfl (hb hby d4_31) rfl (feq hc239).1 ?_
      show Steps p.tables e below (T236.setTop (mkF m 34 #[.val (.ref a0), .val (.int (3 : Int32)), .val (.int p2), .val (.int (3 : Int32)), .val (.int (((3 : Int32) + (1 : Int32)) - (3 : Int32)))] [])) _
      refine XS.iconst X236.here hx rfl (hb hby d4_34) ?_
      show Steps p.tables e below (T236.setTop (mkF m 35 #[.val (.ref a0), .val (.int (3 : Int32)), .val (.int p2), .val (.int (3 : Int32)), .val (.int (((3 : Int32) + (1 : Int32)) - (3 : Int32)))] [(.int (0 : Int32))])) _
      exact kt
    obtain ⟨fs, hr, hrun, hended, hW, hsame⟩ := X236.leave (v := some (.int (0 : Int32))) (fun h => by rw [Bd.returns] at h; cases h)
    refine ⟨_, _, pre251 _ ?_, hrun, hended, _, _, rfl, ?_, ⟨_, rfl⟩, hW, hsame.mono (by decide) (by decide)⟩
    · exact retN X236 hx (t := .boolean) Bd.returns (by simp) (hb hby d4_35) hr
    · show Q4_3_3 Z a0 p2 f h0 n0 _ T236.heap _
      rw [e236]
      exact ⟨(own_rI (by rw [if_neg hc239] : (0 : Int32) = (if (f 0) = (f 1) then (if (f 1) = (f 2) then (if (f 2) = p2 then (1 : Int32) else (0 : Int32)) else (0 : Int32)) else (0 : Int32)))), N237, rfl⟩
theorem ef_4_3_4 (m : MethodId) (a0 : Addr) (p2 : Int32) : entryFrame m #[(.ref a0), (.int (3 : Int32)), (.int p2), (.int (4 : Int32))] 5 = mkF m 0 #[.val (.ref a0), .val (.int (3 : Int32)), .val (.int p2), .val (.int (4 : Int32)), .unset] [] := by first | (simp [entryFrame, mkF, argsToLocals, Value.category]; done) | rfl
def Q4_3_4 (Z : State) (a0 : Addr) (p2 : Int32) (f : Nat → Int32) (h0 : Heap) (n0 : Nat) (v : Option Value) (h : Heap) (L : List Loc) : Prop := v = some (.int (if (f 3) = p2 then (1 : Int32) else (0 : Int32))) ∧ Fr n0 L ∧ h = h0
set_option maxRecDepth 65536 in
set_option maxHeartbeats 40000000 in
theorem rm4_3_4 (l : Launch) (Z : State) (aq : Array Value) (hw : ∀ d ∈ tables_1, d.before aq Z = true) (ws : List Jvm.Cond) (a0 : Addr) (p2 : Int32) (f : Nat → Int32) (h0 : Heap) (n0 : Nat) (Z0 : n0 ≤ h0.size) (V_a0 : own_Ar Z h0 a0 .int 4 f) :
    MetFree l (⟨"com/example/xcu/xcu/UnitStringExtendPinLaw", "fits", "([IIII)Z"⟩ : MethodName) (head1 (Jvm.Cond.code (⟨"com/example/xcu/xcu/UnitStringExtendPinLaw", "fits", "([IIII)Z"⟩ : MethodName) method_3_code 5 (some .boolean) :: ws) ({ frames := 1, cells := 0, slots := 0, locals := 16 } : Room)) (fun a U => a = #[(.ref a0), (.int (3 : Int32)), (.int p2), (.int (4 : Int32))] ∧ Z.Warmed39 U.vm ∧ U.heap = h0) (fun _ _ _ _ _ => True) (fun _ U o U' => ∃ v L, o = .returned v ∧ Q4_3_4 Z a0 p2 f h0 n0 v U'.heap L ∧ FrameEnd U o U' L ({ frames := 1, cells := 0, slots := 0, locals := 16 } : Room).cells ({ frames := 1, cells := 0, slots := 0, locals := 16 } : Room).slots) := by
  refine MetFree.of_bodySF (plainFor_of_name pn51678678) hisR ?_
  intro p e s m args below meth c s₁ Bd hml0 hP hK
  obtain ⟨rfl, hZ, hh⟩ := hP
  have hx := Bd.exec
  have hby := Bd.bytes
  have hml : c.maxLocals = 5 := hml0
  have hown : s.vm.findClass "com/example/xcu/xcu/UnitStringExtendPinLaw" = some m.cls := findClass_of_methodNamed Bd.named
  have hnm := (name_of_methodNamed Bd.named Bd.method).1
  have X0 : Stand p l e ({ frames := 1, cells := 0, slots := 0, locals := 16 } : Room) s m #[(.ref a0), (.int (3 : Int32)), (.int p2), (.int (4 : Int32))] below meth c s₁ [] 0 0 := Stand.of_body Bd
  have e0 : s₁.heap = h0 := by rw [← hh, Bd.state]; rfl
  have N0 := Fr.nil n0
  have pre0 : ∀ t, Steps p.tables e below (s₁.setTop (mkF m 0 #[.val (.ref a0), .val (.int (3 : Int32)), .val (.int p2), .val (.int (4 : Int32)), .unset] [])) t → Steps p.tables e below (s₁.setTop (entryFrame m #[(.ref a0), (.int (3 : Int32)), (.int p2), (.int (4 : Int32))] 5)) t := fun t k => castTop (ef_4_3_4 m a0 p2) k
  obtain ⟨_, _, ⟨T262, L262, k262, n262⟩, -, X262, ⟨Lc262, hQ262, l262, y262, z262⟩, st262⟩ := Jvm.LawKit.callS X0 hx (y := (⟨"com/example/xcu/xcu/UnitStringExtendPinLaw", "sAt", "([IIII)I"⟩ : MethodName)) hown (mvT hZ (hw _ (List.mem_of_getElem? (i := 35) rfl))) (mvT hZ (hw _ (List.mem_of_getElem? (i := 36) rfl))) (mvT hZ (hw _ (List.mem_of_getElem? (i := 33) rfl))) (mvT hZ (hw _ (List.mem_of_getElem? (i := 37) rfl))) (by decide) (backOf (W := 1) (rm5_3_0 l Z aq hw [] a0 p2 f h0 n0 Z0 V_a0) hZ (hw _ (List.mem_of_getElem? (i := 37) rfl)) (hw _ (List.mem_of_getElem? (i := 33) rfl)) (by decide) (by decide)) (g := (mkF m 28 #[.val (.ref a0), .val (.int (3 : Int32)), .val (.int p2), .val (.int (4 : Int32)), .val (.int (((3 : Int32) + (1 : Int32)) - (4 : Int32)))] [(.int (((3 : Int32) + (1 : Int32)) - (4 : Int32))), (.int p2), (.int (3 : Int32)), (.ref a0), (.int (f 0))])) rfl (by rw [hml]; rfl) (argsL := [(.ref a0), (.int (3 : Int32)), (.int p2), (.int (((3 : Int32) + (1 : Int32)) - (4 : Int32)))]) (rest := [(.int (f 0))]) (lenOf pd21711166 rfl) rfl (by show 2 * 0 + _ ≤ _; exact Nat.le_of_eq rfl) (hb hby d4_28) (fun _ _ => ⟨rfl, e0, (by decide : 0 + 0 ≤ _), (by decide : 0 + 0 ≤ _)⟩)
  dsimp only [Pt.U, Pt.locs, Pt.cells, Pt.slots] at X262 l262 y262 z262 st262 hQ262
  subst l262 y262 z262
  obtain ⟨rfl, N262q, e262⟩ := hQ262
  have N263 := Fr.app N0 N262q
  obtain ⟨_, _, ⟨T264, L264, k264, n264⟩, -, X264, ⟨Lc264, hQ264, l264, y264, z264⟩, st264⟩ := Jvm.LawKit.callS X262 hx (y := (⟨"com/example/xcu/xcu/UnitStringExtendPinLaw", "sAt", "([IIII)I"⟩ : MethodName)) hown (mvT hZ (hw _ (List.mem_of_getElem? (i := 35) rfl))) (mvT hZ (hw _ (List.mem_of_getElem? (i := 36) rfl))) (mvT hZ (hw _ (List.mem_of_getElem? (i := 33) rfl))) (mvT hZ (hw _ (List.mem_of_getElem? (i := 37) rfl))) (by decide) (backOf (W := 1) (rm5_3_1 l Z aq hw [] a0 p2 f h0 n0 Z0 V_a0) hZ (hw _ (List.mem_of_getElem? (i := 37) rfl)) (hw _ (List.mem_of_getElem? (i := 33) rfl)) (by decide) (by decide)) (g := (mkF m 51 #[.val (.ref a0), .val (.int (3 : Int32)), .val (.int p2), .val (.int (4 : Int32)), .val (.int (((3 : Int32) + (1 : Int32)) - (4 : Int32)))] [(.int ((((3 : Int32) + (1 : Int32)) - (4 : Int32)) + (1 : Int32))), (.int p2), (.int (3 : Int32)), (.ref a0), (.int (f 1))])) rfl (by rw [hml]; rfl) (argsL := [(.ref a0), (.int (3 : Int32)), (.int p2), (.int ((((3 : Int32) + (1 : Int32)) - (4 : Int32)) + (1 : Int32)))]) (rest := [(.int (f 1))]) (lenOf pd21711166 rfl) rfl (by show 2 * 0 + _ ≤ _; exact Nat.le_of_eq rfl) (hb hby d4_51) (fun _ _ => ⟨rfl, e262, (by decide : 0 + 0 ≤ _), (by decide : 0 + 0 ≤ _)⟩)
  dsimp only [Pt.U, Pt.locs, Pt.cells, Pt.slots] at X264 l264 y264 z264 st264 hQ264
  subst l264 y264 z264
  obtain ⟨rfl, N264q, e264⟩ := hQ264
  have N265 := Fr.app N263 N264q
  obtain ⟨_, _, ⟨T266, L266, k266, n266⟩, -, X266, ⟨Lc266, hQ266, l266, y266, z266⟩, st266⟩ := Jvm.LawKit.callS X264 hx (y := (⟨"com/example/xcu/xcu/UnitStringExtendPinLaw", "sAt", "([IIII)I"⟩ : MethodName)) hown (mvT hZ (hw _ (List.mem_of_getElem? (i := 35) rfl))) (mvT hZ (hw _ (List.mem_of_getElem? (i := 36) rfl))) (mvT hZ (hw _ (List.mem_of_getElem? (i := 33) rfl))) (mvT hZ (hw _ (List.mem_of_getElem? (i := 37) rfl))) (by decide) (backOf (W := 1) (rm5_3_2 l Z aq hw [] a0 p2 f h0 n0 Z0 V_a0) hZ (hw _ (List.mem_of_getElem? (i := 37) rfl)) (hw _ (List.mem_of_getElem? (i := 33) rfl)) (by decide) (by decide)) (g := (mkF m 74 #[.val (.ref a0), .val (.int (3 : Int32)), .val (.int p2), .val (.int (4 : Int32)), .val (.int (((3 : Int32) + (1 : Int32)) - (4 : Int32)))] [(.int ((((3 : Int32) + (1 : Int32)) - (4 : Int32)) + (2 : Int32))), (.int p2), (.int (3 : Int32)), (.ref a0), (.int (f 2))])) rfl (by rw [hml]; rfl) (argsL := [(.ref a0), (.int (3 : Int32)), (.int p2), (.int ((((3 : Int32) + (1 : Int32)) - (4 : Int32)) + (2 : Int32)))]) (rest := [(.int (f 2))]) (lenOf pd21711166 rfl) rfl (by show 2 * 0 + _ ≤ _; exact Nat.le_of_eq rfl) (hb hby d4_74) (fun _ _ => ⟨rfl, e264, (by decide : 0 + 0 ≤ _), (by decide : 0 + 0 ≤ _)⟩)
  dsimp only [Pt.U, Pt.locs, Pt.cells, Pt.slots] at X266 l266 y266 z266 st266 hQ266
  subst l266 y266 z266
  obtain ⟨rfl, N266q, e266⟩ := hQ266
  have N267 := Fr.app N265 N266q
  obtain ⟨_, _, ⟨T268, L268, k268, n268⟩, -, X268, ⟨Lc268, hQ268, l268, y268, z268⟩, st268⟩ := Jvm.LawKit.callS X266 hx (y := (⟨"com/example/xcu/xcu/UnitStringExtendPinLaw", "sAt", "([IIII)I"⟩ : MethodName)) hown (mvT hZ (hw _ (List.mem_of_getElem? (i := 35) rfl))) (mvT hZ (hw _ (List.mem_of_getElem? (i := 36) rfl))) (mvT hZ (hw _ (List.mem_of_getElem? (i := 33) rfl))) (mvT hZ (hw _ (List.mem_of_getElem? (i := 37) rfl))) (by decide) (backOf (W := 1) (rm5_3_3 l Z aq hw [] a0 p2 f h0 n0 Z0 V_a0) hZ (hw _ (List.mem_of_getElem? (i := 37) rfl)) (hw _ (List.mem_of_getElem? (i := 33) rfl)) (by decide) (by decide)) (g := (mkF m 97 #[.val (.ref a0), .val (.int (3 : Int32)), .val (.int p2), .val (.int (4 : Int32)), .val (.int (((3 : Int32) + (1 : Int32)) - (4 : Int32)))] [(.int ((((3 : Int32) + (1 : Int32)) - (4 : Int32)) + (3 : Int32))), (.int p2), (.int (3 : Int32)), (.ref a0), (.int (f 3))])) rfl (by rw [hml]; rfl) (argsL := [(.ref a0), (.int (3 : Int32)), (.int p2), (.int ((((3 : Int32) + (1 : Int32)) - (4 : Int32)) + (3 : Int32)))]) (rest := [(.int (f 3))]) (lenOf pd21711166 rfl) rfl (by show 2 * 0 + _ ≤ _; exact Nat.le_of_eq rfl) (hb hby d4_97) (fun _ _ => ⟨rfl, e266, (by decide : 0 + 0 ≤ _), (by decide : 0 + 0 ≤ _)⟩)
  dsimp only [Pt.U, Pt.locs, Pt.cells, Pt.slots] at X268 l268 y268 z268 st268 hQ268
  subst l268 y268 z268
  obtain ⟨rfl, N268q, e268⟩ := hQ268
  have N269 := Fr.app N267 N268q
  have pre270 : ∀ t, Steps p.tables e below (T268.setTop (mkF m 100 #[.val (.ref a0), .val (.int (3 : Int32)), .val (.int p2), .val (.int (4 : Int32)), .val (.int (((3 : Int32) + (1 : Int32)) - (4 : Int32)))] [(.int p2), (.int (f 3))])) t → Steps p.tables e below (s₁.setTop (entryFrame m #[(.ref a0), (.int (3 : Int32)), (.int p2), (.int (4 : Int32))] 5)) t := fun t kt => by
    refine pre0 _ ?_
    show Steps p.tables e below (s₁.setTop (mkF m 0 #[.val (.ref a0), .val (.int (3 : Int32)), .val (.int p2), .val (.int (4 : Int32)), .unset] [])) _
    refine XS.iloadN X0.here hx rfl (hb hby d4_0) rfl ?_
    show Steps p.tables e below (s₁.setTop (mkF m 1 #[.val (.ref a0), .val (.int (3 : Int32)), .val (.int p2), .val (.int (4 : Int32)), .unset] [(.int (4 : Int32))])) _
    refine XS.iloadN X0.here hx rfl (hb hby d4_1) rfl ?_
    show Steps p.tables e below (s₁.setTop (mkF m 2 #[.val (.ref a0), .val (.int (3 : Int32)), .val (.int p2), .val (.int (4 : Int32)), .unset] [(.int (3 : Int32)), (.int (4 : Int32))])) _
    refine XS.iconst X0.here hx rfl (hb hby d4_2) ?_
    show Steps p.tables e below (s₁.setTop (mkF m 3 #[.val (.ref a0), .val (.int (3 : Int32)), .val (.int p2), .val (.int (4 : Int32)), .unset] [(.int (1 : Int32)), (.int (3 : Int32)), (.int (4 : Int32))])) _
    refine XS.iadd X0.here hx rfl (hb hby d4_3) rfl ?_
    show Steps p.tables e below (s₁.setTop (mkF m 4 #[.val (.ref a0), .val (.int (3 : Int32)), .val (.int p2), .val (.int (4 : Int32)), .unset] [(.int ((3 : Int32) + (1 : Int32))), (.int (4 : Int32))])) _
    refine XS.icmpYes X0.here hx rfl (pc0 := 4) (pc' := 9) rfl (hb hby d4_4) rfl (flt (by decide : ¬ (((3 : Int32) + (1 : Int32)) < (4 : Int32)))).2.2.2 (by decide) (by decide) ?_
    show Steps p.tables e below (s₁.setTop (mkF m 9 #[.val (.ref a0), .val (.int (3 : Int32)), .val (.int p2), .val (.int (4 : Int32)), .unset] [])) _
    refine XS.iloadN X0.here hx rfl (hb hby d4_9) rfl ?_
    show Steps p.tables e below (s₁.setTop (mkF m 10 #[.val (.ref a0), .val (.int (3 : Int32)), .val (.int p2), .val (.int (4 : Int32)), .unset] [(.int (3 : Int32))])) _
    refine XS.iconst X0.here hx rfl (hb hby d4_10) ?_
    show Steps p.tables e below (s₁.setTop (mkF m 11 #[.val (.ref a0), .val (.int (3 : Int32)), .val (.int p2), .val (.int (4 : Int32)), .unset] [(.int (1 : Int32)), (.int (3 : Int32))])) _
    refine XS.iadd X0.here hx rfl (hb hby d4_11) rfl ?_
    show Steps p.tables e below (s₁.setTop (mkF m 12 #[.val (.ref a0), .val (.int (3 : Int32)), .val (.int p2), .val (.int (4 : Int32)), .unset] [(.int ((3 : Int32) + (1 : Int32)))])) _
    refine XS.iloadN X0.here hx rfl (hb hby d4_12) rfl ?_
    show Steps p.tables e below (s₁.setTop (mkF m 13 #[.val (.ref a0), .val (.int (3 : Int32)), .val (.int p2), .val (.int (4 : Int32)), .unset] [(.int (4 : Int32)), (.int ((3 : Int32) + (1 : Int32)))])) _
    refine XS.isub X0.here hx rfl (hb hby d4_13) rfl ?_
    show Steps p.tables e below (s₁.setTop (mkF m 14 #[.val (.ref a0), .val (.int (3 : Int32)), .val (.int p2), .val (.int (4 : Int32)), .unset] [(.int (((3 : Int32) + (1 : Int32)) - (4 : Int32)))])) _
    refine XS.istore X0.here hx rfl (hb hby d4_14) rfl (l' := #[.val (.ref a0), .val (.int (3 : Int32)), .val (.int p2), .val (.int (4 : Int32)), .val (.int (((3 : Int32) + (1 : Int32)) - (4 : Int32)))]) rfl ?_
    show Steps p.tables e below (s₁.setTop (mkF m 16 #[.val (.ref a0), .val (.int (3 : Int32)), .val (.int p2), .val (.int (4 : Int32)), .val (.int (((3 : Int32) + (1 : Int32)) - (4 : Int32)))] [])) _
    refine XS.iloadN X0.here hx rfl (hb hby d4_16) rfl ?_
    show Steps p.tables e below (s₁.setTop (mkF m 17 #[.val (.ref a0), .val (.int (3 : Int32)), .val (.int p2), .val (.int (4 : Int32)), .val (.int (((3 : Int32) + (1 : Int32)) - (4 : Int32)))] [(.int (4 : Int32))])) _
    refine XS.ifNo X0.here hx rfl (hb hby d4_17) rfl ((if0 _ _).trans (tlt (by decide : (0 : Int32) < (4 : Int32))).2.2.2) ?_
    show Steps p.tables e below (s₁.setTop (mkF m 20 #[.val (.ref a0), .val (.int (3 : Int32)), .val (.int p2), .val (.int (4 : Int32)), .val (.int (((3 : Int32) + (1 : Int32)) - (4 : Int32)))] [])) _
    refine XS.aloadN X0.here hx rfl (hb hby d4_20) rfl rfl ?_
    show Steps p.tables e below (s₁.setTop (mkF m 21 #[.val (.ref a0), .val (.int (3 : Int32)), .val (.int p2), .val (.int (4 : Int32)), .val (.int (((3 : Int32) + (1 : Int32)) - (4 : Int32)))] [(.ref a0)])) _
    refine XS.iconst X0.here hx rfl (hb hby d4_21) ?_
    show Steps p.tables e below (s₁.setTop (mkF m 22 #[.val (.ref a0), .val (.int (3 : Int32)), .val (.int p2), .val (.int (4 : Int32)), .val (.int (((3 : Int32) + (1 : Int32)) - (4 : Int32)))] [(.int (0 : Int32)), (.ref a0)])) _
    refine own_rdI X0 hx hZ e0 V_a0 (j := (0 : Int32)) (i := 0) (by decide) (by decide) (g := (mkF m 22 #[.val (.ref a0), .val (.int (3 : Int32)), .val (.int p2), .val (.int (4 : Int32)), .val (.int (((3 : Int32) + (1 : Int32)) - (4 : Int32)))] [(.int (0 : Int32)), (.ref a0)])) rfl rfl (hb hby d4_22) _ ?_
    show Steps p.tables e below (s₁.setTop (mkF m 23 #[.val (.ref a0), .val (.int (3 : Int32)), .val (.int p2), .val (.int (4 : Int32)), .val (.int (((3 : Int32) + (1 : Int32)) - (4 : Int32)))] [(.int (f 0))])) _
    refine XS.aloadN X0.here hx rfl (hb hby d4_23) rfl rfl ?_
    show Steps p.tables e below (s₁.setTop (mkF m 24 #[.val (.ref a0), .val (.int (3 : Int32)), .val (.int p2), .val (.int (4 : Int32)), .val (.int (((3 : Int32) + (1 : Int32)) - (4 : Int32)))] [(.ref a0), (.int (f 0))])) _
    refine XS.iloadN X0.here hx rfl (hb hby d4_24) rfl ?_
    show Steps p.tables e below (s₁.setTop (mkF m 25 #[.val (.ref a0), .val (.int (3 : Int32)), .val (.int p2), .val (.int (4 : Int32)), .val (.int (((3 : Int32) + (1 : Int32)) - (4 : Int32)))] [(.int (3 : Int32)), (.ref a0), (.int (f 0))])) _
    refine XS.iloadN X0.here hx rfl (hb hby d4_25) rfl ?_
    show Steps p.tables e below (s₁.setTop (mkF m 26 #[.val (.ref a0), .val (.int (3 : Int32)), .val (.int p2), .val (.int (4 : Int32)), .val (.int (((3 : Int32) + (1 : Int32)) - (4 : Int32)))] [(.int p2), (.int (3 : Int32)), (.ref a0), (.int (f 0))])) _
    refine XS.iload X0.here hx rfl (hb hby d4_26) rfl ?_
    show Steps p.tables e below (s₁.setTop (mkF m 28 #[.val (.ref a0), .val (.int (3 : Int32)), .val (.int p2), .val (.int (4 : Int32)), .val (.int (((3 : Int32) + (1 : Int32)) - (4 : Int32)))] [(.int (((3 : Int32) + (1 : Int32)) - (4 : Int32))), (.int p2), (.int (3 : Int32)), (.ref a0), (.int (f 0))])) _
    refine st262 _ ?_
    show Steps p.tables e below (T262.setTop (mkF m 31 #[.val (.ref a0), .val (.int (3 : Int32)), .val (.int p2), .val (.int (4 : Int32)), .val (.int (((3 : Int32) + (1 : Int32)) - (4 : Int32)))] [(.int (f 0)), (.int (f 0))])) _
    refine XS.icmpYes X262.here hx rfl (pc0 := 31) (pc' := 36) rfl (hb hby d4_31) rfl (teq (rfl : (f 0) = (f 0))).1 (by decide) (by decide) ?_
    show Steps p.tables e below (T262.setTop (mkF m 36 #[.val (.ref a0), .val (.int (3 : Int32)), .val (.int p2), .val (.int (4 : Int32)), .val (.int (((3 : Int32) + (1 : Int32)) - (4 : Int32)))] [])) _
    refine XS.iloadN X262.here hx rfl (hb hby d4_36) rfl ?_
    show Steps p.tables e below (T262.setTop (mkF m 37 #[.val (.ref a0), .val (.int (3 : Int32)), .val (.int p2), .val (.int (4 : Int32)), .val (.int (((3 : Int32) + (1 : Int32)) - (4 : Int32)))] [(.int (4 : Int32))])) _
    refine XS.iconst X262.here hx rfl (hb hby d4_37) ?_
    show Steps p.tables e below (T262.setTop (mkF m 38 #[.val (.ref a0), .val (.int (3 : Int32)), .val (.int p2), .val (.int (4 : Int32)), .val (.int (((3 : Int32) + (1 : Int32)) - (4 : Int32)))] [(.int (1 : Int32)), (.int (4 : Int32))])) _
    refine XS.icmpNo X262.here hx rfl (hb hby d4_38) rfl (tlt (by decide : (1 : Int32) < (4 : Int32))).2.2.2 ?_
    show Steps p.tables e below (T262.setTop (mkF m 41 #[.val (.ref a0), .val (.int (3 : Int32)), .val (.int p2), .val (.int (4 : Int32)), .val (.int (((3 : Int32) + (1 : Int32)) - (4 : Int32)))] [])) _
    refine XS.aloadN X262.here hx rfl (hb hby d4_41) rfl rfl ?_
    show Steps p.tables e below (T262.setTop (mkF m 42 #[.val (.ref a0), .val (.int (3 : Int32)), .val (.int p2), .val (.int (4 : Int32)), .val (.int (((3 : Int32) + (1 : Int32)) - (4 : Int32)))] [(.ref a0)])) _
    refine XS.iconst X262.here hx rfl (hb hby d4_42) ?_
    show Steps p.tables e below (T262.setTop (mkF m 43 #[.val (.ref a0), .val (.int (3 : Int32)), .val (.int p2), .val (.int (4 : Int32)), .val (.int (((3 : Int32) + (1 : Int32)) - (4 : Int32)))] [(.int (1 : Int32)), (.ref a0)])) _
    refine own_rdI X262 hx hZ e262 V_a0 (j := (1 : Int32)) (i := 1) (by decide) (by decide) (g := (mkF m 43 #[.val (.ref a0), .val (.int (3 : Int32)), .val (.int p2), .val (.int (4 : Int32)), .val (.int (((3 : Int32) + (1 : Int32)) - (4 : Int32)))] [(.int (1 : Int32)), (.ref a0)])) rfl rfl (hb hby d4_43) _ ?_
    show Steps p.tables e below (T262.setTop (mkF m 44 #[.val (.ref a0), .val (.int (3 : Int32)), .val (.int p2), .val (.int (4 : Int32)), .val (.int (((3 : Int32) + (1 : Int32)) - (4 : Int32)))] [(.int (f 1))])) _
    refine XS.aloadN X262.here hx rfl (hb hby d4_44) rfl rfl ?_
    show Steps p.tables e below (T262.setTop (mkF m 45 #[.val (.ref a0), .val (.int (3 : Int32)), .val (.int p2), .val (.int (4 : Int32)), .val (.int (((3 : Int32) + (1 : Int32)) - (4 : Int32)))] [(.ref a0), (.int (f 1))])) _
    refine XS.iloadN X262.here hx rfl (hb hby d4_45) rfl ?_
    show Steps p.tables e below (T262.setTop (mkF m 46 #[.val (.ref a0), .val (.int (3 : Int32)), .val (.int p2), .val (.int (4 : Int32)), .val (.int (((3 : Int32) + (1 : Int32)) - (4 : Int32)))] [(.int (3 : Int32)), (.ref a0), (.int (f 1))])) _
    refine XS.iloadN X262.here hx rfl (hb hby d4_46) rfl ?_
    show Steps p.tables e below (T262.setTop (mkF m 47 #[.val (.ref a0), .val (.int (3 : Int32)), .val (.int p2), .val (.int (4 : Int32)), .val (.int (((3 : Int32) + (1 : Int32)) - (4 : Int32)))] [(.int p2), (.int (3 : Int32)), (.ref a0), (.int (f 1))])) _
    refine XS.iload X262.here hx rfl (hb hby d4_47) rfl ?_
    show Steps p.tables e below (T262.setTop (mkF m 49 #[.val (.ref a0), .val (.int (3 : Int32)), .val (.int p2), .val (.int (4 : Int32)), .val (.int (((3 : Int32) + (1 : Int32)) - (4 : Int32)))] [(.int (((3 : Int32) + (1 : Int32)) - (4 : Int32))), (.int p2), (.int (3 : Int32)), (.ref a0), (.int (f 1))])) _
    refine XS.iconst X262.here hx rfl (hb hby d4_49) ?_
    show Steps p.tables e below (T262.setTop (mkF m 50 #[.val (.ref a0), .val (.int (3 : Int32)), .val (.int p2), .val (.int (4 : Int32)), .val (.int (((3 : Int32) + (1 : Int32)) - (4 : Int32)))] [(.int (1 : Int32)), (.int (((3 : Int32) + (1 : Int32)) - (4 : Int32))), (.int p2), (.int (3 : Int32)), (.ref a0), (.int (f 1))])) _
    refine XS.iadd X262.here hx rfl (hb hby d4_50) rfl ?_
    show Steps p.tables e below (T262.setTop (mkF m 51 #[.val (.ref a0), .val (.int (3 : Int32)), .val (.int p2), .val (.int (4 : Int32)), .val (.int (((3 : Int32) + (1 : Int32)) - (4 : Int32)))] [(.int ((((3 : Int32) + (1 : Int32)) - (4 : Int32)) + (1 : Int32))), (.int p2), (.int (3 : Int32)), (.ref a0), (.int (f 1))])) _
    refine st264 _ ?_
    show Steps p.tables e below (T264.setTop (mkF m 54 #[.val (.ref a0), .val (.int (3 : Int32)), .val (.int p2), .val (.int (4 : Int32)), .val (.int (((3 : Int32) + (1 : Int32)) - (4 : Int32)))] [(.int (f 1)), (.int (f 1))])) _
    refine XS.icmpYes X264.here hx rfl (pc0 := 54) (pc' := 59) rfl (hb hby d4_54) rfl (teq (rfl : (f 1) = (f 1))).1 (by decide) (by decide) ?_
    show Steps p.tables e below (T264.setTop (mkF m 59 #[.val (.ref a0), .val (.int (3 : Int32)), .val (.int p2), .val (.int (4 : Int32)), .val (.int (((3 : Int32) + (1 : Int32)) - (4 : Int32)))] [])) _
    refine XS.iloadN X264.here hx rfl (hb hby d4_59) rfl ?_
    show Steps p.tables e below (T264.setTop (mkF m 60 #[.val (.ref a0), .val (.int (3 : Int32)), .val (.int p2), .val (.int (4 : Int32)), .val (.int (((3 : Int32) + (1 : Int32)) - (4 : Int32)))] [(.int (4 : Int32))])) _
    refine XS.iconst X264.here hx rfl (hb hby d4_60) ?_
    show Steps p.tables e below (T264.setTop (mkF m 61 #[.val (.ref a0), .val (.int (3 : Int32)), .val (.int p2), .val (.int (4 : Int32)), .val (.int (((3 : Int32) + (1 : Int32)) - (4 : Int32)))] [(.int (2 : Int32)), (.int (4 : Int32))])) _
    refine XS.icmpNo X264.here hx rfl (hb hby d4_61) rfl (tlt (by decide : (2 : Int32) < (4 : Int32))).2.2.2 ?_
    show Steps p.tables e below (T264.setTop (mkF m 64 #[.val (.ref a0), .val (.int (3 : Int32)), .val (.int p2), .val (.int (4 : Int32)), .val (.int (((3 : Int32) + (1 : Int32)) - (4 : Int32)))] [])) _
    refine XS.aloadN X264.here hx rfl (hb hby d4_64) rfl rfl ?_
    show Steps p.tables e below (T264.setTop (mkF m 65 #[.val (.ref a0), .val (.int (3 : Int32)), .val (.int p2), .val (.int (4 : Int32)), .val (.int (((3 : Int32) + (1 : Int32)) - (4 : Int32)))] [(.ref a0)])) _
    refine XS.iconst X264.here hx rfl (hb hby d4_65) ?_
    show Steps p.tables e below (T264.setTop (mkF m 66 #[.val (.ref a0), .val (.int (3 : Int32)), .val (.int p2), .val (.int (4 : Int32)), .val (.int (((3 : Int32) + (1 : Int32)) - (4 : Int32)))] [(.int (2 : Int32)), (.ref a0)])) _
    refine own_rdI X264 hx hZ e264 V_a0 (j := (2 : Int32)) (i := 2) (by decide) (by decide) (g := (mkF m 66 #[.val (.ref a0), .val (.int (3 : Int32)), .val (.int p2), .val (.int (4 : Int32)), .val (.int (((3 : Int32) + (1 : Int32)) - (4 : Int32)))] [(.int (2 : Int32)), (.ref a0)])) rfl rfl (hb hby d4_66) _ ?_
    show Steps p.tables e below (T264.setTop (mkF m 67 #[.val (.ref a0), .val (.int (3 : Int32)), .val (.int p2), .val (.int (4 : Int32)), .val (.int (((3 : Int32) + (1 : Int32)) - (4 : Int32)))] [(.int (f 2))])) _
    refine XS.aloadN X264.here hx rfl (hb hby d4_67) rfl rfl ?_
    show Steps p.tables e below (T264.setTop (mkF m 68 #[.val (.ref a0), .val (.int (3 : Int32)), .val (.int p2), .val (.int (4 : Int32)), .val (.int (((3 : Int32) + (1 : Int32)) - (4 : Int32)))] [(.ref a0), (.int (f 2))])) _
    refine XS.iloadN X264.here hx rfl (hb hby d4_68) rfl ?_
    show Steps p.tables e below (T264.setTop (mkF m 69 #[.val (.ref a0), .val (.int (3 : Int32)), .val (.int p2), .val (.int (4 : Int32)), .val (.int (((3 : Int32) + (1 : Int32)) - (4 : Int32)))] [(.int (3 : Int32)), (.ref a0), (.int (f 2))])) _
    refine XS.iloadN X264.here hx rfl (hb hby d4_69) rfl ?_
    show Steps p.tables e below (T264.setTop (mkF m 70 #[.val (.ref a0), .val (.int (3 : Int32)), .val (.int p2), .val (.int (4 : Int32)), .val (.int (((3 : Int32) + (1 : Int32)) - (4 : Int32)))] [(.int p2), (.int (3 : Int32)), (.ref a0), (.int (f 2))])) _
    refine XS.iload X264.here hx rfl (hb hby d4_70) rfl ?_
    show Steps p.tables e below (T264.setTop (mkF m 72 #[.val (.ref a0), .val (.int (3 : Int32)), .val (.int p2), .val (.int (4 : Int32)), .val (.int (((3 : Int32) + (1 : Int32)) - (4 : Int32)))] [(.int (((3 : Int32) + (1 : Int32)) - (4 : Int32))), (.int p2), (.int (3 : Int32)), (.ref a0), (.int (f 2))])) _
    refine XS.iconst X264.here hx rfl (hb hby d4_72) ?_
    show Steps p.tables e below (T264.setTop (mkF m 73 #[.val (.ref a0), .val (.int (3 : Int32)), .val (.int p2), .val (.int (4 : Int32)), .val (.int (((3 : Int32) + (1 : Int32)) - (4 : Int32)))] [(.int (2 : Int32)), (.int (((3 : Int32) + (1 : Int32)) - (4 : Int32))), (.int p2), (.int (3 : Int32)), (.ref a0), (.int (f 2))])) _
    refine XS.iadd X264.here hx rfl (hb hby d4_73) rfl ?_
    show Steps p.tables e below (T264.setTop (mkF m 74 #[.val (.ref a0), .val (.int (3 : Int32)), .val (.int p2), .val (.int (4 : Int32)), .val (.int (((3 : Int32) + (1 : Int32)) - (4 : Int32)))] [(.int ((((3 : Int32) + (1 : Int32)) - (4 : Int32)) + (2 : Int32))), (.int p2), (.int (3 : Int32)), (.ref a0), (.int (f 2))])) _
    refine st266 _ ?_
    show Steps p.tables e below (T266.setTop (mkF m 77 #[.val (.ref a0), .val (.int (3 : Int32)), .val (.int p2), .val (.int (4 : Int32)), .val (.int (((3 : Int32) + (1 : Int32)) - (4 : Int32)))] [(.int (f 2)), (.int (f 2))])) _
    refine XS.icmpYes X266.here hx rfl (pc0 := 77) (pc' := 82) rfl (hb hby d4_77) rfl (teq (rfl : (f 2) = (f 2))).1 (by decide) (by decide) ?_
    show Steps p.tables e below (T266.setTop (mkF m 82 #[.val (.ref a0), .val (.int (3 : Int32)), .val (.int p2), .val (.int (4 : Int32)), .val (.int (((3 : Int32) + (1 : Int32)) - (4 : Int32)))] [])) _
    refine XS.iloadN X266.here hx rfl (hb hby d4_82) rfl ?_
    show Steps p.tables e below (T266.setTop (mkF m 83 #[.val (.ref a0), .val (.int (3 : Int32)), .val (.int p2), .val (.int (4 : Int32)), .val (.int (((3 : Int32) + (1 : Int32)) - (4 : Int32)))] [(.int (4 : Int32))])) _
    refine XS.iconst X266.here hx rfl (hb hby d4_83) ?_
    show Steps p.tables e below (T266.setTop (mkF m 84 #[.val (.ref a0), .val (.int (3 : Int32)), .val (.int p2), .val (.int (4 : Int32)), .val (.int (((3 : Int32) + (1 : Int32)) - (4 : Int32)))] [(.int (3 : Int32)), (.int (4 : Int32))])) _
    refine XS.icmpNo X266.here hx rfl (hb hby d4_84) rfl (tlt (by decide : (3 : Int32) < (4 : Int32))).2.2.2 ?_
    show Steps p.tables e below (T266.setTop (mkF m 87 #[.val (.ref a0), .val (.int (3 : Int32)), .val (.int p2), .val (.int (4 : Int32)), .val (.int (((3 : Int32) + (1 : Int32)) - (4 : Int32)))] [])) _
    refine XS.aloadN X266.here hx rfl (hb hby d4_87) rfl rfl ?_
    show Steps p.tables e below (T266.setTop (mkF m 88 #[.val (.ref a0), .val (.int (3 : Int32)), .val (.int p2), .val (.int (4 : Int32)), .val (.int (((3 : Int32) + (1 : Int32)) - (4 : Int32)))] [(.ref a0)])) _
    refine XS.iconst X266.here hx rfl (hb hby d4_88) ?_
    show Steps p.tables e below (T266.setTop (mkF m 89 #[.val (.ref a0), .val (.int (3 : Int32)), .val (.int p2), .val (.int (4 : Int32)), .val (.int (((3 : Int32) + (1 : Int32)) - (4 : Int32)))] [(.int (3 : Int32)), (.ref a0)])) _
    refine own_rdI X266 hx hZ e266 V_a0 (j := (3 : Int32)) (i := 3) (by decide) (by decide) (g := (mkF m 89 #[.val (.ref a0), .val (.int (3 : Int32)), .val (.int p2), .val (.int (4 : Int32)), .val (.int (((3 : Int32) + (1 : Int32)) - (4 : Int32)))] [(.int (3 : Int32)), (.ref a0)])) rfl rfl (hb hby d4_89) _ ?_
    show Steps p.tables e below (T266.setTop (mkF m 90 #[.val (.ref a0), .val (.int (3 : Int32)), .val (.int p2), .val (.int (4 : Int32)), .val (.int (((3 : Int32) + (1 : Int32)) - (4 : Int32)))] [(.int (f 3))])) _
    refine XS.aloadN X266.here hx rfl (hb hby d4_90) rfl rfl ?_
    show Steps p.tables e below (T266.setTop (mkF m 91 #[.val (.ref a0), .val (.int (3 : Int32)), .val (.int p2), .val (.int (4 : Int32)), .val (.int (((3 : Int32) + (1 : Int32)) - (4 : Int32)))] [(.ref a0), (.int (f 3))])) _
    refine XS.iloadN X266.here hx rfl (hb hby d4_91) rfl ?_
    show Steps p.tables e below (T266.setTop (mkF m 92 #[.val (.ref a0), .val (.int (3 : Int32)), .val (.int p2), .val (.int (4 : Int32)), .val (.int (((3 : Int32) + (1 : Int32)) - (4 : Int32)))] [(.int (3 : Int32)), (.ref a0), (.int (f 3))])) _
    refine XS.iloadN X266.here hx rfl (hb hby d4_92) rfl ?_
    show Steps p.tables e below (T266.setTop (mkF m 93 #[.val (.ref a0), .val (.int (3 : Int32)), .val (.int p2), .val (.int (4 : Int32)), .val (.int (((3 : Int32) + (1 : Int32)) - (4 : Int32)))] [(.int p2), (.int (3 : Int32)), (.ref a0), (.int (f 3))])) _
    refine XS.iload X266.here hx rfl (hb hby d4_93) rfl ?_
    show Steps p.tables e below (T266.setTop (mkF m 95 #[.val (.ref a0), .val (.int (3 : Int32)), .val (.int p2), .val (.int (4 : Int32)), .val (.int (((3 : Int32) + (1 : Int32)) - (4 : Int32)))] [(.int (((3 : Int32) + (1 : Int32)) - (4 : Int32))), (.int p2), (.int (3 : Int32)), (.ref a0), (.int (f 3))])) _
    refine XS.iconst X266.here hx rfl (hb hby d4_95) ?_
    show Steps p.tables e below (T266.setTop (mkF m 96 #[.val (.ref a0), .val (.int (3 : Int32)), .val (.int p2), .val (.int (4 : Int32)), .val (.int (((3 : Int32) + (1 : Int32)) - (4 : Int32)))] [(.int (3 : Int32)), (.int (((3 : Int32) + (1 : Int32)) - (4 : Int32))), (.int p2), (.int (3 : Int32)), (.ref a0), (.int (f 3))])) _
    refine XS.iadd X266.here hx rfl (hb hby d4_96) rfl ?_
    show Steps p.tables e below (T266.setTop (mkF m 97 #[.val (.ref a0), .val (.int (3 : Int32)), .val (.int p2), .val (.int (4 : Int32)), .val (.int (((3 : Int32) + (1 : Int32)) - (4 : Int32)))] [(.int ((((3 : Int32) + (1 : Int32)) - (4 : Int32)) + (3 : Int32))), (.int p2), (.int (3 : Int32)), (.ref a0), (.int (f 3))])) _
    refine st268 _ ?_
    show Steps p.tables e below (T268.setTop (mkF m 100 #[.val (.ref a0), .val (.int (3 : Int32)), .val (.int p2), .val (.int (4 : Int32)), .val (.int (((3 : Int32) + (1 : Int32)) - (4 : Int32)))] [(.int p2), (.int (f 3))])) _
    exact kt
  by_cases hc271 : (f 3) = p2
  · skip
    have pre272 : ∀ t, Steps p.tables e below (T268.setTop (mkF m 106 #[.val (.ref a0), .val (.int (3 : Int32)), .val (.int p2), .val (.int (4 : Int32)), .val (.int (((3 : Int32) + (1 : Int32)) - (4 : Int32)))] [(.int (1 : Int32))])) t → Steps p.tables e below (s₁.setTop (entryFrame m #[(.ref a0), (.int (3 : Int32)), (.int p2), (.int (4 : Int32))] 5)) t := fun t kt => by
      refine pre270 _ ?_
      show Steps p.tables e below (T268.setTop (mkF m 100 #[.val (.ref a0), .val (.int (3 : Int32)), .val (.int p2), .val (.int (4 : Int32)), .val (.int (((3 : Int32) + (1 : Int32)) - (4 : Int32)))] [(.int p2), (.int (f 3))])) _
      refine XS.icmpYes X268.here hx rfl (pc0 := 100) (pc' := 105) rfl (hb hby d4_100) rfl (teq hc271).1 (by decide) (by decide) ?_
      show Steps p.tables e below (T268.setTop (mkF m 105 #[.val (.ref a0), .val (.int (3 : Int32)), .val (.int p2), .val (.int (4 : Int32)), .val (.int (((3 : Int32) + (1 : Int32)) - (4 : Int32)))] [])) _
      refine XS.iconst X268.here hx rfl (hb hby d4_105) ?_
      show Steps p.tables e below (T268.setTop (mkF m 106 #[.val (.ref a0), .val (.int (3 : Int32)), .val (.int p2), .val (.int (4 : Int32)), .val (.int (((3 : Int32) + (1 : Int32)) - (4 : Int32)))] [(.int (1 : Int32))])) _
      exact kt
    obtain ⟨fs, hr, hrun, hended, hW, hsame⟩ := X268.leave (v := some (.int (1 : Int32))) (fun h => by rw [Bd.returns] at h; cases h)
    refine ⟨_, _, pre272 _ ?_, hrun, hended, _, _, rfl, ?_, ⟨_, rfl⟩, hW, hsame.mono (by decide) (by decide)⟩
    · exact retN X268 hx (t := .boolean) Bd.returns (by simp) (hb hby d4_106) hr
    · show Q4_3_4 Z a0 p2 f h0 n0 _ T268.heap _
      rw [e268]
      exact ⟨(own_rI (by rw [if_pos hc271] : (1 : Int32) = (if (f 3) = p2 then (1 : Int32) else (0 : Int32)))), N269, rfl⟩
  · skip
    have pre273 : ∀ t, Steps p.tables e below (T268.setTop (mkF m 104 #[.val (.ref a0), .val (.int (3 : Int32)), .val (.int p2), .val (.int (4 : Int32)), .val (.int (((3 : Int32) + (1 : Int32)) - (4 : Int32)))] [(.int (0 : Int32))])) t → Steps p.tables e below (s₁.setTop (entryFrame m #[(.ref a0), (.int (3 : Int32)), (.int p2), (.int (4 : Int32))] 5)) t := fun t kt => by
      refine pre270 _ ?_
      show Steps p.tables e below (T268.setTop (mkF m 100 #[.val (.ref a0), .val (.int (3 : Int32)), .val (.int p2), .val (.int (4 : Int32)), .val (.int (((3 : Int32) + (1 : Int32)) - (4 : Int32)))] [(.int p2), (.int (f 3))])) _
      refine XS.icmpNo X268.here hx rfl (hb hby d4_100) rfl (feq hc271).1 ?_
      show Steps p.tables e below (T268.setTop (mkF m 103 #[.val (.ref a0), .val (.int (3 : Int32)), .val (.int p2), .val (.int (4 : Int32)), .val (.int (((3 : Int32) + (1 : Int32)) - (4 : Int32)))] [])) _
      refine XS.iconst X268.here hx rfl (hb hby d4_103) ?_
      show Steps p.tables e below (T268.setTop (mkF m 104 #[.val (.ref a0), .val (.int (3 : Int32)), .val (.int p2), .val (.int (4 : Int32)), .val (.int (((3 : Int32) + (1 : Int32)) - (4 : Int32)))] [(.int (0 : Int32))])) _
      exact kt
    obtain ⟨fs, hr, hrun, hended, hW, hsame⟩ := X268.leave (v := some (.int (0 : Int32))) (fun h => by rw [Bd.returns] at h; cases h)
    refine ⟨_, _, pre273 _ ?_, hrun, hended, _, _, rfl, ?_, ⟨_, rfl⟩, hW, hsame.mono (by decide) (by decide)⟩
    · exact retN X268 hx (t := .boolean) Bd.returns (by simp) (hb hby d4_104) hr
    · show Q4_3_4 Z a0 p2 f h0 n0 _ T268.heap _
      rw [e268]
      exact ⟨(own_rI (by rw [if_neg hc271] : (0 : Int32) = (if (f 3) = p2 then (1 : Int32) else (0 : Int32)))), N269, rfl⟩
theorem pd20273392 : parseMethodDescriptor "(Ljava/lang/String;[I)V" = some ⟨[(.object "java/lang/String"), (.array .int)], none⟩ := by decide +kernel
theorem pd21711183 : parseMethodDescriptor "([IIII)Z" = some ⟨[(.array .int), .int, .int, .int], some .boolean⟩ := by decide +kernel
theorem own_m4 (x : Int32) : ((x &&& (2147483647 : Int32)) % (4 : Int32)) = 0 ∨ ((x &&& (2147483647 : Int32)) % (4 : Int32)) = 1 ∨ ((x &&& (2147483647 : Int32)) % (4 : Int32)) = 2 ∨ ((x &&& (2147483647 : Int32)) % (4 : Int32)) = 3 := by
  have m := Jvm.Kit.i32_mask x 2147483647 (k := 31) (by decide) (by decide)
  have c4 : (4 : Int32).toInt = 4 := rfl
  have r : ((x &&& (2147483647 : Int32)) % (4 : Int32)).toInt = (x &&& (2147483647 : Int32)).toInt % 4 := by
    rw [Jvm.Kit.i32_rem_nonneg (by rw [m]; omega), c4]
  have h : ((x &&& (2147483647 : Int32)) % (4 : Int32)).toInt = 0 ∨ ((x &&& (2147483647 : Int32)) % (4 : Int32)).toInt = 1 ∨ ((x &&& (2147483647 : Int32)) % (4 : Int32)).toInt = 2 ∨ ((x &&& (2147483647 : Int32)) % (4 : Int32)).toInt = 3 := by rw [r]; omega
  rcases h with q | q | q | q
  · exact Or.inl (Int32.toInt_inj.mp q)
  · exact Or.inr (Or.inl (Int32.toInt_inj.mp q))
  · exact Or.inr (Or.inr (Or.inl (Int32.toInt_inj.mp q)))
  · exact Or.inr (Or.inr (Or.inr (Int32.toInt_inj.mp q)))
theorem own_e0 (u b : Nat → Int32) (x : Int32) (f : Nat) : own_ext u b x f 0 = if x = u 0 then 1 else 0 := by cases f <;> simp [own_ext]
theorem own_e1_1 {u b : Nat → Int32} {x : Int32} (h : b 0 = 0) : own_ext u b x 1 1 = if x = u 1 then 2 else (if x = u 0 then 1 else 0) := by
  have e : own_ext u b x 1 1 = (if 0 < 1 then (if x = u 1 then 1 + 1 else own_ext u b x 0 (b (1 - 1)).toNatClampNeg) else (if x = u 1 then 1 + 1 else 1)) := rfl
  rw [e, if_pos (by decide)]
  show (if x = u 1 then 2 else own_ext u b x 0 (b 0).toNatClampNeg) = _
  rw [h]
  show (if x = u 1 then 2 else own_ext u b x 0 0) = _
  rw [own_e0]
theorem own_e1_2 {u b : Nat → Int32} {x : Int32} (h : b 0 = 0) : own_ext u b x 2 1 = if x = u 1 then 2 else (if x = u 0 then 1 else 0) := by
  have e : own_ext u b x 2 1 = (if 0 < 1 then (if x = u 1 then 1 + 1 else own_ext u b x 1 (b (1 - 1)).toNatClampNeg) else (if x = u 1 then 1 + 1 else 1)) := rfl
  rw [e, if_pos (by decide)]
  show (if x = u 1 then 2 else own_ext u b x 1 (b 0).toNatClampNeg) = _
  rw [h]
  show (if x = u 1 then 2 else own_ext u b x 1 0) = _
  rw [own_e0]
theorem own_e1_3 {u b : Nat → Int32} {x : Int32} (h : b 0 = 0) : own_ext u b x 3 1 = if x = u 1 then 2 else (if x = u 0 then 1 else 0) := by
  have e : own_ext u b x 3 1 = (if 0 < 1 then (if x = u 1 then 1 + 1 else own_ext u b x 2 (b (1 - 1)).toNatClampNeg) else (if x = u 1 then 1 + 1 else 1)) := rfl
  rw [e, if_pos (by decide)]
  show (if x = u 1 then 2 else own_ext u b x 2 (b 0).toNatClampNeg) = _
  rw [h]
  show (if x = u 1 then 2 else own_ext u b x 2 0) = _
  rw [own_e0]
theorem own_e2_2 {u b : Nat → Int32} {x : Int32} {k : Nat} (h : b 1 = Int32.ofNat k) (hk : k < 8) : own_ext u b x 2 2 = if x = u 2 then 3 else own_ext u b x 1 k := by
  have e : own_ext u b x 2 2 = (if 0 < 2 then (if x = u 2 then 2 + 1 else own_ext u b x 1 (b (2 - 1)).toNatClampNeg) else (if x = u 2 then 2 + 1 else 2)) := rfl
  rw [e, if_pos (by decide)]
  show (if x = u 2 then 3 else own_ext u b x 1 (b 1).toNatClampNeg) = _
  rw [h, (own_of hk).2]
theorem own_e2_3 {u b : Nat → Int32} {x : Int32} {k : Nat} (h : b 1 = Int32.ofNat k) (hk : k < 8) : own_ext u b x 3 2 = if x = u 2 then 3 else own_ext u b x 2 k := by
  have e : own_ext u b x 3 2 = (if 0 < 2 then (if x = u 2 then 2 + 1 else own_ext u b x 2 (b (2 - 1)).toNatClampNeg) else (if x = u 2 then 2 + 1 else 2)) := rfl
  rw [e, if_pos (by decide)]
  show (if x = u 2 then 3 else own_ext u b x 2 (b 1).toNatClampNeg) = _
  rw [h, (own_of hk).2]
theorem own_e3_3 {u b : Nat → Int32} {x : Int32} {k : Nat} (h : b 2 = Int32.ofNat k) (hk : k < 8) : own_ext u b x 3 3 = if x = u 3 then 4 else own_ext u b x 2 k := by
  have e : own_ext u b x 3 3 = (if 0 < 3 then (if x = u 3 then 3 + 1 else own_ext u b x 2 (b (3 - 1)).toNatClampNeg) else (if x = u 3 then 3 + 1 else 3)) := rfl
  rw [e, if_pos (by decide)]
  show (if x = u 3 then 4 else own_ext u b x 2 (b 2).toNatClampNeg) = _
  rw [h, (own_of hk).2]

theorem own_plain0 (p0 : Int32) (p1 : Int32) (p2 : Int32) (p3 : Int32) (p4 : Int32) (u : Nat → Int32) (r1 : Nat) (r2 : Nat) (r3 : Nat) (r4 : Nat)
    (v1 : Int32) (hv1 : v1 = (if (p3 &&& (1 : Int32)) = (0 : Int32) then (p0 + ((p3 >>> ((1 : Int32) &&& 31)) &&& (3 : Int32))) else p4))
    (v2 : Int32) (hv2 : v2 = (if (if (u 0) = v1 then (1 : Int32) else (0 : Int32)) = (0 : Int32) then (0 : Int32) else (1 : Int32)))
    (v3 : Int32) (hv3 : v3 = (if (Int32.ofNat r4) = v2 then (1 : Int32) else (0 : Int32)))
    (hr1 : r1 = own_ext u (fun _ => (0 : Int32)) (u 1) 3 0)
    (hr2 : r2 = own_ext u (own_up (fun _ => (0 : Int32)) 1 (Int32.ofNat r1)) (u 2) 3 r1)
    (hr3 : r3 = own_ext u (own_up (own_up (fun _ => (0 : Int32)) 1 (Int32.ofNat r1)) 2 (Int32.ofNat r2)) (u 3) 3 r2)
    (br1 : r1 ≤ 1)
    (br2 : r2 ≤ 2)
    (br3 : r3 ≤ 3)
    (hr4 : r4 = own_ext u (own_up (own_up (own_up (fun _ => (0 : Int32)) 1 (Int32.ofNat r1)) 2 (Int32.ofNat r2)) 3 (Int32.ofNat r3)) v1 3 0)
    (br4 : r4 ≤ 0 + 1) : v3 = 1 := by
  clear hv1 br1 br2 br3 br4
  rw [hv3, if_pos]
  clear hv3
  by_cases X0 : u 0 = v1
  · skip
    first | (rw [own_e0, if_pos (Eq.symm X0)] at hr4; subst hr4; simp only [if_pos X0] at hv2; subst hv2; decide; done) | (exfalso; simp_all; done)
  · skip
    first | (rw [own_e0, if_neg (Ne.symm X0)] at hr4; subst hr4; simp only [if_neg X0] at hv2; subst hv2; decide; done) | (exfalso; simp_all; done)
theorem own_plain1 (p0 : Int32) (p1 : Int32) (p2 : Int32) (p3 : Int32) (p4 : Int32) (u : Nat → Int32) (r1 : Nat) (r2 : Nat) (r3 : Nat) (r4 : Nat)
    (v1 : Int32) (hv1 : v1 = (if (p3 &&& (1 : Int32)) = (0 : Int32) then (p0 + ((p3 >>> ((1 : Int32) &&& 31)) &&& (3 : Int32))) else p4))
    (v2 : Int32) (hv2 : v2 = (if (if (u 1) = v1 then (1 : Int32) else (0 : Int32)) = (0 : Int32) then (if (if (u 0) = v1 then (1 : Int32) else (0 : Int32)) = (0 : Int32) then (0 : Int32) else (1 : Int32)) else (2 : Int32)))
    (v3 : Int32) (hv3 : v3 = (if (Int32.ofNat r4) = v2 then (1 : Int32) else (0 : Int32)))
    (hr1 : r1 = own_ext u (fun _ => (0 : Int32)) (u 1) 3 0)
    (hr2 : r2 = own_ext u (own_up (fun _ => (0 : Int32)) 1 (Int32.ofNat r1)) (u 2) 3 r1)
    (hr3 : r3 = own_ext u (own_up (own_up (fun _ => (0 : Int32)) 1 (Int32.ofNat r1)) 2 (Int32.ofNat r2)) (u 3) 3 r2)
    (br1 : r1 ≤ 1)
    (br2 : r2 ≤ 2)
    (br3 : r3 ≤ 3)
    (hr4 : r4 = own_ext u (own_up (own_up (own_up (fun _ => (0 : Int32)) 1 (Int32.ofNat r1)) 2 (Int32.ofNat r2)) 3 (Int32.ofNat r3)) v1 3 1)
    (br4 : r4 ≤ 1 + 1) : v3 = 1 := by
  clear hv1 br1 br2 br3 br4
  rw [hv3, if_pos]
  clear hv3
  by_cases X1 : u 1 = v1
  · skip
    by_cases X0 : u 0 = v1
    · skip
      first | (rw [own_e1_3 (u := u) (b := (own_up (own_up (own_up (fun _ => (0 : Int32)) 1 (Int32.ofNat r1)) 2 (Int32.ofNat r2)) 3 (Int32.ofNat r3))) (x := v1) rfl, if_pos (Eq.symm X1)] at hr4; subst hr4; simp only [if_pos X1, if_pos X0] at hv2; subst hv2; decide; done) | (exfalso; simp_all; done)
    · skip
      first | (rw [own_e1_3 (u := u) (b := (own_up (own_up (own_up (fun _ => (0 : Int32)) 1 (Int32.ofNat r1)) 2 (Int32.ofNat r2)) 3 (Int32.ofNat r3))) (x := v1) rfl, if_pos (Eq.symm X1)] at hr4; subst hr4; simp only [if_pos X1, if_neg X0] at hv2; subst hv2; decide; done) | (exfalso; simp_all; done)
  · skip
    by_cases X0 : u 0 = v1
    · skip
      first | (rw [own_e1_3 (u := u) (b := (own_up (own_up (own_up (fun _ => (0 : Int32)) 1 (Int32.ofNat r1)) 2 (Int32.ofNat r2)) 3 (Int32.ofNat r3))) (x := v1) rfl, if_neg (Ne.symm X1), if_pos (Eq.symm X0)] at hr4; subst hr4; simp only [if_neg X1, if_pos X0] at hv2; subst hv2; decide; done) | (exfalso; simp_all; done)
    · skip
      first | (rw [own_e1_3 (u := u) (b := (own_up (own_up (own_up (fun _ => (0 : Int32)) 1 (Int32.ofNat r1)) 2 (Int32.ofNat r2)) 3 (Int32.ofNat r3))) (x := v1) rfl, if_neg (Ne.symm X1), if_neg (Ne.symm X0)] at hr4; subst hr4; simp only [if_neg X1, if_neg X0] at hv2; subst hv2; decide; done) | (exfalso; simp_all; done)
theorem own_plain2 (p0 : Int32) (p1 : Int32) (p2 : Int32) (p3 : Int32) (p4 : Int32) (u : Nat → Int32) (r1 : Nat) (r2 : Nat) (r3 : Nat) (r4 : Nat)
    (v1 : Int32) (hv1 : v1 = (if (p3 &&& (1 : Int32)) = (0 : Int32) then (p0 + ((p3 >>> ((1 : Int32) &&& 31)) &&& (3 : Int32))) else p4))
    (v2 : Int32) (hv2 : v2 = (if (if (u 2) = v1 then (1 : Int32) else (0 : Int32)) = (0 : Int32) then (if (if (u 0) = (u 1) then (if (u 1) = v1 then (1 : Int32) else (0 : Int32)) else (0 : Int32)) = (0 : Int32) then (if (if (u 0) = v1 then (1 : Int32) else (0 : Int32)) = (0 : Int32) then (0 : Int32) else (1 : Int32)) else (2 : Int32)) else (3 : Int32)))
    (v3 : Int32) (hv3 : v3 = (if (Int32.ofNat r4) = v2 then (1 : Int32) else (0 : Int32)))
    (hr1 : r1 = own_ext u (fun _ => (0 : Int32)) (u 1) 3 0)
    (hr2 : r2 = own_ext u (own_up (fun _ => (0 : Int32)) 1 (Int32.ofNat r1)) (u 2) 3 r1)
    (hr3 : r3 = own_ext u (own_up (own_up (fun _ => (0 : Int32)) 1 (Int32.ofNat r1)) 2 (Int32.ofNat r2)) (u 3) 3 r2)
    (br1 : r1 ≤ 1)
    (br2 : r2 ≤ 2)
    (br3 : r3 ≤ 3)
    (hr4 : r4 = own_ext u (own_up (own_up (own_up (fun _ => (0 : Int32)) 1 (Int32.ofNat r1)) 2 (Int32.ofNat r2)) 3 (Int32.ofNat r3)) v1 3 2)
    (br4 : r4 ≤ 2 + 1) : v3 = 1 := by
  clear hv1 br1 br2 br3 br4
  rw [hv3, if_pos]
  clear hv3
  by_cases A01 : u 0 = u 1
  · skip
    by_cases X2 : u 2 = v1
    · skip
      by_cases X1 : u 1 = v1
      · skip
        by_cases X0 : u 0 = v1
        · skip
          first | (rw [own_e0, if_pos (Eq.symm A01)] at hr1; subst hr1; rw [own_e2_3 (u := u) (b := (own_up (own_up (own_up (fun _ => (0 : Int32)) 1 (Int32.ofNat 1)) 2 (Int32.ofNat r2)) 3 (Int32.ofNat r3))) (x := v1) (k := 1) rfl (by decide), if_pos (Eq.symm X2)] at hr4; subst hr4; simp only [if_pos A01, if_pos X2, if_pos X1, if_pos X0] at hv2; subst hv2; decide; done) | (exfalso; simp_all; done)
        · skip
          first | (rw [own_e0, if_pos (Eq.symm A01)] at hr1; subst hr1; rw [own_e2_3 (u := u) (b := (own_up (own_up (own_up (fun _ => (0 : Int32)) 1 (Int32.ofNat 1)) 2 (Int32.ofNat r2)) 3 (Int32.ofNat r3))) (x := v1) (k := 1) rfl (by decide), if_pos (Eq.symm X2)] at hr4; subst hr4; simp only [if_pos A01, if_pos X2, if_pos X1, if_neg X0] at hv2; subst hv2; decide; done) | (exfalso; simp_all; done)
      · skip
        by_cases X0 : u 0 = v1
        · skip
          first | (rw [own_e0, if_pos (Eq.symm A01)] at hr1; subst hr1; rw [own_e2_3 (u := u) (b := (own_up (own_up (own_up (fun _ => (0 : Int32)) 1 (Int32.ofNat 1)) 2 (Int32.ofNat r2)) 3 (Int32.ofNat r3))) (x := v1) (k := 1) rfl (by decide), if_pos (Eq.symm X2)] at hr4; subst hr4; simp only [if_pos A01, if_pos X2, if_neg X1, if_pos X0] at hv2; subst hv2; decide; done) | (exfalso; simp_all; done)
        · skip
          first | (rw [own_e0, if_pos (Eq.symm A01)] at hr1; subst hr1; rw [own_e2_3 (u := u) (b := (own_up (own_up (own_up (fun _ => (0 : Int32)) 1 (Int32.ofNat 1)) 2 (Int32.ofNat r2)) 3 (Int32.ofNat r3))) (x := v1) (k := 1) rfl (by decide), if_pos (Eq.symm X2)] at hr4; subst hr4; simp only [if_pos A01, if_pos X2, if_neg X1, if_neg X0] at hv2; subst hv2; decide; done) | (exfalso; simp_all; done)
    · skip
      by_cases X1 : u 1 = v1
      · skip
        by_cases X0 : u 0 = v1
        · skip
          first | (rw [own_e0, if_pos (Eq.symm A01)] at hr1; subst hr1; rw [own_e2_3 (u := u) (b := (own_up (own_up (own_up (fun _ => (0 : Int32)) 1 (Int32.ofNat 1)) 2 (Int32.ofNat r2)) 3 (Int32.ofNat r3))) (x := v1) (k := 1) rfl (by decide), if_neg (Ne.symm X2), own_e1_2 (u := u) (b := (own_up (own_up (own_up (fun _ => (0 : Int32)) 1 (Int32.ofNat 1)) 2 (Int32.ofNat r2)) 3 (Int32.ofNat r3))) (x := v1) rfl, if_pos (Eq.symm X1)] at hr4; subst hr4; simp only [if_pos A01, if_neg X2, if_pos X1, if_pos X0] at hv2; subst hv2; decide; done) | (exfalso; simp_all; done)
        · skip
          first | (rw [own_e0, if_pos (Eq.symm A01)] at hr1; subst hr1; rw [own_e2_3 (u := u) (b := (own_up (own_up (own_up (fun _ => (0 : Int32)) 1 (Int32.ofNat 1)) 2 (Int32.ofNat r2)) 3 (Int32.ofNat r3))) (x := v1) (k := 1) rfl (by decide), if_neg (Ne.symm X2), own_e1_2 (u := u) (b := (own_up (own_up (own_up (fun _ => (0 : Int32)) 1 (Int32.ofNat 1)) 2 (Int32.ofNat r2)) 3 (Int32.ofNat r3))) (x := v1) rfl, if_pos (Eq.symm X1)] at hr4; subst hr4; simp only [if_pos A01, if_neg X2, if_pos X1, if_neg X0] at hv2; subst hv2; decide; done) | (exfalso; simp_all; done)
      · skip
        by_cases X0 : u 0 = v1
        · skip
          first | (rw [own_e0, if_pos (Eq.symm A01)] at hr1; subst hr1; rw [own_e2_3 (u := u) (b := (own_up (own_up (own_up (fun _ => (0 : Int32)) 1 (Int32.ofNat 1)) 2 (Int32.ofNat r2)) 3 (Int32.ofNat r3))) (x := v1) (k := 1) rfl (by decide), if_neg (Ne.symm X2), own_e1_2 (u := u) (b := (own_up (own_up (own_up (fun _ => (0 : Int32)) 1 (Int32.ofNat 1)) 2 (Int32.ofNat r2)) 3 (Int32.ofNat r3))) (x := v1) rfl, if_neg (Ne.symm X1), if_pos (Eq.symm X0)] at hr4; subst hr4; simp only [if_pos A01, if_neg X2, if_neg X1, if_pos X0] at hv2; subst hv2; decide; done) | (exfalso; simp_all; done)
        · skip
          first | (rw [own_e0, if_pos (Eq.symm A01)] at hr1; subst hr1; rw [own_e2_3 (u := u) (b := (own_up (own_up (own_up (fun _ => (0 : Int32)) 1 (Int32.ofNat 1)) 2 (Int32.ofNat r2)) 3 (Int32.ofNat r3))) (x := v1) (k := 1) rfl (by decide), if_neg (Ne.symm X2), own_e1_2 (u := u) (b := (own_up (own_up (own_up (fun _ => (0 : Int32)) 1 (Int32.ofNat 1)) 2 (Int32.ofNat r2)) 3 (Int32.ofNat r3))) (x := v1) rfl, if_neg (Ne.symm X1), if_neg (Ne.symm X0)] at hr4; subst hr4; simp only [if_pos A01, if_neg X2, if_neg X1, if_neg X0] at hv2; subst hv2; decide; done) | (exfalso; simp_all; done)
  · skip
    by_cases X2 : u 2 = v1
    · skip
      by_cases X1 : u 1 = v1
      · skip
        by_cases X0 : u 0 = v1
        · skip
          first | (rw [own_e0, if_neg (Ne.symm A01)] at hr1; subst hr1; rw [own_e2_3 (u := u) (b := (own_up (own_up (own_up (fun _ => (0 : Int32)) 1 (Int32.ofNat 0)) 2 (Int32.ofNat r2)) 3 (Int32.ofNat r3))) (x := v1) (k := 0) rfl (by decide), if_pos (Eq.symm X2)] at hr4; subst hr4; simp only [if_neg A01, if_pos X2, if_pos X1, if_pos X0] at hv2; subst hv2; decide; done) | (exfalso; simp_all; done)
        · skip
          first | (rw [own_e0, if_neg (Ne.symm A01)] at hr1; subst hr1; rw [own_e2_3 (u := u) (b := (own_up (own_up (own_up (fun _ => (0 : Int32)) 1 (Int32.ofNat 0)) 2 (Int32.ofNat r2)) 3 (Int32.ofNat r3))) (x := v1) (k := 0) rfl (by decide), if_pos (Eq.symm X2)] at hr4; subst hr4; simp only [if_neg A01, if_pos X2, if_pos X1, if_neg X0] at hv2; subst hv2; decide; done) | (exfalso; simp_all; done)
      · skip
        by_cases X0 : u 0 = v1
        · skip
          first | (rw [own_e0, if_neg (Ne.symm A01)] at hr1; subst hr1; rw [own_e2_3 (u := u) (b := (own_up (own_up (own_up (fun _ => (0 : Int32)) 1 (Int32.ofNat 0)) 2 (Int32.ofNat r2)) 3 (Int32.ofNat r3))) (x := v1) (k := 0) rfl (by decide), if_pos (Eq.symm X2)] at hr4; subst hr4; simp only [if_neg A01, if_pos X2, if_neg X1, if_pos X0] at hv2; subst hv2; decide; done) | (exfalso; simp_all; done)
        · skip
          first | (rw [own_e0, if_neg (Ne.symm A01)] at hr1; subst hr1; rw [own_e2_3 (u := u) (b := (own_up (own_up (own_up (fun _ => (0 : Int32)) 1 (Int32.ofNat 0)) 2 (Int32.ofNat r2)) 3 (Int32.ofNat r3))) (x := v1) (k := 0) rfl (by decide), if_pos (Eq.symm X2)] at hr4; subst hr4; simp only [if_neg A01, if_pos X2, if_neg X1, if_neg X0] at hv2; subst hv2; decide; done) | (exfalso; simp_all; done)
    · skip
      by_cases X1 : u 1 = v1
      · skip
        by_cases X0 : u 0 = v1
        · skip
          first | (rw [own_e0, if_neg (Ne.symm A01)] at hr1; subst hr1; rw [own_e2_3 (u := u) (b := (own_up (own_up (own_up (fun _ => (0 : Int32)) 1 (Int32.ofNat 0)) 2 (Int32.ofNat r2)) 3 (Int32.ofNat r3))) (x := v1) (k := 0) rfl (by decide), if_neg (Ne.symm X2), own_e0, if_pos (Eq.symm X0)] at hr4; subst hr4; simp only [if_neg A01, if_neg X2, if_pos X1, if_pos X0] at hv2; subst hv2; decide; done) | (exfalso; simp_all; done)
        · skip
          first | (rw [own_e0, if_neg (Ne.symm A01)] at hr1; subst hr1; rw [own_e2_3 (u := u) (b := (own_up (own_up (own_up (fun _ => (0 : Int32)) 1 (Int32.ofNat 0)) 2 (Int32.ofNat r2)) 3 (Int32.ofNat r3))) (x := v1) (k := 0) rfl (by decide), if_neg (Ne.symm X2), own_e0, if_neg (Ne.symm X0)] at hr4; subst hr4; simp only [if_neg A01, if_neg X2, if_pos X1, if_neg X0] at hv2; subst hv2; decide; done) | (exfalso; simp_all; done)
      · skip
        by_cases X0 : u 0 = v1
        · skip
          first | (rw [own_e0, if_neg (Ne.symm A01)] at hr1; subst hr1; rw [own_e2_3 (u := u) (b := (own_up (own_up (own_up (fun _ => (0 : Int32)) 1 (Int32.ofNat 0)) 2 (Int32.ofNat r2)) 3 (Int32.ofNat r3))) (x := v1) (k := 0) rfl (by decide), if_neg (Ne.symm X2), own_e0, if_pos (Eq.symm X0)] at hr4; subst hr4; simp only [if_neg A01, if_neg X2, if_neg X1, if_pos X0] at hv2; subst hv2; decide; done) | (exfalso; simp_all; done)
        · skip
          first | (rw [own_e0, if_neg (Ne.symm A01)] at hr1; subst hr1; rw [own_e2_3 (u := u) (b := (own_up (own_up (own_up (fun _ => (0 : Int32)) 1 (Int32.ofNat 0)) 2 (Int32.ofNat r2)) 3 (Int32.ofNat r3))) (x := v1) (k := 0) rfl (by decide), if_neg (Ne.symm X2), own_e0, if_neg (Ne.symm X0)] at hr4; subst hr4; simp only [if_neg A01, if_neg X2, if_neg X1, if_neg X0] at hv2; subst hv2; decide; done) | (exfalso; simp_all; done)
theorem own_plain3 (p0 : Int32) (p1 : Int32) (p2 : Int32) (p3 : Int32) (p4 : Int32) (u : Nat → Int32) (r1 : Nat) (r2 : Nat) (r3 : Nat) (r4 : Nat)
    (v1 : Int32) (hv1 : v1 = (if (p3 &&& (1 : Int32)) = (0 : Int32) then (p0 + ((p3 >>> ((1 : Int32) &&& 31)) &&& (3 : Int32))) else p4))
    (v2 : Int32) (hv2 : v2 = (if (if (u 3) = v1 then (1 : Int32) else (0 : Int32)) = (0 : Int32) then (if (if (u 0) = (u 1) then (if (u 1) = (u 2) then (if (u 2) = v1 then (1 : Int32) else (0 : Int32)) else (0 : Int32)) else (0 : Int32)) = (0 : Int32) then (if (if (u 0) = (u 2) then (if (u 1) = v1 then (1 : Int32) else (0 : Int32)) else (0 : Int32)) = (0 : Int32) then (if (if (u 0) = v1 then (1 : Int32) else (0 : Int32)) = (0 : Int32) then (0 : Int32) else (1 : Int32)) else (2 : Int32)) else (3 : Int32)) else (4 : Int32)))
    (v3 : Int32) (hv3 : v3 = (if (Int32.ofNat r4) = v2 then (1 : Int32) else (0 : Int32)))
    (hr1 : r1 = own_ext u (fun _ => (0 : Int32)) (u 1) 3 0)
    (hr2 : r2 = own_ext u (own_up (fun _ => (0 : Int32)) 1 (Int32.ofNat r1)) (u 2) 3 r1)
    (hr3 : r3 = own_ext u (own_up (own_up (fun _ => (0 : Int32)) 1 (Int32.ofNat r1)) 2 (Int32.ofNat r2)) (u 3) 3 r2)
    (br1 : r1 ≤ 1)
    (br2 : r2 ≤ 2)
    (br3 : r3 ≤ 3)
    (hr4 : r4 = own_ext u (own_up (own_up (own_up (fun _ => (0 : Int32)) 1 (Int32.ofNat r1)) 2 (Int32.ofNat r2)) 3 (Int32.ofNat r3)) v1 3 3)
    (br4 : r4 ≤ 3 + 1) : v3 = 1 := by
  clear hv1 br1 br2 br3 br4
  rw [hv3, if_pos]
  clear hv3
  by_cases A01 : u 0 = u 1
  · skip
    by_cases A12 : u 1 = u 2
    · skip
      by_cases A02 : u 0 = u 2
      · skip
        by_cases X3 : u 3 = v1
        · skip
          by_cases X2 : u 2 = v1
          · skip
            by_cases X1 : u 1 = v1
            · skip
              by_cases X0 : u 0 = v1
              · skip
                first | (rw [own_e0, if_pos (Eq.symm A01)] at hr1; subst hr1; rw [own_e1_3 (u := u) (b := (own_up (fun _ => (0 : Int32)) 1 (Int32.ofNat 1))) (x := (u 2)) rfl, if_pos (Eq.symm A12)] at hr2; subst hr2; rw [own_e3_3 (u := u) (b := (own_up (own_up (own_up (fun _ => (0 : Int32)) 1 (Int32.ofNat 1)) 2 (Int32.ofNat 2)) 3 (Int32.ofNat r3))) (x := v1) (k := 2) rfl (by decide), if_pos (Eq.symm X3)] at hr4; subst hr4; simp only [if_pos A01, if_pos A12, if_pos A02, if_pos X3, if_pos X2, if_pos X1, if_pos X0] at hv2; subst hv2; decide; done) | (exfalso; simp_all; done)
              · skip
                first | (rw [own_e0, if_pos (Eq.symm A01)] at hr1; subst hr1; rw [own_e1_3 (u := u) (b := (own_up (fun _ => (0 : Int32)) 1 (Int32.ofNat 1))) (x := (u 2)) rfl, if_pos (Eq.symm A12)] at hr2; subst hr2; rw [own_e3_3 (u := u) (b := (own_up (own_up (own_up (fun _ => (0 : Int32)) 1 (Int32.ofNat 1)) 2 (Int32.ofNat 2)) 3 (Int32.ofNat r3))) (x := v1) (k := 2) rfl (by decide), if_pos (Eq.symm X3)] at hr4; subst hr4; simp only [if_pos A01, if_pos A12, if_pos A02, if_pos X3, if_pos X2, if_pos X1, if_neg X0] at hv2; subst hv2; decide; done) | (exfalso; simp_all; done)
            · skip
              by_cases X0 : u 0 = v1
              · skip
                first | (rw [own_e0, if_pos (Eq.symm A01)] at hr1; subst hr1; rw [own_e1_3 (u := u) (b := (own_up (fun _ => (0 : Int32)) 1 (Int32.ofNat 1))) (x := (u 2)) rfl, if_pos (Eq.symm A12)] at hr2; subst hr2; rw [own_e3_3 (u := u) (b := (own_up (own_up (own_up (fun _ => (0 : Int32)) 1 (Int32.ofNat 1)) 2 (Int32.ofNat 2)) 3 (Int32.ofNat r3))) (x := v1) (k := 2) rfl (by decide), if_pos (Eq.symm X3)] at hr4; subst hr4; simp only [if_pos A01, if_pos A12, if_pos A02, if_pos X3, if_pos X2, if_neg X1, if_pos X0] at hv2; subst hv2; decide; done) | (exfalso; simp_all; done)
              · skip
                first | (rw [own_e0, if_pos (Eq.symm A01)] at hr1; subst hr1; rw [own_e1_3 (u := u) (b := (own_up (fun _ => (0 : Int32)) 1 (Int32.ofNat 1))) (x := (u 2)) rfl, if_pos (Eq.symm A12)] at hr2; subst hr2; rw [own_e3_3 (u := u) (b := (own_up (own_up (own_up (fun _ => (0 : Int32)) 1 (Int32.ofNat 1)) 2 (Int32.ofNat 2)) 3 (Int32.ofNat r3))) (x := v1) (k := 2) rfl (by decide), if_pos (Eq.symm X3)] at hr4; subst hr4; simp only [if_pos A01, if_pos A12, if_pos A02, if_pos X3, if_pos X2, if_neg X1, if_neg X0] at hv2; subst hv2; decide; done) | (exfalso; simp_all; done)
          · skip
            by_cases X1 : u 1 = v1
            · skip
              by_cases X0 : u 0 = v1
              · skip
                first | (rw [own_e0, if_pos (Eq.symm A01)] at hr1; subst hr1; rw [own_e1_3 (u := u) (b := (own_up (fun _ => (0 : Int32)) 1 (Int32.ofNat 1))) (x := (u 2)) rfl, if_pos (Eq.symm A12)] at hr2; subst hr2; rw [own_e3_3 (u := u) (b := (own_up (own_up (own_up (fun _ => (0 : Int32)) 1 (Int32.ofNat 1)) 2 (Int32.ofNat 2)) 3 (Int32.ofNat r3))) (x := v1) (k := 2) rfl (by decide), if_pos (Eq.symm X3)] at hr4; subst hr4; simp only [if_pos A01, if_pos A12, if_pos A02, if_pos X3, if_neg X2, if_pos X1, if_pos X0] at hv2; subst hv2; decide; done) | (exfalso; simp_all; done)
              · skip
                first | (rw [own_e0, if_pos (Eq.symm A01)] at hr1; subst hr1; rw [own_e1_3 (u := u) (b := (own_up (fun _ => (0 : Int32)) 1 (Int32.ofNat 1))) (x := (u 2)) rfl, if_pos (Eq.symm A12)] at hr2; subst hr2; rw [own_e3_3 (u := u) (b := (own_up (own_up (own_up (fun _ => (0 : Int32)) 1 (Int32.ofNat 1)) 2 (Int32.ofNat 2)) 3 (Int32.ofNat r3))) (x := v1) (k := 2) rfl (by decide), if_pos (Eq.symm X3)] at hr4; subst hr4; simp only [if_pos A01, if_pos A12, if_pos A02, if_pos X3, if_neg X2, if_pos X1, if_neg X0] at hv2; subst hv2; decide; done) | (exfalso; simp_all; done)
            · skip
              by_cases X0 : u 0 = v1
              · skip
                first | (rw [own_e0, if_pos (Eq.symm A01)] at hr1; subst hr1; rw [own_e1_3 (u := u) (b := (own_up (fun _ => (0 : Int32)) 1 (Int32.ofNat 1))) (x := (u 2)) rfl, if_pos (Eq.symm A12)] at hr2; subst hr2; rw [own_e3_3 (u := u) (b := (own_up (own_up (own_up (fun _ => (0 : Int32)) 1 (Int32.ofNat 1)) 2 (Int32.ofNat 2)) 3 (Int32.ofNat r3))) (x := v1) (k := 2) rfl (by decide), if_pos (Eq.symm X3)] at hr4; subst hr4; simp only [if_pos A01, if_pos A12, if_pos A02, if_pos X3, if_neg X2, if_neg X1, if_pos X0] at hv2; subst hv2; decide; done) | (exfalso; simp_all; done)
              · skip
                first | (rw [own_e0, if_pos (Eq.symm A01)] at hr1; subst hr1; rw [own_e1_3 (u := u) (b := (own_up (fun _ => (0 : Int32)) 1 (Int32.ofNat 1))) (x := (u 2)) rfl, if_pos (Eq.symm A12)] at hr2; subst hr2; rw [own_e3_3 (u := u) (b := (own_up (own_up (own_up (fun _ => (0 : Int32)) 1 (Int32.ofNat 1)) 2 (Int32.ofNat 2)) 3 (Int32.ofNat r3))) (x := v1) (k := 2) rfl (by decide), if_pos (Eq.symm X3)] at hr4; subst hr4; simp only [if_pos A01, if_pos A12, if_pos A02, if_pos X3, if_neg X2, if_neg X1, if_neg X0] at hv2; subst hv2; decide; done) | (exfalso; simp_all; done)
        · skip
          by_cases X2 : u 2 = v1
          · skip
            by_cases X1 : u 1 = v1
            · skip
              by_cases X0 : u 0 = v1
              · skip
                first | (rw [own_e0, if_pos (Eq.symm A01)] at hr1; subst hr1; rw [own_e1_3 (u := u) (b := (own_up (fun _ => (0 : Int32)) 1 (Int32.ofNat 1))) (x := (u 2)) rfl, if_pos (Eq.symm A12)] at hr2; subst hr2; rw [own_e3_3 (u := u) (b := (own_up (own_up (own_up (fun _ => (0 : Int32)) 1 (Int32.ofNat 1)) 2 (Int32.ofNat 2)) 3 (Int32.ofNat r3))) (x := v1) (k := 2) rfl (by decide), if_neg (Ne.symm X3), own_e2_2 (u := u) (b := (own_up (own_up (own_up (fun _ => (0 : Int32)) 1 (Int32.ofNat 1)) 2 (Int32.ofNat 2)) 3 (Int32.ofNat r3))) (x := v1) (k := 1) rfl (by decide), if_pos (Eq.symm X2)] at hr4; subst hr4; simp only [if_pos A01, if_pos A12, if_pos A02, if_neg X3, if_pos X2, if_pos X1, if_pos X0] at hv2; subst hv2; decide; done) | (exfalso; simp_all; done)
              · skip
                first | (rw [own_e0, if_pos (Eq.symm A01)] at hr1; subst hr1; rw [own_e1_3 (u := u) (b := (own_up (fun _ => (0 : Int32)) 1 (Int32.ofNat 1))) (x := (u 2)) rfl, if_pos (Eq.symm A12)] at hr2; subst hr2; rw [own_e3_3 (u := u) (b := (own_up (own_up (own_up (fun _ => (0 : Int32)) 1 (Int32.ofNat 1)) 2 (Int32.ofNat 2)) 3 (Int32.ofNat r3))) (x := v1) (k := 2) rfl (by decide), if_neg (Ne.symm X3), own_e2_2 (u := u) (b := (own_up (own_up (own_up (fun _ => (0 : Int32)) 1 (Int32.ofNat 1)) 2 (Int32.ofNat 2)) 3 (Int32.ofNat r3))) (x := v1) (k := 1) rfl (by decide), if_pos (Eq.symm X2)] at hr4; subst hr4; simp only [if_pos A01, if_pos A12, if_pos A02, if_neg X3, if_pos X2, if_pos X1, if_neg X0] at hv2; subst hv2; decide; done) | (exfalso; simp_all; done)
            · skip
              by_cases X0 : u 0 = v1
              · skip
                first | (rw [own_e0, if_pos (Eq.symm A01)] at hr1; subst hr1; rw [own_e1_3 (u := u) (b := (own_up (fun _ => (0 : Int32)) 1 (Int32.ofNat 1))) (x := (u 2)) rfl, if_pos (Eq.symm A12)] at hr2; subst hr2; rw [own_e3_3 (u := u) (b := (own_up (own_up (own_up (fun _ => (0 : Int32)) 1 (Int32.ofNat 1)) 2 (Int32.ofNat 2)) 3 (Int32.ofNat r3))) (x := v1) (k := 2) rfl (by decide), if_neg (Ne.symm X3), own_e2_2 (u := u) (b := (own_up (own_up (own_up (fun _ => (0 : Int32)) 1 (Int32.ofNat 1)) 2 (Int32.ofNat 2)) 3 (Int32.ofNat r3))) (x := v1) (k := 1) rfl (by decide), if_pos (Eq.symm X2)] at hr4; subst hr4; simp only [if_pos A01, if_pos A12, if_pos A02, if_neg X3, if_pos X2, if_neg X1, if_pos X0] at hv2; subst hv2; decide; done) | (exfalso; simp_all; done)
              · skip
                first | (rw [own_e0, if_pos (Eq.symm A01)] at hr1; subst hr1; rw [own_e1_3 (u := u) (b := (own_up (fun _ => (0 : Int32)) 1 (Int32.ofNat 1))) (x := (u 2)) rfl, if_pos (Eq.symm A12)] at hr2; subst hr2; rw [own_e3_3 (u := u) (b := (own_up (own_up (own_up (fun _ => (0 : Int32)) 1 (Int32.ofNat 1)) 2 (Int32.ofNat 2)) 3 (Int32.ofNat r3))) (x := v1) (k := 2) rfl (by decide), if_neg (Ne.symm X3), own_e2_2 (u := u) (b := (own_up (own_up (own_up (fun _ => (0 : Int32)) 1 (Int32.ofNat 1)) 2 (Int32.ofNat 2)) 3 (Int32.ofNat r3))) (x := v1) (k := 1) rfl (by decide), if_pos (Eq.symm X2)] at hr4; subst hr4; simp only [if_pos A01, if_pos A12, if_pos A02, if_neg X3, if_pos X2, if_neg X1, if_neg X0] at hv2; subst hv2; decide; done) | (exfalso; simp_all; done)
          · skip
            by_cases X1 : u 1 = v1
            · skip
              by_cases X0 : u 0 = v1
              · skip
                first | (rw [own_e0, if_pos (Eq.symm A01)] at hr1; subst hr1; rw [own_e1_3 (u := u) (b := (own_up (fun _ => (0 : Int32)) 1 (Int32.ofNat 1))) (x := (u 2)) rfl, if_pos (Eq.symm A12)] at hr2; subst hr2; rw [own_e3_3 (u := u) (b := (own_up (own_up (own_up (fun _ => (0 : Int32)) 1 (Int32.ofNat 1)) 2 (Int32.ofNat 2)) 3 (Int32.ofNat r3))) (x := v1) (k := 2) rfl (by decide), if_neg (Ne.symm X3), own_e2_2 (u := u) (b := (own_up (own_up (own_up (fun _ => (0 : Int32)) 1 (Int32.ofNat 1)) 2 (Int32.ofNat 2)) 3 (Int32.ofNat r3))) (x := v1) (k := 1) rfl (by decide), if_neg (Ne.symm X2), own_e1_1 (u := u) (b := (own_up (own_up (own_up (fun _ => (0 : Int32)) 1 (Int32.ofNat 1)) 2 (Int32.ofNat 2)) 3 (Int32.ofNat r3))) (x := v1) rfl, if_pos (Eq.symm X1)] at hr4; subst hr4; simp only [if_pos A01, if_pos A12, if_pos A02, if_neg X3, if_neg X2, if_pos X1, if_pos X0] at hv2; subst hv2; decide; done) | (exfalso; simp_all; done)
              · skip
                first | (rw [own_e0, if_pos (Eq.symm A01)] at hr1; subst hr1; rw [own_e1_3 (u := u) (b := (own_up (fun _ => (0 : Int32)) 1 (Int32.ofNat 1))) (x := (u 2)) rfl, if_pos (Eq.symm A12)] at hr2; subst hr2; rw [own_e3_3 (u := u) (b := (own_up (own_up (own_up (fun _ => (0 : Int32)) 1 (Int32.ofNat 1)) 2 (Int32.ofNat 2)) 3 (Int32.ofNat r3))) (x := v1) (k := 2) rfl (by decide), if_neg (Ne.symm X3), own_e2_2 (u := u) (b := (own_up (own_up (own_up (fun _ => (0 : Int32)) 1 (Int32.ofNat 1)) 2 (Int32.ofNat 2)) 3 (Int32.ofNat r3))) (x := v1) (k := 1) rfl (by decide), if_neg (Ne.symm X2), own_e1_1 (u := u) (b := (own_up (own_up (own_up (fun _ => (0 : Int32)) 1 (Int32.ofNat 1)) 2 (Int32.ofNat 2)) 3 (Int32.ofNat r3))) (x := v1) rfl, if_pos (Eq.symm X1)] at hr4; subst hr4; simp only [if_pos A01, if_pos A12, if_pos A02, if_neg X3, if_neg X2, if_pos X1, if_neg X0] at hv2; subst hv2; decide; done) | (exfalso; simp_all; done)
            · skip
              by_cases X0 : u 0 = v1
              · skip
                first | (rw [own_e0, if_pos (Eq.symm A01)] at hr1; subst hr1; rw [own_e1_3 (u := u) (b := (own_up (fun _ => (0 : Int32)) 1 (Int32.ofNat 1))) (x := (u 2)) rfl, if_pos (Eq.symm A12)] at hr2; subst hr2; rw [own_e3_3 (u := u) (b := (own_up (own_up (own_up (fun _ => (0 : Int32)) 1 (Int32.ofNat 1)) 2 (Int32.ofNat 2)) 3 (Int32.ofNat r3))) (x := v1) (k := 2) rfl (by decide), if_neg (Ne.symm X3), own_e2_2 (u := u) (b := (own_up (own_up (own_up (fun _ => (0 : Int32)) 1 (Int32.ofNat 1)) 2 (Int32.ofNat 2)) 3 (Int32.ofNat r3))) (x := v1) (k := 1) rfl (by decide), if_neg (Ne.symm X2), own_e1_1 (u := u) (b := (own_up (own_up (own_up (fun _ => (0 : Int32)) 1 (Int32.ofNat 1)) 2 (Int32.ofNat 2)) 3 (Int32.ofNat r3))) (x := v1) rfl, if_neg (Ne.symm X1), if_pos (Eq.symm X0)] at hr4; subst hr4; simp only [if_pos A01, if_pos A12, if_pos A02, if_neg X3, if_neg X2, if_neg X1, if_pos X0] at hv2; subst hv2; decide; done) | (exfalso; simp_all; done)
              · skip
                first | (rw [own_e0, if_pos (Eq.symm A01)] at hr1; subst hr1; rw [own_e1_3 (u := u) (b := (own_up (fun _ => (0 : Int32)) 1 (Int32.ofNat 1))) (x := (u 2)) rfl, if_pos (Eq.symm A12)] at hr2; subst hr2; rw [own_e3_3 (u := u) (b := (own_up (own_up (own_up (fun _ => (0 : Int32)) 1 (Int32.ofNat 1)) 2 (Int32.ofNat 2)) 3 (Int32.ofNat r3))) (x := v1) (k := 2) rfl (by decide), if_neg (Ne.symm X3), own_e2_2 (u := u) (b := (own_up (own_up (own_up (fun _ => (0 : Int32)) 1 (Int32.ofNat 1)) 2 (Int32.ofNat 2)) 3 (Int32.ofNat r3))) (x := v1) (k := 1) rfl (by decide), if_neg (Ne.symm X2), own_e1_1 (u := u) (b := (own_up (own_up (own_up (fun _ => (0 : Int32)) 1 (Int32.ofNat 1)) 2 (Int32.ofNat 2)) 3 (Int32.ofNat r3))) (x := v1) rfl, if_neg (Ne.symm X1), if_neg (Ne.symm X0)] at hr4; subst hr4; simp only [if_pos A01, if_pos A12, if_pos A02, if_neg X3, if_neg X2, if_neg X1, if_neg X0] at hv2; subst hv2; decide; done) | (exfalso; simp_all; done)
      · skip
        by_cases X3 : u 3 = v1
        · skip
          by_cases X2 : u 2 = v1
          · skip
            by_cases X1 : u 1 = v1
            · skip
              by_cases X0 : u 0 = v1
              · skip
                first | (rw [own_e0, if_pos (Eq.symm A01)] at hr1; subst hr1; rw [own_e1_3 (u := u) (b := (own_up (fun _ => (0 : Int32)) 1 (Int32.ofNat 1))) (x := (u 2)) rfl, if_pos (Eq.symm A12)] at hr2; subst hr2; rw [own_e3_3 (u := u) (b := (own_up (own_up (own_up (fun _ => (0 : Int32)) 1 (Int32.ofNat 1)) 2 (Int32.ofNat 2)) 3 (Int32.ofNat r3))) (x := v1) (k := 2) rfl (by decide), if_pos (Eq.symm X3)] at hr4; subst hr4; simp only [if_pos A01, if_pos A12, if_neg A02, if_pos X3, if_pos X2, if_pos X1, if_pos X0] at hv2; subst hv2; decide; done) | (exfalso; simp_all; done)
              · skip
                first | (rw [own_e0, if_pos (Eq.symm A01)] at hr1; subst hr1; rw [own_e1_3 (u := u) (b := (own_up (fun _ => (0 : Int32)) 1 (Int32.ofNat 1))) (x := (u 2)) rfl, if_pos (Eq.symm A12)] at hr2; subst hr2; rw [own_e3_3 (u := u) (b := (own_up (own_up (own_up (fun _ => (0 : Int32)) 1 (Int32.ofNat 1)) 2 (Int32.ofNat 2)) 3 (Int32.ofNat r3))) (x := v1) (k := 2) rfl (by decide), if_pos (Eq.symm X3)] at hr4; subst hr4; simp only [if_pos A01, if_pos A12, if_neg A02, if_pos X3, if_pos X2, if_pos X1, if_neg X0] at hv2; subst hv2; decide; done) | (exfalso; simp_all; done)
            · skip
              by_cases X0 : u 0 = v1
              · skip
                first | (rw [own_e0, if_pos (Eq.symm A01)] at hr1; subst hr1; rw [own_e1_3 (u := u) (b := (own_up (fun _ => (0 : Int32)) 1 (Int32.ofNat 1))) (x := (u 2)) rfl, if_pos (Eq.symm A12)] at hr2; subst hr2; rw [own_e3_3 (u := u) (b := (own_up (own_up (own_up (fun _ => (0 : Int32)) 1 (Int32.ofNat 1)) 2 (Int32.ofNat 2)) 3 (Int32.ofNat r3))) (x := v1) (k := 2) rfl (by decide), if_pos (Eq.symm X3)] at hr4; subst hr4; simp only [if_pos A01, if_pos A12, if_neg A02, if_pos X3, if_pos X2, if_neg X1, if_pos X0] at hv2; subst hv2; decide; done) | (exfalso; simp_all; done)
              · skip
                first | (rw [own_e0, if_pos (Eq.symm A01)] at hr1; subst hr1; rw [own_e1_3 (u := u) (b := (own_up (fun _ => (0 : Int32)) 1 (Int32.ofNat 1))) (x := (u 2)) rfl, if_pos (Eq.symm A12)] at hr2; subst hr2; rw [own_e3_3 (u := u) (b := (own_up (own_up (own_up (fun _ => (0 : Int32)) 1 (Int32.ofNat 1)) 2 (Int32.ofNat 2)) 3 (Int32.ofNat r3))) (x := v1) (k := 2) rfl (by decide), if_pos (Eq.symm X3)] at hr4; subst hr4; simp only [if_pos A01, if_pos A12, if_neg A02, if_pos X3, if_pos X2, if_neg X1, if_neg X0] at hv2; subst hv2; decide; done) | (exfalso; simp_all; done)
          · skip
            by_cases X1 : u 1 = v1
            · skip
              by_cases X0 : u 0 = v1
              · skip
                first | (rw [own_e0, if_pos (Eq.symm A01)] at hr1; subst hr1; rw [own_e1_3 (u := u) (b := (own_up (fun _ => (0 : Int32)) 1 (Int32.ofNat 1))) (x := (u 2)) rfl, if_pos (Eq.symm A12)] at hr2; subst hr2; rw [own_e3_3 (u := u) (b := (own_up (own_up (own_up (fun _ => (0 : Int32)) 1 (Int32.ofNat 1)) 2 (Int32.ofNat 2)) 3 (Int32.ofNat r3))) (x := v1) (k := 2) rfl (by decide), if_pos (Eq.symm X3)] at hr4; subst hr4; simp only [if_pos A01, if_pos A12, if_neg A02, if_pos X3, if_neg X2, if_pos X1, if_pos X0] at hv2; subst hv2; decide; done) | (exfalso; simp_all; done)
              · skip
                first | (rw [own_e0, if_pos (Eq.symm A01)] at hr1; subst hr1; rw [own_e1_3 (u := u) (b := (own_up (fun _ => (0 : Int32)) 1 (Int32.ofNat 1))) (x := (u 2)) rfl, if_pos (Eq.symm A12)] at hr2; subst hr2; rw [own_e3_3 (u := u) (b := (own_up (own_up (own_up (fun _ => (0 : Int32)) 1 (Int32.ofNat 1)) 2 (Int32.ofNat 2)) 3 (Int32.ofNat r3))) (x := v1) (k := 2) rfl (by decide), if_pos (Eq.symm X3)] at hr4; subst hr4; simp only [if_pos A01, if_pos A12, if_neg A02, if_pos X3, if_neg X2, if_pos X1, if_neg X0] at hv2; subst hv2; decide; done) | (exfalso; simp_all; done)
            · skip
              by_cases X0 : u 0 = v1
              · skip
                first | (rw [own_e0, if_pos (Eq.symm A01)] at hr1; subst hr1; rw [own_e1_3 (u := u) (b := (own_up (fun _ => (0 : Int32)) 1 (Int32.ofNat 1))) (x := (u 2)) rfl, if_pos (Eq.symm A12)] at hr2; subst hr2; rw [own_e3_3 (u := u) (b := (own_up (own_up (own_up (fun _ => (0 : Int32)) 1 (Int32.ofNat 1)) 2 (Int32.ofNat 2)) 3 (Int32.ofNat r3))) (x := v1) (k := 2) rfl (by decide), if_pos (Eq.symm X3)] at hr4; subst hr4; simp only [if_pos A01, if_pos A12, if_neg A02, if_pos X3, if_neg X2, if_neg X1, if_pos X0] at hv2; subst hv2; decide; done) | (exfalso; simp_all; done)
              · skip
                first | (rw [own_e0, if_pos (Eq.symm A01)] at hr1; subst hr1; rw [own_e1_3 (u := u) (b := (own_up (fun _ => (0 : Int32)) 1 (Int32.ofNat 1))) (x := (u 2)) rfl, if_pos (Eq.symm A12)] at hr2; subst hr2; rw [own_e3_3 (u := u) (b := (own_up (own_up (own_up (fun _ => (0 : Int32)) 1 (Int32.ofNat 1)) 2 (Int32.ofNat 2)) 3 (Int32.ofNat r3))) (x := v1) (k := 2) rfl (by decide), if_pos (Eq.symm X3)] at hr4; subst hr4; simp only [if_pos A01, if_pos A12, if_neg A02, if_pos X3, if_neg X2, if_neg X1, if_neg X0] at hv2; subst hv2; decide; done) | (exfalso; simp_all; done)
        · skip
          by_cases X2 : u 2 = v1
          · skip
            by_cases X1 : u 1 = v1
            · skip
              by_cases X0 : u 0 = v1
              · skip
                first | (rw [own_e0, if_pos (Eq.symm A01)] at hr1; subst hr1; rw [own_e1_3 (u := u) (b := (own_up (fun _ => (0 : Int32)) 1 (Int32.ofNat 1))) (x := (u 2)) rfl, if_pos (Eq.symm A12)] at hr2; subst hr2; rw [own_e3_3 (u := u) (b := (own_up (own_up (own_up (fun _ => (0 : Int32)) 1 (Int32.ofNat 1)) 2 (Int32.ofNat 2)) 3 (Int32.ofNat r3))) (x := v1) (k := 2) rfl (by decide), if_neg (Ne.symm X3), own_e2_2 (u := u) (b := (own_up (own_up (own_up (fun _ => (0 : Int32)) 1 (Int32.ofNat 1)) 2 (Int32.ofNat 2)) 3 (Int32.ofNat r3))) (x := v1) (k := 1) rfl (by decide), if_pos (Eq.symm X2)] at hr4; subst hr4; simp only [if_pos A01, if_pos A12, if_neg A02, if_neg X3, if_pos X2, if_pos X1, if_pos X0] at hv2; subst hv2; decide; done) | (exfalso; simp_all; done)
              · skip
                first | (rw [own_e0, if_pos (Eq.symm A01)] at hr1; subst hr1; rw [own_e1_3 (u := u) (b := (own_up (fun _ => (0 : Int32)) 1 (Int32.ofNat 1))) (x := (u 2)) rfl, if_pos (Eq.symm A12)] at hr2; subst hr2; rw [own_e3_3 (u := u) (b := (own_up (own_up (own_up (fun _ => (0 : Int32)) 1 (Int32.ofNat 1)) 2 (Int32.ofNat 2)) 3 (Int32.ofNat r3))) (x := v1) (k := 2) rfl (by decide), if_neg (Ne.symm X3), own_e2_2 (u := u) (b := (own_up (own_up (own_up (fun _ => (0 : Int32)) 1 (Int32.ofNat 1)) 2 (Int32.ofNat 2)) 3 (Int32.ofNat r3))) (x := v1) (k := 1) rfl (by decide), if_pos (Eq.symm X2)] at hr4; subst hr4; simp only [if_pos A01, if_pos A12, if_neg A02, if_neg X3, if_pos X2, if_pos X1, if_neg X0] at hv2; subst hv2; decide; done) | (exfalso; simp_all; done)
            · skip
              by_cases X0 : u 0 = v1
              · skip
                first | (rw [own_e0, if_pos (Eq.symm A01)] at hr1; subst hr1; rw [own_e1_3 (u := u) (b := (own_up (fun _ => (0 : Int32)) 1 (Int32.ofNat 1))) (x := (u 2)) rfl, if_pos (Eq.symm A12)] at hr2; subst hr2; rw [own_e3_3 (u := u) (b := (own_up (own_up (own_up (fun _ => (0 : Int32)) 1 (Int32.ofNat 1)) 2 (Int32.ofNat 2)) 3 (Int32.ofNat r3))) (x := v1) (k := 2) rfl (by decide), if_neg (Ne.symm X3), own_e2_2 (u := u) (b := (own_up (own_up (own_up (fun _ => (0 : Int32)) 1 (Int32.ofNat 1)) 2 (Int32.ofNat 2)) 3 (Int32.ofNat r3))) (x := v1) (k := 1) rfl (by decide), if_pos (Eq.symm X2)] at hr4; subst hr4; simp only [if_pos A01, if_pos A12, if_neg A02, if_neg X3, if_pos X2, if_neg X1, if_pos X0] at hv2; subst hv2; decide; done) | (exfalso; simp_all; done)
              · skip
                first | (rw [own_e0, if_pos (Eq.symm A01)] at hr1; subst hr1; rw [own_e1_3 (u := u) (b := (own_up (fun _ => (0 : Int32)) 1 (Int32.ofNat 1))) (x := (u 2)) rfl, if_pos (Eq.symm A12)] at hr2; subst hr2; rw [own_e3_3 (u := u) (b := (own_up (own_up (own_up (fun _ => (0 : Int32)) 1 (Int32.ofNat 1)) 2 (Int32.ofNat 2)) 3 (Int32.ofNat r3))) (x := v1) (k := 2) rfl (by decide), if_neg (Ne.symm X3), own_e2_2 (u := u) (b := (own_up (own_up (own_up (fun _ => (0 : Int32)) 1 (Int32.ofNat 1)) 2 (Int32.ofNat 2)) 3 (Int32.ofNat r3))) (x := v1) (k := 1) rfl (by decide), if_pos (Eq.symm X2)] at hr4; subst hr4; simp only [if_pos A01, if_pos A12, if_neg A02, if_neg X3, if_pos X2, if_neg X1, if_neg X0] at hv2; subst hv2; decide; done) | (exfalso; simp_all; done)
          · skip
            by_cases X1 : u 1 = v1
            · skip
              by_cases X0 : u 0 = v1
              · skip
                first | (rw [own_e0, if_pos (Eq.symm A01)] at hr1; subst hr1; rw [own_e1_3 (u := u) (b := (own_up (fun _ => (0 : Int32)) 1 (Int32.ofNat 1))) (x := (u 2)) rfl, if_pos (Eq.symm A12)] at hr2; subst hr2; rw [own_e3_3 (u := u) (b := (own_up (own_up (own_up (fun _ => (0 : Int32)) 1 (Int32.ofNat 1)) 2 (Int32.ofNat 2)) 3 (Int32.ofNat r3))) (x := v1) (k := 2) rfl (by decide), if_neg (Ne.symm X3), own_e2_2 (u := u) (b := (own_up (own_up (own_up (fun _ => (0 : Int32)) 1 (Int32.ofNat 1)) 2 (Int32.ofNat 2)) 3 (Int32.ofNat r3))) (x := v1) (k := 1) rfl (by decide), if_neg (Ne.symm X2), own_e1_1 (u := u) (b := (own_up (own_up (own_up (fun _ => (0 : Int32)) 1 (Int32.ofNat 1)) 2 (Int32.ofNat 2)) 3 (Int32.ofNat r3))) (x := v1) rfl, if_pos (Eq.symm X1)] at hr4; subst hr4; simp only [if_pos A01, if_pos A12, if_neg A02, if_neg X3, if_neg X2, if_pos X1, if_pos X0] at hv2; subst hv2; decide; done) | (exfalso; simp_all; done)
              · skip
                first | (rw [own_e0, if_pos (Eq.symm A01)] at hr1; subst hr1; rw [own_e1_3 (u := u) (b := (own_up (fun _ => (0 : Int32)) 1 (Int32.ofNat 1))) (x := (u 2)) rfl, if_pos (Eq.symm A12)] at hr2; subst hr2; rw [own_e3_3 (u := u) (b := (own_up (own_up (own_up (fun _ => (0 : Int32)) 1 (Int32.ofNat 1)) 2 (Int32.ofNat 2)) 3 (Int32.ofNat r3))) (x := v1) (k := 2) rfl (by decide), if_neg (Ne.symm X3), own_e2_2 (u := u) (b := (own_up (own_up (own_up (fun _ => (0 : Int32)) 1 (Int32.ofNat 1)) 2 (Int32.ofNat 2)) 3 (Int32.ofNat r3))) (x := v1) (k := 1) rfl (by decide), if_neg (Ne.symm X2), own_e1_1 (u := u) (b := (own_up (own_up (own_up (fun _ => (0 : Int32)) 1 (Int32.ofNat 1)) 2 (Int32.ofNat 2)) 3 (Int32.ofNat r3))) (x := v1) rfl, if_pos (Eq.symm X1)] at hr4; subst hr4; simp only [if_pos A01, if_pos A12, if_neg A02, if_neg X3, if_neg X2, if_pos X1, if_neg X0] at hv2; subst hv2; decide; done) | (exfalso; simp_all; done)
            · skip
              by_cases X0 : u 0 = v1
              · skip
                first | (rw [own_e0, if_pos (Eq.symm A01)] at hr1; subst hr1; rw [own_e1_3 (u := u) (b := (own_up (fun _ => (0 : Int32)) 1 (Int32.ofNat 1))) (x := (u 2)) rfl, if_pos (Eq.symm A12)] at hr2; subst hr2; rw [own_e3_3 (u := u) (b := (own_up (own_up (own_up (fun _ => (0 : Int32)) 1 (Int32.ofNat 1)) 2 (Int32.ofNat 2)) 3 (Int32.ofNat r3))) (x := v1) (k := 2) rfl (by decide), if_neg (Ne.symm X3), own_e2_2 (u := u) (b := (own_up (own_up (own_up (fun _ => (0 : Int32)) 1 (Int32.ofNat 1)) 2 (Int32.ofNat 2)) 3 (Int32.ofNat r3))) (x := v1) (k := 1) rfl (by decide), if_neg (Ne.symm X2), own_e1_1 (u := u) (b := (own_up (own_up (own_up (fun _ => (0 : Int32)) 1 (Int32.ofNat 1)) 2 (Int32.ofNat 2)) 3 (Int32.ofNat r3))) (x := v1) rfl, if_neg (Ne.symm X1), if_pos (Eq.symm X0)] at hr4; subst hr4; simp only [if_pos A01, if_pos A12, if_neg A02, if_neg X3, if_neg X2, if_neg X1, if_pos X0] at hv2; subst hv2; decide; done) | (exfalso; simp_all; done)
              · skip
                first | (rw [own_e0, if_pos (Eq.symm A01)] at hr1; subst hr1; rw [own_e1_3 (u := u) (b := (own_up (fun _ => (0 : Int32)) 1 (Int32.ofNat 1))) (x := (u 2)) rfl, if_pos (Eq.symm A12)] at hr2; subst hr2; rw [own_e3_3 (u := u) (b := (own_up (own_up (own_up (fun _ => (0 : Int32)) 1 (Int32.ofNat 1)) 2 (Int32.ofNat 2)) 3 (Int32.ofNat r3))) (x := v1) (k := 2) rfl (by decide), if_neg (Ne.symm X3), own_e2_2 (u := u) (b := (own_up (own_up (own_up (fun _ => (0 : Int32)) 1 (Int32.ofNat 1)) 2 (Int32.ofNat 2)) 3 (Int32.ofNat r3))) (x := v1) (k := 1) rfl (by decide), if_neg (Ne.symm X2), own_e1_1 (u := u) (b := (own_up (own_up (own_up (fun _ => (0 : Int32)) 1 (Int32.ofNat 1)) 2 (Int32.ofNat 2)) 3 (Int32.ofNat r3))) (x := v1) rfl, if_neg (Ne.symm X1), if_neg (Ne.symm X0)] at hr4; subst hr4; simp only [if_pos A01, if_pos A12, if_neg A02, if_neg X3, if_neg X2, if_neg X1, if_neg X0] at hv2; subst hv2; decide; done) | (exfalso; simp_all; done)
    · skip
      by_cases A02 : u 0 = u 2
      · skip
        by_cases X3 : u 3 = v1
        · skip
          by_cases X2 : u 2 = v1
          · skip
            by_cases X1 : u 1 = v1
            · skip
              by_cases X0 : u 0 = v1
              · skip
                first | (rw [own_e0, if_pos (Eq.symm A01)] at hr1; subst hr1; rw [own_e1_3 (u := u) (b := (own_up (fun _ => (0 : Int32)) 1 (Int32.ofNat 1))) (x := (u 2)) rfl, if_neg (Ne.symm A12), if_pos (Eq.symm A02)] at hr2; subst hr2; rw [own_e3_3 (u := u) (b := (own_up (own_up (own_up (fun _ => (0 : Int32)) 1 (Int32.ofNat 1)) 2 (Int32.ofNat 1)) 3 (Int32.ofNat r3))) (x := v1) (k := 1) rfl (by decide), if_pos (Eq.symm X3)] at hr4; subst hr4; simp only [if_pos A01, if_neg A12, if_pos A02, if_pos X3, if_pos X2, if_pos X1, if_pos X0] at hv2; subst hv2; decide; done) | (exfalso; simp_all; done)
              · skip
                first | (rw [own_e0, if_pos (Eq.symm A01)] at hr1; subst hr1; rw [own_e1_3 (u := u) (b := (own_up (fun _ => (0 : Int32)) 1 (Int32.ofNat 1))) (x := (u 2)) rfl, if_neg (Ne.symm A12), if_pos (Eq.symm A02)] at hr2; subst hr2; rw [own_e3_3 (u := u) (b := (own_up (own_up (own_up (fun _ => (0 : Int32)) 1 (Int32.ofNat 1)) 2 (Int32.ofNat 1)) 3 (Int32.ofNat r3))) (x := v1) (k := 1) rfl (by decide), if_pos (Eq.symm X3)] at hr4; subst hr4; simp only [if_pos A01, if_neg A12, if_pos A02, if_pos X3, if_pos X2, if_pos X1, if_neg X0] at hv2; subst hv2; decide; done) | (exfalso; simp_all; done)
            · skip
              by_cases X0 : u 0 = v1
              · skip
                first | (rw [own_e0, if_pos (Eq.symm A01)] at hr1; subst hr1; rw [own_e1_3 (u := u) (b := (own_up (fun _ => (0 : Int32)) 1 (Int32.ofNat 1))) (x := (u 2)) rfl, if_neg (Ne.symm A12), if_pos (Eq.symm A02)] at hr2; subst hr2; rw [own_e3_3 (u := u) (b := (own_up (own_up (own_up (fun _ => (0 : Int32)) 1 (Int32.ofNat 1)) 2 (Int32.ofNat 1)) 3 (Int32.ofNat r3))) (x := v1) (k := 1) rfl (by decide), if_pos (Eq.symm X3)] at hr4; subst hr4; simp only [if_pos A01, if_neg A12, if_pos A02, if_pos X3, if_pos X2, if_neg X1, if_pos X0] at hv2; subst hv2; decide; done) | (exfalso; simp_all; done)
              · skip
                first | (rw [own_e0, if_pos (Eq.symm A01)] at hr1; subst hr1; rw [own_e1_3 (u := u) (b := (own_up (fun _ => (0 : Int32)) 1 (Int32.ofNat 1))) (x := (u 2)) rfl, if_neg (Ne.symm A12), if_pos (Eq.symm A02)] at hr2; subst hr2; rw [own_e3_3 (u := u) (b := (own_up (own_up (own_up (fun _ => (0 : Int32)) 1 (Int32.ofNat 1)) 2 (Int32.ofNat 1)) 3 (Int32.ofNat r3))) (x := v1) (k := 1) rfl (by decide), if_pos (Eq.symm X3)] at hr4; subst hr4; simp only [if_pos A01, if_neg A12, if_pos A02, if_pos X3, if_pos X2, if_neg X1, if_neg X0] at hv2; subst hv2; decide; done) | (exfalso; simp_all; done)
          · skip
            by_cases X1 : u 1 = v1
            · skip
              by_cases X0 : u 0 = v1
              · skip
                first | (rw [own_e0, if_pos (Eq.symm A01)] at hr1; subst hr1; rw [own_e1_3 (u := u) (b := (own_up (fun _ => (0 : Int32)) 1 (Int32.ofNat 1))) (x := (u 2)) rfl, if_neg (Ne.symm A12), if_pos (Eq.symm A02)] at hr2; subst hr2; rw [own_e3_3 (u := u) (b := (own_up (own_up (own_up (fun _ => (0 : Int32)) 1 (Int32.ofNat 1)) 2 (Int32.ofNat 1)) 3 (Int32.ofNat r3))) (x := v1) (k := 1) rfl (by decide), if_pos (Eq.symm X3)] at hr4; subst hr4; simp only [if_pos A01, if_neg A12, if_pos A02, if_pos X3, if_neg X2, if_pos X1, if_pos X0] at hv2; subst hv2; decide; done) | (exfalso; simp_all; done)
              · skip
                first | (rw [own_e0, if_pos (Eq.symm A01)] at hr1; subst hr1; rw [own_e1_3 (u := u) (b := (own_up (fun _ => (0 : Int32)) 1 (Int32.ofNat 1))) (x := (u 2)) rfl, if_neg (Ne.symm A12), if_pos (Eq.symm A02)] at hr2; subst hr2; rw [own_e3_3 (u := u) (b := (own_up (own_up (own_up (fun _ => (0 : Int32)) 1 (Int32.ofNat 1)) 2 (Int32.ofNat 1)) 3 (Int32.ofNat r3))) (x := v1) (k := 1) rfl (by decide), if_pos (Eq.symm X3)] at hr4; subst hr4; simp only [if_pos A01, if_neg A12, if_pos A02, if_pos X3, if_neg X2, if_pos X1, if_neg X0] at hv2; subst hv2; decide; done) | (exfalso; simp_all; done)
            · skip
              by_cases X0 : u 0 = v1
              · skip
                first | (rw [own_e0, if_pos (Eq.symm A01)] at hr1; subst hr1; rw [own_e1_3 (u := u) (b := (own_up (fun _ => (0 : Int32)) 1 (Int32.ofNat 1))) (x := (u 2)) rfl, if_neg (Ne.symm A12), if_pos (Eq.symm A02)] at hr2; subst hr2; rw [own_e3_3 (u := u) (b := (own_up (own_up (own_up (fun _ => (0 : Int32)) 1 (Int32.ofNat 1)) 2 (Int32.ofNat 1)) 3 (Int32.ofNat r3))) (x := v1) (k := 1) rfl (by decide), if_pos (Eq.symm X3)] at hr4; subst hr4; simp only [if_pos A01, if_neg A12, if_pos A02, if_pos X3, if_neg X2, if_neg X1, if_pos X0] at hv2; subst hv2; decide; done) | (exfalso; simp_all; done)
              · skip
                first | (rw [own_e0, if_pos (Eq.symm A01)] at hr1; subst hr1; rw [own_e1_3 (u := u) (b := (own_up (fun _ => (0 : Int32)) 1 (Int32.ofNat 1))) (x := (u 2)) rfl, if_neg (Ne.symm A12), if_pos (Eq.symm A02)] at hr2; subst hr2; rw [own_e3_3 (u := u) (b := (own_up (own_up (own_up (fun _ => (0 : Int32)) 1 (Int32.ofNat 1)) 2 (Int32.ofNat 1)) 3 (Int32.ofNat r3))) (x := v1) (k := 1) rfl (by decide), if_pos (Eq.symm X3)] at hr4; subst hr4; simp only [if_pos A01, if_neg A12, if_pos A02, if_pos X3, if_neg X2, if_neg X1, if_neg X0] at hv2; subst hv2; decide; done) | (exfalso; simp_all; done)
        · skip
          by_cases X2 : u 2 = v1
          · skip
            by_cases X1 : u 1 = v1
            · skip
              by_cases X0 : u 0 = v1
              · skip
                first | (rw [own_e0, if_pos (Eq.symm A01)] at hr1; subst hr1; rw [own_e1_3 (u := u) (b := (own_up (fun _ => (0 : Int32)) 1 (Int32.ofNat 1))) (x := (u 2)) rfl, if_neg (Ne.symm A12), if_pos (Eq.symm A02)] at hr2; subst hr2; rw [own_e3_3 (u := u) (b := (own_up (own_up (own_up (fun _ => (0 : Int32)) 1 (Int32.ofNat 1)) 2 (Int32.ofNat 1)) 3 (Int32.ofNat r3))) (x := v1) (k := 1) rfl (by decide), if_neg (Ne.symm X3), own_e1_2 (u := u) (b := (own_up (own_up (own_up (fun _ => (0 : Int32)) 1 (Int32.ofNat 1)) 2 (Int32.ofNat 1)) 3 (Int32.ofNat r3))) (x := v1) rfl, if_pos (Eq.symm X1)] at hr4; subst hr4; simp only [if_pos A01, if_neg A12, if_pos A02, if_neg X3, if_pos X2, if_pos X1, if_pos X0] at hv2; subst hv2; decide; done) | (exfalso; simp_all; done)
              · skip
                first | (rw [own_e0, if_pos (Eq.symm A01)] at hr1; subst hr1; rw [own_e1_3 (u := u) (b := (own_up (fun _ => (0 : Int32)) 1 (Int32.ofNat 1))) (x := (u 2)) rfl, if_neg (Ne.symm A12), if_pos (Eq.symm A02)] at hr2; subst hr2; rw [own_e3_3 (u := u) (b := (own_up (own_up (own_up (fun _ => (0 : Int32)) 1 (Int32.ofNat 1)) 2 (Int32.ofNat 1)) 3 (Int32.ofNat r3))) (x := v1) (k := 1) rfl (by decide), if_neg (Ne.symm X3), own_e1_2 (u := u) (b := (own_up (own_up (own_up (fun _ => (0 : Int32)) 1 (Int32.ofNat 1)) 2 (Int32.ofNat 1)) 3 (Int32.ofNat r3))) (x := v1) rfl, if_pos (Eq.symm X1)] at hr4; subst hr4; simp only [if_pos A01, if_neg A12, if_pos A02, if_neg X3, if_pos X2, if_pos X1, if_neg X0] at hv2; subst hv2; decide; done) | (exfalso; simp_all; done)
            · skip
              by_cases X0 : u 0 = v1
              · skip
                first | (rw [own_e0, if_pos (Eq.symm A01)] at hr1; subst hr1; rw [own_e1_3 (u := u) (b := (own_up (fun _ => (0 : Int32)) 1 (Int32.ofNat 1))) (x := (u 2)) rfl, if_neg (Ne.symm A12), if_pos (Eq.symm A02)] at hr2; subst hr2; rw [own_e3_3 (u := u) (b := (own_up (own_up (own_up (fun _ => (0 : Int32)) 1 (Int32.ofNat 1)) 2 (Int32.ofNat 1)) 3 (Int32.ofNat r3))) (x := v1) (k := 1) rfl (by decide), if_neg (Ne.symm X3), own_e1_2 (u := u) (b := (own_up (own_up (own_up (fun _ => (0 : Int32)) 1 (Int32.ofNat 1)) 2 (Int32.ofNat 1)) 3 (Int32.ofNat r3))) (x := v1) rfl, if_neg (Ne.symm X1), if_pos (Eq.symm X0)] at hr4; subst hr4; simp only [if_pos A01, if_neg A12, if_pos A02, if_neg X3, if_pos X2, if_neg X1, if_pos X0] at hv2; subst hv2; decide; done) | (exfalso; simp_all; done)
              · skip
                first | (rw [own_e0, if_pos (Eq.symm A01)] at hr1; subst hr1; rw [own_e1_3 (u := u) (b := (own_up (fun _ => (0 : Int32)) 1 (Int32.ofNat 1))) (x := (u 2)) rfl, if_neg (Ne.symm A12), if_pos (Eq.symm A02)] at hr2; subst hr2; rw [own_e3_3 (u := u) (b := (own_up (own_up (own_up (fun _ => (0 : Int32)) 1 (Int32.ofNat 1)) 2 (Int32.ofNat 1)) 3 (Int32.ofNat r3))) (x := v1) (k := 1) rfl (by decide), if_neg (Ne.symm X3), own_e1_2 (u := u) (b := (own_up (own_up (own_up (fun _ => (0 : Int32)) 1 (Int32.ofNat 1)) 2 (Int32.ofNat 1)) 3 (Int32.ofNat r3))) (x := v1) rfl, if_neg (Ne.symm X1), if_neg (Ne.symm X0)] at hr4; subst hr4; simp only [if_pos A01, if_neg A12, if_pos A02, if_neg X3, if_pos X2, if_neg X1, if_neg X0] at hv2; subst hv2; decide; done) | (exfalso; simp_all; done)
          · skip
            by_cases X1 : u 1 = v1
            · skip
              by_cases X0 : u 0 = v1
              · skip
                first | (rw [own_e0, if_pos (Eq.symm A01)] at hr1; subst hr1; rw [own_e1_3 (u := u) (b := (own_up (fun _ => (0 : Int32)) 1 (Int32.ofNat 1))) (x := (u 2)) rfl, if_neg (Ne.symm A12), if_pos (Eq.symm A02)] at hr2; subst hr2; rw [own_e3_3 (u := u) (b := (own_up (own_up (own_up (fun _ => (0 : Int32)) 1 (Int32.ofNat 1)) 2 (Int32.ofNat 1)) 3 (Int32.ofNat r3))) (x := v1) (k := 1) rfl (by decide), if_neg (Ne.symm X3), own_e1_2 (u := u) (b := (own_up (own_up (own_up (fun _ => (0 : Int32)) 1 (Int32.ofNat 1)) 2 (Int32.ofNat 1)) 3 (Int32.ofNat r3))) (x := v1) rfl, if_pos (Eq.symm X1)] at hr4; subst hr4; simp only [if_pos A01, if_neg A12, if_pos A02, if_neg X3, if_neg X2, if_pos X1, if_pos X0] at hv2; subst hv2; decide; done) | (exfalso; simp_all; done)
              · skip
                first | (rw [own_e0, if_pos (Eq.symm A01)] at hr1; subst hr1; rw [own_e1_3 (u := u) (b := (own_up (fun _ => (0 : Int32)) 1 (Int32.ofNat 1))) (x := (u 2)) rfl, if_neg (Ne.symm A12), if_pos (Eq.symm A02)] at hr2; subst hr2; rw [own_e3_3 (u := u) (b := (own_up (own_up (own_up (fun _ => (0 : Int32)) 1 (Int32.ofNat 1)) 2 (Int32.ofNat 1)) 3 (Int32.ofNat r3))) (x := v1) (k := 1) rfl (by decide), if_neg (Ne.symm X3), own_e1_2 (u := u) (b := (own_up (own_up (own_up (fun _ => (0 : Int32)) 1 (Int32.ofNat 1)) 2 (Int32.ofNat 1)) 3 (Int32.ofNat r3))) (x := v1) rfl, if_pos (Eq.symm X1)] at hr4; subst hr4; simp only [if_pos A01, if_neg A12, if_pos A02, if_neg X3, if_neg X2, if_pos X1, if_neg X0] at hv2; subst hv2; decide; done) | (exfalso; simp_all; done)
            · skip
              by_cases X0 : u 0 = v1
              · skip
                first | (rw [own_e0, if_pos (Eq.symm A01)] at hr1; subst hr1; rw [own_e1_3 (u := u) (b := (own_up (fun _ => (0 : Int32)) 1 (Int32.ofNat 1))) (x := (u 2)) rfl, if_neg (Ne.symm A12), if_pos (Eq.symm A02)] at hr2; subst hr2; rw [own_e3_3 (u := u) (b := (own_up (own_up (own_up (fun _ => (0 : Int32)) 1 (Int32.ofNat 1)) 2 (Int32.ofNat 1)) 3 (Int32.ofNat r3))) (x := v1) (k := 1) rfl (by decide), if_neg (Ne.symm X3), own_e1_2 (u := u) (b := (own_up (own_up (own_up (fun _ => (0 : Int32)) 1 (Int32.ofNat 1)) 2 (Int32.ofNat 1)) 3 (Int32.ofNat r3))) (x := v1) rfl, if_neg (Ne.symm X1), if_pos (Eq.symm X0)] at hr4; subst hr4; simp only [if_pos A01, if_neg A12, if_pos A02, if_neg X3, if_neg X2, if_neg X1, if_pos X0] at hv2; subst hv2; decide; done) | (exfalso; simp_all; done)
              · skip
                first | (rw [own_e0, if_pos (Eq.symm A01)] at hr1; subst hr1; rw [own_e1_3 (u := u) (b := (own_up (fun _ => (0 : Int32)) 1 (Int32.ofNat 1))) (x := (u 2)) rfl, if_neg (Ne.symm A12), if_pos (Eq.symm A02)] at hr2; subst hr2; rw [own_e3_3 (u := u) (b := (own_up (own_up (own_up (fun _ => (0 : Int32)) 1 (Int32.ofNat 1)) 2 (Int32.ofNat 1)) 3 (Int32.ofNat r3))) (x := v1) (k := 1) rfl (by decide), if_neg (Ne.symm X3), own_e1_2 (u := u) (b := (own_up (own_up (own_up (fun _ => (0 : Int32)) 1 (Int32.ofNat 1)) 2 (Int32.ofNat 1)) 3 (Int32.ofNat r3))) (x := v1) rfl, if_neg (Ne.symm X1), if_neg (Ne.symm X0)] at hr4; subst hr4; simp only [if_pos A01, if_neg A12, if_pos A02, if_neg X3, if_neg X2, if_neg X1, if_neg X0] at hv2; subst hv2; decide; done) | (exfalso; simp_all; done)
      · skip
        by_cases X3 : u 3 = v1
        · skip
          by_cases X2 : u 2 = v1
          · skip
            by_cases X1 : u 1 = v1
            · skip
              by_cases X0 : u 0 = v1
              · skip
                first | (rw [own_e0, if_pos (Eq.symm A01)] at hr1; subst hr1; rw [own_e1_3 (u := u) (b := (own_up (fun _ => (0 : Int32)) 1 (Int32.ofNat 1))) (x := (u 2)) rfl, if_neg (Ne.symm A12), if_neg (Ne.symm A02)] at hr2; subst hr2; rw [own_e3_3 (u := u) (b := (own_up (own_up (own_up (fun _ => (0 : Int32)) 1 (Int32.ofNat 1)) 2 (Int32.ofNat 0)) 3 (Int32.ofNat r3))) (x := v1) (k := 0) rfl (by decide), if_pos (Eq.symm X3)] at hr4; subst hr4; simp only [if_pos A01, if_neg A12, if_neg A02, if_pos X3, if_pos X2, if_pos X1, if_pos X0] at hv2; subst hv2; decide; done) | (exfalso; simp_all; done)
              · skip
                first | (rw [own_e0, if_pos (Eq.symm A01)] at hr1; subst hr1; rw [own_e1_3 (u := u) (b := (own_up (fun _ => (0 : Int32)) 1 (Int32.ofNat 1))) (x := (u 2)) rfl, if_neg (Ne.symm A12), if_neg (Ne.symm A02)] at hr2; subst hr2; rw [own_e3_3 (u := u) (b := (own_up (own_up (own_up (fun _ => (0 : Int32)) 1 (Int32.ofNat 1)) 2 (Int32.ofNat 0)) 3 (Int32.ofNat r3))) (x := v1) (k := 0) rfl (by decide), if_pos (Eq.symm X3)] at hr4; subst hr4; simp only [if_pos A01, if_neg A12, if_neg A02, if_pos X3, if_pos X2, if_pos X1, if_neg X0] at hv2; subst hv2; decide; done) | (exfalso; simp_all; done)
            · skip
              by_cases X0 : u 0 = v1
              · skip
                first | (rw [own_e0, if_pos (Eq.symm A01)] at hr1; subst hr1; rw [own_e1_3 (u := u) (b := (own_up (fun _ => (0 : Int32)) 1 (Int32.ofNat 1))) (x := (u 2)) rfl, if_neg (Ne.symm A12), if_neg (Ne.symm A02)] at hr2; subst hr2; rw [own_e3_3 (u := u) (b := (own_up (own_up (own_up (fun _ => (0 : Int32)) 1 (Int32.ofNat 1)) 2 (Int32.ofNat 0)) 3 (Int32.ofNat r3))) (x := v1) (k := 0) rfl (by decide), if_pos (Eq.symm X3)] at hr4; subst hr4; simp only [if_pos A01, if_neg A12, if_neg A02, if_pos X3, if_pos X2, if_neg X1, if_pos X0] at hv2; subst hv2; decide; done) | (exfalso; simp_all; done)
              · skip
                first | (rw [own_e0, if_pos (Eq.symm A01)] at hr1; subst hr1; rw [own_e1_3 (u := u) (b := (own_up (fun _ => (0 : Int32)) 1 (Int32.ofNat 1))) (x := (u 2)) rfl, if_neg (Ne.symm A12), if_neg (Ne.symm A02)] at hr2; subst hr2; rw [own_e3_3 (u := u) (b := (own_up (own_up (own_up (fun _ => (0 : Int32)) 1 (Int32.ofNat 1)) 2 (Int32.ofNat 0)) 3 (Int32.ofNat r3))) (x := v1) (k := 0) rfl (by decide), if_pos (Eq.symm X3)] at hr4; subst hr4; simp only [if_pos A01, if_neg A12, if_neg A02, if_pos X3, if_pos X2, if_neg X1, if_neg X0] at hv2; subst hv2; decide; done) | (exfalso; simp_all; done)
          · skip
            by_cases X1 : u 1 = v1
            · skip
              by_cases X0 : u 0 = v1
              · skip
                first | (rw [own_e0, if_pos (Eq.symm A01)] at hr1; subst hr1; rw [own_e1_3 (u := u) (b := (own_up (fun _ => (0 : Int32)) 1 (Int32.ofNat 1))) (x := (u 2)) rfl, if_neg (Ne.symm A12), if_neg (Ne.symm A02)] at hr2; subst hr2; rw [own_e3_3 (u := u) (b := (own_up (own_up (own_up (fun _ => (0 : Int32)) 1 (Int32.ofNat 1)) 2 (Int32.ofNat 0)) 3 (Int32.ofNat r3))) (x := v1) (k := 0) rfl (by decide), if_pos (Eq.symm X3)] at hr4; subst hr4; simp only [if_pos A01, if_neg A12, if_neg A02, if_pos X3, if_neg X2, if_pos X1, if_pos X0] at hv2; subst hv2; decide; done) | (exfalso; simp_all; done)
              · skip
                first | (rw [own_e0, if_pos (Eq.symm A01)] at hr1; subst hr1; rw [own_e1_3 (u := u) (b := (own_up (fun _ => (0 : Int32)) 1 (Int32.ofNat 1))) (x := (u 2)) rfl, if_neg (Ne.symm A12), if_neg (Ne.symm A02)] at hr2; subst hr2; rw [own_e3_3 (u := u) (b := (own_up (own_up (own_up (fun _ => (0 : Int32)) 1 (Int32.ofNat 1)) 2 (Int32.ofNat 0)) 3 (Int32.ofNat r3))) (x := v1) (k := 0) rfl (by decide), if_pos (Eq.symm X3)] at hr4; subst hr4; simp only [if_pos A01, if_neg A12, if_neg A02, if_pos X3, if_neg X2, if_pos X1, if_neg X0] at hv2; subst hv2; decide; done) | (exfalso; simp_all; done)
            · skip
              by_cases X0 : u 0 = v1
              · skip
                first | (rw [own_e0, if_pos (Eq.symm A01)] at hr1; subst hr1; rw [own_e1_3 (u := u) (b := (own_up (fun _ => (0 : Int32)) 1 (Int32.ofNat 1))) (x := (u 2)) rfl, if_neg (Ne.symm A12), if_neg (Ne.symm A02)] at hr2; subst hr2; rw [own_e3_3 (u := u) (b := (own_up (own_up (own_up (fun _ => (0 : Int32)) 1 (Int32.ofNat 1)) 2 (Int32.ofNat 0)) 3 (Int32.ofNat r3))) (x := v1) (k := 0) rfl (by decide), if_pos (Eq.symm X3)] at hr4; subst hr4; simp only [if_pos A01, if_neg A12, if_neg A02, if_pos X3, if_neg X2, if_neg X1, if_pos X0] at hv2; subst hv2; decide; done) | (exfalso; simp_all; done)
              · skip
                first | (rw [own_e0, if_pos (Eq.symm A01)] at hr1; subst hr1; rw [own_e1_3 (u := u) (b := (own_up (fun _ => (0 : Int32)) 1 (Int32.ofNat 1))) (x := (u 2)) rfl, if_neg (Ne.symm A12), if_neg (Ne.symm A02)] at hr2; subst hr2; rw [own_e3_3 (u := u) (b := (own_up (own_up (own_up (fun _ => (0 : Int32)) 1 (Int32.ofNat 1)) 2 (Int32.ofNat 0)) 3 (Int32.ofNat r3))) (x := v1) (k := 0) rfl (by decide), if_pos (Eq.symm X3)] at hr4; subst hr4; simp only [if_pos A01, if_neg A12, if_neg A02, if_pos X3, if_neg X2, if_neg X1, if_neg X0] at hv2; subst hv2; decide; done) | (exfalso; simp_all; done)
        · skip
          by_cases X2 : u 2 = v1
          · skip
            by_cases X1 : u 1 = v1
            · skip
              by_cases X0 : u 0 = v1
              · skip
                first | (rw [own_e0, if_pos (Eq.symm A01)] at hr1; subst hr1; rw [own_e1_3 (u := u) (b := (own_up (fun _ => (0 : Int32)) 1 (Int32.ofNat 1))) (x := (u 2)) rfl, if_neg (Ne.symm A12), if_neg (Ne.symm A02)] at hr2; subst hr2; rw [own_e3_3 (u := u) (b := (own_up (own_up (own_up (fun _ => (0 : Int32)) 1 (Int32.ofNat 1)) 2 (Int32.ofNat 0)) 3 (Int32.ofNat r3))) (x := v1) (k := 0) rfl (by decide), if_neg (Ne.symm X3), own_e0, if_pos (Eq.symm X0)] at hr4; subst hr4; simp only [if_pos A01, if_neg A12, if_neg A02, if_neg X3, if_pos X2, if_pos X1, if_pos X0] at hv2; subst hv2; decide; done) | (exfalso; simp_all; done)
              · skip
                first | (rw [own_e0, if_pos (Eq.symm A01)] at hr1; subst hr1; rw [own_e1_3 (u := u) (b := (own_up (fun _ => (0 : Int32)) 1 (Int32.ofNat 1))) (x := (u 2)) rfl, if_neg (Ne.symm A12), if_neg (Ne.symm A02)] at hr2; subst hr2; rw [own_e3_3 (u := u) (b := (own_up (own_up (own_up (fun _ => (0 : Int32)) 1 (Int32.ofNat 1)) 2 (Int32.ofNat 0)) 3 (Int32.ofNat r3))) (x := v1) (k := 0) rfl (by decide), if_neg (Ne.symm X3), own_e0, if_neg (Ne.symm X0)] at hr4; subst hr4; simp only [if_pos A01, if_neg A12, if_neg A02, if_neg X3, if_pos X2, if_pos X1, if_neg X0] at hv2; subst hv2; decide; done) | (exfalso; simp_all; done)
            · skip
              by_cases X0 : u 0 = v1
              · skip
                first | (rw [own_e0, if_pos (Eq.symm A01)] at hr1; subst hr1; rw [own_e1_3 (u := u) (b := (own_up (fun _ => (0 : Int32)) 1 (Int32.ofNat 1))) (x := (u 2)) rfl, if_neg (Ne.symm A12), if_neg (Ne.symm A02)] at hr2; subst hr2; rw [own_e3_3 (u := u) (b := (own_up (own_up (own_up (fun _ => (0 : Int32)) 1 (Int32.ofNat 1)) 2 (Int32.ofNat 0)) 3 (Int32.ofNat r3))) (x := v1) (k := 0) rfl (by decide), if_neg (Ne.symm X3), own_e0, if_pos (Eq.symm X0)] at hr4; subst hr4; simp only [if_pos A01, if_neg A12, if_neg A02, if_neg X3, if_pos X2, if_neg X1, if_pos X0] at hv2; subst hv2; decide; done) | (exfalso; simp_all; done)
              · skip
                first | (rw [own_e0, if_pos (Eq.symm A01)] at hr1; subst hr1; rw [own_e1_3 (u := u) (b := (own_up (fun _ => (0 : Int32)) 1 (Int32.ofNat 1))) (x := (u 2)) rfl, if_neg (Ne.symm A12), if_neg (Ne.symm A02)] at hr2; subst hr2; rw [own_e3_3 (u := u) (b := (own_up (own_up (own_up (fun _ => (0 : Int32)) 1 (Int32.ofNat 1)) 2 (Int32.ofNat 0)) 3 (Int32.ofNat r3))) (x := v1) (k := 0) rfl (by decide), if_neg (Ne.symm X3), own_e0, if_neg (Ne.symm X0)] at hr4; subst hr4; simp only [if_pos A01, if_neg A12, if_neg A02, if_neg X3, if_pos X2, if_neg X1, if_neg X0] at hv2; subst hv2; decide; done) | (exfalso; simp_all; done)
          · skip
            by_cases X1 : u 1 = v1
            · skip
              by_cases X0 : u 0 = v1
              · skip
                first | (rw [own_e0, if_pos (Eq.symm A01)] at hr1; subst hr1; rw [own_e1_3 (u := u) (b := (own_up (fun _ => (0 : Int32)) 1 (Int32.ofNat 1))) (x := (u 2)) rfl, if_neg (Ne.symm A12), if_neg (Ne.symm A02)] at hr2; subst hr2; rw [own_e3_3 (u := u) (b := (own_up (own_up (own_up (fun _ => (0 : Int32)) 1 (Int32.ofNat 1)) 2 (Int32.ofNat 0)) 3 (Int32.ofNat r3))) (x := v1) (k := 0) rfl (by decide), if_neg (Ne.symm X3), own_e0, if_pos (Eq.symm X0)] at hr4; subst hr4; simp only [if_pos A01, if_neg A12, if_neg A02, if_neg X3, if_neg X2, if_pos X1, if_pos X0] at hv2; subst hv2; decide; done) | (exfalso; simp_all; done)
              · skip
                first | (rw [own_e0, if_pos (Eq.symm A01)] at hr1; subst hr1; rw [own_e1_3 (u := u) (b := (own_up (fun _ => (0 : Int32)) 1 (Int32.ofNat 1))) (x := (u 2)) rfl, if_neg (Ne.symm A12), if_neg (Ne.symm A02)] at hr2; subst hr2; rw [own_e3_3 (u := u) (b := (own_up (own_up (own_up (fun _ => (0 : Int32)) 1 (Int32.ofNat 1)) 2 (Int32.ofNat 0)) 3 (Int32.ofNat r3))) (x := v1) (k := 0) rfl (by decide), if_neg (Ne.symm X3), own_e0, if_neg (Ne.symm X0)] at hr4; subst hr4; simp only [if_pos A01, if_neg A12, if_neg A02, if_neg X3, if_neg X2, if_pos X1, if_neg X0] at hv2; subst hv2; decide; done) | (exfalso; simp_all; done)
            · skip
              by_cases X0 : u 0 = v1
              · skip
                first | (rw [own_e0, if_pos (Eq.symm A01)] at hr1; subst hr1; rw [own_e1_3 (u := u) (b := (own_up (fun _ => (0 : Int32)) 1 (Int32.ofNat 1))) (x := (u 2)) rfl, if_neg (Ne.symm A12), if_neg (Ne.symm A02)] at hr2; subst hr2; rw [own_e3_3 (u := u) (b := (own_up (own_up (own_up (fun _ => (0 : Int32)) 1 (Int32.ofNat 1)) 2 (Int32.ofNat 0)) 3 (Int32.ofNat r3))) (x := v1) (k := 0) rfl (by decide), if_neg (Ne.symm X3), own_e0, if_pos (Eq.symm X0)] at hr4; subst hr4; simp only [if_pos A01, if_neg A12, if_neg A02, if_neg X3, if_neg X2, if_neg X1, if_pos X0] at hv2; subst hv2; decide; done) | (exfalso; simp_all; done)
              · skip
                first | (rw [own_e0, if_pos (Eq.symm A01)] at hr1; subst hr1; rw [own_e1_3 (u := u) (b := (own_up (fun _ => (0 : Int32)) 1 (Int32.ofNat 1))) (x := (u 2)) rfl, if_neg (Ne.symm A12), if_neg (Ne.symm A02)] at hr2; subst hr2; rw [own_e3_3 (u := u) (b := (own_up (own_up (own_up (fun _ => (0 : Int32)) 1 (Int32.ofNat 1)) 2 (Int32.ofNat 0)) 3 (Int32.ofNat r3))) (x := v1) (k := 0) rfl (by decide), if_neg (Ne.symm X3), own_e0, if_neg (Ne.symm X0)] at hr4; subst hr4; simp only [if_pos A01, if_neg A12, if_neg A02, if_neg X3, if_neg X2, if_neg X1, if_neg X0] at hv2; subst hv2; decide; done) | (exfalso; simp_all; done)
  · skip
    by_cases A12 : u 1 = u 2
    · skip
      by_cases A02 : u 0 = u 2
      · skip
        by_cases X3 : u 3 = v1
        · skip
          by_cases X2 : u 2 = v1
          · skip
            by_cases X1 : u 1 = v1
            · skip
              by_cases X0 : u 0 = v1
              · skip
                first | (rw [own_e0, if_neg (Ne.symm A01)] at hr1; subst hr1; rw [own_e0, if_pos (Eq.symm A02)] at hr2; subst hr2; rw [own_e3_3 (u := u) (b := (own_up (own_up (own_up (fun _ => (0 : Int32)) 1 (Int32.ofNat 0)) 2 (Int32.ofNat 1)) 3 (Int32.ofNat r3))) (x := v1) (k := 1) rfl (by decide), if_pos (Eq.symm X3)] at hr4; subst hr4; simp only [if_neg A01, if_pos A12, if_pos A02, if_pos X3, if_pos X2, if_pos X1, if_pos X0] at hv2; subst hv2; decide; done) | (exfalso; simp_all; done)
              · skip
                first | (rw [own_e0, if_neg (Ne.symm A01)] at hr1; subst hr1; rw [own_e0, if_pos (Eq.symm A02)] at hr2; subst hr2; rw [own_e3_3 (u := u) (b := (own_up (own_up (own_up (fun _ => (0 : Int32)) 1 (Int32.ofNat 0)) 2 (Int32.ofNat 1)) 3 (Int32.ofNat r3))) (x := v1) (k := 1) rfl (by decide), if_pos (Eq.symm X3)] at hr4; subst hr4; simp only [if_neg A01, if_pos A12, if_pos A02, if_pos X3, if_pos X2, if_pos X1, if_neg X0] at hv2; subst hv2; decide; done) | (exfalso; simp_all; done)
            · skip
              by_cases X0 : u 0 = v1
              · skip
                first | (rw [own_e0, if_neg (Ne.symm A01)] at hr1; subst hr1; rw [own_e0, if_pos (Eq.symm A02)] at hr2; subst hr2; rw [own_e3_3 (u := u) (b := (own_up (own_up (own_up (fun _ => (0 : Int32)) 1 (Int32.ofNat 0)) 2 (Int32.ofNat 1)) 3 (Int32.ofNat r3))) (x := v1) (k := 1) rfl (by decide), if_pos (Eq.symm X3)] at hr4; subst hr4; simp only [if_neg A01, if_pos A12, if_pos A02, if_pos X3, if_pos X2, if_neg X1, if_pos X0] at hv2; subst hv2; decide; done) | (exfalso; simp_all; done)
              · skip
                first | (rw [own_e0, if_neg (Ne.symm A01)] at hr1; subst hr1; rw [own_e0, if_pos (Eq.symm A02)] at hr2; subst hr2; rw [own_e3_3 (u := u) (b := (own_up (own_up (own_up (fun _ => (0 : Int32)) 1 (Int32.ofNat 0)) 2 (Int32.ofNat 1)) 3 (Int32.ofNat r3))) (x := v1) (k := 1) rfl (by decide), if_pos (Eq.symm X3)] at hr4; subst hr4; simp only [if_neg A01, if_pos A12, if_pos A02, if_pos X3, if_pos X2, if_neg X1, if_neg X0] at hv2; subst hv2; decide; done) | (exfalso; simp_all; done)
          · skip
            by_cases X1 : u 1 = v1
            · skip
              by_cases X0 : u 0 = v1
              · skip
                first | (rw [own_e0, if_neg (Ne.symm A01)] at hr1; subst hr1; rw [own_e0, if_pos (Eq.symm A02)] at hr2; subst hr2; rw [own_e3_3 (u := u) (b := (own_up (own_up (own_up (fun _ => (0 : Int32)) 1 (Int32.ofNat 0)) 2 (Int32.ofNat 1)) 3 (Int32.ofNat r3))) (x := v1) (k := 1) rfl (by decide), if_pos (Eq.symm X3)] at hr4; subst hr4; simp only [if_neg A01, if_pos A12, if_pos A02, if_pos X3, if_neg X2, if_pos X1, if_pos X0] at hv2; subst hv2; decide; done) | (exfalso; simp_all; done)
              · skip
                first | (rw [own_e0, if_neg (Ne.symm A01)] at hr1; subst hr1; rw [own_e0, if_pos (Eq.symm A02)] at hr2; subst hr2; rw [own_e3_3 (u := u) (b := (own_up (own_up (own_up (fun _ => (0 : Int32)) 1 (Int32.ofNat 0)) 2 (Int32.ofNat 1)) 3 (Int32.ofNat r3))) (x := v1) (k := 1) rfl (by decide), if_pos (Eq.symm X3)] at hr4; subst hr4; simp only [if_neg A01, if_pos A12, if_pos A02, if_pos X3, if_neg X2, if_pos X1, if_neg X0] at hv2; subst hv2; decide; done) | (exfalso; simp_all; done)
            · skip
              by_cases X0 : u 0 = v1
              · skip
                first | (rw [own_e0, if_neg (Ne.symm A01)] at hr1; subst hr1; rw [own_e0, if_pos (Eq.symm A02)] at hr2; subst hr2; rw [own_e3_3 (u := u) (b := (own_up (own_up (own_up (fun _ => (0 : Int32)) 1 (Int32.ofNat 0)) 2 (Int32.ofNat 1)) 3 (Int32.ofNat r3))) (x := v1) (k := 1) rfl (by decide), if_pos (Eq.symm X3)] at hr4; subst hr4; simp only [if_neg A01, if_pos A12, if_pos A02, if_pos X3, if_neg X2, if_neg X1, if_pos X0] at hv2; subst hv2; decide; done) | (exfalso; simp_all; done)
              · skip
                first | (rw [own_e0, if_neg (Ne.symm A01)] at hr1; subst hr1; rw [own_e0, if_pos (Eq.symm A02)] at hr2; subst hr2; rw [own_e3_3 (u := u) (b := (own_up (own_up (own_up (fun _ => (0 : Int32)) 1 (Int32.ofNat 0)) 2 (Int32.ofNat 1)) 3 (Int32.ofNat r3))) (x := v1) (k := 1) rfl (by decide), if_pos (Eq.symm X3)] at hr4; subst hr4; simp only [if_neg A01, if_pos A12, if_pos A02, if_pos X3, if_neg X2, if_neg X1, if_neg X0] at hv2; subst hv2; decide; done) | (exfalso; simp_all; done)
        · skip
          by_cases X2 : u 2 = v1
          · skip
            by_cases X1 : u 1 = v1
            · skip
              by_cases X0 : u 0 = v1
              · skip
                first | (rw [own_e0, if_neg (Ne.symm A01)] at hr1; subst hr1; rw [own_e0, if_pos (Eq.symm A02)] at hr2; subst hr2; rw [own_e3_3 (u := u) (b := (own_up (own_up (own_up (fun _ => (0 : Int32)) 1 (Int32.ofNat 0)) 2 (Int32.ofNat 1)) 3 (Int32.ofNat r3))) (x := v1) (k := 1) rfl (by decide), if_neg (Ne.symm X3), own_e1_2 (u := u) (b := (own_up (own_up (own_up (fun _ => (0 : Int32)) 1 (Int32.ofNat 0)) 2 (Int32.ofNat 1)) 3 (Int32.ofNat r3))) (x := v1) rfl, if_pos (Eq.symm X1)] at hr4; subst hr4; simp only [if_neg A01, if_pos A12, if_pos A02, if_neg X3, if_pos X2, if_pos X1, if_pos X0] at hv2; subst hv2; decide; done) | (exfalso; simp_all; done)
              · skip
                first | (rw [own_e0, if_neg (Ne.symm A01)] at hr1; subst hr1; rw [own_e0, if_pos (Eq.symm A02)] at hr2; subst hr2; rw [own_e3_3 (u := u) (b := (own_up (own_up (own_up (fun _ => (0 : Int32)) 1 (Int32.ofNat 0)) 2 (Int32.ofNat 1)) 3 (Int32.ofNat r3))) (x := v1) (k := 1) rfl (by decide), if_neg (Ne.symm X3), own_e1_2 (u := u) (b := (own_up (own_up (own_up (fun _ => (0 : Int32)) 1 (Int32.ofNat 0)) 2 (Int32.ofNat 1)) 3 (Int32.ofNat r3))) (x := v1) rfl, if_pos (Eq.symm X1)] at hr4; subst hr4; simp only [if_neg A01, if_pos A12, if_pos A02, if_neg X3, if_pos X2, if_pos X1, if_neg X0] at hv2; subst hv2; decide; done) | (exfalso; simp_all; done)
            · skip
              by_cases X0 : u 0 = v1
              · skip
                first | (rw [own_e0, if_neg (Ne.symm A01)] at hr1; subst hr1; rw [own_e0, if_pos (Eq.symm A02)] at hr2; subst hr2; rw [own_e3_3 (u := u) (b := (own_up (own_up (own_up (fun _ => (0 : Int32)) 1 (Int32.ofNat 0)) 2 (Int32.ofNat 1)) 3 (Int32.ofNat r3))) (x := v1) (k := 1) rfl (by decide), if_neg (Ne.symm X3), own_e1_2 (u := u) (b := (own_up (own_up (own_up (fun _ => (0 : Int32)) 1 (Int32.ofNat 0)) 2 (Int32.ofNat 1)) 3 (Int32.ofNat r3))) (x := v1) rfl, if_neg (Ne.symm X1), if_pos (Eq.symm X0)] at hr4; subst hr4; simp only [if_neg A01, if_pos A12, if_pos A02, if_neg X3, if_pos X2, if_neg X1, if_pos X0] at hv2; subst hv2; decide; done) | (exfalso; simp_all; done)
              · skip
                first | (rw [own_e0, if_neg (Ne.symm A01)] at hr1; subst hr1; rw [own_e0, if_pos (Eq.symm A02)] at hr2; subst hr2; rw [own_e3_3 (u := u) (b := (own_up (own_up (own_up (fun _ => (0 : Int32)) 1 (Int32.ofNat 0)) 2 (Int32.ofNat 1)) 3 (Int32.ofNat r3))) (x := v1) (k := 1) rfl (by decide), if_neg (Ne.symm X3), own_e1_2 (u := u) (b := (own_up (own_up (own_up (fun _ => (0 : Int32)) 1 (Int32.ofNat 0)) 2 (Int32.ofNat 1)) 3 (Int32.ofNat r3))) (x := v1) rfl, if_neg (Ne.symm X1), if_neg (Ne.symm X0)] at hr4; subst hr4; simp only [if_neg A01, if_pos A12, if_pos A02, if_neg X3, if_pos X2, if_neg X1, if_neg X0] at hv2; subst hv2; decide; done) | (exfalso; simp_all; done)
          · skip
            by_cases X1 : u 1 = v1
            · skip
              by_cases X0 : u 0 = v1
              · skip
                first | (rw [own_e0, if_neg (Ne.symm A01)] at hr1; subst hr1; rw [own_e0, if_pos (Eq.symm A02)] at hr2; subst hr2; rw [own_e3_3 (u := u) (b := (own_up (own_up (own_up (fun _ => (0 : Int32)) 1 (Int32.ofNat 0)) 2 (Int32.ofNat 1)) 3 (Int32.ofNat r3))) (x := v1) (k := 1) rfl (by decide), if_neg (Ne.symm X3), own_e1_2 (u := u) (b := (own_up (own_up (own_up (fun _ => (0 : Int32)) 1 (Int32.ofNat 0)) 2 (Int32.ofNat 1)) 3 (Int32.ofNat r3))) (x := v1) rfl, if_pos (Eq.symm X1)] at hr4; subst hr4; simp only [if_neg A01, if_pos A12, if_pos A02, if_neg X3, if_neg X2, if_pos X1, if_pos X0] at hv2; subst hv2; decide; done) | (exfalso; simp_all; done)
              · skip
                first | (rw [own_e0, if_neg (Ne.symm A01)] at hr1; subst hr1; rw [own_e0, if_pos (Eq.symm A02)] at hr2; subst hr2; rw [own_e3_3 (u := u) (b := (own_up (own_up (own_up (fun _ => (0 : Int32)) 1 (Int32.ofNat 0)) 2 (Int32.ofNat 1)) 3 (Int32.ofNat r3))) (x := v1) (k := 1) rfl (by decide), if_neg (Ne.symm X3), own_e1_2 (u := u) (b := (own_up (own_up (own_up (fun _ => (0 : Int32)) 1 (Int32.ofNat 0)) 2 (Int32.ofNat 1)) 3 (Int32.ofNat r3))) (x := v1) rfl, if_pos (Eq.symm X1)] at hr4; subst hr4; simp only [if_neg A01, if_pos A12, if_pos A02, if_neg X3, if_neg X2, if_pos X1, if_neg X0] at hv2; subst hv2; decide; done) | (exfalso; simp_all; done)
            · skip
              by_cases X0 : u 0 = v1
              · skip
                first | (rw [own_e0, if_neg (Ne.symm A01)] at hr1; subst hr1; rw [own_e0, if_pos (Eq.symm A02)] at hr2; subst hr2; rw [own_e3_3 (u := u) (b := (own_up (own_up (own_up (fun _ => (0 : Int32)) 1 (Int32.ofNat 0)) 2 (Int32.ofNat 1)) 3 (Int32.ofNat r3))) (x := v1) (k := 1) rfl (by decide), if_neg (Ne.symm X3), own_e1_2 (u := u) (b := (own_up (own_up (own_up (fun _ => (0 : Int32)) 1 (Int32.ofNat 0)) 2 (Int32.ofNat 1)) 3 (Int32.ofNat r3))) (x := v1) rfl, if_neg (Ne.symm X1), if_pos (Eq.symm X0)] at hr4; subst hr4; simp only [if_neg A01, if_pos A12, if_pos A02, if_neg X3, if_neg X2, if_neg X1, if_pos X0] at hv2; subst hv2; decide; done) | (exfalso; simp_all; done)
              · skip
                first | (rw [own_e0, if_neg (Ne.symm A01)] at hr1; subst hr1; rw [own_e0, if_pos (Eq.symm A02)] at hr2; subst hr2; rw [own_e3_3 (u := u) (b := (own_up (own_up (own_up (fun _ => (0 : Int32)) 1 (Int32.ofNat 0)) 2 (Int32.ofNat 1)) 3 (Int32.ofNat r3))) (x := v1) (k := 1) rfl (by decide), if_neg (Ne.symm X3), own_e1_2 (u := u) (b := (own_up (own_up (own_up (fun _ => (0 : Int32)) 1 (Int32.ofNat 0)) 2 (Int32.ofNat 1)) 3 (Int32.ofNat r3))) (x := v1) rfl, if_neg (Ne.symm X1), if_neg (Ne.symm X0)] at hr4; subst hr4; simp only [if_neg A01, if_pos A12, if_pos A02, if_neg X3, if_neg X2, if_neg X1, if_neg X0] at hv2; subst hv2; decide; done) | (exfalso; simp_all; done)
      · skip
        by_cases X3 : u 3 = v1
        · skip
          by_cases X2 : u 2 = v1
          · skip
            by_cases X1 : u 1 = v1
            · skip
              by_cases X0 : u 0 = v1
              · skip
                first | (rw [own_e0, if_neg (Ne.symm A01)] at hr1; subst hr1; rw [own_e0, if_neg (Ne.symm A02)] at hr2; subst hr2; rw [own_e3_3 (u := u) (b := (own_up (own_up (own_up (fun _ => (0 : Int32)) 1 (Int32.ofNat 0)) 2 (Int32.ofNat 0)) 3 (Int32.ofNat r3))) (x := v1) (k := 0) rfl (by decide), if_pos (Eq.symm X3)] at hr4; subst hr4; simp only [if_neg A01, if_pos A12, if_neg A02, if_pos X3, if_pos X2, if_pos X1, if_pos X0] at hv2; subst hv2; decide; done) | (exfalso; simp_all; done)
              · skip
                first | (rw [own_e0, if_neg (Ne.symm A01)] at hr1; subst hr1; rw [own_e0, if_neg (Ne.symm A02)] at hr2; subst hr2; rw [own_e3_3 (u := u) (b := (own_up (own_up (own_up (fun _ => (0 : Int32)) 1 (Int32.ofNat 0)) 2 (Int32.ofNat 0)) 3 (Int32.ofNat r3))) (x := v1) (k := 0) rfl (by decide), if_pos (Eq.symm X3)] at hr4; subst hr4; simp only [if_neg A01, if_pos A12, if_neg A02, if_pos X3, if_pos X2, if_pos X1, if_neg X0] at hv2; subst hv2; decide; done) | (exfalso; simp_all; done)
            · skip
              by_cases X0 : u 0 = v1
              · skip
                first | (rw [own_e0, if_neg (Ne.symm A01)] at hr1; subst hr1; rw [own_e0, if_neg (Ne.symm A02)] at hr2; subst hr2; rw [own_e3_3 (u := u) (b := (own_up (own_up (own_up (fun _ => (0 : Int32)) 1 (Int32.ofNat 0)) 2 (Int32.ofNat 0)) 3 (Int32.ofNat r3))) (x := v1) (k := 0) rfl (by decide), if_pos (Eq.symm X3)] at hr4; subst hr4; simp only [if_neg A01, if_pos A12, if_neg A02, if_pos X3, if_pos X2, if_neg X1, if_pos X0] at hv2; subst hv2; decide; done) | (exfalso; simp_all; done)
              · skip
                first | (rw [own_e0, if_neg (Ne.symm A01)] at hr1; subst hr1; rw [own_e0, if_neg (Ne.symm A02)] at hr2; subst hr2; rw [own_e3_3 (u := u) (b := (own_up (own_up (own_up (fun _ => (0 : Int32)) 1 (Int32.ofNat 0)) 2 (Int32.ofNat 0)) 3 (Int32.ofNat r3))) (x := v1) (k := 0) rfl (by decide), if_pos (Eq.symm X3)] at hr4; subst hr4; simp only [if_neg A01, if_pos A12, if_neg A02, if_pos X3, if_pos X2, if_neg X1, if_neg X0] at hv2; subst hv2; decide; done) | (exfalso; simp_all; done)
          · skip
            by_cases X1 : u 1 = v1
            · skip
              by_cases X0 : u 0 = v1
              · skip
                first | (rw [own_e0, if_neg (Ne.symm A01)] at hr1; subst hr1; rw [own_e0, if_neg (Ne.symm A02)] at hr2; subst hr2; rw [own_e3_3 (u := u) (b := (own_up (own_up (own_up (fun _ => (0 : Int32)) 1 (Int32.ofNat 0)) 2 (Int32.ofNat 0)) 3 (Int32.ofNat r3))) (x := v1) (k := 0) rfl (by decide), if_pos (Eq.symm X3)] at hr4; subst hr4; simp only [if_neg A01, if_pos A12, if_neg A02, if_pos X3, if_neg X2, if_pos X1, if_pos X0] at hv2; subst hv2; decide; done) | (exfalso; simp_all; done)
              · skip
                first | (rw [own_e0, if_neg (Ne.symm A01)] at hr1; subst hr1; rw [own_e0, if_neg (Ne.symm A02)] at hr2; subst hr2; rw [own_e3_3 (u := u) (b := (own_up (own_up (own_up (fun _ => (0 : Int32)) 1 (Int32.ofNat 0)) 2 (Int32.ofNat 0)) 3 (Int32.ofNat r3))) (x := v1) (k := 0) rfl (by decide), if_pos (Eq.symm X3)] at hr4; subst hr4; simp only [if_neg A01, if_pos A12, if_neg A02, if_pos X3, if_neg X2, if_pos X1, if_neg X0] at hv2; subst hv2; decide; done) | (exfalso; simp_all; done)
            · skip
              by_cases X0 : u 0 = v1
              · skip
                first | (rw [own_e0, if_neg (Ne.symm A01)] at hr1; subst hr1; rw [own_e0, if_neg (Ne.symm A02)] at hr2; subst hr2; rw [own_e3_3 (u := u) (b := (own_up (own_up (own_up (fun _ => (0 : Int32)) 1 (Int32.ofNat 0)) 2 (Int32.ofNat 0)) 3 (Int32.ofNat r3))) (x := v1) (k := 0) rfl (by decide), if_pos (Eq.symm X3)] at hr4; subst hr4; simp only [if_neg A01, if_pos A12, if_neg A02, if_pos X3, if_neg X2, if_neg X1, if_pos X0] at hv2; subst hv2; decide; done) | (exfalso; simp_all; done)
              · skip
                first | (rw [own_e0, if_neg (Ne.symm A01)] at hr1; subst hr1; rw [own_e0, if_neg (Ne.symm A02)] at hr2; subst hr2; rw [own_e3_3 (u := u) (b := (own_up (own_up (own_up (fun _ => (0 : Int32)) 1 (Int32.ofNat 0)) 2 (Int32.ofNat 0)) 3 (Int32.ofNat r3))) (x := v1) (k := 0) rfl (by decide), if_pos (Eq.symm X3)] at hr4; subst hr4; simp only [if_neg A01, if_pos A12, if_neg A02, if_pos X3, if_neg X2, if_neg X1, if_neg X0] at hv2; subst hv2; decide; done) | (exfalso; simp_all; done)
        · skip
          by_cases X2 : u 2 = v1
          · skip
            by_cases X1 : u 1 = v1
            · skip
              by_cases X0 : u 0 = v1
              · skip
                first | (rw [own_e0, if_neg (Ne.symm A01)] at hr1; subst hr1; rw [own_e0, if_neg (Ne.symm A02)] at hr2; subst hr2; rw [own_e3_3 (u := u) (b := (own_up (own_up (own_up (fun _ => (0 : Int32)) 1 (Int32.ofNat 0)) 2 (Int32.ofNat 0)) 3 (Int32.ofNat r3))) (x := v1) (k := 0) rfl (by decide), if_neg (Ne.symm X3), own_e0, if_pos (Eq.symm X0)] at hr4; subst hr4; simp only [if_neg A01, if_pos A12, if_neg A02, if_neg X3, if_pos X2, if_pos X1, if_pos X0] at hv2; subst hv2; decide; done) | (exfalso; simp_all; done)
              · skip
                first | (rw [own_e0, if_neg (Ne.symm A01)] at hr1; subst hr1; rw [own_e0, if_neg (Ne.symm A02)] at hr2; subst hr2; rw [own_e3_3 (u := u) (b := (own_up (own_up (own_up (fun _ => (0 : Int32)) 1 (Int32.ofNat 0)) 2 (Int32.ofNat 0)) 3 (Int32.ofNat r3))) (x := v1) (k := 0) rfl (by decide), if_neg (Ne.symm X3), own_e0, if_neg (Ne.symm X0)] at hr4; subst hr4; simp only [if_neg A01, if_pos A12, if_neg A02, if_neg X3, if_pos X2, if_pos X1, if_neg X0] at hv2; subst hv2; decide; done) | (exfalso; simp_all; done)
            · skip
              by_cases X0 : u 0 = v1
              · skip
                first | (rw [own_e0, if_neg (Ne.symm A01)] at hr1; subst hr1; rw [own_e0, if_neg (Ne.symm A02)] at hr2; subst hr2; rw [own_e3_3 (u := u) (b := (own_up (own_up (own_up (fun _ => (0 : Int32)) 1 (Int32.ofNat 0)) 2 (Int32.ofNat 0)) 3 (Int32.ofNat r3))) (x := v1) (k := 0) rfl (by decide), if_neg (Ne.symm X3), own_e0, if_pos (Eq.symm X0)] at hr4; subst hr4; simp only [if_neg A01, if_pos A12, if_neg A02, if_neg X3, if_pos X2, if_neg X1, if_pos X0] at hv2; subst hv2; decide; done) | (exfalso; simp_all; done)
              · skip
                first | (rw [own_e0, if_neg (Ne.symm A01)] at hr1; subst hr1; rw [own_e0, if_neg (Ne.symm A02)] at hr2; subst hr2; rw [own_e3_3 (u := u) (b := (own_up (own_up (own_up (fun _ => (0 : Int32)) 1 (Int32.ofNat 0)) 2 (Int32.ofNat 0)) 3 (Int32.ofNat r3))) (x := v1) (k := 0) rfl (by decide), if_neg (Ne.symm X3), own_e0, if_neg (Ne.symm X0)] at hr4; subst hr4; simp only [if_neg A01, if_pos A12, if_neg A02, if_neg X3, if_pos X2, if_neg X1, if_neg X0] at hv2; subst hv2; decide; done) | (exfalso; simp_all; done)
          · skip
            by_cases X1 : u 1 = v1
            · skip
              by_cases X0 : u 0 = v1
              · skip
                first | (rw [own_e0, if_neg (Ne.symm A01)] at hr1; subst hr1; rw [own_e0, if_neg (Ne.symm A02)] at hr2; subst hr2; rw [own_e3_3 (u := u) (b := (own_up (own_up (own_up (fun _ => (0 : Int32)) 1 (Int32.ofNat 0)) 2 (Int32.ofNat 0)) 3 (Int32.ofNat r3))) (x := v1) (k := 0) rfl (by decide), if_neg (Ne.symm X3), own_e0, if_pos (Eq.symm X0)] at hr4; subst hr4; simp only [if_neg A01, if_pos A12, if_neg A02, if_neg X3, if_neg X2, if_pos X1, if_pos X0] at hv2; subst hv2; decide; done) | (exfalso; simp_all; done)
              · skip
                first | (rw [own_e0, if_neg (Ne.symm A01)] at hr1; subst hr1; rw [own_e0, if_neg (Ne.symm A02)] at hr2; subst hr2; rw [own_e3_3 (u := u) (b := (own_up (own_up (own_up (fun _ => (0 : Int32)) 1 (Int32.ofNat 0)) 2 (Int32.ofNat 0)) 3 (Int32.ofNat r3))) (x := v1) (k := 0) rfl (by decide), if_neg (Ne.symm X3), own_e0, if_neg (Ne.symm X0)] at hr4; subst hr4; simp only [if_neg A01, if_pos A12, if_neg A02, if_neg X3, if_neg X2, if_pos X1, if_neg X0] at hv2; subst hv2; decide; done) | (exfalso; simp_all; done)
            · skip
              by_cases X0 : u 0 = v1
              · skip
                first | (rw [own_e0, if_neg (Ne.symm A01)] at hr1; subst hr1; rw [own_e0, if_neg (Ne.symm A02)] at hr2; subst hr2; rw [own_e3_3 (u := u) (b := (own_up (own_up (own_up (fun _ => (0 : Int32)) 1 (Int32.ofNat 0)) 2 (Int32.ofNat 0)) 3 (Int32.ofNat r3))) (x := v1) (k := 0) rfl (by decide), if_neg (Ne.symm X3), own_e0, if_pos (Eq.symm X0)] at hr4; subst hr4; simp only [if_neg A01, if_pos A12, if_neg A02, if_neg X3, if_neg X2, if_neg X1, if_pos X0] at hv2; subst hv2; decide; done) | (exfalso; simp_all; done)
              · skip
                first | (rw [own_e0, if_neg (Ne.symm A01)] at hr1; subst hr1; rw [own_e0, if_neg (Ne.symm A02)] at hr2; subst hr2; rw [own_e3_3 (u := u) (b := (own_up (own_up (own_up (fun _ => (0 : Int32)) 1 (Int32.ofNat 0)) 2 (Int32.ofNat 0)) 3 (Int32.ofNat r3))) (x := v1) (k := 0) rfl (by decide), if_neg (Ne.symm X3), own_e0, if_neg (Ne.symm X0)] at hr4; subst hr4; simp only [if_neg A01, if_pos A12, if_neg A02, if_neg X3, if_neg X2, if_neg X1, if_neg X0] at hv2; subst hv2; decide; done) | (exfalso; simp_all; done)
    · skip
      by_cases A02 : u 0 = u 2
      · skip
        by_cases X3 : u 3 = v1
        · skip
          by_cases X2 : u 2 = v1
          · skip
            by_cases X1 : u 1 = v1
            · skip
              by_cases X0 : u 0 = v1
              · skip
                first | (rw [own_e0, if_neg (Ne.symm A01)] at hr1; subst hr1; rw [own_e0, if_pos (Eq.symm A02)] at hr2; subst hr2; rw [own_e3_3 (u := u) (b := (own_up (own_up (own_up (fun _ => (0 : Int32)) 1 (Int32.ofNat 0)) 2 (Int32.ofNat 1)) 3 (Int32.ofNat r3))) (x := v1) (k := 1) rfl (by decide), if_pos (Eq.symm X3)] at hr4; subst hr4; simp only [if_neg A01, if_neg A12, if_pos A02, if_pos X3, if_pos X2, if_pos X1, if_pos X0] at hv2; subst hv2; decide; done) | (exfalso; simp_all; done)
              · skip
                first | (rw [own_e0, if_neg (Ne.symm A01)] at hr1; subst hr1; rw [own_e0, if_pos (Eq.symm A02)] at hr2; subst hr2; rw [own_e3_3 (u := u) (b := (own_up (own_up (own_up (fun _ => (0 : Int32)) 1 (Int32.ofNat 0)) 2 (Int32.ofNat 1)) 3 (Int32.ofNat r3))) (x := v1) (k := 1) rfl (by decide), if_pos (Eq.symm X3)] at hr4; subst hr4; simp only [if_neg A01, if_neg A12, if_pos A02, if_pos X3, if_pos X2, if_pos X1, if_neg X0] at hv2; subst hv2; decide; done) | (exfalso; simp_all; done)
            · skip
              by_cases X0 : u 0 = v1
              · skip
                first | (rw [own_e0, if_neg (Ne.symm A01)] at hr1; subst hr1; rw [own_e0, if_pos (Eq.symm A02)] at hr2; subst hr2; rw [own_e3_3 (u := u) (b := (own_up (own_up (own_up (fun _ => (0 : Int32)) 1 (Int32.ofNat 0)) 2 (Int32.ofNat 1)) 3 (Int32.ofNat r3))) (x := v1) (k := 1) rfl (by decide), if_pos (Eq.symm X3)] at hr4; subst hr4; simp only [if_neg A01, if_neg A12, if_pos A02, if_pos X3, if_pos X2, if_neg X1, if_pos X0] at hv2; subst hv2; decide; done) | (exfalso; simp_all; done)
              · skip
                first | (rw [own_e0, if_neg (Ne.symm A01)] at hr1; subst hr1; rw [own_e0, if_pos (Eq.symm A02)] at hr2; subst hr2; rw [own_e3_3 (u := u) (b := (own_up (own_up (own_up (fun _ => (0 : Int32)) 1 (Int32.ofNat 0)) 2 (Int32.ofNat 1)) 3 (Int32.ofNat r3))) (x := v1) (k := 1) rfl (by decide), if_pos (Eq.symm X3)] at hr4; subst hr4; simp only [if_neg A01, if_neg A12, if_pos A02, if_pos X3, if_pos X2, if_neg X1, if_neg X0] at hv2; subst hv2; decide; done) | (exfalso; simp_all; done)
          · skip
            by_cases X1 : u 1 = v1
            · skip
              by_cases X0 : u 0 = v1
              · skip
                first | (rw [own_e0, if_neg (Ne.symm A01)] at hr1; subst hr1; rw [own_e0, if_pos (Eq.symm A02)] at hr2; subst hr2; rw [own_e3_3 (u := u) (b := (own_up (own_up (own_up (fun _ => (0 : Int32)) 1 (Int32.ofNat 0)) 2 (Int32.ofNat 1)) 3 (Int32.ofNat r3))) (x := v1) (k := 1) rfl (by decide), if_pos (Eq.symm X3)] at hr4; subst hr4; simp only [if_neg A01, if_neg A12, if_pos A02, if_pos X3, if_neg X2, if_pos X1, if_pos X0] at hv2; subst hv2; decide; done) | (exfalso; simp_all; done)
              · skip
                first | (rw [own_e0, if_neg (Ne.symm A01)] at hr1; subst hr1; rw [own_e0, if_pos (Eq.symm A02)] at hr2; subst hr2; rw [own_e3_3 (u := u) (b := (own_up (own_up (own_up (fun _ => (0 : Int32)) 1 (Int32.ofNat 0)) 2 (Int32.ofNat 1)) 3 (Int32.ofNat r3))) (x := v1) (k := 1) rfl (by decide), if_pos (Eq.symm X3)] at hr4; subst hr4; simp only [if_neg A01, if_neg A12, if_pos A02, if_pos X3, if_neg X2, if_pos X1, if_neg X0] at hv2; subst hv2; decide; done) | (exfalso; simp_all; done)
            · skip
              by_cases X0 : u 0 = v1
              · skip
                first | (rw [own_e0, if_neg (Ne.symm A01)] at hr1; subst hr1; rw [own_e0, if_pos (Eq.symm A02)] at hr2; subst hr2; rw [own_e3_3 (u := u) (b := (own_up (own_up (own_up (fun _ => (0 : Int32)) 1 (Int32.ofNat 0)) 2 (Int32.ofNat 1)) 3 (Int32.ofNat r3))) (x := v1) (k := 1) rfl (by decide), if_pos (Eq.symm X3)] at hr4; subst hr4; simp only [if_neg A01, if_neg A12, if_pos A02, if_pos X3, if_neg X2, if_neg X1, if_pos X0] at hv2; subst hv2; decide; done) | (exfalso; simp_all; done)
              · skip
                first | (rw [own_e0, if_neg (Ne.symm A01)] at hr1; subst hr1; rw [own_e0, if_pos (Eq.symm A02)] at hr2; subst hr2; rw [own_e3_3 (u := u) (b := (own_up (own_up (own_up (fun _ => (0 : Int32)) 1 (Int32.ofNat 0)) 2 (Int32.ofNat 1)) 3 (Int32.ofNat r3))) (x := v1) (k := 1) rfl (by decide), if_pos (Eq.symm X3)] at hr4; subst hr4; simp only [if_neg A01, if_neg A12, if_pos A02, if_pos X3, if_neg X2, if_neg X1, if_neg X0] at hv2; subst hv2; decide; done) | (exfalso; simp_all; done)
        · skip
          by_cases X2 : u 2 = v1
          · skip
            by_cases X1 : u 1 = v1
            · skip
              by_cases X0 : u 0 = v1
              · skip
                first | (rw [own_e0, if_neg (Ne.symm A01)] at hr1; subst hr1; rw [own_e0, if_pos (Eq.symm A02)] at hr2; subst hr2; rw [own_e3_3 (u := u) (b := (own_up (own_up (own_up (fun _ => (0 : Int32)) 1 (Int32.ofNat 0)) 2 (Int32.ofNat 1)) 3 (Int32.ofNat r3))) (x := v1) (k := 1) rfl (by decide), if_neg (Ne.symm X3), own_e1_2 (u := u) (b := (own_up (own_up (own_up (fun _ => (0 : Int32)) 1 (Int32.ofNat 0)) 2 (Int32.ofNat 1)) 3 (Int32.ofNat r3))) (x := v1) rfl, if_pos (Eq.symm X1)] at hr4; subst hr4; simp only [if_neg A01, if_neg A12, if_pos A02, if_neg X3, if_pos X2, if_pos X1, if_pos X0] at hv2; subst hv2; decide; done) | (exfalso; simp_all; done)
              · skip
                first | (rw [own_e0, if_neg (Ne.symm A01)] at hr1; subst hr1; rw [own_e0, if_pos (Eq.symm A02)] at hr2; subst hr2; rw [own_e3_3 (u := u) (b := (own_up (own_up (own_up (fun _ => (0 : Int32)) 1 (Int32.ofNat 0)) 2 (Int32.ofNat 1)) 3 (Int32.ofNat r3))) (x := v1) (k := 1) rfl (by decide), if_neg (Ne.symm X3), own_e1_2 (u := u) (b := (own_up (own_up (own_up (fun _ => (0 : Int32)) 1 (Int32.ofNat 0)) 2 (Int32.ofNat 1)) 3 (Int32.ofNat r3))) (x := v1) rfl, if_pos (Eq.symm X1)] at hr4; subst hr4; simp only [if_neg A01, if_neg A12, if_pos A02, if_neg X3, if_pos X2, if_pos X1, if_neg X0] at hv2; subst hv2; decide; done) | (exfalso; simp_all; done)
            · skip
              by_cases X0 : u 0 = v1
              · skip
                first | (rw [own_e0, if_neg (Ne.symm A01)] at hr1; subst hr1; rw [own_e0, if_pos (Eq.symm A02)] at hr2; subst hr2; rw [own_e3_3 (u := u) (b := (own_up (own_up (own_up (fun _ => (0 : Int32)) 1 (Int32.ofNat 0)) 2 (Int32.ofNat 1)) 3 (Int32.ofNat r3))) (x := v1) (k := 1) rfl (by decide), if_neg (Ne.symm X3), own_e1_2 (u := u) (b := (own_up (own_up (own_up (fun _ => (0 : Int32)) 1 (Int32.ofNat 0)) 2 (Int32.ofNat 1)) 3 (Int32.ofNat r3))) (x := v1) rfl, if_neg (Ne.symm X1), if_pos (Eq.symm X0)] at hr4; subst hr4; simp only [if_neg A01, if_neg A12, if_pos A02, if_neg X3, if_pos X2, if_neg X1, if_pos X0] at hv2; subst hv2; decide; done) | (exfalso; simp_all; done)
              · skip
                first | (rw [own_e0, if_neg (Ne.symm A01)] at hr1; subst hr1; rw [own_e0, if_pos (Eq.symm A02)] at hr2; subst hr2; rw [own_e3_3 (u := u) (b := (own_up (own_up (own_up (fun _ => (0 : Int32)) 1 (Int32.ofNat 0)) 2 (Int32.ofNat 1)) 3 (Int32.ofNat r3))) (x := v1) (k := 1) rfl (by decide), if_neg (Ne.symm X3), own_e1_2 (u := u) (b := (own_up (own_up (own_up (fun _ => (0 : Int32)) 1 (Int32.ofNat 0)) 2 (Int32.ofNat 1)) 3 (Int32.ofNat r3))) (x := v1) rfl, if_neg (Ne.symm X1), if_neg (Ne.symm X0)] at hr4; subst hr4; simp only [if_neg A01, if_neg A12, if_pos A02, if_neg X3, if_pos X2, if_neg X1, if_neg X0] at hv2; subst hv2; decide; done) | (exfalso; simp_all; done)
          · skip
            by_cases X1 : u 1 = v1
            · skip
              by_cases X0 : u 0 = v1
              · skip
                first | (rw [own_e0, if_neg (Ne.symm A01)] at hr1; subst hr1; rw [own_e0, if_pos (Eq.symm A02)] at hr2; subst hr2; rw [own_e3_3 (u := u) (b := (own_up (own_up (own_up (fun _ => (0 : Int32)) 1 (Int32.ofNat 0)) 2 (Int32.ofNat 1)) 3 (Int32.ofNat r3))) (x := v1) (k := 1) rfl (by decide), if_neg (Ne.symm X3), own_e1_2 (u := u) (b := (own_up (own_up (own_up (fun _ => (0 : Int32)) 1 (Int32.ofNat 0)) 2 (Int32.ofNat 1)) 3 (Int32.ofNat r3))) (x := v1) rfl, if_pos (Eq.symm X1)] at hr4; subst hr4; simp only [if_neg A01, if_neg A12, if_pos A02, if_neg X3, if_neg X2, if_pos X1, if_pos X0] at hv2; subst hv2; decide; done) | (exfalso; simp_all; done)
              · skip
                first | (rw [own_e0, if_neg (Ne.symm A01)] at hr1; subst hr1; rw [own_e0, if_pos (Eq.symm A02)] at hr2; subst hr2; rw [own_e3_3 (u := u) (b := (own_up (own_up (own_up (fun _ => (0 : Int32)) 1 (Int32.ofNat 0)) 2 (Int32.ofNat 1)) 3 (Int32.ofNat r3))) (x := v1) (k := 1) rfl (by decide), if_neg (Ne.symm X3), own_e1_2 (u := u) (b := (own_up (own_up (own_up (fun _ => (0 : Int32)) 1 (Int32.ofNat 0)) 2 (Int32.ofNat 1)) 3 (Int32.ofNat r3))) (x := v1) rfl, if_pos (Eq.symm X1)] at hr4; subst hr4; simp only [if_neg A01, if_neg A12, if_pos A02, if_neg X3, if_neg X2, if_pos X1, if_neg X0] at hv2; subst hv2; decide; done) | (exfalso; simp_all; done)
            · skip
              by_cases X0 : u 0 = v1
              · skip
                first | (rw [own_e0, if_neg (Ne.symm A01)] at hr1; subst hr1; rw [own_e0, if_pos (Eq.symm A02)] at hr2; subst hr2; rw [own_e3_3 (u := u) (b := (own_up (own_up (own_up (fun _ => (0 : Int32)) 1 (Int32.ofNat 0)) 2 (Int32.ofNat 1)) 3 (Int32.ofNat r3))) (x := v1) (k := 1) rfl (by decide), if_neg (Ne.symm X3), own_e1_2 (u := u) (b := (own_up (own_up (own_up (fun _ => (0 : Int32)) 1 (Int32.ofNat 0)) 2 (Int32.ofNat 1)) 3 (Int32.ofNat r3))) (x := v1) rfl, if_neg (Ne.symm X1), if_pos (Eq.symm X0)] at hr4; subst hr4; simp only [if_neg A01, if_neg A12, if_pos A02, if_neg X3, if_neg X2, if_neg X1, if_pos X0] at hv2; subst hv2; decide; done) | (exfalso; simp_all; done)
              · skip
                first | (rw [own_e0, if_neg (Ne.symm A01)] at hr1; subst hr1; rw [own_e0, if_pos (Eq.symm A02)] at hr2; subst hr2; rw [own_e3_3 (u := u) (b := (own_up (own_up (own_up (fun _ => (0 : Int32)) 1 (Int32.ofNat 0)) 2 (Int32.ofNat 1)) 3 (Int32.ofNat r3))) (x := v1) (k := 1) rfl (by decide), if_neg (Ne.symm X3), own_e1_2 (u := u) (b := (own_up (own_up (own_up (fun _ => (0 : Int32)) 1 (Int32.ofNat 0)) 2 (Int32.ofNat 1)) 3 (Int32.ofNat r3))) (x := v1) rfl, if_neg (Ne.symm X1), if_neg (Ne.symm X0)] at hr4; subst hr4; simp only [if_neg A01, if_neg A12, if_pos A02, if_neg X3, if_neg X2, if_neg X1, if_neg X0] at hv2; subst hv2; decide; done) | (exfalso; simp_all; done)
      · skip
        by_cases X3 : u 3 = v1
        · skip
          by_cases X2 : u 2 = v1
          · skip
            by_cases X1 : u 1 = v1
            · skip
              by_cases X0 : u 0 = v1
              · skip
                first | (rw [own_e0, if_neg (Ne.symm A01)] at hr1; subst hr1; rw [own_e0, if_neg (Ne.symm A02)] at hr2; subst hr2; rw [own_e3_3 (u := u) (b := (own_up (own_up (own_up (fun _ => (0 : Int32)) 1 (Int32.ofNat 0)) 2 (Int32.ofNat 0)) 3 (Int32.ofNat r3))) (x := v1) (k := 0) rfl (by decide), if_pos (Eq.symm X3)] at hr4; subst hr4; simp only [if_neg A01, if_neg A12, if_neg A02, if_pos X3, if_pos X2, if_pos X1, if_pos X0] at hv2; subst hv2; decide; done) | (exfalso; simp_all; done)
              · skip
                first | (rw [own_e0, if_neg (Ne.symm A01)] at hr1; subst hr1; rw [own_e0, if_neg (Ne.symm A02)] at hr2; subst hr2; rw [own_e3_3 (u := u) (b := (own_up (own_up (own_up (fun _ => (0 : Int32)) 1 (Int32.ofNat 0)) 2 (Int32.ofNat 0)) 3 (Int32.ofNat r3))) (x := v1) (k := 0) rfl (by decide), if_pos (Eq.symm X3)] at hr4; subst hr4; simp only [if_neg A01, if_neg A12, if_neg A02, if_pos X3, if_pos X2, if_pos X1, if_neg X0] at hv2; subst hv2; decide; done) | (exfalso; simp_all; done)
            · skip
              by_cases X0 : u 0 = v1
              · skip
                first | (rw [own_e0, if_neg (Ne.symm A01)] at hr1; subst hr1; rw [own_e0, if_neg (Ne.symm A02)] at hr2; subst hr2; rw [own_e3_3 (u := u) (b := (own_up (own_up (own_up (fun _ => (0 : Int32)) 1 (Int32.ofNat 0)) 2 (Int32.ofNat 0)) 3 (Int32.ofNat r3))) (x := v1) (k := 0) rfl (by decide), if_pos (Eq.symm X3)] at hr4; subst hr4; simp only [if_neg A01, if_neg A12, if_neg A02, if_pos X3, if_pos X2, if_neg X1, if_pos X0] at hv2; subst hv2; decide; done) | (exfalso; simp_all; done)
              · skip
                first | (rw [own_e0, if_neg (Ne.symm A01)] at hr1; subst hr1; rw [own_e0, if_neg (Ne.symm A02)] at hr2; subst hr2; rw [own_e3_3 (u := u) (b := (own_up (own_up (own_up (fun _ => (0 : Int32)) 1 (Int32.ofNat 0)) 2 (Int32.ofNat 0)) 3 (Int32.ofNat r3))) (x := v1) (k := 0) rfl (by decide), if_pos (Eq.symm X3)] at hr4; subst hr4; simp only [if_neg A01, if_neg A12, if_neg A02, if_pos X3, if_pos X2, if_neg X1, if_neg X0] at hv2; subst hv2; decide; done) | (exfalso; simp_all; done)
          · skip
            by_cases X1 : u 1 = v1
            · skip
              by_cases X0 : u 0 = v1
              · skip
                first | (rw [own_e0, if_neg (Ne.symm A01)] at hr1; subst hr1; rw [own_e0, if_neg (Ne.symm A02)] at hr2; subst hr2; rw [own_e3_3 (u := u) (b := (own_up (own_up (own_up (fun _ => (0 : Int32)) 1 (Int32.ofNat 0)) 2 (Int32.ofNat 0)) 3 (Int32.ofNat r3))) (x := v1) (k := 0) rfl (by decide), if_pos (Eq.symm X3)] at hr4; subst hr4; simp only [if_neg A01, if_neg A12, if_neg A02, if_pos X3, if_neg X2, if_pos X1, if_pos X0] at hv2; subst hv2; decide; done) | (exfalso; simp_all; done)
              · skip
                first | (rw [own_e0, if_neg (Ne.symm A01)] at hr1; subst hr1; rw [own_e0, if_neg (Ne.symm A02)] at hr2; subst hr2; rw [own_e3_3 (u := u) (b := (own_up (own_up (own_up (fun _ => (0 : Int32)) 1 (Int32.ofNat 0)) 2 (Int32.ofNat 0)) 3 (Int32.ofNat r3))) (x := v1) (k := 0) rfl (by decide), if_pos (Eq.symm X3)] at hr4; subst hr4; simp only [if_neg A01, if_neg A12, if_neg A02, if_pos X3, if_neg X2, if_pos X1, if_neg X0] at hv2; subst hv2; decide; done) | (exfalso; simp_all; done)
            · skip
              by_cases X0 : u 0 = v1
              · skip
                first | (rw [own_e0, if_neg (Ne.symm A01)] at hr1; subst hr1; rw [own_e0, if_neg (Ne.symm A02)] at hr2; subst hr2; rw [own_e3_3 (u := u) (b := (own_up (own_up (own_up (fun _ => (0 : Int32)) 1 (Int32.ofNat 0)) 2 (Int32.ofNat 0)) 3 (Int32.ofNat r3))) (x := v1) (k := 0) rfl (by decide), if_pos (Eq.symm X3)] at hr4; subst hr4; simp only [if_neg A01, if_neg A12, if_neg A02, if_pos X3, if_neg X2, if_neg X1, if_pos X0] at hv2; subst hv2; decide; done) | (exfalso; simp_all; done)
              · skip
                first | (rw [own_e0, if_neg (Ne.symm A01)] at hr1; subst hr1; rw [own_e0, if_neg (Ne.symm A02)] at hr2; subst hr2; rw [own_e3_3 (u := u) (b := (own_up (own_up (own_up (fun _ => (0 : Int32)) 1 (Int32.ofNat 0)) 2 (Int32.ofNat 0)) 3 (Int32.ofNat r3))) (x := v1) (k := 0) rfl (by decide), if_pos (Eq.symm X3)] at hr4; subst hr4; simp only [if_neg A01, if_neg A12, if_neg A02, if_pos X3, if_neg X2, if_neg X1, if_neg X0] at hv2; subst hv2; decide; done) | (exfalso; simp_all; done)
        · skip
          by_cases X2 : u 2 = v1
          · skip
            by_cases X1 : u 1 = v1
            · skip
              by_cases X0 : u 0 = v1
              · skip
                first | (rw [own_e0, if_neg (Ne.symm A01)] at hr1; subst hr1; rw [own_e0, if_neg (Ne.symm A02)] at hr2; subst hr2; rw [own_e3_3 (u := u) (b := (own_up (own_up (own_up (fun _ => (0 : Int32)) 1 (Int32.ofNat 0)) 2 (Int32.ofNat 0)) 3 (Int32.ofNat r3))) (x := v1) (k := 0) rfl (by decide), if_neg (Ne.symm X3), own_e0, if_pos (Eq.symm X0)] at hr4; subst hr4; simp only [if_neg A01, if_neg A12, if_neg A02, if_neg X3, if_pos X2, if_pos X1, if_pos X0] at hv2; subst hv2; decide; done) | (exfalso; simp_all; done)
              · skip
                first | (rw [own_e0, if_neg (Ne.symm A01)] at hr1; subst hr1; rw [own_e0, if_neg (Ne.symm A02)] at hr2; subst hr2; rw [own_e3_3 (u := u) (b := (own_up (own_up (own_up (fun _ => (0 : Int32)) 1 (Int32.ofNat 0)) 2 (Int32.ofNat 0)) 3 (Int32.ofNat r3))) (x := v1) (k := 0) rfl (by decide), if_neg (Ne.symm X3), own_e0, if_neg (Ne.symm X0)] at hr4; subst hr4; simp only [if_neg A01, if_neg A12, if_neg A02, if_neg X3, if_pos X2, if_pos X1, if_neg X0] at hv2; subst hv2; decide; done) | (exfalso; simp_all; done)
            · skip
              by_cases X0 : u 0 = v1
              · skip
                first | (rw [own_e0, if_neg (Ne.symm A01)] at hr1; subst hr1; rw [own_e0, if_neg (Ne.symm A02)] at hr2; subst hr2; rw [own_e3_3 (u := u) (b := (own_up (own_up (own_up (fun _ => (0 : Int32)) 1 (Int32.ofNat 0)) 2 (Int32.ofNat 0)) 3 (Int32.ofNat r3))) (x := v1) (k := 0) rfl (by decide), if_neg (Ne.symm X3), own_e0, if_pos (Eq.symm X0)] at hr4; subst hr4; simp only [if_neg A01, if_neg A12, if_neg A02, if_neg X3, if_pos X2, if_neg X1, if_pos X0] at hv2; subst hv2; decide; done) | (exfalso; simp_all; done)
              · skip
                first | (rw [own_e0, if_neg (Ne.symm A01)] at hr1; subst hr1; rw [own_e0, if_neg (Ne.symm A02)] at hr2; subst hr2; rw [own_e3_3 (u := u) (b := (own_up (own_up (own_up (fun _ => (0 : Int32)) 1 (Int32.ofNat 0)) 2 (Int32.ofNat 0)) 3 (Int32.ofNat r3))) (x := v1) (k := 0) rfl (by decide), if_neg (Ne.symm X3), own_e0, if_neg (Ne.symm X0)] at hr4; subst hr4; simp only [if_neg A01, if_neg A12, if_neg A02, if_neg X3, if_pos X2, if_neg X1, if_neg X0] at hv2; subst hv2; decide; done) | (exfalso; simp_all; done)
          · skip
            by_cases X1 : u 1 = v1
            · skip
              by_cases X0 : u 0 = v1
              · skip
                first | (rw [own_e0, if_neg (Ne.symm A01)] at hr1; subst hr1; rw [own_e0, if_neg (Ne.symm A02)] at hr2; subst hr2; rw [own_e3_3 (u := u) (b := (own_up (own_up (own_up (fun _ => (0 : Int32)) 1 (Int32.ofNat 0)) 2 (Int32.ofNat 0)) 3 (Int32.ofNat r3))) (x := v1) (k := 0) rfl (by decide), if_neg (Ne.symm X3), own_e0, if_pos (Eq.symm X0)] at hr4; subst hr4; simp only [if_neg A01, if_neg A12, if_neg A02, if_neg X3, if_neg X2, if_pos X1, if_pos X0] at hv2; subst hv2; decide; done) | (exfalso; simp_all; done)
              · skip
                first | (rw [own_e0, if_neg (Ne.symm A01)] at hr1; subst hr1; rw [own_e0, if_neg (Ne.symm A02)] at hr2; subst hr2; rw [own_e3_3 (u := u) (b := (own_up (own_up (own_up (fun _ => (0 : Int32)) 1 (Int32.ofNat 0)) 2 (Int32.ofNat 0)) 3 (Int32.ofNat r3))) (x := v1) (k := 0) rfl (by decide), if_neg (Ne.symm X3), own_e0, if_neg (Ne.symm X0)] at hr4; subst hr4; simp only [if_neg A01, if_neg A12, if_neg A02, if_neg X3, if_neg X2, if_pos X1, if_neg X0] at hv2; subst hv2; decide; done) | (exfalso; simp_all; done)
            · skip
              by_cases X0 : u 0 = v1
              · skip
                first | (rw [own_e0, if_neg (Ne.symm A01)] at hr1; subst hr1; rw [own_e0, if_neg (Ne.symm A02)] at hr2; subst hr2; rw [own_e3_3 (u := u) (b := (own_up (own_up (own_up (fun _ => (0 : Int32)) 1 (Int32.ofNat 0)) 2 (Int32.ofNat 0)) 3 (Int32.ofNat r3))) (x := v1) (k := 0) rfl (by decide), if_neg (Ne.symm X3), own_e0, if_pos (Eq.symm X0)] at hr4; subst hr4; simp only [if_neg A01, if_neg A12, if_neg A02, if_neg X3, if_neg X2, if_neg X1, if_pos X0] at hv2; subst hv2; decide; done) | (exfalso; simp_all; done)
              · skip
                first | (rw [own_e0, if_neg (Ne.symm A01)] at hr1; subst hr1; rw [own_e0, if_neg (Ne.symm A02)] at hr2; subst hr2; rw [own_e3_3 (u := u) (b := (own_up (own_up (own_up (fun _ => (0 : Int32)) 1 (Int32.ofNat 0)) 2 (Int32.ofNat 0)) 3 (Int32.ofNat r3))) (x := v1) (k := 0) rfl (by decide), if_neg (Ne.symm X3), own_e0, if_neg (Ne.symm X0)] at hr4; subst hr4; simp only [if_neg A01, if_neg A12, if_neg A02, if_neg X3, if_neg X2, if_neg X1, if_neg X0] at hv2; subst hv2; decide; done) | (exfalso; simp_all; done)
theorem ef_0 (m : MethodId) (p0 : Int32) (p1 : Int32) (p2 : Int32) (p3 : Int32) (p4 : Int32) : entryFrame m #[(.int p0), (.int p1), (.int p2), (.int p3), (.int p4)] maxLocals = mkF m 0 #[.val (.int p0), .val (.int p1), .val (.int p2), .val (.int p3), .val (.int p4), .unset, .unset, .unset, .unset, .unset, .unset, .unset] [] := by first | (simp [entryFrame, mkF, argsToLocals, Value.category, maxLocals]; done) | rfl
def Q0 (n0 : Nat) (v : Option Value) (L : List Loc) : Prop := v = some (.int (1 : Int32)) ∧ Fr n0 L
set_option maxRecDepth 65536 in
set_option maxHeartbeats 40000000 in
theorem rm0 (l : Launch) (Z : State) (aq : Array Value) (hw : ∀ d ∈ tables_1, d.before aq Z = true) (ws : List Jvm.Cond) (p0 : Int32) (p1 : Int32) (p2 : Int32) (p3 : Int32) (p4 : Int32) (h0 : Heap) (n0 : Nat) (Z0 : n0 ≤ h0.size) :
    MetFree l x (head1 (Jvm.Cond.code x code maxLocals ret :: ws) room_1) (fun a U => a = #[(.int p0), (.int p1), (.int p2), (.int p3), (.int p4)] ∧ Z.Warmed39 U.vm ∧ U.heap = h0) (fun _ _ _ _ _ => True) (fun _ U o U' => ∃ v L, o = .returned v ∧ Q0 n0 v L ∧ ReturnedEndW U o U' L room_1.cells room_1.slots) := by
  refine MetFree.of_bodySF (plainFor_of_name pn51678678) hisR ?_
  intro p e s m args below meth c s₁ Bd hml0 hP hK
  obtain ⟨rfl, hZ, hh⟩ := hP
  have hx := Bd.exec
  have hby := Bd.bytes
  have hml : c.maxLocals = 12 := hml0
  have hown : s.vm.findClass "com/example/xcu/xcu/UnitStringExtendPinLaw" = some m.cls := findClass_of_methodNamed Bd.named
  have X0 : Stand p l e room_1 s m #[(.int p0), (.int p1), (.int p2), (.int p3), (.int p4)] below meth c s₁ [] 0 0 := Stand.of_body Bd
  have e0 : s₁.heap = h0 := by rw [← hh, Bd.state]; rfl
  have N0 := Fr.nil n0
  have pre0 : ∀ t, Steps p.tables e below (s₁.setTop (mkF m 0 #[.val (.int p0), .val (.int p1), .val (.int p2), .val (.int p3), .val (.int p4), .unset, .unset, .unset, .unset, .unset, .unset, .unset] [])) t → Steps p.tables e below (s₁.setTop (entryFrame m #[(.int p0), (.int p1), (.int p2), (.int p3), (.int p4)] maxLocals)) t := fun t k => castTop (ef_0 m p0 p1 p2 p3 p4) k
  obtain ⟨T274, h274, k274, X274, e274, E274, A274, EE274, st274⟩ := newPE X0 hx hZ (hw _ (List.mem_of_getElem? (i := 0) rfl)) e0 (g := (mkF m 1 #[.val (.int p0), .val (.int p1), .val (.int p2), .val (.int p3), .val (.int p4), .unset, .unset, .unset, .unset, .unset, .unset, .unset] [(.int (4 : Int32))])) rfl (hb hby at_1) rfl (by decide) (cap := 4) (by decide) (by decide) (by decide) (by decide) (ad := "[I") (by decide)
  obtain ⟨b274, g274⟩ : ∃ z, z = h0.size := ⟨_, rfl⟩
  rw [← g274] at A274 EE274 st274
  have g_b274 : n0 ≤ b274 := Nat.le_trans Z0 (Nat.le_of_eq g274.symm)
  have Z275 : n0 ≤ h274.size := Nat.le_trans Z0 E274.1
  have V274 : own_Ar Z h274 b274 .int 4 (fun _ => (0 : Int32)) := own_Ar.of (Arv.new A274 (by decide)) (by decide) (fun i hi => rfl)
  obtain ⟨T276, h276, X276, e276, W276, V276, st276⟩ := own_stI X274 hx hZ e274 V274 (j := (0 : Int32)) (i := 0) (by decide) (by decide) (g := (mkF m 13 #[.val (.int p0), .val (.int p1), .val (.int p2), .val (.int p3), .val (.int p4), .val (.ref b274), .unset, .unset, .unset, .unset, .unset, .unset] [(.int (p0 + (p1 &&& (3 : Int32)))), (.int (0 : Int32)), (.ref b274)])) rfl rfl (hb hby at_13)
  have E277 := EE274.wr W276
  have N278 := Fr.snoc X276 N0 g_b274
  have Z279 : n0 ≤ h276.size := Nat.le_trans Z275 (Keep.of_wr W276).1
  obtain ⟨T280, h280, X280, e280, W280, V280, st280⟩ := own_stI X276 hx hZ e276 V276 (j := (1 : Int32)) (i := 1) (by decide) (by decide) (g := (mkF m 24 #[.val (.int p0), .val (.int p1), .val (.int p2), .val (.int p3), .val (.int p4), .val (.ref b274), .unset, .unset, .unset, .unset, .unset, .unset] [(.int (p0 + ((p1 >>> ((2 : Int32) &&& 31)) &&& (3 : Int32)))), (.int (1 : Int32)), (.ref b274)])) rfl rfl (hb hby at_24)
  have E281 := E277.wr W280
  have N282 := Fr.snoc X280 N278 g_b274
  have Z283 : n0 ≤ h280.size := Nat.le_trans Z279 (Keep.of_wr W280).1
  obtain ⟨T284, h284, X284, e284, W284, V284, st284⟩ := own_stI X280 hx hZ e280 V280 (j := (2 : Int32)) (i := 2) (by decide) (by decide) (g := (mkF m 35 #[.val (.int p0), .val (.int p1), .val (.int p2), .val (.int p3), .val (.int p4), .val (.ref b274), .unset, .unset, .unset, .unset, .unset, .unset] [(.int (p0 + ((p1 >>> ((4 : Int32) &&& 31)) &&& (3 : Int32)))), (.int (2 : Int32)), (.ref b274)])) rfl rfl (hb hby at_35)
  have E285 := E281.wr W284
  have N286 := Fr.snoc X284 N282 g_b274
  have Z287 : n0 ≤ h284.size := Nat.le_trans Z283 (Keep.of_wr W284).1
  obtain ⟨T288, h288, X288, e288, W288, V288, st288⟩ := own_stI X284 hx hZ e284 V284 (j := (3 : Int32)) (i := 3) (by decide) (by decide) (g := (mkF m 47 #[.val (.int p0), .val (.int p1), .val (.int p2), .val (.int p3), .val (.int p4), .val (.ref b274), .unset, .unset, .unset, .unset, .unset, .unset] [(.int (p0 + ((p1 >>> ((6 : Int32) &&& 31)) &&& (3 : Int32)))), (.int (3 : Int32)), (.ref b274)])) rfl rfl (hb hby at_47)
  have E289 := E285.wr W288
  have N290 := Fr.snoc X288 N286 g_b274
  have Z291 : n0 ≤ h288.size := Nat.le_trans Z287 (Keep.of_wr W288).1
  obtain ⟨u, hu⟩ : ∃ z : Nat → Int32, z = (own_up (own_up (own_up (own_up (fun _ => (0 : Int32)) 0 (p0 + (p1 &&& (3 : Int32)))) 1 (p0 + ((p1 >>> ((2 : Int32) &&& 31)) &&& (3 : Int32)))) 2 (p0 + ((p1 >>> ((4 : Int32) &&& 31)) &&& (3 : Int32)))) 3 (p0 + ((p1 >>> ((6 : Int32) &&& 31)) &&& (3 : Int32)))) := ⟨_, rfl⟩
  have V292 : own_Ar Z h288 b274 .int 4 u := by rw [hu]; exact V288
  have pre293 : ∀ t, Steps p.tables e below (T288.setTop (mkF m 59 #[.val (.int p0), .val (.int p1), .val (.int p2), .val (.int p3), .val (.int p4), .val (.ref b274), .val (.int ((p2 &&& (2147483647 : Int32)) % (4 : Int32))), .unset, .unset, .unset, .unset, .unset] [(.int (p3 &&& (1 : Int32)))])) t → Steps p.tables e below (s₁.setTop (entryFrame m #[(.int p0), (.int p1), (.int p2), (.int p3), (.int p4)] maxLocals)) t := fun t kt => by
    refine pre0 _ ?_
    show Steps p.tables e below (s₁.setTop (mkF m 0 #[.val (.int p0), .val (.int p1), .val (.int p2), .val (.int p3), .val (.int p4), .unset, .unset, .unset, .unset, .unset, .unset, .unset] [])) _
    refine XS.iconst X0.here hx rfl (hb hby at_0) ?_
    show Steps p.tables e below (s₁.setTop (mkF m 1 #[.val (.int p0), .val (.int p1), .val (.int p2), .val (.int p3), .val (.int p4), .unset, .unset, .unset, .unset, .unset, .unset, .unset] [(.int (4 : Int32))])) _
    refine st274 _ ?_
    show Steps p.tables e below (T274.setTop (mkF m 3 #[.val (.int p0), .val (.int p1), .val (.int p2), .val (.int p3), .val (.int p4), .unset, .unset, .unset, .unset, .unset, .unset, .unset] [(.ref b274)])) _
    refine XS.astore X274.here hx rfl (hb hby at_3) rfl rfl (l' := #[.val (.int p0), .val (.int p1), .val (.int p2), .val (.int p3), .val (.int p4), .val (.ref b274), .unset, .unset, .unset, .unset, .unset, .unset]) rfl ?_
    show Steps p.tables e below (T274.setTop (mkF m 5 #[.val (.int p0), .val (.int p1), .val (.int p2), .val (.int p3), .val (.int p4), .val (.ref b274), .unset, .unset, .unset, .unset, .unset, .unset] [])) _
    refine XS.aload X274.here hx rfl (hb hby at_5) rfl rfl ?_
    show Steps p.tables e below (T274.setTop (mkF m 7 #[.val (.int p0), .val (.int p1), .val (.int p2), .val (.int p3), .val (.int p4), .val (.ref b274), .unset, .unset, .unset, .unset, .unset, .unset] [(.ref b274)])) _
    refine XS.iconst X274.here hx rfl (hb hby at_7) ?_
    show Steps p.tables e below (T274.setTop (mkF m 8 #[.val (.int p0), .val (.int p1), .val (.int p2), .val (.int p3), .val (.int p4), .val (.ref b274), .unset, .unset, .unset, .unset, .unset, .unset] [(.int (0 : Int32)), (.ref b274)])) _
    refine XS.iloadN X274.here hx rfl (hb hby at_8) rfl ?_
    show Steps p.tables e below (T274.setTop (mkF m 9 #[.val (.int p0), .val (.int p1), .val (.int p2), .val (.int p3), .val (.int p4), .val (.ref b274), .unset, .unset, .unset, .unset, .unset, .unset] [(.int p0), (.int (0 : Int32)), (.ref b274)])) _
    refine XS.iloadN X274.here hx rfl (hb hby at_9) rfl ?_
    show Steps p.tables e below (T274.setTop (mkF m 10 #[.val (.int p0), .val (.int p1), .val (.int p2), .val (.int p3), .val (.int p4), .val (.ref b274), .unset, .unset, .unset, .unset, .unset, .unset] [(.int p1), (.int p0), (.int (0 : Int32)), (.ref b274)])) _
    refine XS.iconst X274.here hx rfl (hb hby at_10) ?_
    show Steps p.tables e below (T274.setTop (mkF m 11 #[.val (.int p0), .val (.int p1), .val (.int p2), .val (.int p3), .val (.int p4), .val (.ref b274), .unset, .unset, .unset, .unset, .unset, .unset] [(.int (3 : Int32)), (.int p1), (.int p0), (.int (0 : Int32)), (.ref b274)])) _
    refine XS.iand X274.here hx rfl (hb hby at_11) rfl ?_
    show Steps p.tables e below (T274.setTop (mkF m 12 #[.val (.int p0), .val (.int p1), .val (.int p2), .val (.int p3), .val (.int p4), .val (.ref b274), .unset, .unset, .unset, .unset, .unset, .unset] [(.int (p1 &&& (3 : Int32))), (.int p0), (.int (0 : Int32)), (.ref b274)])) _
    refine XS.iadd X274.here hx rfl (hb hby at_12) rfl ?_
    show Steps p.tables e below (T274.setTop (mkF m 13 #[.val (.int p0), .val (.int p1), .val (.int p2), .val (.int p3), .val (.int p4), .val (.ref b274), .unset, .unset, .unset, .unset, .unset, .unset] [(.int (p0 + (p1 &&& (3 : Int32)))), (.int (0 : Int32)), (.ref b274)])) _
    refine st276 _ ?_
    show Steps p.tables e below (T276.setTop (mkF m 14 #[.val (.int p0), .val (.int p1), .val (.int p2), .val (.int p3), .val (.int p4), .val (.ref b274), .unset, .unset, .unset, .unset, .unset, .unset] [])) _
    refine XS.aload X276.here hx rfl (hb hby at_14) rfl rfl ?_
    show Steps p.tables e below (T276.setTop (mkF m 16 #[.val (.int p0), .val (.int p1), .val (.int p2), .val (.int p3), .val (.int p4), .val (.ref b274), .unset, .unset, .unset, .unset, .unset, .unset] [(.ref b274)])) _
    refine XS.iconst X276.here hx rfl (hb hby at_16) ?_
    show Steps p.tables e below (T276.setTop (mkF m 17 #[.val (.int p0), .val (.int p1), .val (.int p2), .val (.int p3), .val (.int p4), .val (.ref b274), .unset, .unset, .unset, .unset, .unset, .unset] [(.int (1 : Int32)), (.ref b274)])) _
    refine XS.iloadN X276.here hx rfl (hb hby at_17) rfl ?_
    show Steps p.tables e below (T276.setTop (mkF m 18 #[.val (.int p0), .val (.int p1), .val (.int p2), .val (.int p3), .val (.int p4), .val (.ref b274), .unset, .unset, .unset, .unset, .unset, .unset] [(.int p0), (.int (1 : Int32)), (.ref b274)])) _
    refine XS.iloadN X276.here hx rfl (hb hby at_18) rfl ?_
    show Steps p.tables e below (T276.setTop (mkF m 19 #[.val (.int p0), .val (.int p1), .val (.int p2), .val (.int p3), .val (.int p4), .val (.ref b274), .unset, .unset, .unset, .unset, .unset, .unset] [(.int p1), (.int p0), (.int (1 : Int32)), (.ref b274)])) _
    refine XS.iconst X276.here hx rfl (hb hby at_19) ?_
    show Steps p.tables e below (T276.setTop (mkF m 20 #[.val (.int p0), .val (.int p1), .val (.int p2), .val (.int p3), .val (.int p4), .val (.ref b274), .unset, .unset, .unset, .unset, .unset, .unset] [(.int (2 : Int32)), (.int p1), (.int p0), (.int (1 : Int32)), (.ref b274)])) _
    refine XS.ishr X276.here hx rfl (hb hby at_20) rfl ?_
    show Steps p.tables e below (T276.setTop (mkF m 21 #[.val (.int p0), .val (.int p1), .val (.int p2), .val (.int p3), .val (.int p4), .val (.ref b274), .unset, .unset, .unset, .unset, .unset, .unset] [(.int (p1 >>> ((2 : Int32) &&& 31))), (.int p0), (.int (1 : Int32)), (.ref b274)])) _
    refine XS.iconst X276.here hx rfl (hb hby at_21) ?_
    show Steps p.tables e below (T276.setTop (mkF m 22 #[.val (.int p0), .val (.int p1), .val (.int p2), .val (.int p3), .val (.int p4), .val (.ref b274), .unset, .unset, .unset, .unset, .unset, .unset] [(.int (3 : Int32)), (.int (p1 >>> ((2 : Int32) &&& 31))), (.int p0), (.int (1 : Int32)), (.ref b274)])) _
    refine XS.iand X276.here hx rfl (hb hby at_22) rfl ?_
    show Steps p.tables e below (T276.setTop (mkF m 23 #[.val (.int p0), .val (.int p1), .val (.int p2), .val (.int p3), .val (.int p4), .val (.ref b274), .unset, .unset, .unset, .unset, .unset, .unset] [(.int ((p1 >>> ((2 : Int32) &&& 31)) &&& (3 : Int32))), (.int p0), (.int (1 : Int32)), (.ref b274)])) _
    refine XS.iadd X276.here hx rfl (hb hby at_23) rfl ?_
    show Steps p.tables e below (T276.setTop (mkF m 24 #[.val (.int p0), .val (.int p1), .val (.int p2), .val (.int p3), .val (.int p4), .val (.ref b274), .unset, .unset, .unset, .unset, .unset, .unset] [(.int (p0 + ((p1 >>> ((2 : Int32) &&& 31)) &&& (3 : Int32)))), (.int (1 : Int32)), (.ref b274)])) _
    refine st280 _ ?_
    show Steps p.tables e below (T280.setTop (mkF m 25 #[.val (.int p0), .val (.int p1), .val (.int p2), .val (.int p3), .val (.int p4), .val (.ref b274), .unset, .unset, .unset, .unset, .unset, .unset] [])) _
    refine XS.aload X280.here hx rfl (hb hby at_25) rfl rfl ?_
    show Steps p.tables e below (T280.setTop (mkF m 27 #[.val (.int p0), .val (.int p1), .val (.int p2), .val (.int p3), .val (.int p4), .val (.ref b274), .unset, .unset, .unset, .unset, .unset, .unset] [(.ref b274)])) _
    refine XS.iconst X280.here hx rfl (hb hby at_27) ?_
    show Steps p.tables e below (T280.setTop (mkF m 28 #[.val (.int p0), .val (.int p1), .val (.int p2), .val (.int p3), .val (.int p4), .val (.ref b274), .unset, .unset, .unset, .unset, .unset, .unset] [(.int (2 : Int32)), (.ref b274)])) _
    refine XS.iloadN X280.here hx rfl (hb hby at_28) rfl ?_
    show Steps p.tables e below (T280.setTop (mkF m 29 #[.val (.int p0), .val (.int p1), .val (.int p2), .val (.int p3), .val (.int p4), .val (.ref b274), .unset, .unset, .unset, .unset, .unset, .unset] [(.int p0), (.int (2 : Int32)), (.ref b274)])) _
    refine XS.iloadN X280.here hx rfl (hb hby at_29) rfl ?_
    show Steps p.tables e below (T280.setTop (mkF m 30 #[.val (.int p0), .val (.int p1), .val (.int p2), .val (.int p3), .val (.int p4), .val (.ref b274), .unset, .unset, .unset, .unset, .unset, .unset] [(.int p1), (.int p0), (.int (2 : Int32)), (.ref b274)])) _
    refine XS.iconst X280.here hx rfl (hb hby at_30) ?_
    show Steps p.tables e below (T280.setTop (mkF m 31 #[.val (.int p0), .val (.int p1), .val (.int p2), .val (.int p3), .val (.int p4), .val (.ref b274), .unset, .unset, .unset, .unset, .unset, .unset] [(.int (4 : Int32)), (.int p1), (.int p0), (.int (2 : Int32)), (.ref b274)])) _
    refine XS.ishr X280.here hx rfl (hb hby at_31) rfl ?_
    show Steps p.tables e below (T280.setTop (mkF m 32 #[.val (.int p0), .val (.int p1), .val (.int p2), .val (.int p3), .val (.int p4), .val (.ref b274), .unset, .unset, .unset, .unset, .unset, .unset] [(.int (p1 >>> ((4 : Int32) &&& 31))), (.int p0), (.int (2 : Int32)), (.ref b274)])) _
    refine XS.iconst X280.here hx rfl (hb hby at_32) ?_
    show Steps p.tables e below (T280.setTop (mkF m 33 #[.val (.int p0), .val (.int p1), .val (.int p2), .val (.int p3), .val (.int p4), .val (.ref b274), .unset, .unset, .unset, .unset, .unset, .unset] [(.int (3 : Int32)), (.int (p1 >>> ((4 : Int32) &&& 31))), (.int p0), (.int (2 : Int32)), (.ref b274)])) _
    refine XS.iand X280.here hx rfl (hb hby at_33) rfl ?_
    show Steps p.tables e below (T280.setTop (mkF m 34 #[.val (.int p0), .val (.int p1), .val (.int p2), .val (.int p3), .val (.int p4), .val (.ref b274), .unset, .unset, .unset, .unset, .unset, .unset] [(.int ((p1 >>> ((4 : Int32) &&& 31)) &&& (3 : Int32))), (.int p0), (.int (2 : Int32)), (.ref b274)])) _
    refine XS.iadd X280.here hx rfl (hb hby at_34) rfl ?_
    show Steps p.tables e below (T280.setTop (mkF m 35 #[.val (.int p0), .val (.int p1), .val (.int p2), .val (.int p3), .val (.int p4), .val (.ref b274), .unset, .unset, .unset, .unset, .unset, .unset] [(.int (p0 + ((p1 >>> ((4 : Int32) &&& 31)) &&& (3 : Int32)))), (.int (2 : Int32)), (.ref b274)])) _
    refine st284 _ ?_
    show Steps p.tables e below (T284.setTop (mkF m 36 #[.val (.int p0), .val (.int p1), .val (.int p2), .val (.int p3), .val (.int p4), .val (.ref b274), .unset, .unset, .unset, .unset, .unset, .unset] [])) _
    refine XS.aload X284.here hx rfl (hb hby at_36) rfl rfl ?_
    show Steps p.tables e below (T284.setTop (mkF m 38 #[.val (.int p0), .val (.int p1), .val (.int p2), .val (.int p3), .val (.int p4), .val (.ref b274), .unset, .unset, .unset, .unset, .unset, .unset] [(.ref b274)])) _
    refine XS.iconst X284.here hx rfl (hb hby at_38) ?_
    show Steps p.tables e below (T284.setTop (mkF m 39 #[.val (.int p0), .val (.int p1), .val (.int p2), .val (.int p3), .val (.int p4), .val (.ref b274), .unset, .unset, .unset, .unset, .unset, .unset] [(.int (3 : Int32)), (.ref b274)])) _
    refine XS.iloadN X284.here hx rfl (hb hby at_39) rfl ?_
    show Steps p.tables e below (T284.setTop (mkF m 40 #[.val (.int p0), .val (.int p1), .val (.int p2), .val (.int p3), .val (.int p4), .val (.ref b274), .unset, .unset, .unset, .unset, .unset, .unset] [(.int p0), (.int (3 : Int32)), (.ref b274)])) _
    refine XS.iloadN X284.here hx rfl (hb hby at_40) rfl ?_
    show Steps p.tables e below (T284.setTop (mkF m 41 #[.val (.int p0), .val (.int p1), .val (.int p2), .val (.int p3), .val (.int p4), .val (.ref b274), .unset, .unset, .unset, .unset, .unset, .unset] [(.int p1), (.int p0), (.int (3 : Int32)), (.ref b274)])) _
    refine XS.bipush X284.here hx rfl (hb hby at_41) ?_
    show Steps p.tables e below (T284.setTop (mkF m 43 #[.val (.int p0), .val (.int p1), .val (.int p2), .val (.int p3), .val (.int p4), .val (.ref b274), .unset, .unset, .unset, .unset, .unset, .unset] [(.int (6 : Int32)), (.int p1), (.int p0), (.int (3 : Int32)), (.ref b274)])) _
    refine XS.ishr X284.here hx rfl (hb hby at_43) rfl ?_
    show Steps p.tables e below (T284.setTop (mkF m 44 #[.val (.int p0), .val (.int p1), .val (.int p2), .val (.int p3), .val (.int p4), .val (.ref b274), .unset, .unset, .unset, .unset, .unset, .unset] [(.int (p1 >>> ((6 : Int32) &&& 31))), (.int p0), (.int (3 : Int32)), (.ref b274)])) _
    refine XS.iconst X284.here hx rfl (hb hby at_44) ?_
    show Steps p.tables e below (T284.setTop (mkF m 45 #[.val (.int p0), .val (.int p1), .val (.int p2), .val (.int p3), .val (.int p4), .val (.ref b274), .unset, .unset, .unset, .unset, .unset, .unset] [(.int (3 : Int32)), (.int (p1 >>> ((6 : Int32) &&& 31))), (.int p0), (.int (3 : Int32)), (.ref b274)])) _
    refine XS.iand X284.here hx rfl (hb hby at_45) rfl ?_
    show Steps p.tables e below (T284.setTop (mkF m 46 #[.val (.int p0), .val (.int p1), .val (.int p2), .val (.int p3), .val (.int p4), .val (.ref b274), .unset, .unset, .unset, .unset, .unset, .unset] [(.int ((p1 >>> ((6 : Int32) &&& 31)) &&& (3 : Int32))), (.int p0), (.int (3 : Int32)), (.ref b274)])) _
    refine XS.iadd X284.here hx rfl (hb hby at_46) rfl ?_
    show Steps p.tables e below (T284.setTop (mkF m 47 #[.val (.int p0), .val (.int p1), .val (.int p2), .val (.int p3), .val (.int p4), .val (.ref b274), .unset, .unset, .unset, .unset, .unset, .unset] [(.int (p0 + ((p1 >>> ((6 : Int32) &&& 31)) &&& (3 : Int32)))), (.int (3 : Int32)), (.ref b274)])) _
    refine st288 _ ?_
    show Steps p.tables e below (T288.setTop (mkF m 48 #[.val (.int p0), .val (.int p1), .val (.int p2), .val (.int p3), .val (.int p4), .val (.ref b274), .unset, .unset, .unset, .unset, .unset, .unset] [])) _
    refine XS.iloadN X288.here hx rfl (hb hby at_48) rfl ?_
    show Steps p.tables e below (T288.setTop (mkF m 49 #[.val (.int p0), .val (.int p1), .val (.int p2), .val (.int p3), .val (.int p4), .val (.ref b274), .unset, .unset, .unset, .unset, .unset, .unset] [(.int p2)])) _
    refine X288.ldcInt hx hown (mvT hZ (hw _ (List.mem_of_getElem? (i := 1) rfl))) (g := (mkF m 49 #[.val (.int p0), .val (.int p1), .val (.int p2), .val (.int p3), .val (.int p4), .val (.ref b274), .unset, .unset, .unset, .unset, .unset, .unset] [(.int p2)])) rfl (hb hby at_49) _ ?_
    show Steps p.tables e below (T288.setTop (mkF m 51 #[.val (.int p0), .val (.int p1), .val (.int p2), .val (.int p3), .val (.int p4), .val (.ref b274), .unset, .unset, .unset, .unset, .unset, .unset] [(.int (2147483647 : Int32)), (.int p2)])) _
    refine XS.iand X288.here hx rfl (hb hby at_51) rfl ?_
    show Steps p.tables e below (T288.setTop (mkF m 52 #[.val (.int p0), .val (.int p1), .val (.int p2), .val (.int p3), .val (.int p4), .val (.ref b274), .unset, .unset, .unset, .unset, .unset, .unset] [(.int (p2 &&& (2147483647 : Int32)))])) _
    refine XS.iconst X288.here hx rfl (hb hby at_52) ?_
    show Steps p.tables e below (T288.setTop (mkF m 53 #[.val (.int p0), .val (.int p1), .val (.int p2), .val (.int p3), .val (.int p4), .val (.ref b274), .unset, .unset, .unset, .unset, .unset, .unset] [(.int (4 : Int32)), (.int (p2 &&& (2147483647 : Int32)))])) _
    refine iremM X288 hx rfl (hb hby at_53) rfl (by decide) ?_
    show Steps p.tables e below (T288.setTop (mkF m 54 #[.val (.int p0), .val (.int p1), .val (.int p2), .val (.int p3), .val (.int p4), .val (.ref b274), .unset, .unset, .unset, .unset, .unset, .unset] [(.int ((p2 &&& (2147483647 : Int32)) % (4 : Int32)))])) _
    refine XS.istore X288.here hx rfl (hb hby at_54) rfl (l' := #[.val (.int p0), .val (.int p1), .val (.int p2), .val (.int p3), .val (.int p4), .val (.ref b274), .val (.int ((p2 &&& (2147483647 : Int32)) % (4 : Int32))), .unset, .unset, .unset, .unset, .unset]) rfl ?_
    show Steps p.tables e below (T288.setTop (mkF m 56 #[.val (.int p0), .val (.int p1), .val (.int p2), .val (.int p3), .val (.int p4), .val (.ref b274), .val (.int ((p2 &&& (2147483647 : Int32)) % (4 : Int32))), .unset, .unset, .unset, .unset, .unset] [])) _
    refine XS.iloadN X288.here hx rfl (hb hby at_56) rfl ?_
    show Steps p.tables e below (T288.setTop (mkF m 57 #[.val (.int p0), .val (.int p1), .val (.int p2), .val (.int p3), .val (.int p4), .val (.ref b274), .val (.int ((p2 &&& (2147483647 : Int32)) % (4 : Int32))), .unset, .unset, .unset, .unset, .unset] [(.int p3)])) _
    refine XS.iconst X288.here hx rfl (hb hby at_57) ?_
    show Steps p.tables e below (T288.setTop (mkF m 58 #[.val (.int p0), .val (.int p1), .val (.int p2), .val (.int p3), .val (.int p4), .val (.ref b274), .val (.int ((p2 &&& (2147483647 : Int32)) % (4 : Int32))), .unset, .unset, .unset, .unset, .unset] [(.int (1 : Int32)), (.int p3)])) _
    refine XS.iand X288.here hx rfl (hb hby at_58) rfl ?_
    show Steps p.tables e below (T288.setTop (mkF m 59 #[.val (.int p0), .val (.int p1), .val (.int p2), .val (.int p3), .val (.int p4), .val (.ref b274), .val (.int ((p2 &&& (2147483647 : Int32)) % (4 : Int32))), .unset, .unset, .unset, .unset, .unset] [(.int (p3 &&& (1 : Int32)))])) _
    exact kt
  obtain ⟨v1, hv1⟩ : ∃ z : Int32, z = (if (p3 &&& (1 : Int32)) = (0 : Int32) then (p0 + ((p3 >>> ((1 : Int32) &&& 31)) &&& (3 : Int32))) else p4) := ⟨_, rfl⟩
  have pre295 : ∀ t, Steps p.tables e below (T288.setTop (mkF m 74 #[.val (.int p0), .val (.int p1), .val (.int p2), .val (.int p3), .val (.int p4), .val (.ref b274), .val (.int ((p2 &&& (2147483647 : Int32)) % (4 : Int32))), .unset, .unset, .unset, .unset, .unset] [(.int v1)])) t → Steps p.tables e below (s₁.setTop (entryFrame m #[(.int p0), (.int p1), (.int p2), (.int p3), (.int p4)] maxLocals)) t := fun t kt => by
    refine pre293 _ ?_
    show Steps p.tables e below (T288.setTop (mkF m 59 #[.val (.int p0), .val (.int p1), .val (.int p2), .val (.int p3), .val (.int p4), .val (.ref b274), .val (.int ((p2 &&& (2147483647 : Int32)) % (4 : Int32))), .unset, .unset, .unset, .unset, .unset] [(.int (p3 &&& (1 : Int32)))])) _
    by_cases hc294 : (p3 &&& (1 : Int32)) = (0 : Int32)
    · rw [if_pos hc294] at hv1
      refine XS.ifYes X288.here hx rfl (pc0 := 59) (pc' := 67) rfl (hb hby at_59) rfl ((if0 _ _).trans (teq hc294).1) (by decide) (by decide) ?_
      show Steps p.tables e below (T288.setTop (mkF m 67 #[.val (.int p0), .val (.int p1), .val (.int p2), .val (.int p3), .val (.int p4), .val (.ref b274), .val (.int ((p2 &&& (2147483647 : Int32)) % (4 : Int32))), .unset, .unset, .unset, .unset, .unset] [])) _
      refine XS.iloadN X288.here hx rfl (hb hby at_67) rfl ?_
      show Steps p.tables e below (T288.setTop (mkF m 68 #[.val (.int p0), .val (.int p1), .val (.int p2), .val (.int p3), .val (.int p4), .val (.ref b274), .val (.int ((p2 &&& (2147483647 : Int32)) % (4 : Int32))), .unset, .unset, .unset, .unset, .unset] [(.int p0)])) _
      refine XS.iloadN X288.here hx rfl (hb hby at_68) rfl ?_
      show Steps p.tables e below (T288.setTop (mkF m 69 #[.val (.int p0), .val (.int p1), .val (.int p2), .val (.int p3), .val (.int p4), .val (.ref b274), .val (.int ((p2 &&& (2147483647 : Int32)) % (4 : Int32))), .unset, .unset, .unset, .unset, .unset] [(.int p3), (.int p0)])) _
      refine XS.iconst X288.here hx rfl (hb hby at_69) ?_
      show Steps p.tables e below (T288.setTop (mkF m 70 #[.val (.int p0), .val (.int p1), .val (.int p2), .val (.int p3), .val (.int p4), .val (.ref b274), .val (.int ((p2 &&& (2147483647 : Int32)) % (4 : Int32))), .unset, .unset, .unset, .unset, .unset] [(.int (1 : Int32)), (.int p3), (.int p0)])) _
      refine XS.ishr X288.here hx rfl (hb hby at_70) rfl ?_
      show Steps p.tables e below (T288.setTop (mkF m 71 #[.val (.int p0), .val (.int p1), .val (.int p2), .val (.int p3), .val (.int p4), .val (.ref b274), .val (.int ((p2 &&& (2147483647 : Int32)) % (4 : Int32))), .unset, .unset, .unset, .unset, .unset] [(.int (p3 >>> ((1 : Int32) &&& 31))), (.int p0)])) _
      refine XS.iconst X288.here hx rfl (hb hby at_71) ?_
      show Steps p.tables e below (T288.setTop (mkF m 72 #[.val (.int p0), .val (.int p1), .val (.int p2), .val (.int p3), .val (.int p4), .val (.ref b274), .val (.int ((p2 &&& (2147483647 : Int32)) % (4 : Int32))), .unset, .unset, .unset, .unset, .unset] [(.int (3 : Int32)), (.int (p3 >>> ((1 : Int32) &&& 31))), (.int p0)])) _
      refine XS.iand X288.here hx rfl (hb hby at_72) rfl ?_
      show Steps p.tables e below (T288.setTop (mkF m 73 #[.val (.int p0), .val (.int p1), .val (.int p2), .val (.int p3), .val (.int p4), .val (.ref b274), .val (.int ((p2 &&& (2147483647 : Int32)) % (4 : Int32))), .unset, .unset, .unset, .unset, .unset] [(.int ((p3 >>> ((1 : Int32) &&& 31)) &&& (3 : Int32))), (.int p0)])) _
      refine XS.iadd X288.here hx rfl (hb hby at_73) rfl ?_
      subst hv1
      exact kt
    · rw [if_neg hc294] at hv1
      refine XS.ifNo X288.here hx rfl (hb hby at_59) rfl ((if0 _ _).trans (feq hc294).1) ?_
      show Steps p.tables e below (T288.setTop (mkF m 62 #[.val (.int p0), .val (.int p1), .val (.int p2), .val (.int p3), .val (.int p4), .val (.ref b274), .val (.int ((p2 &&& (2147483647 : Int32)) % (4 : Int32))), .unset, .unset, .unset, .unset, .unset] [])) _
      refine XS.iload X288.here hx rfl (hb hby at_62) rfl ?_
      show Steps p.tables e below (T288.setTop (mkF m 64 #[.val (.int p0), .val (.int p1), .val (.int p2), .val (.int p3), .val (.int p4), .val (.ref b274), .val (.int ((p2 &&& (2147483647 : Int32)) % (4 : Int32))), .unset, .unset, .unset, .unset, .unset] [(.int p4)])) _
      refine XS.goto X288.here hx rfl (pc0 := 64) (pc' := 74) rfl (hb hby at_64) (by decide) (by decide) ?_
      subst hv1
      exact kt
  have pre296 : ∀ t, Steps p.tables e below (T288.setTop (mkF m 76 #[.val (.int p0), .val (.int p1), .val (.int p2), .val (.int p3), .val (.int p4), .val (.ref b274), .val (.int ((p2 &&& (2147483647 : Int32)) % (4 : Int32))), .val (.int v1), .unset, .unset, .unset, .unset] [])) t → Steps p.tables e below (s₁.setTop (entryFrame m #[(.int p0), (.int p1), (.int p2), (.int p3), (.int p4)] maxLocals)) t := fun t kt => by
    refine pre295 _ ?_
    show Steps p.tables e below (T288.setTop (mkF m 74 #[.val (.int p0), .val (.int p1), .val (.int p2), .val (.int p3), .val (.int p4), .val (.ref b274), .val (.int ((p2 &&& (2147483647 : Int32)) % (4 : Int32))), .unset, .unset, .unset, .unset, .unset] [(.int v1)])) _
    refine XS.istore X288.here hx rfl (hb hby at_74) rfl (l' := #[.val (.int p0), .val (.int p1), .val (.int p2), .val (.int p3), .val (.int p4), .val (.ref b274), .val (.int ((p2 &&& (2147483647 : Int32)) % (4 : Int32))), .val (.int v1), .unset, .unset, .unset, .unset]) rfl ?_
    show Steps p.tables e below (T288.setTop (mkF m 76 #[.val (.int p0), .val (.int p1), .val (.int p2), .val (.int p3), .val (.int p4), .val (.ref b274), .val (.int ((p2 &&& (2147483647 : Int32)) % (4 : Int32))), .val (.int v1), .unset, .unset, .unset, .unset] [])) _
    exact kt
  rcases own_m4 p2 with hk | hk | hk | hk
  · skip
    have pre297 : ∀ t, Steps p.tables e below (T288.setTop (mkF m 76 #[.val (.int p0), .val (.int p1), .val (.int p2), .val (.int p3), .val (.int p4), .val (.ref b274), .val (.int (0 : Int32)), .val (.int v1), .unset, .unset, .unset, .unset] [])) t → Steps p.tables e below (s₁.setTop (entryFrame m #[(.int p0), (.int p1), (.int p2), (.int p3), (.int p4)] maxLocals)) t := fun t kt => pre296 t (by rw [hk]; exact kt)
    obtain ⟨T298, h298, k298, X298, e298, E298, A298, EE298, st298⟩ := newPE X288 hx hZ (hw _ (List.mem_of_getElem? (i := 0) rfl)) e288 (g := (mkF m 77 #[.val (.int p0), .val (.int p1), .val (.int p2), .val (.int p3), .val (.int p4), .val (.ref b274), .val (.int (0 : Int32)), .val (.int v1), .unset, .unset, .unset, .unset] [(.int (4 : Int32))])) rfl (hb hby at_77) rfl (by decide) (cap := 4) (by decide) (by decide) (by decide) (by decide) (ad := "[I") (by decide)
    obtain ⟨b298, g298⟩ : ∃ z, z = h288.size := ⟨_, rfl⟩
    rw [← g298] at A298 EE298 st298
    have ne_b274_b298 : b274 ≠ b298 := Nat.ne_of_lt (Nat.lt_of_lt_of_le E289.lt (Nat.le_of_eq g298.symm))
    have g_b298 : n0 ≤ b298 := Nat.le_trans Z291 (Nat.le_of_eq g298.symm)
    have E299 := E289.ext E298
    have V300 := V292.ext E298
    have Z301 : n0 ≤ h298.size := Nat.le_trans Z291 E298.1
    have V298 : own_Ar Z h298 b298 .int 4 (fun _ => (0 : Int32)) := own_Ar.of (Arv.new A298 (by decide)) (by decide) (fun i hi => rfl)
    obtain ⟨T302, h302, X302, e302, W302, V302, st302⟩ := own_stI X298 hx hZ e298 V298 (j := (0 : Int32)) (i := 0) (by decide) (by decide) (g := (mkF m 88 #[.val (.int p0), .val (.int p1), .val (.int p2), .val (.int p3), .val (.int p4), .val (.ref b274), .val (.int (0 : Int32)), .val (.int v1), .val (.ref b298), .unset, .unset, .unset] [(.int (u 0)), (.int (0 : Int32)), (.ref b298)])) rfl rfl (hb hby at_88)
    have E303 := E299.wr W302
    have V304 := V300.other W302 ne_b274_b298
    have E305 := EE298.wr W302
    have N306 := Fr.snoc X302 N290 g_b298
    have Z307 : n0 ≤ h302.size := Nat.le_trans Z301 (Keep.of_wr W302).1
    obtain ⟨T308, h308, X308, e308, W308, V308, st308⟩ := own_stI X302 hx hZ e302 V302 (j := (1 : Int32)) (i := 1) (by decide) (by decide) (g := (mkF m 96 #[.val (.int p0), .val (.int p1), .val (.int p2), .val (.int p3), .val (.int p4), .val (.ref b274), .val (.int (0 : Int32)), .val (.int v1), .val (.ref b298), .unset, .unset, .unset] [(.int (u 1)), (.int (1 : Int32)), (.ref b298)])) rfl rfl (hb hby at_96)
    have E309 := E303.wr W308
    have V310 := V304.other W308 ne_b274_b298
    have E311 := E305.wr W308
    have N312 := Fr.snoc X308 N306 g_b298
    have Z313 : n0 ≤ h308.size := Nat.le_trans Z307 (Keep.of_wr W308).1
    obtain ⟨T314, h314, X314, e314, W314, V314, st314⟩ := own_stI X308 hx hZ e308 V308 (j := (2 : Int32)) (i := 2) (by decide) (by decide) (g := (mkF m 104 #[.val (.int p0), .val (.int p1), .val (.int p2), .val (.int p3), .val (.int p4), .val (.ref b274), .val (.int (0 : Int32)), .val (.int v1), .val (.ref b298), .unset, .unset, .unset] [(.int (u 2)), (.int (2 : Int32)), (.ref b298)])) rfl rfl (hb hby at_104)
    have E315 := E309.wr W314
    have V316 := V310.other W314 ne_b274_b298
    have E317 := E311.wr W314
    have N318 := Fr.snoc X314 N312 g_b298
    have Z319 : n0 ≤ h314.size := Nat.le_trans Z313 (Keep.of_wr W314).1
    obtain ⟨T320, h320, X320, e320, W320, V320, st320⟩ := own_stI X314 hx hZ e314 V314 (j := (3 : Int32)) (i := 3) (by decide) (by decide) (g := (mkF m 112 #[.val (.int p0), .val (.int p1), .val (.int p2), .val (.int p3), .val (.int p4), .val (.ref b274), .val (.int (0 : Int32)), .val (.int v1), .val (.ref b298), .unset, .unset, .unset] [(.int (u 3)), (.int (3 : Int32)), (.ref b298)])) rfl rfl (hb hby at_112)
    have E321 := E315.wr W320
    have V322 := V316.other W320 ne_b274_b298
    have E323 := E317.wr W320
    have N324 := Fr.snoc X320 N318 g_b298
    have Z325 : n0 ≤ h320.size := Nat.le_trans Z319 (Keep.of_wr W320).1
    have V326 : own_Ar Z h320 b298 .int 4 u := V320.mono (own_c4 u)
    obtain ⟨T327, h327, X327, e327, E327, A327, D327, -, st327⟩ := newO X320 hx hZ hown (hw _ (List.mem_of_getElem? (i := 2) rfl)) (hw _ (List.mem_of_getElem? (i := 3) rfl)) (hw _ (List.mem_of_getElem? (i := 4) rfl)) e320 (g := (mkF m 113 #[.val (.int p0), .val (.int p1), .val (.int p2), .val (.int p3), .val (.int p4), .val (.ref b274), .val (.int (0 : Int32)), .val (.int v1), .val (.ref b298), .unset, .unset, .unset] [])) rfl (hb hby at_113) (by decide) (by decide)
    obtain ⟨b327, g327⟩ : ∃ z, z = h320.size := ⟨_, rfl⟩
    rw [← g327] at A327 D327 st327
    have ne_b274_b327 : b274 ≠ b327 := Nat.ne_of_lt (Nat.lt_of_lt_of_le E321.lt (Nat.le_of_eq g327.symm))
    have ne_b298_b327 : b298 ≠ b327 := Nat.ne_of_lt (Nat.lt_of_lt_of_le E323.lt (Nat.le_of_eq g327.symm))
    have g_b327 : n0 ≤ b327 := Nat.le_trans Z325 (Nat.le_of_eq g327.symm)
    have E328 := E321.ext E327
    have V329 := V322.ext E327
    have E330 := E323.ext E327
    have V331 := V326.ext E327
    have Z332 : n0 ≤ h327.size := Nat.le_trans Z325 E327.1
    have F327_text : Fld Z h327 b327 "com/example/xcu/xcu/UnitString$Part" "text" "Ljava/lang/String;" .null := D327 (Or.inr (hw _ (List.mem_of_getElem? (i := 20) rfl))) (ty := (.object "java/lang/String")) (by decide)
    have F327_units : Fld Z h327 b327 "com/example/xcu/xcu/UnitString$Part" "units" "[I" .null := D327 (Or.inr (hw _ (List.mem_of_getElem? (i := 22) rfl))) (ty := (.array .int)) (by decide)
    have F327_borders : Fld Z h327 b327 "com/example/xcu/xcu/UnitString$Part" "borders" "[I" .null := D327 (Or.inr (hw _ (List.mem_of_getElem? (i := 24) rfl))) (ty := (.array .int)) (by decide)
    have pre334 : ∀ t, Steps p.tables e below (T327.setTop (mkF m 117 #[.val (.int p0), .val (.int p1), .val (.int p2), .val (.int p3), .val (.int p4), .val (.ref b274), .val (.int (0 : Int32)), .val (.int v1), .val (.ref b298), .unset, .unset, .unset] [(.ref b327), (.ref b327)])) t → Steps p.tables e below (s₁.setTop (entryFrame m #[(.int p0), (.int p1), (.int p2), (.int p3), (.int p4)] maxLocals)) t := fun t kt => by
      refine pre297 _ ?_
      show Steps p.tables e below (T288.setTop (mkF m 76 #[.val (.int p0), .val (.int p1), .val (.int p2), .val (.int p3), .val (.int p4), .val (.ref b274), .val (.int (0 : Int32)), .val (.int v1), .unset, .unset, .unset, .unset] [])) _
      refine XS.iconst X288.here hx rfl (hb hby at_76) ?_
      show Steps p.tables e below (T288.setTop (mkF m 77 #[.val (.int p0), .val (.int p1), .val (.int p2), .val (.int p3), .val (.int p4), .val (.ref b274), .val (.int (0 : Int32)), .val (.int v1), .unset, .unset, .unset, .unset] [(.int (4 : Int32))])) _
      refine st298 _ ?_
      show Steps p.tables e below (T298.setTop (mkF m 79 #[.val (.int p0), .val (.int p1), .val (.int p2), .val (.int p3), .val (.int p4), .val (.ref b274), .val (.int (0 : Int32)), .val (.int v1), .unset, .unset, .unset, .unset] [(.ref b298)])) _
      refine XS.astore X298.here hx rfl (hb hby at_79) rfl rfl (l' := #[.val (.int p0), .val (.int p1), .val (.int p2), .val (.int p3), .val (.int p4), .val (.ref b274), .val (.int (0 : Int32)), .val (.int v1), .val (.ref b298), .unset, .unset, .unset]) rfl ?_
      show Steps p.tables e below (T298.setTop (mkF m 81 #[.val (.int p0), .val (.int p1), .val (.int p2), .val (.int p3), .val (.int p4), .val (.ref b274), .val (.int (0 : Int32)), .val (.int v1), .val (.ref b298), .unset, .unset, .unset] [])) _
      refine XS.aload X298.here hx rfl (hb hby at_81) rfl rfl ?_
      show Steps p.tables e below (T298.setTop (mkF m 83 #[.val (.int p0), .val (.int p1), .val (.int p2), .val (.int p3), .val (.int p4), .val (.ref b274), .val (.int (0 : Int32)), .val (.int v1), .val (.ref b298), .unset, .unset, .unset] [(.ref b298)])) _
      refine XS.iconst X298.here hx rfl (hb hby at_83) ?_
      show Steps p.tables e below (T298.setTop (mkF m 84 #[.val (.int p0), .val (.int p1), .val (.int p2), .val (.int p3), .val (.int p4), .val (.ref b274), .val (.int (0 : Int32)), .val (.int v1), .val (.ref b298), .unset, .unset, .unset] [(.int (0 : Int32)), (.ref b298)])) _
      refine XS.aload X298.here hx rfl (hb hby at_84) rfl rfl ?_
      show Steps p.tables e below (T298.setTop (mkF m 86 #[.val (.int p0), .val (.int p1), .val (.int p2), .val (.int p3), .val (.int p4), .val (.ref b274), .val (.int (0 : Int32)), .val (.int v1), .val (.ref b298), .unset, .unset, .unset] [(.ref b274), (.int (0 : Int32)), (.ref b298)])) _
      refine XS.iconst X298.here hx rfl (hb hby at_86) ?_
      show Steps p.tables e below (T298.setTop (mkF m 87 #[.val (.int p0), .val (.int p1), .val (.int p2), .val (.int p3), .val (.int p4), .val (.ref b274), .val (.int (0 : Int32)), .val (.int v1), .val (.ref b298), .unset, .unset, .unset] [(.int (0 : Int32)), (.ref b274), (.int (0 : Int32)), (.ref b298)])) _
      refine own_rdI X298 hx hZ e298 V300 (j := (0 : Int32)) (i := 0) (by decide) (by decide) (g := (mkF m 87 #[.val (.int p0), .val (.int p1), .val (.int p2), .val (.int p3), .val (.int p4), .val (.ref b274), .val (.int (0 : Int32)), .val (.int v1), .val (.ref b298), .unset, .unset, .unset] [(.int (0 : Int32)), (.ref b274), (.int (0 : Int32)), (.ref b298)])) rfl rfl (hb hby at_87) _ ?_
      show Steps p.tables e below (T298.setTop (mkF m 88 #[.val (.int p0), .val (.int p1), .val (.int p2), .val (.int p3), .val (.int p4), .val (.ref b274), .val (.int (0 : Int32)), .val (.int v1), .val (.ref b298), .unset, .unset, .unset] [(.int (u 0)), (.int (0 : Int32)), (.ref b298)])) _
      refine st302 _ ?_
      show Steps p.tables e below (T302.setTop (mkF m 89 #[.val (.int p0), .val (.int p1), .val (.int p2), .val (.int p3), .val (.int p4), .val (.ref b274), .val (.int (0 : Int32)), .val (.int v1), .val (.ref b298), .unset, .unset, .unset] [])) _
      refine XS.aload X302.here hx rfl (hb hby at_89) rfl rfl ?_
      show Steps p.tables e below (T302.setTop (mkF m 91 #[.val (.int p0), .val (.int p1), .val (.int p2), .val (.int p3), .val (.int p4), .val (.ref b274), .val (.int (0 : Int32)), .val (.int v1), .val (.ref b298), .unset, .unset, .unset] [(.ref b298)])) _
      refine XS.iconst X302.here hx rfl (hb hby at_91) ?_
      show Steps p.tables e below (T302.setTop (mkF m 92 #[.val (.int p0), .val (.int p1), .val (.int p2), .val (.int p3), .val (.int p4), .val (.ref b274), .val (.int (0 : Int32)), .val (.int v1), .val (.ref b298), .unset, .unset, .unset] [(.int (1 : Int32)), (.ref b298)])) _
      refine XS.aload X302.here hx rfl (hb hby at_92) rfl rfl ?_
      show Steps p.tables e below (T302.setTop (mkF m 94 #[.val (.int p0), .val (.int p1), .val (.int p2), .val (.int p3), .val (.int p4), .val (.ref b274), .val (.int (0 : Int32)), .val (.int v1), .val (.ref b298), .unset, .unset, .unset] [(.ref b274), (.int (1 : Int32)), (.ref b298)])) _
      refine XS.iconst X302.here hx rfl (hb hby at_94) ?_
      show Steps p.tables e below (T302.setTop (mkF m 95 #[.val (.int p0), .val (.int p1), .val (.int p2), .val (.int p3), .val (.int p4), .val (.ref b274), .val (.int (0 : Int32)), .val (.int v1), .val (.ref b298), .unset, .unset, .unset] [(.int (1 : Int32)), (.ref b274), (.int (1 : Int32)), (.ref b298)])) _
      refine own_rdI X302 hx hZ e302 V304 (j := (1 : Int32)) (i := 1) (by decide) (by decide) (g := (mkF m 95 #[.val (.int p0), .val (.int p1), .val (.int p2), .val (.int p3), .val (.int p4), .val (.ref b274), .val (.int (0 : Int32)), .val (.int v1), .val (.ref b298), .unset, .unset, .unset] [(.int (1 : Int32)), (.ref b274), (.int (1 : Int32)), (.ref b298)])) rfl rfl (hb hby at_95) _ ?_
      show Steps p.tables e below (T302.setTop (mkF m 96 #[.val (.int p0), .val (.int p1), .val (.int p2), .val (.int p3), .val (.int p4), .val (.ref b274), .val (.int (0 : Int32)), .val (.int v1), .val (.ref b298), .unset, .unset, .unset] [(.int (u 1)), (.int (1 : Int32)), (.ref b298)])) _
      refine st308 _ ?_
      show Steps p.tables e below (T308.setTop (mkF m 97 #[.val (.int p0), .val (.int p1), .val (.int p2), .val (.int p3), .val (.int p4), .val (.ref b274), .val (.int (0 : Int32)), .val (.int v1), .val (.ref b298), .unset, .unset, .unset] [])) _
      refine XS.aload X308.here hx rfl (hb hby at_97) rfl rfl ?_
      show Steps p.tables e below (T308.setTop (mkF m 99 #[.val (.int p0), .val (.int p1), .val (.int p2), .val (.int p3), .val (.int p4), .val (.ref b274), .val (.int (0 : Int32)), .val (.int v1), .val (.ref b298), .unset, .unset, .unset] [(.ref b298)])) _
      refine XS.iconst X308.here hx rfl (hb hby at_99) ?_
      show Steps p.tables e below (T308.setTop (mkF m 100 #[.val (.int p0), .val (.int p1), .val (.int p2), .val (.int p3), .val (.int p4), .val (.ref b274), .val (.int (0 : Int32)), .val (.int v1), .val (.ref b298), .unset, .unset, .unset] [(.int (2 : Int32)), (.ref b298)])) _
      refine XS.aload X308.here hx rfl (hb hby at_100) rfl rfl ?_
      show Steps p.tables e below (T308.setTop (mkF m 102 #[.val (.int p0), .val (.int p1), .val (.int p2), .val (.int p3), .val (.int p4), .val (.ref b274), .val (.int (0 : Int32)), .val (.int v1), .val (.ref b298), .unset, .unset, .unset] [(.ref b274), (.int (2 : Int32)), (.ref b298)])) _
      refine XS.iconst X308.here hx rfl (hb hby at_102) ?_
      show Steps p.tables e below (T308.setTop (mkF m 103 #[.val (.int p0), .val (.int p1), .val (.int p2), .val (.int p3), .val (.int p4), .val (.ref b274), .val (.int (0 : Int32)), .val (.int v1), .val (.ref b298), .unset, .unset, .unset] [(.int (2 : Int32)), (.ref b274), (.int (2 : Int32)), (.ref b298)])) _
      refine own_rdI X308 hx hZ e308 V310 (j := (2 : Int32)) (i := 2) (by decide) (by decide) (g := (mkF m 103 #[.val (.int p0), .val (.int p1), .val (.int p2), .val (.int p3), .val (.int p4), .val (.ref b274), .val (.int (0 : Int32)), .val (.int v1), .val (.ref b298), .unset, .unset, .unset] [(.int (2 : Int32)), (.ref b274), (.int (2 : Int32)), (.ref b298)])) rfl rfl (hb hby at_103) _ ?_
      show Steps p.tables e below (T308.setTop (mkF m 104 #[.val (.int p0), .val (.int p1), .val (.int p2), .val (.int p3), .val (.int p4), .val (.ref b274), .val (.int (0 : Int32)), .val (.int v1), .val (.ref b298), .unset, .unset, .unset] [(.int (u 2)), (.int (2 : Int32)), (.ref b298)])) _
      refine st314 _ ?_
      show Steps p.tables e below (T314.setTop (mkF m 105 #[.val (.int p0), .val (.int p1), .val (.int p2), .val (.int p3), .val (.int p4), .val (.ref b274), .val (.int (0 : Int32)), .val (.int v1), .val (.ref b298), .unset, .unset, .unset] [])) _
      refine XS.aload X314.here hx rfl (hb hby at_105) rfl rfl ?_
      show Steps p.tables e below (T314.setTop (mkF m 107 #[.val (.int p0), .val (.int p1), .val (.int p2), .val (.int p3), .val (.int p4), .val (.ref b274), .val (.int (0 : Int32)), .val (.int v1), .val (.ref b298), .unset, .unset, .unset] [(.ref b298)])) _
      refine XS.iconst X314.here hx rfl (hb hby at_107) ?_
      show Steps p.tables e below (T314.setTop (mkF m 108 #[.val (.int p0), .val (.int p1), .val (.int p2), .val (.int p3), .val (.int p4), .val (.ref b274), .val (.int (0 : Int32)), .val (.int v1), .val (.ref b298), .unset, .unset, .unset] [(.int (3 : Int32)), (.ref b298)])) _
      refine XS.aload X314.here hx rfl (hb hby at_108) rfl rfl ?_
      show Steps p.tables e below (T314.setTop (mkF m 110 #[.val (.int p0), .val (.int p1), .val (.int p2), .val (.int p3), .val (.int p4), .val (.ref b274), .val (.int (0 : Int32)), .val (.int v1), .val (.ref b298), .unset, .unset, .unset] [(.ref b274), (.int (3 : Int32)), (.ref b298)])) _
      refine XS.iconst X314.here hx rfl (hb hby at_110) ?_
      show Steps p.tables e below (T314.setTop (mkF m 111 #[.val (.int p0), .val (.int p1), .val (.int p2), .val (.int p3), .val (.int p4), .val (.ref b274), .val (.int (0 : Int32)), .val (.int v1), .val (.ref b298), .unset, .unset, .unset] [(.int (3 : Int32)), (.ref b274), (.int (3 : Int32)), (.ref b298)])) _
      refine own_rdI X314 hx hZ e314 V316 (j := (3 : Int32)) (i := 3) (by decide) (by decide) (g := (mkF m 111 #[.val (.int p0), .val (.int p1), .val (.int p2), .val (.int p3), .val (.int p4), .val (.ref b274), .val (.int (0 : Int32)), .val (.int v1), .val (.ref b298), .unset, .unset, .unset] [(.int (3 : Int32)), (.ref b274), (.int (3 : Int32)), (.ref b298)])) rfl rfl (hb hby at_111) _ ?_
      show Steps p.tables e below (T314.setTop (mkF m 112 #[.val (.int p0), .val (.int p1), .val (.int p2), .val (.int p3), .val (.int p4), .val (.ref b274), .val (.int (0 : Int32)), .val (.int v1), .val (.ref b298), .unset, .unset, .unset] [(.int (u 3)), (.int (3 : Int32)), (.ref b298)])) _
      refine st320 _ ?_
      show Steps p.tables e below (T320.setTop (mkF m 113 #[.val (.int p0), .val (.int p1), .val (.int p2), .val (.int p3), .val (.int p4), .val (.ref b274), .val (.int (0 : Int32)), .val (.int v1), .val (.ref b298), .unset, .unset, .unset] [])) _
      refine st327 _ ?_
      show Steps p.tables e below (T327.setTop (mkF m 116 #[.val (.int p0), .val (.int p1), .val (.int p2), .val (.int p3), .val (.int p4), .val (.ref b274), .val (.int (0 : Int32)), .val (.int v1), .val (.ref b298), .unset, .unset, .unset] [(.ref b327)])) _
      refine XS.dup X327.here hx rfl (hb hby at_116) rfl rfl ?_
      show Steps p.tables e below (T327.setTop (mkF m 117 #[.val (.int p0), .val (.int p1), .val (.int p2), .val (.int p3), .val (.int p4), .val (.ref b274), .val (.int (0 : Int32)), .val (.int v1), .val (.ref b298), .unset, .unset, .unset] [(.ref b327), (.ref b327)])) _
      exact kt
    obtain ⟨aS333, T333, h333, k333, X333, e333, E333, hS333, hk333, hZ, hown, st333⟩ := ldcS (s := s) (vm0 := s.vm) X327 hx hZ hown (hw _ (List.mem_of_getElem? (i := 5) rfl)) (own_ws hw) e327 ((State.WarmedH.refl s).since 0) (Nat.zero_le _) (g := (mkF m 117 #[.val (.int p0), .val (.int p1), .val (.int p2), .val (.int p3), .val (.int p4), .val (.ref b274), .val (.int (0 : Int32)), .val (.int v1), .val (.ref b298), .unset, .unset, .unset] [(.ref b327), (.ref b327)])) rfl (hb hby at_117) (n := 4) (by decide) (by decide) (by decide) (by decide)
    have E335 := E328.ext E333
    have V336 := V329.ext E333
    have E337 := E330.ext E333
    have V338 := V331.ext E333
    have E339 := A327.ext E333
    have F340 := F327_text.ext E333
    have F341 := F327_units.ext E333
    have F342 := F327_borders.ext E333
    have Z343 : n0 ≤ h333.size := Nat.le_trans Z332 E333.1
    obtain ⟨_, _, ⟨T344, L344, k344, n344⟩, -, X344, ⟨Lc344, hQ344, l344, y344, z344⟩, st344⟩ := X333.specialBack hx (y := (⟨"com/example/xcu/xcu/UnitString$Part", "<init>", "(Ljava/lang/String;[I)V"⟩ : MethodName)) rfl hown (mvT hZ (hw _ (List.mem_of_getElem? (i := 13) rfl))) (mvT hZ (hw _ (List.mem_of_getElem? (i := 14) rfl))) (mvT hZ (hw _ (List.mem_of_getElem? (i := 15) rfl))) (by decide) (backOf (W := 1) (rm1 l Z aq hw [] b327 aS333 b298 u h333 n0 Z343 E339 F340 F341 F342 V338 g_b327 ne_b298_b327) hZ (hw _ (List.mem_of_getElem? (i := 15) rfl)) (hw _ (List.mem_of_getElem? (i := 4) rfl)) (by decide) (by decide)) (g := (mkF m 121 #[.val (.int p0), .val (.int p1), .val (.int p2), .val (.int p3), .val (.int p4), .val (.ref b274), .val (.int (0 : Int32)), .val (.int v1), .val (.ref b298), .unset, .unset, .unset] [(.ref b298), (.ref aS333), (.ref b327), (.ref b327)])) rfl (by rw [hml]; rfl) (Steps.refl _) (a := b327) (argsL := [(.ref aS333), (.ref b298)]) (rest := [(.ref b327)]) (lenOf pd20273392 rfl) rfl (by show 2 * 0 + _ ≤ _; exact Nat.le_of_eq rfl) (hb hby at_121) (fun _ _ => ⟨rfl, e333, (by decide : 5 + 1 ≤ _), (by decide : 19 + 4 ≤ _)⟩)
    dsimp only [Pt.U, Pt.locs, Pt.cells, Pt.slots] at X344 l344 y344 z344 st344 hQ344
    subst l344 y344 z344
    obtain ⟨ab344, r1, r2, r3, hr1, hr2, hr3, br1, br2, br3, rfl, N344q, K344, E344_0, Fu344, Fb344, Vu344, Vb344⟩ := hQ344
    have E345 := E335.keep K344
    have V346 := V336.keep K344 (ninS ne_b274_b327 nin0)
    have E347 := E337.keep K344
    have V348 := V338.keep K344 (ninS ne_b298_b327 nin0)
    have Z349 : n0 ≤ T344.heap.size := Nat.le_trans Z343 K344.1
    have Y350 : k333 ≤ T344.heap.size := Nat.le_trans hk333 K344.1
    have N351 := Fr.app N324 N344q
    obtain ⟨cq352, kq352, q352a, q352b, q352c⟩ := isOf hZ rfl E344_0
    obtain ⟨_, _, ⟨T352, L352, k352, n352⟩, -, X352, ⟨Lc352, hQ352, l352, y352, z352⟩, st352⟩ := X344.virtualBack hx (y := (⟨"com/example/xcu/xcu/UnitString$Part", "extend", "(II)I"⟩ : MethodName)) (z := (⟨"com/example/xcu/xcu/UnitString$Part", "extend", "(II)I"⟩ : MethodName)) hown (mvT hZ (hw _ (List.mem_of_getElem? (i := 30) rfl))) (mvT hZ (hw _ (List.mem_of_getElem? (i := 26) rfl))) (notFace_of_selects (args := #[]) (mvT hZ (hw _ (List.mem_of_getElem? (i := 28) rfl)))) (mvT hZ (hw _ (List.mem_of_getElem? (i := 28) rfl))) (mvT hZ (hw _ (List.mem_of_getElem? (i := 27) rfl))) (by decide) (backOf (W := 0) (rm3 l Z aq hw [] b327 v1 b298 ab344 u (own_up (own_up (own_up (fun _ => (0 : Int32)) 1 (Int32.ofNat r1)) 2 (Int32.ofNat r2)) 3 (Int32.ofNat r3)) 0 T344.heap n0 Z349 Fu344 Fb344 Vu344 Vb344 (by omega) (own_hb3 (by omega) (by omega) (by omega))) hZ (hw _ (List.mem_of_getElem? (i := 29) rfl)) (hw _ (List.mem_of_getElem? (i := 4) rfl)) (by decide) (by decide)) q352a q352c (g := (mkF m 132 #[.val (.int p0), .val (.int p1), .val (.int p2), .val (.int p3), .val (.int p4), .val (.ref b274), .val (.int (0 : Int32)), .val (.int v1), .val (.ref b298), .val (.ref b327), .unset, .unset] [(.int v1), (.int (0 : Int32)), (.ref b327)])) rfl (by rw [hml]; rfl) (Steps.refl _) (argsL := [(.int (0 : Int32)), (.int v1)]) (rest := []) (lenOf pd84293393 rfl) rfl (by show 2 * 0 + _ ≤ _; exact Nat.le_of_eq rfl) (hb hby at_132) (fun _ _ => ⟨rfl, rfl, (by decide : 6 + 0 ≤ _), (by decide : 23 + 0 ≤ _)⟩)
    dsimp only [Pt.U, Pt.locs, Pt.cells, Pt.slots] at X352 l352 y352 z352 st352 hQ352
    subst l352 y352 z352
    obtain ⟨r4, hr4, br4, rfl, N352q, e352⟩ := hQ352
    have N353 := Fr.app N351 N352q
    obtain ⟨_, _, ⟨T354, L354, k354, n354⟩, -, X354, ⟨Lc354, hQ354, l354, y354, z354⟩, st354⟩ := Jvm.LawKit.callS X352 hx (y := (⟨"com/example/xcu/xcu/UnitStringExtendPinLaw", "fits", "([IIII)Z"⟩ : MethodName)) hown (mvT hZ (hw _ (List.mem_of_getElem? (i := 31) rfl))) (mvT hZ (hw _ (List.mem_of_getElem? (i := 32) rfl))) (mvT hZ (hw _ (List.mem_of_getElem? (i := 33) rfl))) (mvT hZ (hw _ (List.mem_of_getElem? (i := 34) rfl))) (by decide) (backOf (W := 0) (rm4_0_4 l Z aq hw [] b274 v1 u T344.heap n0 Z349 V346) hZ (hw _ (List.mem_of_getElem? (i := 34) rfl)) (hw _ (List.mem_of_getElem? (i := 33) rfl)) (by decide) (by decide)) (g := (mkF m 144 #[.val (.int p0), .val (.int p1), .val (.int p2), .val (.int p3), .val (.int p4), .val (.ref b274), .val (.int (0 : Int32)), .val (.int v1), .val (.ref b298), .val (.ref b327), .val (.int (Int32.ofNat r4)), .unset] [(.int (4 : Int32)), (.int v1), (.int (0 : Int32)), (.ref b274)])) rfl (by rw [hml]; rfl) (argsL := [(.ref b274), (.int (0 : Int32)), (.int v1), (.int (4 : Int32))]) (rest := []) (lenOf pd21711183 rfl) rfl (by show 2 * 0 + _ ≤ _; exact Nat.le_of_eq rfl) (hb hby at_144) (fun _ _ => ⟨rfl, e352, (by decide : 6 + 0 ≤ _), (by decide : 23 + 0 ≤ _)⟩)
    dsimp only [Pt.U, Pt.locs, Pt.cells, Pt.slots] at X354 l354 y354 z354 st354 hQ354
    subst l354 y354 z354
    obtain ⟨rfl, N354q, e354⟩ := hQ354
    have N355 := Fr.app N353 N354q
    obtain ⟨_, _, ⟨T356, L356, k356, n356⟩, -, X356, ⟨Lc356, hQ356, l356, y356, z356⟩, st356⟩ := Jvm.LawKit.callS X354 hx (y := (⟨"com/example/xcu/xcu/UnitStringExtendPinLaw", "fits", "([IIII)Z"⟩ : MethodName)) hown (mvT hZ (hw _ (List.mem_of_getElem? (i := 31) rfl))) (mvT hZ (hw _ (List.mem_of_getElem? (i := 32) rfl))) (mvT hZ (hw _ (List.mem_of_getElem? (i := 33) rfl))) (mvT hZ (hw _ (List.mem_of_getElem? (i := 34) rfl))) (by decide) (backOf (W := 0) (rm4_0_3 l Z aq hw [] b274 v1 u T344.heap n0 Z349 V346) hZ (hw _ (List.mem_of_getElem? (i := 34) rfl)) (hw _ (List.mem_of_getElem? (i := 33) rfl)) (by decide) (by decide)) (g := (mkF m 163 #[.val (.int p0), .val (.int p1), .val (.int p2), .val (.int p3), .val (.int p4), .val (.ref b274), .val (.int (0 : Int32)), .val (.int v1), .val (.ref b298), .val (.ref b327), .val (.int (Int32.ofNat r4)), .unset] [(.int (3 : Int32)), (.int v1), (.int (0 : Int32)), (.ref b274)])) rfl (by rw [hml]; rfl) (argsL := [(.ref b274), (.int (0 : Int32)), (.int v1), (.int (3 : Int32))]) (rest := []) (lenOf pd21711183 rfl) rfl (by show 2 * 0 + _ ≤ _; exact Nat.le_of_eq rfl) (hb hby at_163) (fun _ _ => ⟨rfl, e354, (by decide : 6 + 0 ≤ _), (by decide : 23 + 0 ≤ _)⟩)
    dsimp only [Pt.U, Pt.locs, Pt.cells, Pt.slots] at X356 l356 y356 z356 st356 hQ356
    subst l356 y356 z356
    obtain ⟨rfl, N356q, e356⟩ := hQ356
    have N357 := Fr.app N355 N356q
    obtain ⟨_, _, ⟨T358, L358, k358, n358⟩, -, X358, ⟨Lc358, hQ358, l358, y358, z358⟩, st358⟩ := Jvm.LawKit.callS X356 hx (y := (⟨"com/example/xcu/xcu/UnitStringExtendPinLaw", "fits", "([IIII)Z"⟩ : MethodName)) hown (mvT hZ (hw _ (List.mem_of_getElem? (i := 31) rfl))) (mvT hZ (hw _ (List.mem_of_getElem? (i := 32) rfl))) (mvT hZ (hw _ (List.mem_of_getElem? (i := 33) rfl))) (mvT hZ (hw _ (List.mem_of_getElem? (i := 34) rfl))) (by decide) (backOf (W := 0) (rm4_0_2 l Z aq hw [] b274 v1 u T344.heap n0 Z349 V346) hZ (hw _ (List.mem_of_getElem? (i := 34) rfl)) (hw _ (List.mem_of_getElem? (i := 33) rfl)) (by decide) (by decide)) (g := (mkF m 182 #[.val (.int p0), .val (.int p1), .val (.int p2), .val (.int p3), .val (.int p4), .val (.ref b274), .val (.int (0 : Int32)), .val (.int v1), .val (.ref b298), .val (.ref b327), .val (.int (Int32.ofNat r4)), .unset] [(.int (2 : Int32)), (.int v1), (.int (0 : Int32)), (.ref b274)])) rfl (by rw [hml]; rfl) (argsL := [(.ref b274), (.int (0 : Int32)), (.int v1), (.int (2 : Int32))]) (rest := []) (lenOf pd21711183 rfl) rfl (by show 2 * 0 + _ ≤ _; exact Nat.le_of_eq rfl) (hb hby at_182) (fun _ _ => ⟨rfl, e356, (by decide : 6 + 0 ≤ _), (by decide : 23 + 0 ≤ _)⟩)
    dsimp only [Pt.U, Pt.locs, Pt.cells, Pt.slots] at X358 l358 y358 z358 st358 hQ358
    subst l358 y358 z358
    obtain ⟨rfl, N358q, e358⟩ := hQ358
    have N359 := Fr.app N357 N358q
    obtain ⟨_, _, ⟨T360, L360, k360, n360⟩, -, X360, ⟨Lc360, hQ360, l360, y360, z360⟩, st360⟩ := Jvm.LawKit.callS X358 hx (y := (⟨"com/example/xcu/xcu/UnitStringExtendPinLaw", "fits", "([IIII)Z"⟩ : MethodName)) hown (mvT hZ (hw _ (List.mem_of_getElem? (i := 31) rfl))) (mvT hZ (hw _ (List.mem_of_getElem? (i := 32) rfl))) (mvT hZ (hw _ (List.mem_of_getElem? (i := 33) rfl))) (mvT hZ (hw _ (List.mem_of_getElem? (i := 34) rfl))) (by decide) (backOf (W := 0) (rm4_0_1 l Z aq hw [] b274 v1 u T344.heap n0 Z349 V346) hZ (hw _ (List.mem_of_getElem? (i := 34) rfl)) (hw _ (List.mem_of_getElem? (i := 33) rfl)) (by decide) (by decide)) (g := (mkF m 201 #[.val (.int p0), .val (.int p1), .val (.int p2), .val (.int p3), .val (.int p4), .val (.ref b274), .val (.int (0 : Int32)), .val (.int v1), .val (.ref b298), .val (.ref b327), .val (.int (Int32.ofNat r4)), .unset] [(.int (1 : Int32)), (.int v1), (.int (0 : Int32)), (.ref b274)])) rfl (by rw [hml]; rfl) (argsL := [(.ref b274), (.int (0 : Int32)), (.int v1), (.int (1 : Int32))]) (rest := []) (lenOf pd21711183 rfl) rfl (by show 2 * 0 + _ ≤ _; exact Nat.le_of_eq rfl) (hb hby at_201) (fun _ _ => ⟨rfl, e358, (by decide : 6 + 0 ≤ _), (by decide : 23 + 0 ≤ _)⟩)
    dsimp only [Pt.U, Pt.locs, Pt.cells, Pt.slots] at X360 l360 y360 z360 st360 hQ360
    subst l360 y360 z360
    obtain ⟨rfl, N360q, e360⟩ := hQ360
    have N361 := Fr.app N359 N360q
    have pre362 : ∀ t, Steps p.tables e below (T360.setTop (mkF m 204 #[.val (.int p0), .val (.int p1), .val (.int p2), .val (.int p3), .val (.int p4), .val (.ref b274), .val (.int (0 : Int32)), .val (.int v1), .val (.ref b298), .val (.ref b327), .val (.int (Int32.ofNat r4)), .unset] [(.int (if (u 0) = v1 then (1 : Int32) else (0 : Int32)))])) t → Steps p.tables e below (s₁.setTop (entryFrame m #[(.int p0), (.int p1), (.int p2), (.int p3), (.int p4)] maxLocals)) t := fun t kt => by
      refine pre334 _ ?_
      show Steps p.tables e below (T327.setTop (mkF m 117 #[.val (.int p0), .val (.int p1), .val (.int p2), .val (.int p3), .val (.int p4), .val (.ref b274), .val (.int (0 : Int32)), .val (.int v1), .val (.ref b298), .unset, .unset, .unset] [(.ref b327), (.ref b327)])) _
      refine st333 _ ?_
      show Steps p.tables e below (T333.setTop (mkF m 119 #[.val (.int p0), .val (.int p1), .val (.int p2), .val (.int p3), .val (.int p4), .val (.ref b274), .val (.int (0 : Int32)), .val (.int v1), .val (.ref b298), .unset, .unset, .unset] [(.ref aS333), (.ref b327), (.ref b327)])) _
      refine XS.aload X333.here hx rfl (hb hby at_119) rfl rfl ?_
      show Steps p.tables e below (T333.setTop (mkF m 121 #[.val (.int p0), .val (.int p1), .val (.int p2), .val (.int p3), .val (.int p4), .val (.ref b274), .val (.int (0 : Int32)), .val (.int v1), .val (.ref b298), .unset, .unset, .unset] [(.ref b298), (.ref aS333), (.ref b327), (.ref b327)])) _
      refine st344.trans ?_
      show Steps p.tables e below (T344.setTop (mkF m 124 #[.val (.int p0), .val (.int p1), .val (.int p2), .val (.int p3), .val (.int p4), .val (.ref b274), .val (.int (0 : Int32)), .val (.int v1), .val (.ref b298), .unset, .unset, .unset] [(.ref b327)])) _
      refine XS.astore X344.here hx rfl (hb hby at_124) rfl rfl (l' := #[.val (.int p0), .val (.int p1), .val (.int p2), .val (.int p3), .val (.int p4), .val (.ref b274), .val (.int (0 : Int32)), .val (.int v1), .val (.ref b298), .val (.ref b327), .unset, .unset]) rfl ?_
      show Steps p.tables e below (T344.setTop (mkF m 126 #[.val (.int p0), .val (.int p1), .val (.int p2), .val (.int p3), .val (.int p4), .val (.ref b274), .val (.int (0 : Int32)), .val (.int v1), .val (.ref b298), .val (.ref b327), .unset, .unset] [])) _
      refine XS.aload X344.here hx rfl (hb hby at_126) rfl rfl ?_
      show Steps p.tables e below (T344.setTop (mkF m 128 #[.val (.int p0), .val (.int p1), .val (.int p2), .val (.int p3), .val (.int p4), .val (.ref b274), .val (.int (0 : Int32)), .val (.int v1), .val (.ref b298), .val (.ref b327), .unset, .unset] [(.ref b327)])) _
      refine XS.iload X344.here hx rfl (hb hby at_128) rfl ?_
      show Steps p.tables e below (T344.setTop (mkF m 130 #[.val (.int p0), .val (.int p1), .val (.int p2), .val (.int p3), .val (.int p4), .val (.ref b274), .val (.int (0 : Int32)), .val (.int v1), .val (.ref b298), .val (.ref b327), .unset, .unset] [(.int (0 : Int32)), (.ref b327)])) _
      refine XS.iload X344.here hx rfl (hb hby at_130) rfl ?_
      show Steps p.tables e below (T344.setTop (mkF m 132 #[.val (.int p0), .val (.int p1), .val (.int p2), .val (.int p3), .val (.int p4), .val (.ref b274), .val (.int (0 : Int32)), .val (.int v1), .val (.ref b298), .val (.ref b327), .unset, .unset] [(.int v1), (.int (0 : Int32)), (.ref b327)])) _
      refine st352.trans ?_
      show Steps p.tables e below (T352.setTop (mkF m 135 #[.val (.int p0), .val (.int p1), .val (.int p2), .val (.int p3), .val (.int p4), .val (.ref b274), .val (.int (0 : Int32)), .val (.int v1), .val (.ref b298), .val (.ref b327), .unset, .unset] [(.int (Int32.ofNat r4))])) _
      refine XS.istore X352.here hx rfl (hb hby at_135) rfl (l' := #[.val (.int p0), .val (.int p1), .val (.int p2), .val (.int p3), .val (.int p4), .val (.ref b274), .val (.int (0 : Int32)), .val (.int v1), .val (.ref b298), .val (.ref b327), .val (.int (Int32.ofNat r4)), .unset]) rfl ?_
      show Steps p.tables e below (T352.setTop (mkF m 137 #[.val (.int p0), .val (.int p1), .val (.int p2), .val (.int p3), .val (.int p4), .val (.ref b274), .val (.int (0 : Int32)), .val (.int v1), .val (.ref b298), .val (.ref b327), .val (.int (Int32.ofNat r4)), .unset] [])) _
      refine XS.aload X352.here hx rfl (hb hby at_137) rfl rfl ?_
      show Steps p.tables e below (T352.setTop (mkF m 139 #[.val (.int p0), .val (.int p1), .val (.int p2), .val (.int p3), .val (.int p4), .val (.ref b274), .val (.int (0 : Int32)), .val (.int v1), .val (.ref b298), .val (.ref b327), .val (.int (Int32.ofNat r4)), .unset] [(.ref b274)])) _
      refine XS.iload X352.here hx rfl (hb hby at_139) rfl ?_
      show Steps p.tables e below (T352.setTop (mkF m 141 #[.val (.int p0), .val (.int p1), .val (.int p2), .val (.int p3), .val (.int p4), .val (.ref b274), .val (.int (0 : Int32)), .val (.int v1), .val (.ref b298), .val (.ref b327), .val (.int (Int32.ofNat r4)), .unset] [(.int (0 : Int32)), (.ref b274)])) _
      refine XS.iload X352.here hx rfl (hb hby at_141) rfl ?_
      show Steps p.tables e below (T352.setTop (mkF m 143 #[.val (.int p0), .val (.int p1), .val (.int p2), .val (.int p3), .val (.int p4), .val (.ref b274), .val (.int (0 : Int32)), .val (.int v1), .val (.ref b298), .val (.ref b327), .val (.int (Int32.ofNat r4)), .unset] [(.int v1), (.int (0 : Int32)), (.ref b274)])) _
      refine XS.iconst X352.here hx rfl (hb hby at_143) ?_
      show Steps p.tables e below (T352.setTop (mkF m 144 #[.val (.int p0), .val (.int p1), .val (.int p2), .val (.int p3), .val (.int p4), .val (.ref b274), .val (.int (0 : Int32)), .val (.int v1), .val (.ref b298), .val (.ref b327), .val (.int (Int32.ofNat r4)), .unset] [(.int (4 : Int32)), (.int v1), (.int (0 : Int32)), (.ref b274)])) _
      refine st354 _ ?_
      show Steps p.tables e below (T354.setTop (mkF m 147 #[.val (.int p0), .val (.int p1), .val (.int p2), .val (.int p3), .val (.int p4), .val (.ref b274), .val (.int (0 : Int32)), .val (.int v1), .val (.ref b298), .val (.ref b327), .val (.int (Int32.ofNat r4)), .unset] [(.int (0 : Int32))])) _
      refine XS.ifYes X354.here hx rfl (pc0 := 147) (pc' := 156) rfl (hb hby at_147) rfl ((if0 _ _).trans (teq (by decide : (0 : Int32) = (0 : Int32))).1) (by decide) (by decide) ?_
      show Steps p.tables e below (T354.setTop (mkF m 156 #[.val (.int p0), .val (.int p1), .val (.int p2), .val (.int p3), .val (.int p4), .val (.ref b274), .val (.int (0 : Int32)), .val (.int v1), .val (.ref b298), .val (.ref b327), .val (.int (Int32.ofNat r4)), .unset] [])) _
      refine XS.aload X354.here hx rfl (hb hby at_156) rfl rfl ?_
      show Steps p.tables e below (T354.setTop (mkF m 158 #[.val (.int p0), .val (.int p1), .val (.int p2), .val (.int p3), .val (.int p4), .val (.ref b274), .val (.int (0 : Int32)), .val (.int v1), .val (.ref b298), .val (.ref b327), .val (.int (Int32.ofNat r4)), .unset] [(.ref b274)])) _
      refine XS.iload X354.here hx rfl (hb hby at_158) rfl ?_
      show Steps p.tables e below (T354.setTop (mkF m 160 #[.val (.int p0), .val (.int p1), .val (.int p2), .val (.int p3), .val (.int p4), .val (.ref b274), .val (.int (0 : Int32)), .val (.int v1), .val (.ref b298), .val (.ref b327), .val (.int (Int32.ofNat r4)), .unset] [(.int (0 : Int32)), (.ref b274)])) _
      refine XS.iload X354.here hx rfl (hb hby at_160) rfl ?_
      show Steps p.tables e below (T354.setTop (mkF m 162 #[.val (.int p0), .val (.int p1), .val (.int p2), .val (.int p3), .val (.int p4), .val (.ref b274), .val (.int (0 : Int32)), .val (.int v1), .val (.ref b298), .val (.ref b327), .val (.int (Int32.ofNat r4)), .unset] [(.int v1), (.int (0 : Int32)), (.ref b274)])) _
      refine XS.iconst X354.here hx rfl (hb hby at_162) ?_
      show Steps p.tables e below (T354.setTop (mkF m 163 #[.val (.int p0), .val (.int p1), .val (.int p2), .val (.int p3), .val (.int p4), .val (.ref b274), .val (.int (0 : Int32)), .val (.int v1), .val (.ref b298), .val (.ref b327), .val (.int (Int32.ofNat r4)), .unset] [(.int (3 : Int32)), (.int v1), (.int (0 : Int32)), (.ref b274)])) _
      refine st356 _ ?_
      show Steps p.tables e below (T356.setTop (mkF m 166 #[.val (.int p0), .val (.int p1), .val (.int p2), .val (.int p3), .val (.int p4), .val (.ref b274), .val (.int (0 : Int32)), .val (.int v1), .val (.ref b298), .val (.ref b327), .val (.int (Int32.ofNat r4)), .unset] [(.int (0 : Int32))])) _
      refine XS.ifYes X356.here hx rfl (pc0 := 166) (pc' := 175) rfl (hb hby at_166) rfl ((if0 _ _).trans (teq (by decide : (0 : Int32) = (0 : Int32))).1) (by decide) (by decide) ?_
      show Steps p.tables e below (T356.setTop (mkF m 175 #[.val (.int p0), .val (.int p1), .val (.int p2), .val (.int p3), .val (.int p4), .val (.ref b274), .val (.int (0 : Int32)), .val (.int v1), .val (.ref b298), .val (.ref b327), .val (.int (Int32.ofNat r4)), .unset] [])) _
      refine XS.aload X356.here hx rfl (hb hby at_175) rfl rfl ?_
      show Steps p.tables e below (T356.setTop (mkF m 177 #[.val (.int p0), .val (.int p1), .val (.int p2), .val (.int p3), .val (.int p4), .val (.ref b274), .val (.int (0 : Int32)), .val (.int v1), .val (.ref b298), .val (.ref b327), .val (.int (Int32.ofNat r4)), .unset] [(.ref b274)])) _
      refine XS.iload X356.here hx rfl (hb hby at_177) rfl ?_
      show Steps p.tables e below (T356.setTop (mkF m 179 #[.val (.int p0), .val (.int p1), .val (.int p2), .val (.int p3), .val (.int p4), .val (.ref b274), .val (.int (0 : Int32)), .val (.int v1), .val (.ref b298), .val (.ref b327), .val (.int (Int32.ofNat r4)), .unset] [(.int (0 : Int32)), (.ref b274)])) _
      refine XS.iload X356.here hx rfl (hb hby at_179) rfl ?_
      show Steps p.tables e below (T356.setTop (mkF m 181 #[.val (.int p0), .val (.int p1), .val (.int p2), .val (.int p3), .val (.int p4), .val (.ref b274), .val (.int (0 : Int32)), .val (.int v1), .val (.ref b298), .val (.ref b327), .val (.int (Int32.ofNat r4)), .unset] [(.int v1), (.int (0 : Int32)), (.ref b274)])) _
      refine XS.iconst X356.here hx rfl (hb hby at_181) ?_
      show Steps p.tables e below (T356.setTop (mkF m 182 #[.val (.int p0), .val (.int p1), .val (.int p2), .val (.int p3), .val (.int p4), .val (.ref b274), .val (.int (0 : Int32)), .val (.int v1), .val (.ref b298), .val (.ref b327), .val (.int (Int32.ofNat r4)), .unset] [(.int (2 : Int32)), (.int v1), (.int (0 : Int32)), (.ref b274)])) _
      refine st358 _ ?_
      show Steps p.tables e below (T358.setTop (mkF m 185 #[.val (.int p0), .val (.int p1), .val (.int p2), .val (.int p3), .val (.int p4), .val (.ref b274), .val (.int (0 : Int32)), .val (.int v1), .val (.ref b298), .val (.ref b327), .val (.int (Int32.ofNat r4)), .unset] [(.int (0 : Int32))])) _
      refine XS.ifYes X358.here hx rfl (pc0 := 185) (pc' := 194) rfl (hb hby at_185) rfl ((if0 _ _).trans (teq (by decide : (0 : Int32) = (0 : Int32))).1) (by decide) (by decide) ?_
      show Steps p.tables e below (T358.setTop (mkF m 194 #[.val (.int p0), .val (.int p1), .val (.int p2), .val (.int p3), .val (.int p4), .val (.ref b274), .val (.int (0 : Int32)), .val (.int v1), .val (.ref b298), .val (.ref b327), .val (.int (Int32.ofNat r4)), .unset] [])) _
      refine XS.aload X358.here hx rfl (hb hby at_194) rfl rfl ?_
      show Steps p.tables e below (T358.setTop (mkF m 196 #[.val (.int p0), .val (.int p1), .val (.int p2), .val (.int p3), .val (.int p4), .val (.ref b274), .val (.int (0 : Int32)), .val (.int v1), .val (.ref b298), .val (.ref b327), .val (.int (Int32.ofNat r4)), .unset] [(.ref b274)])) _
      refine XS.iload X358.here hx rfl (hb hby at_196) rfl ?_
      show Steps p.tables e below (T358.setTop (mkF m 198 #[.val (.int p0), .val (.int p1), .val (.int p2), .val (.int p3), .val (.int p4), .val (.ref b274), .val (.int (0 : Int32)), .val (.int v1), .val (.ref b298), .val (.ref b327), .val (.int (Int32.ofNat r4)), .unset] [(.int (0 : Int32)), (.ref b274)])) _
      refine XS.iload X358.here hx rfl (hb hby at_198) rfl ?_
      show Steps p.tables e below (T358.setTop (mkF m 200 #[.val (.int p0), .val (.int p1), .val (.int p2), .val (.int p3), .val (.int p4), .val (.ref b274), .val (.int (0 : Int32)), .val (.int v1), .val (.ref b298), .val (.ref b327), .val (.int (Int32.ofNat r4)), .unset] [(.int v1), (.int (0 : Int32)), (.ref b274)])) _
      refine XS.iconst X358.here hx rfl (hb hby at_200) ?_
      show Steps p.tables e below (T358.setTop (mkF m 201 #[.val (.int p0), .val (.int p1), .val (.int p2), .val (.int p3), .val (.int p4), .val (.ref b274), .val (.int (0 : Int32)), .val (.int v1), .val (.ref b298), .val (.ref b327), .val (.int (Int32.ofNat r4)), .unset] [(.int (1 : Int32)), (.int v1), (.int (0 : Int32)), (.ref b274)])) _
      refine st360 _ ?_
      show Steps p.tables e below (T360.setTop (mkF m 204 #[.val (.int p0), .val (.int p1), .val (.int p2), .val (.int p3), .val (.int p4), .val (.ref b274), .val (.int (0 : Int32)), .val (.int v1), .val (.ref b298), .val (.ref b327), .val (.int (Int32.ofNat r4)), .unset] [(.int (if (u 0) = v1 then (1 : Int32) else (0 : Int32)))])) _
      exact kt
    obtain ⟨v2, hv2⟩ : ∃ z : Int32, z = (if (if (u 0) = v1 then (1 : Int32) else (0 : Int32)) = (0 : Int32) then (0 : Int32) else (1 : Int32)) := ⟨_, rfl⟩
    have pre364 : ∀ t, Steps p.tables e below (T360.setTop (mkF m 216 #[.val (.int p0), .val (.int p1), .val (.int p2), .val (.int p3), .val (.int p4), .val (.ref b274), .val (.int (0 : Int32)), .val (.int v1), .val (.ref b298), .val (.ref b327), .val (.int (Int32.ofNat r4)), .val (.int v2)] [])) t → Steps p.tables e below (s₁.setTop (entryFrame m #[(.int p0), (.int p1), (.int p2), (.int p3), (.int p4)] maxLocals)) t := fun t kt => by
      refine pre362 _ ?_
      show Steps p.tables e below (T360.setTop (mkF m 204 #[.val (.int p0), .val (.int p1), .val (.int p2), .val (.int p3), .val (.int p4), .val (.ref b274), .val (.int (0 : Int32)), .val (.int v1), .val (.ref b298), .val (.ref b327), .val (.int (Int32.ofNat r4)), .unset] [(.int (if (u 0) = v1 then (1 : Int32) else (0 : Int32)))])) _
      by_cases hc363 : (if (u 0) = v1 then (1 : Int32) else (0 : Int32)) = (0 : Int32)
      · rw [if_pos hc363] at hv2
        refine XS.ifYes X360.here hx rfl (pc0 := 204) (pc' := 213) rfl (hb hby at_204) rfl ((if0 _ _).trans (teq hc363).1) (by decide) (by decide) ?_
        show Steps p.tables e below (T360.setTop (mkF m 213 #[.val (.int p0), .val (.int p1), .val (.int p2), .val (.int p3), .val (.int p4), .val (.ref b274), .val (.int (0 : Int32)), .val (.int v1), .val (.ref b298), .val (.ref b327), .val (.int (Int32.ofNat r4)), .unset] [])) _
        refine XS.iconst X360.here hx rfl (hb hby at_213) ?_
        show Steps p.tables e below (T360.setTop (mkF m 214 #[.val (.int p0), .val (.int p1), .val (.int p2), .val (.int p3), .val (.int p4), .val (.ref b274), .val (.int (0 : Int32)), .val (.int v1), .val (.ref b298), .val (.ref b327), .val (.int (Int32.ofNat r4)), .unset] [(.int (0 : Int32))])) _
        refine XS.istore X360.here hx rfl (hb hby at_214) rfl (l' := #[.val (.int p0), .val (.int p1), .val (.int p2), .val (.int p3), .val (.int p4), .val (.ref b274), .val (.int (0 : Int32)), .val (.int v1), .val (.ref b298), .val (.ref b327), .val (.int (Int32.ofNat r4)), .val (.int (0 : Int32))]) rfl ?_
        subst hv2
        exact kt
      · rw [if_neg hc363] at hv2
        refine XS.ifNo X360.here hx rfl (hb hby at_204) rfl ((if0 _ _).trans (feq hc363).1) ?_
        show Steps p.tables e below (T360.setTop (mkF m 207 #[.val (.int p0), .val (.int p1), .val (.int p2), .val (.int p3), .val (.int p4), .val (.ref b274), .val (.int (0 : Int32)), .val (.int v1), .val (.ref b298), .val (.ref b327), .val (.int (Int32.ofNat r4)), .unset] [])) _
        refine XS.iconst X360.here hx rfl (hb hby at_207) ?_
        show Steps p.tables e below (T360.setTop (mkF m 208 #[.val (.int p0), .val (.int p1), .val (.int p2), .val (.int p3), .val (.int p4), .val (.ref b274), .val (.int (0 : Int32)), .val (.int v1), .val (.ref b298), .val (.ref b327), .val (.int (Int32.ofNat r4)), .unset] [(.int (1 : Int32))])) _
        refine XS.istore X360.here hx rfl (hb hby at_208) rfl (l' := #[.val (.int p0), .val (.int p1), .val (.int p2), .val (.int p3), .val (.int p4), .val (.ref b274), .val (.int (0 : Int32)), .val (.int v1), .val (.ref b298), .val (.ref b327), .val (.int (Int32.ofNat r4)), .val (.int (1 : Int32))]) rfl ?_
        show Steps p.tables e below (T360.setTop (mkF m 210 #[.val (.int p0), .val (.int p1), .val (.int p2), .val (.int p3), .val (.int p4), .val (.ref b274), .val (.int (0 : Int32)), .val (.int v1), .val (.ref b298), .val (.ref b327), .val (.int (Int32.ofNat r4)), .val (.int (1 : Int32))] [])) _
        refine XS.goto X360.here hx rfl (pc0 := 210) (pc' := 216) rfl (hb hby at_210) (by decide) (by decide) ?_
        subst hv2
        exact kt
    have pre365 : ∀ t, Steps p.tables e below (T360.setTop (mkF m 220 #[.val (.int p0), .val (.int p1), .val (.int p2), .val (.int p3), .val (.int p4), .val (.ref b274), .val (.int (0 : Int32)), .val (.int v1), .val (.ref b298), .val (.ref b327), .val (.int (Int32.ofNat r4)), .val (.int v2)] [(.int v2), (.int (Int32.ofNat r4))])) t → Steps p.tables e below (s₁.setTop (entryFrame m #[(.int p0), (.int p1), (.int p2), (.int p3), (.int p4)] maxLocals)) t := fun t kt => by
      refine pre364 _ ?_
      show Steps p.tables e below (T360.setTop (mkF m 216 #[.val (.int p0), .val (.int p1), .val (.int p2), .val (.int p3), .val (.int p4), .val (.ref b274), .val (.int (0 : Int32)), .val (.int v1), .val (.ref b298), .val (.ref b327), .val (.int (Int32.ofNat r4)), .val (.int v2)] [])) _
      refine XS.iload X360.here hx rfl (hb hby at_216) rfl ?_
      show Steps p.tables e below (T360.setTop (mkF m 218 #[.val (.int p0), .val (.int p1), .val (.int p2), .val (.int p3), .val (.int p4), .val (.ref b274), .val (.int (0 : Int32)), .val (.int v1), .val (.ref b298), .val (.ref b327), .val (.int (Int32.ofNat r4)), .val (.int v2)] [(.int (Int32.ofNat r4))])) _
      refine XS.iload X360.here hx rfl (hb hby at_218) rfl ?_
      show Steps p.tables e below (T360.setTop (mkF m 220 #[.val (.int p0), .val (.int p1), .val (.int p2), .val (.int p3), .val (.int p4), .val (.ref b274), .val (.int (0 : Int32)), .val (.int v1), .val (.ref b298), .val (.ref b327), .val (.int (Int32.ofNat r4)), .val (.int v2)] [(.int v2), (.int (Int32.ofNat r4))])) _
      exact kt
    obtain ⟨v3, hv3⟩ : ∃ z : Int32, z = (if (Int32.ofNat r4) = v2 then (1 : Int32) else (0 : Int32)) := ⟨_, rfl⟩
    have pre367 : ∀ t, Steps p.tables e below (T360.setTop (mkF m 228 #[.val (.int p0), .val (.int p1), .val (.int p2), .val (.int p3), .val (.int p4), .val (.ref b274), .val (.int (0 : Int32)), .val (.int v1), .val (.ref b298), .val (.ref b327), .val (.int (Int32.ofNat r4)), .val (.int v2)] [(.int v3)])) t → Steps p.tables e below (s₁.setTop (entryFrame m #[(.int p0), (.int p1), (.int p2), (.int p3), (.int p4)] maxLocals)) t := fun t kt => by
      refine pre365 _ ?_
      show Steps p.tables e below (T360.setTop (mkF m 220 #[.val (.int p0), .val (.int p1), .val (.int p2), .val (.int p3), .val (.int p4), .val (.ref b274), .val (.int (0 : Int32)), .val (.int v1), .val (.ref b298), .val (.ref b327), .val (.int (Int32.ofNat r4)), .val (.int v2)] [(.int v2), (.int (Int32.ofNat r4))])) _
      by_cases hc366 : (Int32.ofNat r4) = v2
      · rw [if_pos hc366] at hv3
        refine XS.icmpNo X360.here hx rfl (hb hby at_220) rfl (teq hc366).2 ?_
        show Steps p.tables e below (T360.setTop (mkF m 223 #[.val (.int p0), .val (.int p1), .val (.int p2), .val (.int p3), .val (.int p4), .val (.ref b274), .val (.int (0 : Int32)), .val (.int v1), .val (.ref b298), .val (.ref b327), .val (.int (Int32.ofNat r4)), .val (.int v2)] [])) _
        refine XS.iconst X360.here hx rfl (hb hby at_223) ?_
        show Steps p.tables e below (T360.setTop (mkF m 224 #[.val (.int p0), .val (.int p1), .val (.int p2), .val (.int p3), .val (.int p4), .val (.ref b274), .val (.int (0 : Int32)), .val (.int v1), .val (.ref b298), .val (.ref b327), .val (.int (Int32.ofNat r4)), .val (.int v2)] [(.int (1 : Int32))])) _
        refine XS.goto X360.here hx rfl (pc0 := 224) (pc' := 228) rfl (hb hby at_224) (by decide) (by decide) ?_
        subst hv3
        exact kt
      · rw [if_neg hc366] at hv3
        refine XS.icmpYes X360.here hx rfl (pc0 := 220) (pc' := 227) rfl (hb hby at_220) rfl (feq hc366).2 (by decide) (by decide) ?_
        show Steps p.tables e below (T360.setTop (mkF m 227 #[.val (.int p0), .val (.int p1), .val (.int p2), .val (.int p3), .val (.int p4), .val (.ref b274), .val (.int (0 : Int32)), .val (.int v1), .val (.ref b298), .val (.ref b327), .val (.int (Int32.ofNat r4)), .val (.int v2)] [])) _
        refine XS.iconst X360.here hx rfl (hb hby at_227) ?_
        subst hv3
        exact kt
    have hfin : v3 = 1 := (own_plain0 p0 p1 p2 p3 p4 u r1 r2 r3 r4 v1 hv1 v2 hv2 v3 hv3 hr1 hr2 hr3 br1 br2 br3 hr4 br4)
    obtain ⟨fs, hr, hrun, hended, hEW⟩ := X360.leaveW hS333 (by rw [e360]; exact Y350) (v := some (.int (v3 &&& 1))) (fun h => by rw [Bd.returns] at h; cases h)
    refine ⟨_, _, pre367 _ ?_, hrun, hended, _, _, rfl, ?_, hEW.1, hEW.2.1, hEW.2.2.1, hEW.2.2.2.mono (by decide) (by decide)⟩
    · exact retN X360 hx (t := .boolean) Bd.returns (by simp) (hb hby at_228) hr
    · exact ⟨by rw [hfin]; rfl, N361⟩
  · skip
    have pre368 : ∀ t, Steps p.tables e below (T288.setTop (mkF m 76 #[.val (.int p0), .val (.int p1), .val (.int p2), .val (.int p3), .val (.int p4), .val (.ref b274), .val (.int (1 : Int32)), .val (.int v1), .unset, .unset, .unset, .unset] [])) t → Steps p.tables e below (s₁.setTop (entryFrame m #[(.int p0), (.int p1), (.int p2), (.int p3), (.int p4)] maxLocals)) t := fun t kt => pre296 t (by rw [hk]; exact kt)
    obtain ⟨T369, h369, k369, X369, e369, E369, A369, EE369, st369⟩ := newPE X288 hx hZ (hw _ (List.mem_of_getElem? (i := 0) rfl)) e288 (g := (mkF m 77 #[.val (.int p0), .val (.int p1), .val (.int p2), .val (.int p3), .val (.int p4), .val (.ref b274), .val (.int (1 : Int32)), .val (.int v1), .unset, .unset, .unset, .unset] [(.int (4 : Int32))])) rfl (hb hby at_77) rfl (by decide) (cap := 4) (by decide) (by decide) (by decide) (by decide) (ad := "[I") (by decide)
    obtain ⟨b369, g369⟩ : ∃ z, z = h288.size := ⟨_, rfl⟩
    rw [← g369] at A369 EE369 st369
    have ne_b274_b369 : b274 ≠ b369 := Nat.ne_of_lt (Nat.lt_of_lt_of_le E289.lt (Nat.le_of_eq g369.symm))
    have g_b369 : n0 ≤ b369 := Nat.le_trans Z291 (Nat.le_of_eq g369.symm)
    have E370 := E289.ext E369
    have V371 := V292.ext E369
    have Z372 : n0 ≤ h369.size := Nat.le_trans Z291 E369.1
    have V369 : own_Ar Z h369 b369 .int 4 (fun _ => (0 : Int32)) := own_Ar.of (Arv.new A369 (by decide)) (by decide) (fun i hi => rfl)
    obtain ⟨T373, h373, X373, e373, W373, V373, st373⟩ := own_stI X369 hx hZ e369 V369 (j := (0 : Int32)) (i := 0) (by decide) (by decide) (g := (mkF m 88 #[.val (.int p0), .val (.int p1), .val (.int p2), .val (.int p3), .val (.int p4), .val (.ref b274), .val (.int (1 : Int32)), .val (.int v1), .val (.ref b369), .unset, .unset, .unset] [(.int (u 0)), (.int (0 : Int32)), (.ref b369)])) rfl rfl (hb hby at_88)
    have E374 := E370.wr W373
    have V375 := V371.other W373 ne_b274_b369
    have E376 := EE369.wr W373
    have N377 := Fr.snoc X373 N290 g_b369
    have Z378 : n0 ≤ h373.size := Nat.le_trans Z372 (Keep.of_wr W373).1
    obtain ⟨T379, h379, X379, e379, W379, V379, st379⟩ := own_stI X373 hx hZ e373 V373 (j := (1 : Int32)) (i := 1) (by decide) (by decide) (g := (mkF m 96 #[.val (.int p0), .val (.int p1), .val (.int p2), .val (.int p3), .val (.int p4), .val (.ref b274), .val (.int (1 : Int32)), .val (.int v1), .val (.ref b369), .unset, .unset, .unset] [(.int (u 1)), (.int (1 : Int32)), (.ref b369)])) rfl rfl (hb hby at_96)
    have E380 := E374.wr W379
    have V381 := V375.other W379 ne_b274_b369
    have E382 := E376.wr W379
    have N383 := Fr.snoc X379 N377 g_b369
    have Z384 : n0 ≤ h379.size := Nat.le_trans Z378 (Keep.of_wr W379).1
    obtain ⟨T385, h385, X385, e385, W385, V385, st385⟩ := own_stI X379 hx hZ e379 V379 (j := (2 : Int32)) (i := 2) (by decide) (by decide) (g := (mkF m 104 #[.val (.int p0), .val (.int p1), .val (.int p2), .val (.int p3), .val (.int p4), .val (.ref b274), .val (.int (1 : Int32)), .val (.int v1), .val (.ref b369), .unset, .unset, .unset] [(.int (u 2)), (.int (2 : Int32)), (.ref b369)])) rfl rfl (hb hby at_104)
    have E386 := E380.wr W385
    have V387 := V381.other W385 ne_b274_b369
    have E388 := E382.wr W385
    have N389 := Fr.snoc X385 N383 g_b369
    have Z390 : n0 ≤ h385.size := Nat.le_trans Z384 (Keep.of_wr W385).1
    obtain ⟨T391, h391, X391, e391, W391, V391, st391⟩ := own_stI X385 hx hZ e385 V385 (j := (3 : Int32)) (i := 3) (by decide) (by decide) (g := (mkF m 112 #[.val (.int p0), .val (.int p1), .val (.int p2), .val (.int p3), .val (.int p4), .val (.ref b274), .val (.int (1 : Int32)), .val (.int v1), .val (.ref b369), .unset, .unset, .unset] [(.int (u 3)), (.int (3 : Int32)), (.ref b369)])) rfl rfl (hb hby at_112)
    have E392 := E386.wr W391
    have V393 := V387.other W391 ne_b274_b369
    have E394 := E388.wr W391
    have N395 := Fr.snoc X391 N389 g_b369
    have Z396 : n0 ≤ h391.size := Nat.le_trans Z390 (Keep.of_wr W391).1
    have V397 : own_Ar Z h391 b369 .int 4 u := V391.mono (own_c4 u)
    obtain ⟨T398, h398, X398, e398, E398, A398, D398, -, st398⟩ := newO X391 hx hZ hown (hw _ (List.mem_of_getElem? (i := 2) rfl)) (hw _ (List.mem_of_getElem? (i := 3) rfl)) (hw _ (List.mem_of_getElem? (i := 4) rfl)) e391 (g := (mkF m 113 #[.val (.int p0), .val (.int p1), .val (.int p2), .val (.int p3), .val (.int p4), .val (.ref b274), .val (.int (1 : Int32)), .val (.int v1), .val (.ref b369), .unset, .unset, .unset] [])) rfl (hb hby at_113) (by decide) (by decide)
    obtain ⟨b398, g398⟩ : ∃ z, z = h391.size := ⟨_, rfl⟩
    rw [← g398] at A398 D398 st398
    have ne_b274_b398 : b274 ≠ b398 := Nat.ne_of_lt (Nat.lt_of_lt_of_le E392.lt (Nat.le_of_eq g398.symm))
    have ne_b369_b398 : b369 ≠ b398 := Nat.ne_of_lt (Nat.lt_of_lt_of_le E394.lt (Nat.le_of_eq g398.symm))
    have g_b398 : n0 ≤ b398 := Nat.le_trans Z396 (Nat.le_of_eq g398.symm)
    have E399 := E392.ext E398
    have V400 := V393.ext E398
    have E401 := E394.ext E398
    have V402 := V397.ext E398
    have Z403 : n0 ≤ h398.size := Nat.le_trans Z396 E398.1
    have F398_text : Fld Z h398 b398 "com/example/xcu/xcu/UnitString$Part" "text" "Ljava/lang/String;" .null := D398 (Or.inr (hw _ (List.mem_of_getElem? (i := 20) rfl))) (ty := (.object "java/lang/String")) (by decide)
    have F398_units : Fld Z h398 b398 "com/example/xcu/xcu/UnitString$Part" "units" "[I" .null := D398 (Or.inr (hw _ (List.mem_of_getElem? (i := 22) rfl))) (ty := (.array .int)) (by decide)
    have F398_borders : Fld Z h398 b398 "com/example/xcu/xcu/UnitString$Part" "borders" "[I" .null := D398 (Or.inr (hw _ (List.mem_of_getElem? (i := 24) rfl))) (ty := (.array .int)) (by decide)
    have pre405 : ∀ t, Steps p.tables e below (T398.setTop (mkF m 117 #[.val (.int p0), .val (.int p1), .val (.int p2), .val (.int p3), .val (.int p4), .val (.ref b274), .val (.int (1 : Int32)), .val (.int v1), .val (.ref b369), .unset, .unset, .unset] [(.ref b398), (.ref b398)])) t → Steps p.tables e below (s₁.setTop (entryFrame m #[(.int p0), (.int p1), (.int p2), (.int p3), (.int p4)] maxLocals)) t := fun t kt => by
      refine pre368 _ ?_
      show Steps p.tables e below (T288.setTop (mkF m 76 #[.val (.int p0), .val (.int p1), .val (.int p2), .val (.int p3), .val (.int p4), .val (.ref b274), .val (.int (1 : Int32)), .val (.int v1), .unset, .unset, .unset, .unset] [])) _
      refine XS.iconst X288.here hx rfl (hb hby at_76) ?_
      show Steps p.tables e below (T288.setTop (mkF m 77 #[.val (.int p0), .val (.int p1), .val (.int p2), .val (.int p3), .val (.int p4), .val (.ref b274), .val (.int (1 : Int32)), .val (.int v1), .unset, .unset, .unset, .unset] [(.int (4 : Int32))])) _
      refine st369 _ ?_
      show Steps p.tables e below (T369.setTop (mkF m 79 #[.val (.int p0), .val (.int p1), .val (.int p2), .val (.int p3), .val (.int p4), .val (.ref b274), .val (.int (1 : Int32)), .val (.int v1), .unset, .unset, .unset, .unset] [(.ref b369)])) _
      refine XS.astore X369.here hx rfl (hb hby at_79) rfl rfl (l' := #[.val (.int p0), .val (.int p1), .val (.int p2), .val (.int p3), .val (.int p4), .val (.ref b274), .val (.int (1 : Int32)), .val (.int v1), .val (.ref b369), .unset, .unset, .unset]) rfl ?_
      show Steps p.tables e below (T369.setTop (mkF m 81 #[.val (.int p0), .val (.int p1), .val (.int p2), .val (.int p3), .val (.int p4), .val (.ref b274), .val (.int (1 : Int32)), .val (.int v1), .val (.ref b369), .unset, .unset, .unset] [])) _
      refine XS.aload X369.here hx rfl (hb hby at_81) rfl rfl ?_
      show Steps p.tables e below (T369.setTop (mkF m 83 #[.val (.int p0), .val (.int p1), .val (.int p2), .val (.int p3), .val (.int p4), .val (.ref b274), .val (.int (1 : Int32)), .val (.int v1), .val (.ref b369), .unset, .unset, .unset] [(.ref b369)])) _
      refine XS.iconst X369.here hx rfl (hb hby at_83) ?_
      show Steps p.tables e below (T369.setTop (mkF m 84 #[.val (.int p0), .val (.int p1), .val (.int p2), .val (.int p3), .val (.int p4), .val (.ref b274), .val (.int (1 : Int32)), .val (.int v1), .val (.ref b369), .unset, .unset, .unset] [(.int (0 : Int32)), (.ref b369)])) _
      refine XS.aload X369.here hx rfl (hb hby at_84) rfl rfl ?_
      show Steps p.tables e below (T369.setTop (mkF m 86 #[.val (.int p0), .val (.int p1), .val (.int p2), .val (.int p3), .val (.int p4), .val (.ref b274), .val (.int (1 : Int32)), .val (.int v1), .val (.ref b369), .unset, .unset, .unset] [(.ref b274), (.int (0 : Int32)), (.ref b369)])) _
      refine XS.iconst X369.here hx rfl (hb hby at_86) ?_
      show Steps p.tables e below (T369.setTop (mkF m 87 #[.val (.int p0), .val (.int p1), .val (.int p2), .val (.int p3), .val (.int p4), .val (.ref b274), .val (.int (1 : Int32)), .val (.int v1), .val (.ref b369), .unset, .unset, .unset] [(.int (0 : Int32)), (.ref b274), (.int (0 : Int32)), (.ref b369)])) _
      refine own_rdI X369 hx hZ e369 V371 (j := (0 : Int32)) (i := 0) (by decide) (by decide) (g := (mkF m 87 #[.val (.int p0), .val (.int p1), .val (.int p2), .val (.int p3), .val (.int p4), .val (.ref b274), .val (.int (1 : Int32)), .val (.int v1), .val (.ref b369), .unset, .unset, .unset] [(.int (0 : Int32)), (.ref b274), (.int (0 : Int32)), (.ref b369)])) rfl rfl (hb hby at_87) _ ?_
      show Steps p.tables e below (T369.setTop (mkF m 88 #[.val (.int p0), .val (.int p1), .val (.int p2), .val (.int p3), .val (.int p4), .val (.ref b274), .val (.int (1 : Int32)), .val (.int v1), .val (.ref b369), .unset, .unset, .unset] [(.int (u 0)), (.int (0 : Int32)), (.ref b369)])) _
      refine st373 _ ?_
      show Steps p.tables e below (T373.setTop (mkF m 89 #[.val (.int p0), .val (.int p1), .val (.int p2), .val (.int p3), .val (.int p4), .val (.ref b274), .val (.int (1 : Int32)), .val (.int v1), .val (.ref b369), .unset, .unset, .unset] [])) _
      refine XS.aload X373.here hx rfl (hb hby at_89) rfl rfl ?_
      show Steps p.tables e below (T373.setTop (mkF m 91 #[.val (.int p0), .val (.int p1), .val (.int p2), .val (.int p3), .val (.int p4), .val (.ref b274), .val (.int (1 : Int32)), .val (.int v1), .val (.ref b369), .unset, .unset, .unset] [(.ref b369)])) _
      refine XS.iconst X373.here hx rfl (hb hby at_91) ?_
      show Steps p.tables e below (T373.setTop (mkF m 92 #[.val (.int p0), .val (.int p1), .val (.int p2), .val (.int p3), .val (.int p4), .val (.ref b274), .val (.int (1 : Int32)), .val (.int v1), .val (.ref b369), .unset, .unset, .unset] [(.int (1 : Int32)), (.ref b369)])) _
      refine XS.aload X373.here hx rfl (hb hby at_92) rfl rfl ?_
      show Steps p.tables e below (T373.setTop (mkF m 94 #[.val (.int p0), .val (.int p1), .val (.int p2), .val (.int p3), .val (.int p4), .val (.ref b274), .val (.int (1 : Int32)), .val (.int v1), .val (.ref b369), .unset, .unset, .unset] [(.ref b274), (.int (1 : Int32)), (.ref b369)])) _
      refine XS.iconst X373.here hx rfl (hb hby at_94) ?_
      show Steps p.tables e below (T373.setTop (mkF m 95 #[.val (.int p0), .val (.int p1), .val (.int p2), .val (.int p3), .val (.int p4), .val (.ref b274), .val (.int (1 : Int32)), .val (.int v1), .val (.ref b369), .unset, .unset, .unset] [(.int (1 : Int32)), (.ref b274), (.int (1 : Int32)), (.ref b369)])) _
      refine own_rdI X373 hx hZ e373 V375 (j := (1 : Int32)) (i := 1) (by decide) (by decide) (g := (mkF m 95 #[.val (.int p0), .val (.int p1), .val (.int p2), .val (.int p3), .val (.int p4), .val (.ref b274), .val (.int (1 : Int32)), .val (.int v1), .val (.ref b369), .unset, .unset, .unset] [(.int (1 : Int32)), (.ref b274), (.int (1 : Int32)), (.ref b369)])) rfl rfl (hb hby at_95) _ ?_
      show Steps p.tables e below (T373.setTop (mkF m 96 #[.val (.int p0), .val (.int p1), .val (.int p2), .val (.int p3), .val (.int p4), .val (.ref b274), .val (.int (1 : Int32)), .val (.int v1), .val (.ref b369), .unset, .unset, .unset] [(.int (u 1)), (.int (1 : Int32)), (.ref b369)])) _
      refine st379 _ ?_
      show Steps p.tables e below (T379.setTop (mkF m 97 #[.val (.int p0), .val (.int p1), .val (.int p2), .val (.int p3), .val (.int p4), .val (.ref b274), .val (.int (1 : Int32)), .val (.int v1), .val (.ref b369), .unset, .unset, .unset] [])) _
      refine XS.aload X379.here hx rfl (hb hby at_97) rfl rfl ?_
      show Steps p.tables e below (T379.setTop (mkF m 99 #[.val (.int p0), .val (.int p1), .val (.int p2), .val (.int p3), .val (.int p4), .val (.ref b274), .val (.int (1 : Int32)), .val (.int v1), .val (.ref b369), .unset, .unset, .unset] [(.ref b369)])) _
      refine XS.iconst X379.here hx rfl (hb hby at_99) ?_
      show Steps p.tables e below (T379.setTop (mkF m 100 #[.val (.int p0), .val (.int p1), .val (.int p2), .val (.int p3), .val (.int p4), .val (.ref b274), .val (.int (1 : Int32)), .val (.int v1), .val (.ref b369), .unset, .unset, .unset] [(.int (2 : Int32)), (.ref b369)])) _
      refine XS.aload X379.here hx rfl (hb hby at_100) rfl rfl ?_
      show Steps p.tables e below (T379.setTop (mkF m 102 #[.val (.int p0), .val (.int p1), .val (.int p2), .val (.int p3), .val (.int p4), .val (.ref b274), .val (.int (1 : Int32)), .val (.int v1), .val (.ref b369), .unset, .unset, .unset] [(.ref b274), (.int (2 : Int32)), (.ref b369)])) _
      refine XS.iconst X379.here hx rfl (hb hby at_102) ?_
      show Steps p.tables e below (T379.setTop (mkF m 103 #[.val (.int p0), .val (.int p1), .val (.int p2), .val (.int p3), .val (.int p4), .val (.ref b274), .val (.int (1 : Int32)), .val (.int v1), .val (.ref b369), .unset, .unset, .unset] [(.int (2 : Int32)), (.ref b274), (.int (2 : Int32)), (.ref b369)])) _
      refine own_rdI X379 hx hZ e379 V381 (j := (2 : Int32)) (i := 2) (by decide) (by decide) (g := (mkF m 103 #[.val (.int p0), .val (.int p1), .val (.int p2), .val (.int p3), .val (.int p4), .val (.ref b274), .val (.int (1 : Int32)), .val (.int v1), .val (.ref b369), .unset, .unset, .unset] [(.int (2 : Int32)), (.ref b274), (.int (2 : Int32)), (.ref b369)])) rfl rfl (hb hby at_103) _ ?_
      show Steps p.tables e below (T379.setTop (mkF m 104 #[.val (.int p0), .val (.int p1), .val (.int p2), .val (.int p3), .val (.int p4), .val (.ref b274), .val (.int (1 : Int32)), .val (.int v1), .val (.ref b369), .unset, .unset, .unset] [(.int (u 2)), (.int (2 : Int32)), (.ref b369)])) _
      refine st385 _ ?_
      show Steps p.tables e below (T385.setTop (mkF m 105 #[.val (.int p0), .val (.int p1), .val (.int p2), .val (.int p3), .val (.int p4), .val (.ref b274), .val (.int (1 : Int32)), .val (.int v1), .val (.ref b369), .unset, .unset, .unset] [])) _
      refine XS.aload X385.here hx rfl (hb hby at_105) rfl rfl ?_
      show Steps p.tables e below (T385.setTop (mkF m 107 #[.val (.int p0), .val (.int p1), .val (.int p2), .val (.int p3), .val (.int p4), .val (.ref b274), .val (.int (1 : Int32)), .val (.int v1), .val (.ref b369), .unset, .unset, .unset] [(.ref b369)])) _
      refine XS.iconst X385.here hx rfl (hb hby at_107) ?_
      show Steps p.tables e below (T385.setTop (mkF m 108 #[.val (.int p0), .val (.int p1), .val (.int p2), .val (.int p3), .val (.int p4), .val (.ref b274), .val (.int (1 : Int32)), .val (.int v1), .val (.ref b369), .unset, .unset, .unset] [(.int (3 : Int32)), (.ref b369)])) _
      refine XS.aload X385.here hx rfl (hb hby at_108) rfl rfl ?_
      show Steps p.tables e below (T385.setTop (mkF m 110 #[.val (.int p0), .val (.int p1), .val (.int p2), .val (.int p3), .val (.int p4), .val (.ref b274), .val (.int (1 : Int32)), .val (.int v1), .val (.ref b369), .unset, .unset, .unset] [(.ref b274), (.int (3 : Int32)), (.ref b369)])) _
      refine XS.iconst X385.here hx rfl (hb hby at_110) ?_
      show Steps p.tables e below (T385.setTop (mkF m 111 #[.val (.int p0), .val (.int p1), .val (.int p2), .val (.int p3), .val (.int p4), .val (.ref b274), .val (.int (1 : Int32)), .val (.int v1), .val (.ref b369), .unset, .unset, .unset] [(.int (3 : Int32)), (.ref b274), (.int (3 : Int32)), (.ref b369)])) _
      refine own_rdI X385 hx hZ e385 V387 (j := (3 : Int32)) (i := 3) (by decide) (by decide) (g := (mkF m 111 #[.val (.int p0), .val (.int p1), .val (.int p2), .val (.int p3), .val (.int p4), .val (.ref b274), .val (.int (1 : Int32)), .val (.int v1), .val (.ref b369), .unset, .unset, .unset] [(.int (3 : Int32)), (.ref b274), (.int (3 : Int32)), (.ref b369)])) rfl rfl (hb hby at_111) _ ?_
      show Steps p.tables e below (T385.setTop (mkF m 112 #[.val (.int p0), .val (.int p1), .val (.int p2), .val (.int p3), .val (.int p4), .val (.ref b274), .val (.int (1 : Int32)), .val (.int v1), .val (.ref b369), .unset, .unset, .unset] [(.int (u 3)), (.int (3 : Int32)), (.ref b369)])) _
      refine st391 _ ?_
      show Steps p.tables e below (T391.setTop (mkF m 113 #[.val (.int p0), .val (.int p1), .val (.int p2), .val (.int p3), .val (.int p4), .val (.ref b274), .val (.int (1 : Int32)), .val (.int v1), .val (.ref b369), .unset, .unset, .unset] [])) _
      refine st398 _ ?_
      show Steps p.tables e below (T398.setTop (mkF m 116 #[.val (.int p0), .val (.int p1), .val (.int p2), .val (.int p3), .val (.int p4), .val (.ref b274), .val (.int (1 : Int32)), .val (.int v1), .val (.ref b369), .unset, .unset, .unset] [(.ref b398)])) _
      refine XS.dup X398.here hx rfl (hb hby at_116) rfl rfl ?_
      show Steps p.tables e below (T398.setTop (mkF m 117 #[.val (.int p0), .val (.int p1), .val (.int p2), .val (.int p3), .val (.int p4), .val (.ref b274), .val (.int (1 : Int32)), .val (.int v1), .val (.ref b369), .unset, .unset, .unset] [(.ref b398), (.ref b398)])) _
      exact kt
    obtain ⟨aS404, T404, h404, k404, X404, e404, E404, hS404, hk404, hZ, hown, st404⟩ := ldcS (s := s) (vm0 := s.vm) X398 hx hZ hown (hw _ (List.mem_of_getElem? (i := 5) rfl)) (own_ws hw) e398 ((State.WarmedH.refl s).since 0) (Nat.zero_le _) (g := (mkF m 117 #[.val (.int p0), .val (.int p1), .val (.int p2), .val (.int p3), .val (.int p4), .val (.ref b274), .val (.int (1 : Int32)), .val (.int v1), .val (.ref b369), .unset, .unset, .unset] [(.ref b398), (.ref b398)])) rfl (hb hby at_117) (n := 4) (by decide) (by decide) (by decide) (by decide)
    have E406 := E399.ext E404
    have V407 := V400.ext E404
    have E408 := E401.ext E404
    have V409 := V402.ext E404
    have E410 := A398.ext E404
    have F411 := F398_text.ext E404
    have F412 := F398_units.ext E404
    have F413 := F398_borders.ext E404
    have Z414 : n0 ≤ h404.size := Nat.le_trans Z403 E404.1
    obtain ⟨_, _, ⟨T415, L415, k415, n415⟩, -, X415, ⟨Lc415, hQ415, l415, y415, z415⟩, st415⟩ := X404.specialBack hx (y := (⟨"com/example/xcu/xcu/UnitString$Part", "<init>", "(Ljava/lang/String;[I)V"⟩ : MethodName)) rfl hown (mvT hZ (hw _ (List.mem_of_getElem? (i := 13) rfl))) (mvT hZ (hw _ (List.mem_of_getElem? (i := 14) rfl))) (mvT hZ (hw _ (List.mem_of_getElem? (i := 15) rfl))) (by decide) (backOf (W := 1) (rm1 l Z aq hw [] b398 aS404 b369 u h404 n0 Z414 E410 F411 F412 F413 V409 g_b398 ne_b369_b398) hZ (hw _ (List.mem_of_getElem? (i := 15) rfl)) (hw _ (List.mem_of_getElem? (i := 4) rfl)) (by decide) (by decide)) (g := (mkF m 121 #[.val (.int p0), .val (.int p1), .val (.int p2), .val (.int p3), .val (.int p4), .val (.ref b274), .val (.int (1 : Int32)), .val (.int v1), .val (.ref b369), .unset, .unset, .unset] [(.ref b369), (.ref aS404), (.ref b398), (.ref b398)])) rfl (by rw [hml]; rfl) (Steps.refl _) (a := b398) (argsL := [(.ref aS404), (.ref b369)]) (rest := [(.ref b398)]) (lenOf pd20273392 rfl) rfl (by show 2 * 0 + _ ≤ _; exact Nat.le_of_eq rfl) (hb hby at_121) (fun _ _ => ⟨rfl, e404, (by decide : 5 + 1 ≤ _), (by decide : 19 + 4 ≤ _)⟩)
    dsimp only [Pt.U, Pt.locs, Pt.cells, Pt.slots] at X415 l415 y415 z415 st415 hQ415
    subst l415 y415 z415
    obtain ⟨ab415, r1, r2, r3, hr1, hr2, hr3, br1, br2, br3, rfl, N415q, K415, E415_0, Fu415, Fb415, Vu415, Vb415⟩ := hQ415
    have E416 := E406.keep K415
    have V417 := V407.keep K415 (ninS ne_b274_b398 nin0)
    have E418 := E408.keep K415
    have V419 := V409.keep K415 (ninS ne_b369_b398 nin0)
    have Z420 : n0 ≤ T415.heap.size := Nat.le_trans Z414 K415.1
    have Y421 : k404 ≤ T415.heap.size := Nat.le_trans hk404 K415.1
    have N422 := Fr.app N395 N415q
    obtain ⟨cq423, kq423, q423a, q423b, q423c⟩ := isOf hZ rfl E415_0
    obtain ⟨_, _, ⟨T423, L423, k423, n423⟩, -, X423, ⟨Lc423, hQ423, l423, y423, z423⟩, st423⟩ := X415.virtualBack hx (y := (⟨"com/example/xcu/xcu/UnitString$Part", "extend", "(II)I"⟩ : MethodName)) (z := (⟨"com/example/xcu/xcu/UnitString$Part", "extend", "(II)I"⟩ : MethodName)) hown (mvT hZ (hw _ (List.mem_of_getElem? (i := 30) rfl))) (mvT hZ (hw _ (List.mem_of_getElem? (i := 26) rfl))) (notFace_of_selects (args := #[]) (mvT hZ (hw _ (List.mem_of_getElem? (i := 28) rfl)))) (mvT hZ (hw _ (List.mem_of_getElem? (i := 28) rfl))) (mvT hZ (hw _ (List.mem_of_getElem? (i := 27) rfl))) (by decide) (backOf (W := 0) (rm3 l Z aq hw [] b398 v1 b369 ab415 u (own_up (own_up (own_up (fun _ => (0 : Int32)) 1 (Int32.ofNat r1)) 2 (Int32.ofNat r2)) 3 (Int32.ofNat r3)) 1 T415.heap n0 Z420 Fu415 Fb415 Vu415 Vb415 (by omega) (own_hb3 (by omega) (by omega) (by omega))) hZ (hw _ (List.mem_of_getElem? (i := 29) rfl)) (hw _ (List.mem_of_getElem? (i := 4) rfl)) (by decide) (by decide)) q423a q423c (g := (mkF m 132 #[.val (.int p0), .val (.int p1), .val (.int p2), .val (.int p3), .val (.int p4), .val (.ref b274), .val (.int (1 : Int32)), .val (.int v1), .val (.ref b369), .val (.ref b398), .unset, .unset] [(.int v1), (.int (1 : Int32)), (.ref b398)])) rfl (by rw [hml]; rfl) (Steps.refl _) (argsL := [(.int (1 : Int32)), (.int v1)]) (rest := []) (lenOf pd84293393 rfl) rfl (by show 2 * 0 + _ ≤ _; exact Nat.le_of_eq rfl) (hb hby at_132) (fun _ _ => ⟨rfl, rfl, (by decide : 6 + 0 ≤ _), (by decide : 23 + 0 ≤ _)⟩)
    dsimp only [Pt.U, Pt.locs, Pt.cells, Pt.slots] at X423 l423 y423 z423 st423 hQ423
    subst l423 y423 z423
    obtain ⟨r4, hr4, br4, rfl, N423q, e423⟩ := hQ423
    have N424 := Fr.app N422 N423q
    obtain ⟨_, _, ⟨T425, L425, k425, n425⟩, -, X425, ⟨Lc425, hQ425, l425, y425, z425⟩, st425⟩ := Jvm.LawKit.callS X423 hx (y := (⟨"com/example/xcu/xcu/UnitStringExtendPinLaw", "fits", "([IIII)Z"⟩ : MethodName)) hown (mvT hZ (hw _ (List.mem_of_getElem? (i := 31) rfl))) (mvT hZ (hw _ (List.mem_of_getElem? (i := 32) rfl))) (mvT hZ (hw _ (List.mem_of_getElem? (i := 33) rfl))) (mvT hZ (hw _ (List.mem_of_getElem? (i := 34) rfl))) (by decide) (backOf (W := 0) (rm4_1_4 l Z aq hw [] b274 v1 u T415.heap n0 Z420 V417) hZ (hw _ (List.mem_of_getElem? (i := 34) rfl)) (hw _ (List.mem_of_getElem? (i := 33) rfl)) (by decide) (by decide)) (g := (mkF m 144 #[.val (.int p0), .val (.int p1), .val (.int p2), .val (.int p3), .val (.int p4), .val (.ref b274), .val (.int (1 : Int32)), .val (.int v1), .val (.ref b369), .val (.ref b398), .val (.int (Int32.ofNat r4)), .unset] [(.int (4 : Int32)), (.int v1), (.int (1 : Int32)), (.ref b274)])) rfl (by rw [hml]; rfl) (argsL := [(.ref b274), (.int (1 : Int32)), (.int v1), (.int (4 : Int32))]) (rest := []) (lenOf pd21711183 rfl) rfl (by show 2 * 0 + _ ≤ _; exact Nat.le_of_eq rfl) (hb hby at_144) (fun _ _ => ⟨rfl, e423, (by decide : 6 + 0 ≤ _), (by decide : 23 + 0 ≤ _)⟩)
    dsimp only [Pt.U, Pt.locs, Pt.cells, Pt.slots] at X425 l425 y425 z425 st425 hQ425
    subst l425 y425 z425
    obtain ⟨rfl, N425q, e425⟩ := hQ425
    have N426 := Fr.app N424 N425q
    obtain ⟨_, _, ⟨T427, L427, k427, n427⟩, -, X427, ⟨Lc427, hQ427, l427, y427, z427⟩, st427⟩ := Jvm.LawKit.callS X425 hx (y := (⟨"com/example/xcu/xcu/UnitStringExtendPinLaw", "fits", "([IIII)Z"⟩ : MethodName)) hown (mvT hZ (hw _ (List.mem_of_getElem? (i := 31) rfl))) (mvT hZ (hw _ (List.mem_of_getElem? (i := 32) rfl))) (mvT hZ (hw _ (List.mem_of_getElem? (i := 33) rfl))) (mvT hZ (hw _ (List.mem_of_getElem? (i := 34) rfl))) (by decide) (backOf (W := 0) (rm4_1_3 l Z aq hw [] b274 v1 u T415.heap n0 Z420 V417) hZ (hw _ (List.mem_of_getElem? (i := 34) rfl)) (hw _ (List.mem_of_getElem? (i := 33) rfl)) (by decide) (by decide)) (g := (mkF m 163 #[.val (.int p0), .val (.int p1), .val (.int p2), .val (.int p3), .val (.int p4), .val (.ref b274), .val (.int (1 : Int32)), .val (.int v1), .val (.ref b369), .val (.ref b398), .val (.int (Int32.ofNat r4)), .unset] [(.int (3 : Int32)), (.int v1), (.int (1 : Int32)), (.ref b274)])) rfl (by rw [hml]; rfl) (argsL := [(.ref b274), (.int (1 : Int32)), (.int v1), (.int (3 : Int32))]) (rest := []) (lenOf pd21711183 rfl) rfl (by show 2 * 0 + _ ≤ _; exact Nat.le_of_eq rfl) (hb hby at_163) (fun _ _ => ⟨rfl, e425, (by decide : 6 + 0 ≤ _), (by decide : 23 + 0 ≤ _)⟩)
    dsimp only [Pt.U, Pt.locs, Pt.cells, Pt.slots] at X427 l427 y427 z427 st427 hQ427
    subst l427 y427 z427
    obtain ⟨rfl, N427q, e427⟩ := hQ427
    have N428 := Fr.app N426 N427q
    obtain ⟨_, _, ⟨T429, L429, k429, n429⟩, -, X429, ⟨Lc429, hQ429, l429, y429, z429⟩, st429⟩ := Jvm.LawKit.callS X427 hx (y := (⟨"com/example/xcu/xcu/UnitStringExtendPinLaw", "fits", "([IIII)Z"⟩ : MethodName)) hown (mvT hZ (hw _ (List.mem_of_getElem? (i := 31) rfl))) (mvT hZ (hw _ (List.mem_of_getElem? (i := 32) rfl))) (mvT hZ (hw _ (List.mem_of_getElem? (i := 33) rfl))) (mvT hZ (hw _ (List.mem_of_getElem? (i := 34) rfl))) (by decide) (backOf (W := 0) (rm4_1_2 l Z aq hw [] b274 v1 u T415.heap n0 Z420 V417) hZ (hw _ (List.mem_of_getElem? (i := 34) rfl)) (hw _ (List.mem_of_getElem? (i := 33) rfl)) (by decide) (by decide)) (g := (mkF m 182 #[.val (.int p0), .val (.int p1), .val (.int p2), .val (.int p3), .val (.int p4), .val (.ref b274), .val (.int (1 : Int32)), .val (.int v1), .val (.ref b369), .val (.ref b398), .val (.int (Int32.ofNat r4)), .unset] [(.int (2 : Int32)), (.int v1), (.int (1 : Int32)), (.ref b274)])) rfl (by rw [hml]; rfl) (argsL := [(.ref b274), (.int (1 : Int32)), (.int v1), (.int (2 : Int32))]) (rest := []) (lenOf pd21711183 rfl) rfl (by show 2 * 0 + _ ≤ _; exact Nat.le_of_eq rfl) (hb hby at_182) (fun _ _ => ⟨rfl, e427, (by decide : 6 + 0 ≤ _), (by decide : 23 + 0 ≤ _)⟩)
    dsimp only [Pt.U, Pt.locs, Pt.cells, Pt.slots] at X429 l429 y429 z429 st429 hQ429
    subst l429 y429 z429
    obtain ⟨rfl, N429q, e429⟩ := hQ429
    have N430 := Fr.app N428 N429q
    have pre431 : ∀ t, Steps p.tables e below (T429.setTop (mkF m 185 #[.val (.int p0), .val (.int p1), .val (.int p2), .val (.int p3), .val (.int p4), .val (.ref b274), .val (.int (1 : Int32)), .val (.int v1), .val (.ref b369), .val (.ref b398), .val (.int (Int32.ofNat r4)), .unset] [(.int (if (u 1) = v1 then (1 : Int32) else (0 : Int32)))])) t → Steps p.tables e below (s₁.setTop (entryFrame m #[(.int p0), (.int p1), (.int p2), (.int p3), (.int p4)] maxLocals)) t := fun t kt => by
      refine pre405 _ ?_
      show Steps p.tables e below (T398.setTop (mkF m 117 #[.val (.int p0), .val (.int p1), .val (.int p2), .val (.int p3), .val (.int p4), .val (.ref b274), .val (.int (1 : Int32)), .val (.int v1), .val (.ref b369), .unset, .unset, .unset] [(.ref b398), (.ref b398)])) _
      refine st404 _ ?_
      show Steps p.tables e below (T404.setTop (mkF m 119 #[.val (.int p0), .val (.int p1), .val (.int p2), .val (.int p3), .val (.int p4), .val (.ref b274), .val (.int (1 : Int32)), .val (.int v1), .val (.ref b369), .unset, .unset, .unset] [(.ref aS404), (.ref b398), (.ref b398)])) _
      refine XS.aload X404.here hx rfl (hb hby at_119) rfl rfl ?_
      show Steps p.tables e below (T404.setTop (mkF m 121 #[.val (.int p0), .val (.int p1), .val (.int p2), .val (.int p3), .val (.int p4), .val (.ref b274), .val (.int (1 : Int32)), .val (.int v1), .val (.ref b369), .unset, .unset, .unset] [(.ref b369), (.ref aS404), (.ref b398), (.ref b398)])) _
      refine st415.trans ?_
      show Steps p.tables e below (T415.setTop (mkF m 124 #[.val (.int p0), .val (.int p1), .val (.int p2), .val (.int p3), .val (.int p4), .val (.ref b274), .val (.int (1 : Int32)), .val (.int v1), .val (.ref b369), .unset, .unset, .unset] [(.ref b398)])) _
      refine XS.astore X415.here hx rfl (hb hby at_124) rfl rfl (l' := #[.val (.int p0), .val (.int p1), .val (.int p2), .val (.int p3), .val (.int p4), .val (.ref b274), .val (.int (1 : Int32)), .val (.int v1), .val (.ref b369), .val (.ref b398), .unset, .unset]) rfl ?_
      show Steps p.tables e below (T415.setTop (mkF m 126 #[.val (.int p0), .val (.int p1), .val (.int p2), .val (.int p3), .val (.int p4), .val (.ref b274), .val (.int (1 : Int32)), .val (.int v1), .val (.ref b369), .val (.ref b398), .unset, .unset] [])) _
      refine XS.aload X415.here hx rfl (hb hby at_126) rfl rfl ?_
      show Steps p.tables e below (T415.setTop (mkF m 128 #[.val (.int p0), .val (.int p1), .val (.int p2), .val (.int p3), .val (.int p4), .val (.ref b274), .val (.int (1 : Int32)), .val (.int v1), .val (.ref b369), .val (.ref b398), .unset, .unset] [(.ref b398)])) _
      refine XS.iload X415.here hx rfl (hb hby at_128) rfl ?_
      show Steps p.tables e below (T415.setTop (mkF m 130 #[.val (.int p0), .val (.int p1), .val (.int p2), .val (.int p3), .val (.int p4), .val (.ref b274), .val (.int (1 : Int32)), .val (.int v1), .val (.ref b369), .val (.ref b398), .unset, .unset] [(.int (1 : Int32)), (.ref b398)])) _
      refine XS.iload X415.here hx rfl (hb hby at_130) rfl ?_
      show Steps p.tables e below (T415.setTop (mkF m 132 #[.val (.int p0), .val (.int p1), .val (.int p2), .val (.int p3), .val (.int p4), .val (.ref b274), .val (.int (1 : Int32)), .val (.int v1), .val (.ref b369), .val (.ref b398), .unset, .unset] [(.int v1), (.int (1 : Int32)), (.ref b398)])) _
      refine st423.trans ?_
      show Steps p.tables e below (T423.setTop (mkF m 135 #[.val (.int p0), .val (.int p1), .val (.int p2), .val (.int p3), .val (.int p4), .val (.ref b274), .val (.int (1 : Int32)), .val (.int v1), .val (.ref b369), .val (.ref b398), .unset, .unset] [(.int (Int32.ofNat r4))])) _
      refine XS.istore X423.here hx rfl (hb hby at_135) rfl (l' := #[.val (.int p0), .val (.int p1), .val (.int p2), .val (.int p3), .val (.int p4), .val (.ref b274), .val (.int (1 : Int32)), .val (.int v1), .val (.ref b369), .val (.ref b398), .val (.int (Int32.ofNat r4)), .unset]) rfl ?_
      show Steps p.tables e below (T423.setTop (mkF m 137 #[.val (.int p0), .val (.int p1), .val (.int p2), .val (.int p3), .val (.int p4), .val (.ref b274), .val (.int (1 : Int32)), .val (.int v1), .val (.ref b369), .val (.ref b398), .val (.int (Int32.ofNat r4)), .unset] [])) _
      refine XS.aload X423.here hx rfl (hb hby at_137) rfl rfl ?_
      show Steps p.tables e below (T423.setTop (mkF m 139 #[.val (.int p0), .val (.int p1), .val (.int p2), .val (.int p3), .val (.int p4), .val (.ref b274), .val (.int (1 : Int32)), .val (.int v1), .val (.ref b369), .val (.ref b398), .val (.int (Int32.ofNat r4)), .unset] [(.ref b274)])) _
      refine XS.iload X423.here hx rfl (hb hby at_139) rfl ?_
      show Steps p.tables e below (T423.setTop (mkF m 141 #[.val (.int p0), .val (.int p1), .val (.int p2), .val (.int p3), .val (.int p4), .val (.ref b274), .val (.int (1 : Int32)), .val (.int v1), .val (.ref b369), .val (.ref b398), .val (.int (Int32.ofNat r4)), .unset] [(.int (1 : Int32)), (.ref b274)])) _
      refine XS.iload X423.here hx rfl (hb hby at_141) rfl ?_
      show Steps p.tables e below (T423.setTop (mkF m 143 #[.val (.int p0), .val (.int p1), .val (.int p2), .val (.int p3), .val (.int p4), .val (.ref b274), .val (.int (1 : Int32)), .val (.int v1), .val (.ref b369), .val (.ref b398), .val (.int (Int32.ofNat r4)), .unset] [(.int v1), (.int (1 : Int32)), (.ref b274)])) _
      refine XS.iconst X423.here hx rfl (hb hby at_143) ?_
      show Steps p.tables e below (T423.setTop (mkF m 144 #[.val (.int p0), .val (.int p1), .val (.int p2), .val (.int p3), .val (.int p4), .val (.ref b274), .val (.int (1 : Int32)), .val (.int v1), .val (.ref b369), .val (.ref b398), .val (.int (Int32.ofNat r4)), .unset] [(.int (4 : Int32)), (.int v1), (.int (1 : Int32)), (.ref b274)])) _
      refine st425 _ ?_
      show Steps p.tables e below (T425.setTop (mkF m 147 #[.val (.int p0), .val (.int p1), .val (.int p2), .val (.int p3), .val (.int p4), .val (.ref b274), .val (.int (1 : Int32)), .val (.int v1), .val (.ref b369), .val (.ref b398), .val (.int (Int32.ofNat r4)), .unset] [(.int (0 : Int32))])) _
      refine XS.ifYes X425.here hx rfl (pc0 := 147) (pc' := 156) rfl (hb hby at_147) rfl ((if0 _ _).trans (teq (by decide : (0 : Int32) = (0 : Int32))).1) (by decide) (by decide) ?_
      show Steps p.tables e below (T425.setTop (mkF m 156 #[.val (.int p0), .val (.int p1), .val (.int p2), .val (.int p3), .val (.int p4), .val (.ref b274), .val (.int (1 : Int32)), .val (.int v1), .val (.ref b369), .val (.ref b398), .val (.int (Int32.ofNat r4)), .unset] [])) _
      refine XS.aload X425.here hx rfl (hb hby at_156) rfl rfl ?_
      show Steps p.tables e below (T425.setTop (mkF m 158 #[.val (.int p0), .val (.int p1), .val (.int p2), .val (.int p3), .val (.int p4), .val (.ref b274), .val (.int (1 : Int32)), .val (.int v1), .val (.ref b369), .val (.ref b398), .val (.int (Int32.ofNat r4)), .unset] [(.ref b274)])) _
      refine XS.iload X425.here hx rfl (hb hby at_158) rfl ?_
      show Steps p.tables e below (T425.setTop (mkF m 160 #[.val (.int p0), .val (.int p1), .val (.int p2), .val (.int p3), .val (.int p4), .val (.ref b274), .val (.int (1 : Int32)), .val (.int v1), .val (.ref b369), .val (.ref b398), .val (.int (Int32.ofNat r4)), .unset] [(.int (1 : Int32)), (.ref b274)])) _
      refine XS.iload X425.here hx rfl (hb hby at_160) rfl ?_
      show Steps p.tables e below (T425.setTop (mkF m 162 #[.val (.int p0), .val (.int p1), .val (.int p2), .val (.int p3), .val (.int p4), .val (.ref b274), .val (.int (1 : Int32)), .val (.int v1), .val (.ref b369), .val (.ref b398), .val (.int (Int32.ofNat r4)), .unset] [(.int v1), (.int (1 : Int32)), (.ref b274)])) _
      refine XS.iconst X425.here hx rfl (hb hby at_162) ?_
      show Steps p.tables e below (T425.setTop (mkF m 163 #[.val (.int p0), .val (.int p1), .val (.int p2), .val (.int p3), .val (.int p4), .val (.ref b274), .val (.int (1 : Int32)), .val (.int v1), .val (.ref b369), .val (.ref b398), .val (.int (Int32.ofNat r4)), .unset] [(.int (3 : Int32)), (.int v1), (.int (1 : Int32)), (.ref b274)])) _
      refine st427 _ ?_
      show Steps p.tables e below (T427.setTop (mkF m 166 #[.val (.int p0), .val (.int p1), .val (.int p2), .val (.int p3), .val (.int p4), .val (.ref b274), .val (.int (1 : Int32)), .val (.int v1), .val (.ref b369), .val (.ref b398), .val (.int (Int32.ofNat r4)), .unset] [(.int (0 : Int32))])) _
      refine XS.ifYes X427.here hx rfl (pc0 := 166) (pc' := 175) rfl (hb hby at_166) rfl ((if0 _ _).trans (teq (by decide : (0 : Int32) = (0 : Int32))).1) (by decide) (by decide) ?_
      show Steps p.tables e below (T427.setTop (mkF m 175 #[.val (.int p0), .val (.int p1), .val (.int p2), .val (.int p3), .val (.int p4), .val (.ref b274), .val (.int (1 : Int32)), .val (.int v1), .val (.ref b369), .val (.ref b398), .val (.int (Int32.ofNat r4)), .unset] [])) _
      refine XS.aload X427.here hx rfl (hb hby at_175) rfl rfl ?_
      show Steps p.tables e below (T427.setTop (mkF m 177 #[.val (.int p0), .val (.int p1), .val (.int p2), .val (.int p3), .val (.int p4), .val (.ref b274), .val (.int (1 : Int32)), .val (.int v1), .val (.ref b369), .val (.ref b398), .val (.int (Int32.ofNat r4)), .unset] [(.ref b274)])) _
      refine XS.iload X427.here hx rfl (hb hby at_177) rfl ?_
      show Steps p.tables e below (T427.setTop (mkF m 179 #[.val (.int p0), .val (.int p1), .val (.int p2), .val (.int p3), .val (.int p4), .val (.ref b274), .val (.int (1 : Int32)), .val (.int v1), .val (.ref b369), .val (.ref b398), .val (.int (Int32.ofNat r4)), .unset] [(.int (1 : Int32)), (.ref b274)])) _
      refine XS.iload X427.here hx rfl (hb hby at_179) rfl ?_
      show Steps p.tables e below (T427.setTop (mkF m 181 #[.val (.int p0), .val (.int p1), .val (.int p2), .val (.int p3), .val (.int p4), .val (.ref b274), .val (.int (1 : Int32)), .val (.int v1), .val (.ref b369), .val (.ref b398), .val (.int (Int32.ofNat r4)), .unset] [(.int v1), (.int (1 : Int32)), (.ref b274)])) _
      refine XS.iconst X427.here hx rfl (hb hby at_181) ?_
      show Steps p.tables e below (T427.setTop (mkF m 182 #[.val (.int p0), .val (.int p1), .val (.int p2), .val (.int p3), .val (.int p4), .val (.ref b274), .val (.int (1 : Int32)), .val (.int v1), .val (.ref b369), .val (.ref b398), .val (.int (Int32.ofNat r4)), .unset] [(.int (2 : Int32)), (.int v1), (.int (1 : Int32)), (.ref b274)])) _
      refine st429 _ ?_
      show Steps p.tables e below (T429.setTop (mkF m 185 #[.val (.int p0), .val (.int p1), .val (.int p2), .val (.int p3), .val (.int p4), .val (.ref b274), .val (.int (1 : Int32)), .val (.int v1), .val (.ref b369), .val (.ref b398), .val (.int (Int32.ofNat r4)), .unset] [(.int (if (u 1) = v1 then (1 : Int32) else (0 : Int32)))])) _
      exact kt
    obtain ⟨v2, hv2⟩ : ∃ z : Int32, z = (if (if (u 1) = v1 then (1 : Int32) else (0 : Int32)) = (0 : Int32) then (if (if (u 0) = v1 then (1 : Int32) else (0 : Int32)) = (0 : Int32) then (0 : Int32) else (1 : Int32)) else (2 : Int32)) := ⟨_, rfl⟩
    obtain ⟨T437, L437, X437, N437, Z437, Y437, E438, V439, E440, V441, E442, F443, F444, V445, pre437⟩ : ∃ (T' : State) (L' : List Loc), Stand p l e room_1 (s.setVm T404.vm) m #[(.int p0), (.int p1), (.int p2), (.int p3), (.int p4)] below meth c T' L' 6 23 ∧ Fr n0 L' ∧ n0 ≤ T'.heap.size ∧ k404 ≤ T'.heap.size ∧ Exa Z T'.heap b274 "[I" ∧ own_Ar Z T'.heap b274 .int 4 u ∧ Exa Z T'.heap b369 "[I" ∧ own_Ar Z T'.heap b369 .int 4 u ∧ Exa Z T'.heap b398 "com/example/xcu/xcu/UnitString$Part" ∧ Fld Z T'.heap b398 "com/example/xcu/xcu/UnitString$Part" "units" "[I" (.ref b369) ∧ Fld Z T'.heap b398 "com/example/xcu/xcu/UnitString$Part" "borders" "[I" (.ref ab415) ∧ own_Ar Z T'.heap ab415 .int 4 (own_up (own_up (own_up (fun _ => (0 : Int32)) 1 (Int32.ofNat r1)) 2 (Int32.ofNat r2)) 3 (Int32.ofNat r3)) ∧ ∀ t, Steps p.tables e below (T'.setTop (mkF m 216 #[.val (.int p0), .val (.int p1), .val (.int p2), .val (.int p3), .val (.int p4), .val (.ref b274), .val (.int (1 : Int32)), .val (.int v1), .val (.ref b369), .val (.ref b398), .val (.int (Int32.ofNat r4)), .val (.int v2)] [])) t → Steps p.tables e below (s₁.setTop (entryFrame m #[(.int p0), (.int p1), (.int p2), (.int p3), (.int p4)] maxLocals)) t := by
      by_cases hc446 : (if (u 1) = v1 then (1 : Int32) else (0 : Int32)) = (0 : Int32)
      · skip
        obtain ⟨_, _, ⟨T447, L447, k447, n447⟩, -, X447, ⟨Lc447, hQ447, l447, y447, z447⟩, st447⟩ := Jvm.LawKit.callS X429 hx (y := (⟨"com/example/xcu/xcu/UnitStringExtendPinLaw", "fits", "([IIII)Z"⟩ : MethodName)) hown (mvT hZ (hw _ (List.mem_of_getElem? (i := 31) rfl))) (mvT hZ (hw _ (List.mem_of_getElem? (i := 32) rfl))) (mvT hZ (hw _ (List.mem_of_getElem? (i := 33) rfl))) (mvT hZ (hw _ (List.mem_of_getElem? (i := 34) rfl))) (by decide) (backOf (W := 0) (rm4_1_1 l Z aq hw [] b274 v1 u T415.heap n0 Z420 V417) hZ (hw _ (List.mem_of_getElem? (i := 34) rfl)) (hw _ (List.mem_of_getElem? (i := 33) rfl)) (by decide) (by decide)) (g := (mkF m 201 #[.val (.int p0), .val (.int p1), .val (.int p2), .val (.int p3), .val (.int p4), .val (.ref b274), .val (.int (1 : Int32)), .val (.int v1), .val (.ref b369), .val (.ref b398), .val (.int (Int32.ofNat r4)), .unset] [(.int (1 : Int32)), (.int v1), (.int (1 : Int32)), (.ref b274)])) rfl (by rw [hml]; rfl) (argsL := [(.ref b274), (.int (1 : Int32)), (.int v1), (.int (1 : Int32))]) (rest := []) (lenOf pd21711183 rfl) rfl (by show 2 * 0 + _ ≤ _; exact Nat.le_of_eq rfl) (hb hby at_201) (fun _ _ => ⟨rfl, e429, (by decide : 6 + 0 ≤ _), (by decide : 23 + 0 ≤ _)⟩)
        dsimp only [Pt.U, Pt.locs, Pt.cells, Pt.slots] at X447 l447 y447 z447 st447 hQ447
        subst l447 y447 z447
        obtain ⟨rfl, N447q, e447⟩ := hQ447
        have N448 := Fr.app N430 N447q
        have pre449 : ∀ t, Steps p.tables e below (T447.setTop (mkF m 204 #[.val (.int p0), .val (.int p1), .val (.int p2), .val (.int p3), .val (.int p4), .val (.ref b274), .val (.int (1 : Int32)), .val (.int v1), .val (.ref b369), .val (.ref b398), .val (.int (Int32.ofNat r4)), .unset] [(.int (if (u 0) = v1 then (1 : Int32) else (0 : Int32)))])) t → Steps p.tables e below (s₁.setTop (entryFrame m #[(.int p0), (.int p1), (.int p2), (.int p3), (.int p4)] maxLocals)) t := fun t kt => by
          refine pre431 _ ?_
          show Steps p.tables e below (T429.setTop (mkF m 185 #[.val (.int p0), .val (.int p1), .val (.int p2), .val (.int p3), .val (.int p4), .val (.ref b274), .val (.int (1 : Int32)), .val (.int v1), .val (.ref b369), .val (.ref b398), .val (.int (Int32.ofNat r4)), .unset] [(.int (if (u 1) = v1 then (1 : Int32) else (0 : Int32)))])) _
          refine XS.ifYes X429.here hx rfl (pc0 := 185) (pc' := 194) rfl (hb hby at_185) rfl ((if0 _ _).trans (teq hc446).1) (by decide) (by decide) ?_
          show Steps p.tables e below (T429.setTop (mkF m 194 #[.val (.int p0), .val (.int p1), .val (.int p2), .val (.int p3), .val (.int p4), .val (.ref b274), .val (.int (1 : Int32)), .val (.int v1), .val (.ref b369), .val (.ref b398), .val (.int (Int32.ofNat r4)), .unset] [])) _
          refine XS.aload X429.here hx rfl (hb hby at_194) rfl rfl ?_
          show Steps p.tables e below (T429.setTop (mkF m 196 #[.val (.int p0), .val (.int p1), .val (.int p2), .val (.int p3), .val (.int p4), .val (.ref b274), .val (.int (1 : Int32)), .val (.int v1), .val (.ref b369), .val (.ref b398), .val (.int (Int32.ofNat r4)), .unset] [(.ref b274)])) _
          refine XS.iload X429.here hx rfl (hb hby at_196) rfl ?_
          show Steps p.tables e below (T429.setTop (mkF m 198 #[.val (.int p0), .val (.int p1), .val (.int p2), .val (.int p3), .val (.int p4), .val (.ref b274), .val (.int (1 : Int32)), .val (.int v1), .val (.ref b369), .val (.ref b398), .val (.int (Int32.ofNat r4)), .unset] [(.int (1 : Int32)), (.ref b274)])) _
          refine XS.iload X429.here hx rfl (hb hby at_198) rfl ?_
          show Steps p.tables e below (T429.setTop (mkF m 200 #[.val (.int p0), .val (.int p1), .val (.int p2), .val (.int p3), .val (.int p4), .val (.ref b274), .val (.int (1 : Int32)), .val (.int v1), .val (.ref b369), .val (.ref b398), .val (.int (Int32.ofNat r4)), .unset] [(.int v1), (.int (1 : Int32)), (.ref b274)])) _
          refine XS.iconst X429.here hx rfl (hb hby at_200) ?_
          show Steps p.tables e below (T429.setTop (mkF m 201 #[.val (.int p0), .val (.int p1), .val (.int p2), .val (.int p3), .val (.int p4), .val (.ref b274), .val (.int (1 : Int32)), .val (.int v1), .val (.ref b369), .val (.ref b398), .val (.int (Int32.ofNat r4)), .unset] [(.int (1 : Int32)), (.int v1), (.int (1 : Int32)), (.ref b274)])) _
          refine st447 _ ?_
          show Steps p.tables e below (T447.setTop (mkF m 204 #[.val (.int p0), .val (.int p1), .val (.int p2), .val (.int p3), .val (.int p4), .val (.ref b274), .val (.int (1 : Int32)), .val (.int v1), .val (.ref b369), .val (.ref b398), .val (.int (Int32.ofNat r4)), .unset] [(.int (if (u 0) = v1 then (1 : Int32) else (0 : Int32)))])) _
          exact kt
        by_cases hc450 : (if (u 0) = v1 then (1 : Int32) else (0 : Int32)) = (0 : Int32)
        · skip
          have pre451 : ∀ t, Steps p.tables e below (T447.setTop (mkF m 216 #[.val (.int p0), .val (.int p1), .val (.int p2), .val (.int p3), .val (.int p4), .val (.ref b274), .val (.int (1 : Int32)), .val (.int v1), .val (.ref b369), .val (.ref b398), .val (.int (Int32.ofNat r4)), .val (.int (0 : Int32))] [])) t → Steps p.tables e below (s₁.setTop (entryFrame m #[(.int p0), (.int p1), (.int p2), (.int p3), (.int p4)] maxLocals)) t := fun t kt => by
            refine pre449 _ ?_
            show Steps p.tables e below (T447.setTop (mkF m 204 #[.val (.int p0), .val (.int p1), .val (.int p2), .val (.int p3), .val (.int p4), .val (.ref b274), .val (.int (1 : Int32)), .val (.int v1), .val (.ref b369), .val (.ref b398), .val (.int (Int32.ofNat r4)), .unset] [(.int (if (u 0) = v1 then (1 : Int32) else (0 : Int32)))])) _
            refine XS.ifYes X447.here hx rfl (pc0 := 204) (pc' := 213) rfl (hb hby at_204) rfl ((if0 _ _).trans (teq hc450).1) (by decide) (by decide) ?_
            show Steps p.tables e below (T447.setTop (mkF m 213 #[.val (.int p0), .val (.int p1), .val (.int p2), .val (.int p3), .val (.int p4), .val (.ref b274), .val (.int (1 : Int32)), .val (.int v1), .val (.ref b369), .val (.ref b398), .val (.int (Int32.ofNat r4)), .unset] [])) _
            refine XS.iconst X447.here hx rfl (hb hby at_213) ?_
            show Steps p.tables e below (T447.setTop (mkF m 214 #[.val (.int p0), .val (.int p1), .val (.int p2), .val (.int p3), .val (.int p4), .val (.ref b274), .val (.int (1 : Int32)), .val (.int v1), .val (.ref b369), .val (.ref b398), .val (.int (Int32.ofNat r4)), .unset] [(.int (0 : Int32))])) _
            refine XS.istore X447.here hx rfl (hb hby at_214) rfl (l' := #[.val (.int p0), .val (.int p1), .val (.int p2), .val (.int p3), .val (.int p4), .val (.ref b274), .val (.int (1 : Int32)), .val (.int v1), .val (.ref b369), .val (.ref b398), .val (.int (Int32.ofNat r4)), .val (.int (0 : Int32))]) rfl ?_
            show Steps p.tables e below (T447.setTop (mkF m 216 #[.val (.int p0), .val (.int p1), .val (.int p2), .val (.int p3), .val (.int p4), .val (.ref b274), .val (.int (1 : Int32)), .val (.int v1), .val (.ref b369), .val (.ref b398), .val (.int (Int32.ofNat r4)), .val (.int (0 : Int32))] [])) _
            exact kt
          rw [if_pos hc446] at hv2
          rw [if_pos hc450] at hv2
          subst hv2
          exact ⟨_, _, X447, N448, (by rw [e447]; exact Z420), (by rw [e447]; exact Y421), (by rw [e447]; exact E416), (by rw [e447]; exact V417), (by rw [e447]; exact E418), (by rw [e447]; exact Vu415), (by rw [e447]; exact E415_0), (by rw [e447]; exact Fu415), (by rw [e447]; exact Fb415), (by rw [e447]; exact Vb415), pre451⟩
        · skip
          have pre452 : ∀ t, Steps p.tables e below (T447.setTop (mkF m 216 #[.val (.int p0), .val (.int p1), .val (.int p2), .val (.int p3), .val (.int p4), .val (.ref b274), .val (.int (1 : Int32)), .val (.int v1), .val (.ref b369), .val (.ref b398), .val (.int (Int32.ofNat r4)), .val (.int (1 : Int32))] [])) t → Steps p.tables e below (s₁.setTop (entryFrame m #[(.int p0), (.int p1), (.int p2), (.int p3), (.int p4)] maxLocals)) t := fun t kt => by
            refine pre449 _ ?_
            show Steps p.tables e below (T447.setTop (mkF m 204 #[.val (.int p0), .val (.int p1), .val (.int p2), .val (.int p3), .val (.int p4), .val (.ref b274), .val (.int (1 : Int32)), .val (.int v1), .val (.ref b369), .val (.ref b398), .val (.int (Int32.ofNat r4)), .unset] [(.int (if (u 0) = v1 then (1 : Int32) else (0 : Int32)))])) _
            refine XS.ifNo X447.here hx rfl (hb hby at_204) rfl ((if0 _ _).trans (feq hc450).1) ?_
            show Steps p.tables e below (T447.setTop (mkF m 207 #[.val (.int p0), .val (.int p1), .val (.int p2), .val (.int p3), .val (.int p4), .val (.ref b274), .val (.int (1 : Int32)), .val (.int v1), .val (.ref b369), .val (.ref b398), .val (.int (Int32.ofNat r4)), .unset] [])) _
            refine XS.iconst X447.here hx rfl (hb hby at_207) ?_
            show Steps p.tables e below (T447.setTop (mkF m 208 #[.val (.int p0), .val (.int p1), .val (.int p2), .val (.int p3), .val (.int p4), .val (.ref b274), .val (.int (1 : Int32)), .val (.int v1), .val (.ref b369), .val (.ref b398), .val (.int (Int32.ofNat r4)), .unset] [(.int (1 : Int32))])) _
            refine XS.istore X447.here hx rfl (hb hby at_208) rfl (l' := #[.val (.int p0), .val (.int p1), .val (.int p2), .val (.int p3), .val (.int p4), .val (.ref b274), .val (.int (1 : Int32)), .val (.int v1), .val (.ref b369), .val (.ref b398), .val (.int (Int32.ofNat r4)), .val (.int (1 : Int32))]) rfl ?_
            show Steps p.tables e below (T447.setTop (mkF m 210 #[.val (.int p0), .val (.int p1), .val (.int p2), .val (.int p3), .val (.int p4), .val (.ref b274), .val (.int (1 : Int32)), .val (.int v1), .val (.ref b369), .val (.ref b398), .val (.int (Int32.ofNat r4)), .val (.int (1 : Int32))] [])) _
            refine XS.goto X447.here hx rfl (pc0 := 210) (pc' := 216) rfl (hb hby at_210) (by decide) (by decide) ?_
            show Steps p.tables e below (T447.setTop (mkF m 216 #[.val (.int p0), .val (.int p1), .val (.int p2), .val (.int p3), .val (.int p4), .val (.ref b274), .val (.int (1 : Int32)), .val (.int v1), .val (.ref b369), .val (.ref b398), .val (.int (Int32.ofNat r4)), .val (.int (1 : Int32))] [])) _
            exact kt
          rw [if_pos hc446] at hv2
          rw [if_neg hc450] at hv2
          subst hv2
          exact ⟨_, _, X447, N448, (by rw [e447]; exact Z420), (by rw [e447]; exact Y421), (by rw [e447]; exact E416), (by rw [e447]; exact V417), (by rw [e447]; exact E418), (by rw [e447]; exact Vu415), (by rw [e447]; exact E415_0), (by rw [e447]; exact Fu415), (by rw [e447]; exact Fb415), (by rw [e447]; exact Vb415), pre452⟩
      · skip
        have pre453 : ∀ t, Steps p.tables e below (T429.setTop (mkF m 216 #[.val (.int p0), .val (.int p1), .val (.int p2), .val (.int p3), .val (.int p4), .val (.ref b274), .val (.int (1 : Int32)), .val (.int v1), .val (.ref b369), .val (.ref b398), .val (.int (Int32.ofNat r4)), .val (.int (2 : Int32))] [])) t → Steps p.tables e below (s₁.setTop (entryFrame m #[(.int p0), (.int p1), (.int p2), (.int p3), (.int p4)] maxLocals)) t := fun t kt => by
          refine pre431 _ ?_
          show Steps p.tables e below (T429.setTop (mkF m 185 #[.val (.int p0), .val (.int p1), .val (.int p2), .val (.int p3), .val (.int p4), .val (.ref b274), .val (.int (1 : Int32)), .val (.int v1), .val (.ref b369), .val (.ref b398), .val (.int (Int32.ofNat r4)), .unset] [(.int (if (u 1) = v1 then (1 : Int32) else (0 : Int32)))])) _
          refine XS.ifNo X429.here hx rfl (hb hby at_185) rfl ((if0 _ _).trans (feq hc446).1) ?_
          show Steps p.tables e below (T429.setTop (mkF m 188 #[.val (.int p0), .val (.int p1), .val (.int p2), .val (.int p3), .val (.int p4), .val (.ref b274), .val (.int (1 : Int32)), .val (.int v1), .val (.ref b369), .val (.ref b398), .val (.int (Int32.ofNat r4)), .unset] [])) _
          refine XS.iconst X429.here hx rfl (hb hby at_188) ?_
          show Steps p.tables e below (T429.setTop (mkF m 189 #[.val (.int p0), .val (.int p1), .val (.int p2), .val (.int p3), .val (.int p4), .val (.ref b274), .val (.int (1 : Int32)), .val (.int v1), .val (.ref b369), .val (.ref b398), .val (.int (Int32.ofNat r4)), .unset] [(.int (2 : Int32))])) _
          refine XS.istore X429.here hx rfl (hb hby at_189) rfl (l' := #[.val (.int p0), .val (.int p1), .val (.int p2), .val (.int p3), .val (.int p4), .val (.ref b274), .val (.int (1 : Int32)), .val (.int v1), .val (.ref b369), .val (.ref b398), .val (.int (Int32.ofNat r4)), .val (.int (2 : Int32))]) rfl ?_
          show Steps p.tables e below (T429.setTop (mkF m 191 #[.val (.int p0), .val (.int p1), .val (.int p2), .val (.int p3), .val (.int p4), .val (.ref b274), .val (.int (1 : Int32)), .val (.int v1), .val (.ref b369), .val (.ref b398), .val (.int (Int32.ofNat r4)), .val (.int (2 : Int32))] [])) _
          refine XS.goto X429.here hx rfl (pc0 := 191) (pc' := 216) rfl (hb hby at_191) (by decide) (by decide) ?_
          show Steps p.tables e below (T429.setTop (mkF m 216 #[.val (.int p0), .val (.int p1), .val (.int p2), .val (.int p3), .val (.int p4), .val (.ref b274), .val (.int (1 : Int32)), .val (.int v1), .val (.ref b369), .val (.ref b398), .val (.int (Int32.ofNat r4)), .val (.int (2 : Int32))] [])) _
          exact kt
        rw [if_neg hc446] at hv2
        subst hv2
        exact ⟨_, _, X429, N430, (by rw [e429]; exact Z420), (by rw [e429]; exact Y421), (by rw [e429]; exact E416), (by rw [e429]; exact V417), (by rw [e429]; exact E418), (by rw [e429]; exact Vu415), (by rw [e429]; exact E415_0), (by rw [e429]; exact Fu415), (by rw [e429]; exact Fb415), (by rw [e429]; exact Vb415), pre453⟩
    have pre454 : ∀ t, Steps p.tables e below (T437.setTop (mkF m 220 #[.val (.int p0), .val (.int p1), .val (.int p2), .val (.int p3), .val (.int p4), .val (.ref b274), .val (.int (1 : Int32)), .val (.int v1), .val (.ref b369), .val (.ref b398), .val (.int (Int32.ofNat r4)), .val (.int v2)] [(.int v2), (.int (Int32.ofNat r4))])) t → Steps p.tables e below (s₁.setTop (entryFrame m #[(.int p0), (.int p1), (.int p2), (.int p3), (.int p4)] maxLocals)) t := fun t kt => by
      refine pre437 _ ?_
      show Steps p.tables e below (T437.setTop (mkF m 216 #[.val (.int p0), .val (.int p1), .val (.int p2), .val (.int p3), .val (.int p4), .val (.ref b274), .val (.int (1 : Int32)), .val (.int v1), .val (.ref b369), .val (.ref b398), .val (.int (Int32.ofNat r4)), .val (.int v2)] [])) _
      refine XS.iload X437.here hx rfl (hb hby at_216) rfl ?_
      show Steps p.tables e below (T437.setTop (mkF m 218 #[.val (.int p0), .val (.int p1), .val (.int p2), .val (.int p3), .val (.int p4), .val (.ref b274), .val (.int (1 : Int32)), .val (.int v1), .val (.ref b369), .val (.ref b398), .val (.int (Int32.ofNat r4)), .val (.int v2)] [(.int (Int32.ofNat r4))])) _
      refine XS.iload X437.here hx rfl (hb hby at_218) rfl ?_
      show Steps p.tables e below (T437.setTop (mkF m 220 #[.val (.int p0), .val (.int p1), .val (.int p2), .val (.int p3), .val (.int p4), .val (.ref b274), .val (.int (1 : Int32)), .val (.int v1), .val (.ref b369), .val (.ref b398), .val (.int (Int32.ofNat r4)), .val (.int v2)] [(.int v2), (.int (Int32.ofNat r4))])) _
      exact kt
    obtain ⟨v3, hv3⟩ : ∃ z : Int32, z = (if (Int32.ofNat r4) = v2 then (1 : Int32) else (0 : Int32)) := ⟨_, rfl⟩
    have pre456 : ∀ t, Steps p.tables e below (T437.setTop (mkF m 228 #[.val (.int p0), .val (.int p1), .val (.int p2), .val (.int p3), .val (.int p4), .val (.ref b274), .val (.int (1 : Int32)), .val (.int v1), .val (.ref b369), .val (.ref b398), .val (.int (Int32.ofNat r4)), .val (.int v2)] [(.int v3)])) t → Steps p.tables e below (s₁.setTop (entryFrame m #[(.int p0), (.int p1), (.int p2), (.int p3), (.int p4)] maxLocals)) t := fun t kt => by
      refine pre454 _ ?_
      show Steps p.tables e below (T437.setTop (mkF m 220 #[.val (.int p0), .val (.int p1), .val (.int p2), .val (.int p3), .val (.int p4), .val (.ref b274), .val (.int (1 : Int32)), .val (.int v1), .val (.ref b369), .val (.ref b398), .val (.int (Int32.ofNat r4)), .val (.int v2)] [(.int v2), (.int (Int32.ofNat r4))])) _
      by_cases hc455 : (Int32.ofNat r4) = v2
      · rw [if_pos hc455] at hv3
        refine XS.icmpNo X437.here hx rfl (hb hby at_220) rfl (teq hc455).2 ?_
        show Steps p.tables e below (T437.setTop (mkF m 223 #[.val (.int p0), .val (.int p1), .val (.int p2), .val (.int p3), .val (.int p4), .val (.ref b274), .val (.int (1 : Int32)), .val (.int v1), .val (.ref b369), .val (.ref b398), .val (.int (Int32.ofNat r4)), .val (.int v2)] [])) _
        refine XS.iconst X437.here hx rfl (hb hby at_223) ?_
        show Steps p.tables e below (T437.setTop (mkF m 224 #[.val (.int p0), .val (.int p1), .val (.int p2), .val (.int p3), .val (.int p4), .val (.ref b274), .val (.int (1 : Int32)), .val (.int v1), .val (.ref b369), .val (.ref b398), .val (.int (Int32.ofNat r4)), .val (.int v2)] [(.int (1 : Int32))])) _
        refine XS.goto X437.here hx rfl (pc0 := 224) (pc' := 228) rfl (hb hby at_224) (by decide) (by decide) ?_
        subst hv3
        exact kt
      · rw [if_neg hc455] at hv3
        refine XS.icmpYes X437.here hx rfl (pc0 := 220) (pc' := 227) rfl (hb hby at_220) rfl (feq hc455).2 (by decide) (by decide) ?_
        show Steps p.tables e below (T437.setTop (mkF m 227 #[.val (.int p0), .val (.int p1), .val (.int p2), .val (.int p3), .val (.int p4), .val (.ref b274), .val (.int (1 : Int32)), .val (.int v1), .val (.ref b369), .val (.ref b398), .val (.int (Int32.ofNat r4)), .val (.int v2)] [])) _
        refine XS.iconst X437.here hx rfl (hb hby at_227) ?_
        subst hv3
        exact kt
    have hfin : v3 = 1 := (own_plain1 p0 p1 p2 p3 p4 u r1 r2 r3 r4 v1 hv1 v2 hv2 v3 hv3 hr1 hr2 hr3 br1 br2 br3 hr4 br4)
    obtain ⟨fs, hr, hrun, hended, hEW⟩ := X437.leaveW hS404 Y437 (v := some (.int (v3 &&& 1))) (fun h => by rw [Bd.returns] at h; cases h)
    refine ⟨_, _, pre456 _ ?_, hrun, hended, _, _, rfl, ?_, hEW.1, hEW.2.1, hEW.2.2.1, hEW.2.2.2.mono (by decide) (by decide)⟩
    · exact retN X437 hx (t := .boolean) Bd.returns (by simp) (hb hby at_228) hr
    · exact ⟨by rw [hfin]; rfl, N437⟩
  · skip
    have pre457 : ∀ t, Steps p.tables e below (T288.setTop (mkF m 76 #[.val (.int p0), .val (.int p1), .val (.int p2), .val (.int p3), .val (.int p4), .val (.ref b274), .val (.int (2 : Int32)), .val (.int v1), .unset, .unset, .unset, .unset] [])) t → Steps p.tables e below (s₁.setTop (entryFrame m #[(.int p0), (.int p1), (.int p2), (.int p3), (.int p4)] maxLocals)) t := fun t kt => pre296 t (by rw [hk]; exact kt)
    obtain ⟨T458, h458, k458, X458, e458, E458, A458, EE458, st458⟩ := newPE X288 hx hZ (hw _ (List.mem_of_getElem? (i := 0) rfl)) e288 (g := (mkF m 77 #[.val (.int p0), .val (.int p1), .val (.int p2), .val (.int p3), .val (.int p4), .val (.ref b274), .val (.int (2 : Int32)), .val (.int v1), .unset, .unset, .unset, .unset] [(.int (4 : Int32))])) rfl (hb hby at_77) rfl (by decide) (cap := 4) (by decide) (by decide) (by decide) (by decide) (ad := "[I") (by decide)
    obtain ⟨b458, g458⟩ : ∃ z, z = h288.size := ⟨_, rfl⟩
    rw [← g458] at A458 EE458 st458
    have ne_b274_b458 : b274 ≠ b458 := Nat.ne_of_lt (Nat.lt_of_lt_of_le E289.lt (Nat.le_of_eq g458.symm))
    have g_b458 : n0 ≤ b458 := Nat.le_trans Z291 (Nat.le_of_eq g458.symm)
    have E459 := E289.ext E458
    have V460 := V292.ext E458
    have Z461 : n0 ≤ h458.size := Nat.le_trans Z291 E458.1
    have V458 : own_Ar Z h458 b458 .int 4 (fun _ => (0 : Int32)) := own_Ar.of (Arv.new A458 (by decide)) (by decide) (fun i hi => rfl)
    obtain ⟨T462, h462, X462, e462, W462, V462, st462⟩ := own_stI X458 hx hZ e458 V458 (j := (0 : Int32)) (i := 0) (by decide) (by decide) (g := (mkF m 88 #[.val (.int p0), .val (.int p1), .val (.int p2), .val (.int p3), .val (.int p4), .val (.ref b274), .val (.int (2 : Int32)), .val (.int v1), .val (.ref b458), .unset, .unset, .unset] [(.int (u 0)), (.int (0 : Int32)), (.ref b458)])) rfl rfl (hb hby at_88)
    have E463 := E459.wr W462
    have V464 := V460.other W462 ne_b274_b458
    have E465 := EE458.wr W462
    have N466 := Fr.snoc X462 N290 g_b458
    have Z467 : n0 ≤ h462.size := Nat.le_trans Z461 (Keep.of_wr W462).1
    obtain ⟨T468, h468, X468, e468, W468, V468, st468⟩ := own_stI X462 hx hZ e462 V462 (j := (1 : Int32)) (i := 1) (by decide) (by decide) (g := (mkF m 96 #[.val (.int p0), .val (.int p1), .val (.int p2), .val (.int p3), .val (.int p4), .val (.ref b274), .val (.int (2 : Int32)), .val (.int v1), .val (.ref b458), .unset, .unset, .unset] [(.int (u 1)), (.int (1 : Int32)), (.ref b458)])) rfl rfl (hb hby at_96)
    have E469 := E463.wr W468
    have V470 := V464.other W468 ne_b274_b458
    have E471 := E465.wr W468
    have N472 := Fr.snoc X468 N466 g_b458
    have Z473 : n0 ≤ h468.size := Nat.le_trans Z467 (Keep.of_wr W468).1
    obtain ⟨T474, h474, X474, e474, W474, V474, st474⟩ := own_stI X468 hx hZ e468 V468 (j := (2 : Int32)) (i := 2) (by decide) (by decide) (g := (mkF m 104 #[.val (.int p0), .val (.int p1), .val (.int p2), .val (.int p3), .val (.int p4), .val (.ref b274), .val (.int (2 : Int32)), .val (.int v1), .val (.ref b458), .unset, .unset, .unset] [(.int (u 2)), (.int (2 : Int32)), (.ref b458)])) rfl rfl (hb hby at_104)
    have E475 := E469.wr W474
    have V476 := V470.other W474 ne_b274_b458
    have E477 := E471.wr W474
    have N478 := Fr.snoc X474 N472 g_b458
    have Z479 : n0 ≤ h474.size := Nat.le_trans Z473 (Keep.of_wr W474).1
    obtain ⟨T480, h480, X480, e480, W480, V480, st480⟩ := own_stI X474 hx hZ e474 V474 (j := (3 : Int32)) (i := 3) (by decide) (by decide) (g := (mkF m 112 #[.val (.int p0), .val (.int p1), .val (.int p2), .val (.int p3), .val (.int p4), .val (.ref b274), .val (.int (2 : Int32)), .val (.int v1), .val (.ref b458), .unset, .unset, .unset] [(.int (u 3)), (.int (3 : Int32)), (.ref b458)])) rfl rfl (hb hby at_112)
    have E481 := E475.wr W480
    have V482 := V476.other W480 ne_b274_b458
    have E483 := E477.wr W480
    have N484 := Fr.snoc X480 N478 g_b458
    have Z485 : n0 ≤ h480.size := Nat.le_trans Z479 (Keep.of_wr W480).1
    have V486 : own_Ar Z h480 b458 .int 4 u := V480.mono (own_c4 u)
    obtain ⟨T487, h487, X487, e487, E487, A487, D487, -, st487⟩ := newO X480 hx hZ hown (hw _ (List.mem_of_getElem? (i := 2) rfl)) (hw _ (List.mem_of_getElem? (i := 3) rfl)) (hw _ (List.mem_of_getElem? (i := 4) rfl)) e480 (g := (mkF m 113 #[.val (.int p0), .val (.int p1), .val (.int p2), .val (.int p3), .val (.int p4), .val (.ref b274), .val (.int (2 : Int32)), .val (.int v1), .val (.ref b458), .unset, .unset, .unset] [])) rfl (hb hby at_113) (by decide) (by decide)
    obtain ⟨b487, g487⟩ : ∃ z, z = h480.size := ⟨_, rfl⟩
    rw [← g487] at A487 D487 st487
    have ne_b274_b487 : b274 ≠ b487 := Nat.ne_of_lt (Nat.lt_of_lt_of_le E481.lt (Nat.le_of_eq g487.symm))
    have ne_b458_b487 : b458 ≠ b487 := Nat.ne_of_lt (Nat.lt_of_lt_of_le E483.lt (Nat.le_of_eq g487.symm))
    have g_b487 : n0 ≤ b487 := Nat.le_trans Z485 (Nat.le_of_eq g487.symm)
    have E488 := E481.ext E487
    have V489 := V482.ext E487
    have E490 := E483.ext E487
    have V491 := V486.ext E487
    have Z492 : n0 ≤ h487.size := Nat.le_trans Z485 E487.1
    have F487_text : Fld Z h487 b487 "com/example/xcu/xcu/UnitString$Part" "text" "Ljava/lang/String;" .null := D487 (Or.inr (hw _ (List.mem_of_getElem? (i := 20) rfl))) (ty := (.object "java/lang/String")) (by decide)
    have F487_units : Fld Z h487 b487 "com/example/xcu/xcu/UnitString$Part" "units" "[I" .null := D487 (Or.inr (hw _ (List.mem_of_getElem? (i := 22) rfl))) (ty := (.array .int)) (by decide)
    have F487_borders : Fld Z h487 b487 "com/example/xcu/xcu/UnitString$Part" "borders" "[I" .null := D487 (Or.inr (hw _ (List.mem_of_getElem? (i := 24) rfl))) (ty := (.array .int)) (by decide)
    have pre494 : ∀ t, Steps p.tables e below (T487.setTop (mkF m 117 #[.val (.int p0), .val (.int p1), .val (.int p2), .val (.int p3), .val (.int p4), .val (.ref b274), .val (.int (2 : Int32)), .val (.int v1), .val (.ref b458), .unset, .unset, .unset] [(.ref b487), (.ref b487)])) t → Steps p.tables e below (s₁.setTop (entryFrame m #[(.int p0), (.int p1), (.int p2), (.int p3), (.int p4)] maxLocals)) t := fun t kt => by
      refine pre457 _ ?_
      show Steps p.tables e below (T288.setTop (mkF m 76 #[.val (.int p0), .val (.int p1), .val (.int p2), .val (.int p3), .val (.int p4), .val (.ref b274), .val (.int (2 : Int32)), .val (.int v1), .unset, .unset, .unset, .unset] [])) _
      refine XS.iconst X288.here hx rfl (hb hby at_76) ?_
      show Steps p.tables e below (T288.setTop (mkF m 77 #[.val (.int p0), .val (.int p1), .val (.int p2), .val (.int p3), .val (.int p4), .val (.ref b274), .val (.int (2 : Int32)), .val (.int v1), .unset, .unset, .unset, .unset] [(.int (4 : Int32))])) _
      refine st458 _ ?_
      show Steps p.tables e below (T458.setTop (mkF m 79 #[.val (.int p0), .val (.int p1), .val (.int p2), .val (.int p3), .val (.int p4), .val (.ref b274), .val (.int (2 : Int32)), .val (.int v1), .unset, .unset, .unset, .unset] [(.ref b458)])) _
      refine XS.astore X458.here hx rfl (hb hby at_79) rfl rfl (l' := #[.val (.int p0), .val (.int p1), .val (.int p2), .val (.int p3), .val (.int p4), .val (.ref b274), .val (.int (2 : Int32)), .val (.int v1), .val (.ref b458), .unset, .unset, .unset]) rfl ?_
      show Steps p.tables e below (T458.setTop (mkF m 81 #[.val (.int p0), .val (.int p1), .val (.int p2), .val (.int p3), .val (.int p4), .val (.ref b274), .val (.int (2 : Int32)), .val (.int v1), .val (.ref b458), .unset, .unset, .unset] [])) _
      refine XS.aload X458.here hx rfl (hb hby at_81) rfl rfl ?_
      show Steps p.tables e below (T458.setTop (mkF m 83 #[.val (.int p0), .val (.int p1), .val (.int p2), .val (.int p3), .val (.int p4), .val (.ref b274), .val (.int (2 : Int32)), .val (.int v1), .val (.ref b458), .unset, .unset, .unset] [(.ref b458)])) _
      refine XS.iconst X458.here hx rfl (hb hby at_83) ?_
      show Steps p.tables e below (T458.setTop (mkF m 84 #[.val (.int p0), .val (.int p1), .val (.int p2), .val (.int p3), .val (.int p4), .val (.ref b274), .val (.int (2 : Int32)), .val (.int v1), .val (.ref b458), .unset, .unset, .unset] [(.int (0 : Int32)), (.ref b458)])) _
      refine XS.aload X458.here hx rfl (hb hby at_84) rfl rfl ?_
      show Steps p.tables e below (T458.setTop (mkF m 86 #[.val (.int p0), .val (.int p1), .val (.int p2), .val (.int p3), .val (.int p4), .val (.ref b274), .val (.int (2 : Int32)), .val (.int v1), .val (.ref b458), .unset, .unset, .unset] [(.ref b274), (.int (0 : Int32)), (.ref b458)])) _
      refine XS.iconst X458.here hx rfl (hb hby at_86) ?_
      show Steps p.tables e below (T458.setTop (mkF m 87 #[.val (.int p0), .val (.int p1), .val (.int p2), .val (.int p3), .val (.int p4), .val (.ref b274), .val (.int (2 : Int32)), .val (.int v1), .val (.ref b458), .unset, .unset, .unset] [(.int (0 : Int32)), (.ref b274), (.int (0 : Int32)), (.ref b458)])) _
      refine own_rdI X458 hx hZ e458 V460 (j := (0 : Int32)) (i := 0) (by decide) (by decide) (g := (mkF m 87 #[.val (.int p0), .val (.int p1), .val (.int p2), .val (.int p3), .val (.int p4), .val (.ref b274), .val (.int (2 : Int32)), .val (.int v1), .val (.ref b458), .unset, .unset, .unset] [(.int (0 : Int32)), (.ref b274), (.int (0 : Int32)), (.ref b458)])) rfl rfl (hb hby at_87) _ ?_
      show Steps p.tables e below (T458.setTop (mkF m 88 #[.val (.int p0), .val (.int p1), .val (.int p2), .val (.int p3), .val (.int p4), .val (.ref b274), .val (.int (2 : Int32)), .val (.int v1), .val (.ref b458), .unset, .unset, .unset] [(.int (u 0)), (.int (0 : Int32)), (.ref b458)])) _
      refine st462 _ ?_
      show Steps p.tables e below (T462.setTop (mkF m 89 #[.val (.int p0), .val (.int p1), .val (.int p2), .val (.int p3), .val (.int p4), .val (.ref b274), .val (.int (2 : Int32)), .val (.int v1), .val (.ref b458), .unset, .unset, .unset] [])) _
      refine XS.aload X462.here hx rfl (hb hby at_89) rfl rfl ?_
      show Steps p.tables e below (T462.setTop (mkF m 91 #[.val (.int p0), .val (.int p1), .val (.int p2), .val (.int p3), .val (.int p4), .val (.ref b274), .val (.int (2 : Int32)), .val (.int v1), .val (.ref b458), .unset, .unset, .unset] [(.ref b458)])) _
      refine XS.iconst X462.here hx rfl (hb hby at_91) ?_
      show Steps p.tables e below (T462.setTop (mkF m 92 #[.val (.int p0), .val (.int p1), .val (.int p2), .val (.int p3), .val (.int p4), .val (.ref b274), .val (.int (2 : Int32)), .val (.int v1), .val (.ref b458), .unset, .unset, .unset] [(.int (1 : Int32)), (.ref b458)])) _
      refine XS.aload X462.here hx rfl (hb hby at_92) rfl rfl ?_
      show Steps p.tables e below (T462.setTop (mkF m 94 #[.val (.int p0), .val (.int p1), .val (.int p2), .val (.int p3), .val (.int p4), .val (.ref b274), .val (.int (2 : Int32)), .val (.int v1), .val (.ref b458), .unset, .unset, .unset] [(.ref b274), (.int (1 : Int32)), (.ref b458)])) _
      refine XS.iconst X462.here hx rfl (hb hby at_94) ?_
      show Steps p.tables e below (T462.setTop (mkF m 95 #[.val (.int p0), .val (.int p1), .val (.int p2), .val (.int p3), .val (.int p4), .val (.ref b274), .val (.int (2 : Int32)), .val (.int v1), .val (.ref b458), .unset, .unset, .unset] [(.int (1 : Int32)), (.ref b274), (.int (1 : Int32)), (.ref b458)])) _
      refine own_rdI X462 hx hZ e462 V464 (j := (1 : Int32)) (i := 1) (by decide) (by decide) (g := (mkF m 95 #[.val (.int p0), .val (.int p1), .val (.int p2), .val (.int p3), .val (.int p4), .val (.ref b274), .val (.int (2 : Int32)), .val (.int v1), .val (.ref b458), .unset, .unset, .unset] [(.int (1 : Int32)), (.ref b274), (.int (1 : Int32)), (.ref b458)])) rfl rfl (hb hby at_95) _ ?_
      show Steps p.tables e below (T462.setTop (mkF m 96 #[.val (.int p0), .val (.int p1), .val (.int p2), .val (.int p3), .val (.int p4), .val (.ref b274), .val (.int (2 : Int32)), .val (.int v1), .val (.ref b458), .unset, .unset, .unset] [(.int (u 1)), (.int (1 : Int32)), (.ref b458)])) _
      refine st468 _ ?_
      show Steps p.tables e below (T468.setTop (mkF m 97 #[.val (.int p0), .val (.int p1), .val (.int p2), .val (.int p3), .val (.int p4), .val (.ref b274), .val (.int (2 : Int32)), .val (.int v1), .val (.ref b458), .unset, .unset, .unset] [])) _
      refine XS.aload X468.here hx rfl (hb hby at_97) rfl rfl ?_
      show Steps p.tables e below (T468.setTop (mkF m 99 #[.val (.int p0), .val (.int p1), .val (.int p2), .val (.int p3), .val (.int p4), .val (.ref b274), .val (.int (2 : Int32)), .val (.int v1), .val (.ref b458), .unset, .unset, .unset] [(.ref b458)])) _
      refine XS.iconst X468.here hx rfl (hb hby at_99) ?_
      show Steps p.tables e below (T468.setTop (mkF m 100 #[.val (.int p0), .val (.int p1), .val (.int p2), .val (.int p3), .val (.int p4), .val (.ref b274), .val (.int (2 : Int32)), .val (.int v1), .val (.ref b458), .unset, .unset, .unset] [(.int (2 : Int32)), (.ref b458)])) _
      refine XS.aload X468.here hx rfl (hb hby at_100) rfl rfl ?_
      show Steps p.tables e below (T468.setTop (mkF m 102 #[.val (.int p0), .val (.int p1), .val (.int p2), .val (.int p3), .val (.int p4), .val (.ref b274), .val (.int (2 : Int32)), .val (.int v1), .val (.ref b458), .unset, .unset, .unset] [(.ref b274), (.int (2 : Int32)), (.ref b458)])) _
      refine XS.iconst X468.here hx rfl (hb hby at_102) ?_
      show Steps p.tables e below (T468.setTop (mkF m 103 #[.val (.int p0), .val (.int p1), .val (.int p2), .val (.int p3), .val (.int p4), .val (.ref b274), .val (.int (2 : Int32)), .val (.int v1), .val (.ref b458), .unset, .unset, .unset] [(.int (2 : Int32)), (.ref b274), (.int (2 : Int32)), (.ref b458)])) _
      refine own_rdI X468 hx hZ e468 V470 (j := (2 : Int32)) (i := 2) (by decide) (by decide) (g := (mkF m 103 #[.val (.int p0), .val (.int p1), .val (.int p2), .val (.int p3), .val (.int p4), .val (.ref b274), .val (.int (2 : Int32)), .val (.int v1), .val (.ref b458), .unset, .unset, .unset] [(.int (2 : Int32)), (.ref b274), (.int (2 : Int32)), (.ref b458)])) rfl rfl (hb hby at_103) _ ?_
      show Steps p.tables e below (T468.setTop (mkF m 104 #[.val (.int p0), .val (.int p1), .val (.int p2), .val (.int p3), .val (.int p4), .val (.ref b274), .val (.int (2 : Int32)), .val (.int v1), .val (.ref b458), .unset, .unset, .unset] [(.int (u 2)), (.int (2 : Int32)), (.ref b458)])) _
      refine st474 _ ?_
      show Steps p.tables e below (T474.setTop (mkF m 105 #[.val (.int p0), .val (.int p1), .val (.int p2), .val (.int p3), .val (.int p4), .val (.ref b274), .val (.int (2 : Int32)), .val (.int v1), .val (.ref b458), .unset, .unset, .unset] [])) _
      refine XS.aload X474.here hx rfl (hb hby at_105) rfl rfl ?_
      show Steps p.tables e below (T474.setTop (mkF m 107 #[.val (.int p0), .val (.int p1), .val (.int p2), .val (.int p3), .val (.int p4), .val (.ref b274), .val (.int (2 : Int32)), .val (.int v1), .val (.ref b458), .unset, .unset, .unset] [(.ref b458)])) _
      refine XS.iconst X474.here hx rfl (hb hby at_107) ?_
      show Steps p.tables e below (T474.setTop (mkF m 108 #[.val (.int p0), .val (.int p1), .val (.int p2), .val (.int p3), .val (.int p4), .val (.ref b274), .val (.int (2 : Int32)), .val (.int v1), .val (.ref b458), .unset, .unset, .unset] [(.int (3 : Int32)), (.ref b458)])) _
      refine XS.aload X474.here hx rfl (hb hby at_108) rfl rfl ?_
      show Steps p.tables e below (T474.setTop (mkF m 110 #[.val (.int p0), .val (.int p1), .val (.int p2), .val (.int p3), .val (.int p4), .val (.ref b274), .val (.int (2 : Int32)), .val (.int v1), .val (.ref b458), .unset, .unset, .unset] [(.ref b274), (.int (3 : Int32)), (.ref b458)])) _
      refine XS.iconst X474.here hx rfl (hb hby at_110) ?_
      show Steps p.tables e below (T474.setTop (mkF m 111 #[.val (.int p0), .val (.int p1), .val (.int p2), .val (.int p3), .val (.int p4), .val (.ref b274), .val (.int (2 : Int32)), .val (.int v1), .val (.ref b458), .unset, .unset, .unset] [(.int (3 : Int32)), (.ref b274), (.int (3 : Int32)), (.ref b458)])) _
      refine own_rdI X474 hx hZ e474 V476 (j := (3 : Int32)) (i := 3) (by decide) (by decide) (g := (mkF m 111 #[.val (.int p0), .val (.int p1), .val (.int p2), .val (.int p3), .val (.int p4), .val (.ref b274), .val (.int (2 : Int32)), .val (.int v1), .val (.ref b458), .unset, .unset, .unset] [(.int (3 : Int32)), (.ref b274), (.int (3 : Int32)), (.ref b458)])) rfl rfl (hb hby at_111) _ ?_
      show Steps p.tables e below (T474.setTop (mkF m 112 #[.val (.int p0), .val (.int p1), .val (.int p2), .val (.int p3), .val (.int p4), .val (.ref b274), .val (.int (2 : Int32)), .val (.int v1), .val (.ref b458), .unset, .unset, .unset] [(.int (u 3)), (.int (3 : Int32)), (.ref b458)])) _
      refine st480 _ ?_
      show Steps p.tables e below (T480.setTop (mkF m 113 #[.val (.int p0), .val (.int p1), .val (.int p2), .val (.int p3), .val (.int p4), .val (.ref b274), .val (.int (2 : Int32)), .val (.int v1), .val (.ref b458), .unset, .unset, .unset] [])) _
      refine st487 _ ?_
      show Steps p.tables e below (T487.setTop (mkF m 116 #[.val (.int p0), .val (.int p1), .val (.int p2), .val (.int p3), .val (.int p4), .val (.ref b274), .val (.int (2 : Int32)), .val (.int v1), .val (.ref b458), .unset, .unset, .unset] [(.ref b487)])) _
      refine XS.dup X487.here hx rfl (hb hby at_116) rfl rfl ?_
      show Steps p.tables e below (T487.setTop (mkF m 117 #[.val (.int p0), .val (.int p1), .val (.int p2), .val (.int p3), .val (.int p4), .val (.ref b274), .val (.int (2 : Int32)), .val (.int v1), .val (.ref b458), .unset, .unset, .unset] [(.ref b487), (.ref b487)])) _
      exact kt
    obtain ⟨aS493, T493, h493, k493, X493, e493, E493, hS493, hk493, hZ, hown, st493⟩ := ldcS (s := s) (vm0 := s.vm) X487 hx hZ hown (hw _ (List.mem_of_getElem? (i := 5) rfl)) (own_ws hw) e487 ((State.WarmedH.refl s).since 0) (Nat.zero_le _) (g := (mkF m 117 #[.val (.int p0), .val (.int p1), .val (.int p2), .val (.int p3), .val (.int p4), .val (.ref b274), .val (.int (2 : Int32)), .val (.int v1), .val (.ref b458), .unset, .unset, .unset] [(.ref b487), (.ref b487)])) rfl (hb hby at_117) (n := 4) (by decide) (by decide) (by decide) (by decide)
    have E495 := E488.ext E493
    have V496 := V489.ext E493
    have E497 := E490.ext E493
    have V498 := V491.ext E493
    have E499 := A487.ext E493
    have F500 := F487_text.ext E493
    have F501 := F487_units.ext E493
    have F502 := F487_borders.ext E493
    have Z503 : n0 ≤ h493.size := Nat.le_trans Z492 E493.1
    obtain ⟨_, _, ⟨T504, L504, k504, n504⟩, -, X504, ⟨Lc504, hQ504, l504, y504, z504⟩, st504⟩ := X493.specialBack hx (y := (⟨"com/example/xcu/xcu/UnitString$Part", "<init>", "(Ljava/lang/String;[I)V"⟩ : MethodName)) rfl hown (mvT hZ (hw _ (List.mem_of_getElem? (i := 13) rfl))) (mvT hZ (hw _ (List.mem_of_getElem? (i := 14) rfl))) (mvT hZ (hw _ (List.mem_of_getElem? (i := 15) rfl))) (by decide) (backOf (W := 1) (rm1 l Z aq hw [] b487 aS493 b458 u h493 n0 Z503 E499 F500 F501 F502 V498 g_b487 ne_b458_b487) hZ (hw _ (List.mem_of_getElem? (i := 15) rfl)) (hw _ (List.mem_of_getElem? (i := 4) rfl)) (by decide) (by decide)) (g := (mkF m 121 #[.val (.int p0), .val (.int p1), .val (.int p2), .val (.int p3), .val (.int p4), .val (.ref b274), .val (.int (2 : Int32)), .val (.int v1), .val (.ref b458), .unset, .unset, .unset] [(.ref b458), (.ref aS493), (.ref b487), (.ref b487)])) rfl (by rw [hml]; rfl) (Steps.refl _) (a := b487) (argsL := [(.ref aS493), (.ref b458)]) (rest := [(.ref b487)]) (lenOf pd20273392 rfl) rfl (by show 2 * 0 + _ ≤ _; exact Nat.le_of_eq rfl) (hb hby at_121) (fun _ _ => ⟨rfl, e493, (by decide : 5 + 1 ≤ _), (by decide : 19 + 4 ≤ _)⟩)
    dsimp only [Pt.U, Pt.locs, Pt.cells, Pt.slots] at X504 l504 y504 z504 st504 hQ504
    subst l504 y504 z504
    obtain ⟨ab504, r1, r2, r3, hr1, hr2, hr3, br1, br2, br3, rfl, N504q, K504, E504_0, Fu504, Fb504, Vu504, Vb504⟩ := hQ504
    have E505 := E495.keep K504
    have V506 := V496.keep K504 (ninS ne_b274_b487 nin0)
    have E507 := E497.keep K504
    have V508 := V498.keep K504 (ninS ne_b458_b487 nin0)
    have Z509 : n0 ≤ T504.heap.size := Nat.le_trans Z503 K504.1
    have Y510 : k493 ≤ T504.heap.size := Nat.le_trans hk493 K504.1
    have N511 := Fr.app N484 N504q
    obtain ⟨cq512, kq512, q512a, q512b, q512c⟩ := isOf hZ rfl E504_0
    obtain ⟨_, _, ⟨T512, L512, k512, n512⟩, -, X512, ⟨Lc512, hQ512, l512, y512, z512⟩, st512⟩ := X504.virtualBack hx (y := (⟨"com/example/xcu/xcu/UnitString$Part", "extend", "(II)I"⟩ : MethodName)) (z := (⟨"com/example/xcu/xcu/UnitString$Part", "extend", "(II)I"⟩ : MethodName)) hown (mvT hZ (hw _ (List.mem_of_getElem? (i := 30) rfl))) (mvT hZ (hw _ (List.mem_of_getElem? (i := 26) rfl))) (notFace_of_selects (args := #[]) (mvT hZ (hw _ (List.mem_of_getElem? (i := 28) rfl)))) (mvT hZ (hw _ (List.mem_of_getElem? (i := 28) rfl))) (mvT hZ (hw _ (List.mem_of_getElem? (i := 27) rfl))) (by decide) (backOf (W := 0) (rm3 l Z aq hw [] b487 v1 b458 ab504 u (own_up (own_up (own_up (fun _ => (0 : Int32)) 1 (Int32.ofNat r1)) 2 (Int32.ofNat r2)) 3 (Int32.ofNat r3)) 2 T504.heap n0 Z509 Fu504 Fb504 Vu504 Vb504 (by omega) (own_hb3 (by omega) (by omega) (by omega))) hZ (hw _ (List.mem_of_getElem? (i := 29) rfl)) (hw _ (List.mem_of_getElem? (i := 4) rfl)) (by decide) (by decide)) q512a q512c (g := (mkF m 132 #[.val (.int p0), .val (.int p1), .val (.int p2), .val (.int p3), .val (.int p4), .val (.ref b274), .val (.int (2 : Int32)), .val (.int v1), .val (.ref b458), .val (.ref b487), .unset, .unset] [(.int v1), (.int (2 : Int32)), (.ref b487)])) rfl (by rw [hml]; rfl) (Steps.refl _) (argsL := [(.int (2 : Int32)), (.int v1)]) (rest := []) (lenOf pd84293393 rfl) rfl (by show 2 * 0 + _ ≤ _; exact Nat.le_of_eq rfl) (hb hby at_132) (fun _ _ => ⟨rfl, rfl, (by decide : 6 + 0 ≤ _), (by decide : 23 + 0 ≤ _)⟩)
    dsimp only [Pt.U, Pt.locs, Pt.cells, Pt.slots] at X512 l512 y512 z512 st512 hQ512
    subst l512 y512 z512
    obtain ⟨r4, hr4, br4, rfl, N512q, e512⟩ := hQ512
    have N513 := Fr.app N511 N512q
    obtain ⟨_, _, ⟨T514, L514, k514, n514⟩, -, X514, ⟨Lc514, hQ514, l514, y514, z514⟩, st514⟩ := Jvm.LawKit.callS X512 hx (y := (⟨"com/example/xcu/xcu/UnitStringExtendPinLaw", "fits", "([IIII)Z"⟩ : MethodName)) hown (mvT hZ (hw _ (List.mem_of_getElem? (i := 31) rfl))) (mvT hZ (hw _ (List.mem_of_getElem? (i := 32) rfl))) (mvT hZ (hw _ (List.mem_of_getElem? (i := 33) rfl))) (mvT hZ (hw _ (List.mem_of_getElem? (i := 34) rfl))) (by decide) (backOf (W := 0) (rm4_2_4 l Z aq hw [] b274 v1 u T504.heap n0 Z509 V506) hZ (hw _ (List.mem_of_getElem? (i := 34) rfl)) (hw _ (List.mem_of_getElem? (i := 33) rfl)) (by decide) (by decide)) (g := (mkF m 144 #[.val (.int p0), .val (.int p1), .val (.int p2), .val (.int p3), .val (.int p4), .val (.ref b274), .val (.int (2 : Int32)), .val (.int v1), .val (.ref b458), .val (.ref b487), .val (.int (Int32.ofNat r4)), .unset] [(.int (4 : Int32)), (.int v1), (.int (2 : Int32)), (.ref b274)])) rfl (by rw [hml]; rfl) (argsL := [(.ref b274), (.int (2 : Int32)), (.int v1), (.int (4 : Int32))]) (rest := []) (lenOf pd21711183 rfl) rfl (by show 2 * 0 + _ ≤ _; exact Nat.le_of_eq rfl) (hb hby at_144) (fun _ _ => ⟨rfl, e512, (by decide : 6 + 0 ≤ _), (by decide : 23 + 0 ≤ _)⟩)
    dsimp only [Pt.U, Pt.locs, Pt.cells, Pt.slots] at X514 l514 y514 z514 st514 hQ514
    subst l514 y514 z514
    obtain ⟨rfl, N514q, e514⟩ := hQ514
    have N515 := Fr.app N513 N514q
    obtain ⟨_, _, ⟨T516, L516, k516, n516⟩, -, X516, ⟨Lc516, hQ516, l516, y516, z516⟩, st516⟩ := Jvm.LawKit.callS X514 hx (y := (⟨"com/example/xcu/xcu/UnitStringExtendPinLaw", "fits", "([IIII)Z"⟩ : MethodName)) hown (mvT hZ (hw _ (List.mem_of_getElem? (i := 31) rfl))) (mvT hZ (hw _ (List.mem_of_getElem? (i := 32) rfl))) (mvT hZ (hw _ (List.mem_of_getElem? (i := 33) rfl))) (mvT hZ (hw _ (List.mem_of_getElem? (i := 34) rfl))) (by decide) (backOf (W := 0) (rm4_2_3 l Z aq hw [] b274 v1 u T504.heap n0 Z509 V506) hZ (hw _ (List.mem_of_getElem? (i := 34) rfl)) (hw _ (List.mem_of_getElem? (i := 33) rfl)) (by decide) (by decide)) (g := (mkF m 163 #[.val (.int p0), .val (.int p1), .val (.int p2), .val (.int p3), .val (.int p4), .val (.ref b274), .val (.int (2 : Int32)), .val (.int v1), .val (.ref b458), .val (.ref b487), .val (.int (Int32.ofNat r4)), .unset] [(.int (3 : Int32)), (.int v1), (.int (2 : Int32)), (.ref b274)])) rfl (by rw [hml]; rfl) (argsL := [(.ref b274), (.int (2 : Int32)), (.int v1), (.int (3 : Int32))]) (rest := []) (lenOf pd21711183 rfl) rfl (by show 2 * 0 + _ ≤ _; exact Nat.le_of_eq rfl) (hb hby at_163) (fun _ _ => ⟨rfl, e514, (by decide : 6 + 0 ≤ _), (by decide : 23 + 0 ≤ _)⟩)
    dsimp only [Pt.U, Pt.locs, Pt.cells, Pt.slots] at X516 l516 y516 z516 st516 hQ516
    subst l516 y516 z516
    obtain ⟨rfl, N516q, e516⟩ := hQ516
    have N517 := Fr.app N515 N516q
    have pre518 : ∀ t, Steps p.tables e below (T516.setTop (mkF m 166 #[.val (.int p0), .val (.int p1), .val (.int p2), .val (.int p3), .val (.int p4), .val (.ref b274), .val (.int (2 : Int32)), .val (.int v1), .val (.ref b458), .val (.ref b487), .val (.int (Int32.ofNat r4)), .unset] [(.int (if (u 2) = v1 then (1 : Int32) else (0 : Int32)))])) t → Steps p.tables e below (s₁.setTop (entryFrame m #[(.int p0), (.int p1), (.int p2), (.int p3), (.int p4)] maxLocals)) t := fun t kt => by
      refine pre494 _ ?_
      show Steps p.tables e below (T487.setTop (mkF m 117 #[.val (.int p0), .val (.int p1), .val (.int p2), .val (.int p3), .val (.int p4), .val (.ref b274), .val (.int (2 : Int32)), .val (.int v1), .val (.ref b458), .unset, .unset, .unset] [(.ref b487), (.ref b487)])) _
      refine st493 _ ?_
      show Steps p.tables e below (T493.setTop (mkF m 119 #[.val (.int p0), .val (.int p1), .val (.int p2), .val (.int p3), .val (.int p4), .val (.ref b274), .val (.int (2 : Int32)), .val (.int v1), .val (.ref b458), .unset, .unset, .unset] [(.ref aS493), (.ref b487), (.ref b487)])) _
      refine XS.aload X493.here hx rfl (hb hby at_119) rfl rfl ?_
      show Steps p.tables e below (T493.setTop (mkF m 121 #[.val (.int p0), .val (.int p1), .val (.int p2), .val (.int p3), .val (.int p4), .val (.ref b274), .val (.int (2 : Int32)), .val (.int v1), .val (.ref b458), .unset, .unset, .unset] [(.ref b458), (.ref aS493), (.ref b487), (.ref b487)])) _
      refine st504.trans ?_
      show Steps p.tables e below (T504.setTop (mkF m 124 #[.val (.int p0), .val (.int p1), .val (.int p2), .val (.int p3), .val (.int p4), .val (.ref b274), .val (.int (2 : Int32)), .val (.int v1), .val (.ref b458), .unset, .unset, .unset] [(.ref b487)])) _
      refine XS.astore X504.here hx rfl (hb hby at_124) rfl rfl (l' := #[.val (.int p0), .val (.int p1), .val (.int p2), .val (.int p3), .val (.int p4), .val (.ref b274), .val (.int (2 : Int32)), .val (.int v1), .val (.ref b458), .val (.ref b487), .unset, .unset]) rfl ?_
      show Steps p.tables e below (T504.setTop (mkF m 126 #[.val (.int p0), .val (.int p1), .val (.int p2), .val (.int p3), .val (.int p4), .val (.ref b274), .val (.int (2 : Int32)), .val (.int v1), .val (.ref b458), .val (.ref b487), .unset, .unset] [])) _
      refine XS.aload X504.here hx rfl (hb hby at_126) rfl rfl ?_
      show Steps p.tables e below (T504.setTop (mkF m 128 #[.val (.int p0), .val (.int p1), .val (.int p2), .val (.int p3), .val (.int p4), .val (.ref b274), .val (.int (2 : Int32)), .val (.int v1), .val (.ref b458), .val (.ref b487), .unset, .unset] [(.ref b487)])) _
      refine XS.iload X504.here hx rfl (hb hby at_128) rfl ?_
      show Steps p.tables e below (T504.setTop (mkF m 130 #[.val (.int p0), .val (.int p1), .val (.int p2), .val (.int p3), .val (.int p4), .val (.ref b274), .val (.int (2 : Int32)), .val (.int v1), .val (.ref b458), .val (.ref b487), .unset, .unset] [(.int (2 : Int32)), (.ref b487)])) _
      refine XS.iload X504.here hx rfl (hb hby at_130) rfl ?_
      show Steps p.tables e below (T504.setTop (mkF m 132 #[.val (.int p0), .val (.int p1), .val (.int p2), .val (.int p3), .val (.int p4), .val (.ref b274), .val (.int (2 : Int32)), .val (.int v1), .val (.ref b458), .val (.ref b487), .unset, .unset] [(.int v1), (.int (2 : Int32)), (.ref b487)])) _
      refine st512.trans ?_
      show Steps p.tables e below (T512.setTop (mkF m 135 #[.val (.int p0), .val (.int p1), .val (.int p2), .val (.int p3), .val (.int p4), .val (.ref b274), .val (.int (2 : Int32)), .val (.int v1), .val (.ref b458), .val (.ref b487), .unset, .unset] [(.int (Int32.ofNat r4))])) _
      refine XS.istore X512.here hx rfl (hb hby at_135) rfl (l' := #[.val (.int p0), .val (.int p1), .val (.int p2), .val (.int p3), .val (.int p4), .val (.ref b274), .val (.int (2 : Int32)), .val (.int v1), .val (.ref b458), .val (.ref b487), .val (.int (Int32.ofNat r4)), .unset]) rfl ?_
      show Steps p.tables e below (T512.setTop (mkF m 137 #[.val (.int p0), .val (.int p1), .val (.int p2), .val (.int p3), .val (.int p4), .val (.ref b274), .val (.int (2 : Int32)), .val (.int v1), .val (.ref b458), .val (.ref b487), .val (.int (Int32.ofNat r4)), .unset] [])) _
      refine XS.aload X512.here hx rfl (hb hby at_137) rfl rfl ?_
      show Steps p.tables e below (T512.setTop (mkF m 139 #[.val (.int p0), .val (.int p1), .val (.int p2), .val (.int p3), .val (.int p4), .val (.ref b274), .val (.int (2 : Int32)), .val (.int v1), .val (.ref b458), .val (.ref b487), .val (.int (Int32.ofNat r4)), .unset] [(.ref b274)])) _
      refine XS.iload X512.here hx rfl (hb hby at_139) rfl ?_
      show Steps p.tables e below (T512.setTop (mkF m 141 #[.val (.int p0), .val (.int p1), .val (.int p2), .val (.int p3), .val (.int p4), .val (.ref b274), .val (.int (2 : Int32)), .val (.int v1), .val (.ref b458), .val (.ref b487), .val (.int (Int32.ofNat r4)), .unset] [(.int (2 : Int32)), (.ref b274)])) _
      refine XS.iload X512.here hx rfl (hb hby at_141) rfl ?_
      show Steps p.tables e below (T512.setTop (mkF m 143 #[.val (.int p0), .val (.int p1), .val (.int p2), .val (.int p3), .val (.int p4), .val (.ref b274), .val (.int (2 : Int32)), .val (.int v1), .val (.ref b458), .val (.ref b487), .val (.int (Int32.ofNat r4)), .unset] [(.int v1), (.int (2 : Int32)), (.ref b274)])) _
      refine XS.iconst X512.here hx rfl (hb hby at_143) ?_
      show Steps p.tables e below (T512.setTop (mkF m 144 #[.val (.int p0), .val (.int p1), .val (.int p2), .val (.int p3), .val (.int p4), .val (.ref b274), .val (.int (2 : Int32)), .val (.int v1), .val (.ref b458), .val (.ref b487), .val (.int (Int32.ofNat r4)), .unset] [(.int (4 : Int32)), (.int v1), (.int (2 : Int32)), (.ref b274)])) _
      refine st514 _ ?_
      show Steps p.tables e below (T514.setTop (mkF m 147 #[.val (.int p0), .val (.int p1), .val (.int p2), .val (.int p3), .val (.int p4), .val (.ref b274), .val (.int (2 : Int32)), .val (.int v1), .val (.ref b458), .val (.ref b487), .val (.int (Int32.ofNat r4)), .unset] [(.int (0 : Int32))])) _
      refine XS.ifYes X514.here hx rfl (pc0 := 147) (pc' := 156) rfl (hb hby at_147) rfl ((if0 _ _).trans (teq (by decide : (0 : Int32) = (0 : Int32))).1) (by decide) (by decide) ?_
      show Steps p.tables e below (T514.setTop (mkF m 156 #[.val (.int p0), .val (.int p1), .val (.int p2), .val (.int p3), .val (.int p4), .val (.ref b274), .val (.int (2 : Int32)), .val (.int v1), .val (.ref b458), .val (.ref b487), .val (.int (Int32.ofNat r4)), .unset] [])) _
      refine XS.aload X514.here hx rfl (hb hby at_156) rfl rfl ?_
      show Steps p.tables e below (T514.setTop (mkF m 158 #[.val (.int p0), .val (.int p1), .val (.int p2), .val (.int p3), .val (.int p4), .val (.ref b274), .val (.int (2 : Int32)), .val (.int v1), .val (.ref b458), .val (.ref b487), .val (.int (Int32.ofNat r4)), .unset] [(.ref b274)])) _
      refine XS.iload X514.here hx rfl (hb hby at_158) rfl ?_
      show Steps p.tables e below (T514.setTop (mkF m 160 #[.val (.int p0), .val (.int p1), .val (.int p2), .val (.int p3), .val (.int p4), .val (.ref b274), .val (.int (2 : Int32)), .val (.int v1), .val (.ref b458), .val (.ref b487), .val (.int (Int32.ofNat r4)), .unset] [(.int (2 : Int32)), (.ref b274)])) _
      refine XS.iload X514.here hx rfl (hb hby at_160) rfl ?_
      show Steps p.tables e below (T514.setTop (mkF m 162 #[.val (.int p0), .val (.int p1), .val (.int p2), .val (.int p3), .val (.int p4), .val (.ref b274), .val (.int (2 : Int32)), .val (.int v1), .val (.ref b458), .val (.ref b487), .val (.int (Int32.ofNat r4)), .unset] [(.int v1), (.int (2 : Int32)), (.ref b274)])) _
      refine XS.iconst X514.here hx rfl (hb hby at_162) ?_
      show Steps p.tables e below (T514.setTop (mkF m 163 #[.val (.int p0), .val (.int p1), .val (.int p2), .val (.int p3), .val (.int p4), .val (.ref b274), .val (.int (2 : Int32)), .val (.int v1), .val (.ref b458), .val (.ref b487), .val (.int (Int32.ofNat r4)), .unset] [(.int (3 : Int32)), (.int v1), (.int (2 : Int32)), (.ref b274)])) _
      refine st516 _ ?_
      show Steps p.tables e below (T516.setTop (mkF m 166 #[.val (.int p0), .val (.int p1), .val (.int p2), .val (.int p3), .val (.int p4), .val (.ref b274), .val (.int (2 : Int32)), .val (.int v1), .val (.ref b458), .val (.ref b487), .val (.int (Int32.ofNat r4)), .unset] [(.int (if (u 2) = v1 then (1 : Int32) else (0 : Int32)))])) _
      exact kt
    obtain ⟨v2, hv2⟩ : ∃ z : Int32, z = (if (if (u 2) = v1 then (1 : Int32) else (0 : Int32)) = (0 : Int32) then (if (if (u 0) = (u 1) then (if (u 1) = v1 then (1 : Int32) else (0 : Int32)) else (0 : Int32)) = (0 : Int32) then (if (if (u 0) = v1 then (1 : Int32) else (0 : Int32)) = (0 : Int32) then (0 : Int32) else (1 : Int32)) else (2 : Int32)) else (3 : Int32)) := ⟨_, rfl⟩
    obtain ⟨T528, L528, X528, N528, Z528, Y528, E529, V530, E531, V532, E533, F534, F535, V536, pre528⟩ : ∃ (T' : State) (L' : List Loc), Stand p l e room_1 (s.setVm T493.vm) m #[(.int p0), (.int p1), (.int p2), (.int p3), (.int p4)] below meth c T' L' 6 23 ∧ Fr n0 L' ∧ n0 ≤ T'.heap.size ∧ k493 ≤ T'.heap.size ∧ Exa Z T'.heap b274 "[I" ∧ own_Ar Z T'.heap b274 .int 4 u ∧ Exa Z T'.heap b458 "[I" ∧ own_Ar Z T'.heap b458 .int 4 u ∧ Exa Z T'.heap b487 "com/example/xcu/xcu/UnitString$Part" ∧ Fld Z T'.heap b487 "com/example/xcu/xcu/UnitString$Part" "units" "[I" (.ref b458) ∧ Fld Z T'.heap b487 "com/example/xcu/xcu/UnitString$Part" "borders" "[I" (.ref ab504) ∧ own_Ar Z T'.heap ab504 .int 4 (own_up (own_up (own_up (fun _ => (0 : Int32)) 1 (Int32.ofNat r1)) 2 (Int32.ofNat r2)) 3 (Int32.ofNat r3)) ∧ ∀ t, Steps p.tables e below (T'.setTop (mkF m 216 #[.val (.int p0), .val (.int p1), .val (.int p2), .val (.int p3), .val (.int p4), .val (.ref b274), .val (.int (2 : Int32)), .val (.int v1), .val (.ref b458), .val (.ref b487), .val (.int (Int32.ofNat r4)), .val (.int v2)] [])) t → Steps p.tables e below (s₁.setTop (entryFrame m #[(.int p0), (.int p1), (.int p2), (.int p3), (.int p4)] maxLocals)) t := by
      by_cases hc537 : (if (u 2) = v1 then (1 : Int32) else (0 : Int32)) = (0 : Int32)
      · skip
        obtain ⟨_, _, ⟨T538, L538, k538, n538⟩, -, X538, ⟨Lc538, hQ538, l538, y538, z538⟩, st538⟩ := Jvm.LawKit.callS X516 hx (y := (⟨"com/example/xcu/xcu/UnitStringExtendPinLaw", "fits", "([IIII)Z"⟩ : MethodName)) hown (mvT hZ (hw _ (List.mem_of_getElem? (i := 31) rfl))) (mvT hZ (hw _ (List.mem_of_getElem? (i := 32) rfl))) (mvT hZ (hw _ (List.mem_of_getElem? (i := 33) rfl))) (mvT hZ (hw _ (List.mem_of_getElem? (i := 34) rfl))) (by decide) (backOf (W := 0) (rm4_2_2 l Z aq hw [] b274 v1 u T504.heap n0 Z509 V506) hZ (hw _ (List.mem_of_getElem? (i := 34) rfl)) (hw _ (List.mem_of_getElem? (i := 33) rfl)) (by decide) (by decide)) (g := (mkF m 182 #[.val (.int p0), .val (.int p1), .val (.int p2), .val (.int p3), .val (.int p4), .val (.ref b274), .val (.int (2 : Int32)), .val (.int v1), .val (.ref b458), .val (.ref b487), .val (.int (Int32.ofNat r4)), .unset] [(.int (2 : Int32)), (.int v1), (.int (2 : Int32)), (.ref b274)])) rfl (by rw [hml]; rfl) (argsL := [(.ref b274), (.int (2 : Int32)), (.int v1), (.int (2 : Int32))]) (rest := []) (lenOf pd21711183 rfl) rfl (by show 2 * 0 + _ ≤ _; exact Nat.le_of_eq rfl) (hb hby at_182) (fun _ _ => ⟨rfl, e516, (by decide : 6 + 0 ≤ _), (by decide : 23 + 0 ≤ _)⟩)
        dsimp only [Pt.U, Pt.locs, Pt.cells, Pt.slots] at X538 l538 y538 z538 st538 hQ538
        subst l538 y538 z538
        obtain ⟨rfl, N538q, e538⟩ := hQ538
        have N539 := Fr.app N517 N538q
        have pre540 : ∀ t, Steps p.tables e below (T538.setTop (mkF m 185 #[.val (.int p0), .val (.int p1), .val (.int p2), .val (.int p3), .val (.int p4), .val (.ref b274), .val (.int (2 : Int32)), .val (.int v1), .val (.ref b458), .val (.ref b487), .val (.int (Int32.ofNat r4)), .unset] [(.int (if (u 0) = (u 1) then (if (u 1) = v1 then (1 : Int32) else (0 : Int32)) else (0 : Int32)))])) t → Steps p.tables e below (s₁.setTop (entryFrame m #[(.int p0), (.int p1), (.int p2), (.int p3), (.int p4)] maxLocals)) t := fun t kt => by
          refine pre518 _ ?_
          show Steps p.tables e below (T516.setTop (mkF m 166 #[.val (.int p0), .val (.int p1), .val (.int p2), .val (.int p3), .val (.int p4), .val (.ref b274), .val (.int (2 : Int32)), .val (.int v1), .val (.ref b458), .val (.ref b487), .val (.int (Int32.ofNat r4)), .unset] [(.int (if (u 2) = v1 then (1 : Int32) else (0 : Int32)))])) _
          refine XS.ifYes X516.here hx rfl (pc0 := 166) (pc' := 175) rfl (hb hby at_166) rfl ((if0 _ _).trans (teq hc537).1) (by decide) (by decide) ?_
          show Steps p.tables e below (T516.setTop (mkF m 175 #[.val (.int p0), .val (.int p1), .val (.int p2), .val (.int p3), .val (.int p4), .val (.ref b274), .val (.int (2 : Int32)), .val (.int v1), .val (.ref b458), .val (.ref b487), .val (.int (Int32.ofNat r4)), .unset] [])) _
          refine XS.aload X516.here hx rfl (hb hby at_175) rfl rfl ?_
          show Steps p.tables e below (T516.setTop (mkF m 177 #[.val (.int p0), .val (.int p1), .val (.int p2), .val (.int p3), .val (.int p4), .val (.ref b274), .val (.int (2 : Int32)), .val (.int v1), .val (.ref b458), .val (.ref b487), .val (.int (Int32.ofNat r4)), .unset] [(.ref b274)])) _
          refine XS.iload X516.here hx rfl (hb hby at_177) rfl ?_
          show Steps p.tables e below (T516.setTop (mkF m 179 #[.val (.int p0), .val (.int p1), .val (.int p2), .val (.int p3), .val (.int p4), .val (.ref b274), .val (.int (2 : Int32)), .val (.int v1), .val (.ref b458), .val (.ref b487), .val (.int (Int32.ofNat r4)), .unset] [(.int (2 : Int32)), (.ref b274)])) _
          refine XS.iload X516.here hx rfl (hb hby at_179) rfl ?_
          show Steps p.tables e below (T516.setTop (mkF m 181 #[.val (.int p0), .val (.int p1), .val (.int p2), .val (.int p3), .val (.int p4), .val (.ref b274), .val (.int (2 : Int32)), .val (.int v1), .val (.ref b458), .val (.ref b487), .val (.int (Int32.ofNat r4)), .unset] [(.int v1), (.int (2 : Int32)), (.ref b274)])) _
          refine XS.iconst X516.here hx rfl (hb hby at_181) ?_
          show Steps p.tables e below (T516.setTop (mkF m 182 #[.val (.int p0), .val (.int p1), .val (.int p2), .val (.int p3), .val (.int p4), .val (.ref b274), .val (.int (2 : Int32)), .val (.int v1), .val (.ref b458), .val (.ref b487), .val (.int (Int32.ofNat r4)), .unset] [(.int (2 : Int32)), (.int v1), (.int (2 : Int32)), (.ref b274)])) _
          refine st538 _ ?_
          show Steps p.tables e below (T538.setTop (mkF m 185 #[.val (.int p0), .val (.int p1), .val (.int p2), .val (.int p3), .val (.int p4), .val (.ref b274), .val (.int (2 : Int32)), .val (.int v1), .val (.ref b458), .val (.ref b487), .val (.int (Int32.ofNat r4)), .unset] [(.int (if (u 0) = (u 1) then (if (u 1) = v1 then (1 : Int32) else (0 : Int32)) else (0 : Int32)))])) _
          exact kt
        by_cases hc541 : (if (u 0) = (u 1) then (if (u 1) = v1 then (1 : Int32) else (0 : Int32)) else (0 : Int32)) = (0 : Int32)
        · skip
          obtain ⟨_, _, ⟨T542, L542, k542, n542⟩, -, X542, ⟨Lc542, hQ542, l542, y542, z542⟩, st542⟩ := Jvm.LawKit.callS X538 hx (y := (⟨"com/example/xcu/xcu/UnitStringExtendPinLaw", "fits", "([IIII)Z"⟩ : MethodName)) hown (mvT hZ (hw _ (List.mem_of_getElem? (i := 31) rfl))) (mvT hZ (hw _ (List.mem_of_getElem? (i := 32) rfl))) (mvT hZ (hw _ (List.mem_of_getElem? (i := 33) rfl))) (mvT hZ (hw _ (List.mem_of_getElem? (i := 34) rfl))) (by decide) (backOf (W := 0) (rm4_2_1 l Z aq hw [] b274 v1 u T504.heap n0 Z509 V506) hZ (hw _ (List.mem_of_getElem? (i := 34) rfl)) (hw _ (List.mem_of_getElem? (i := 33) rfl)) (by decide) (by decide)) (g := (mkF m 201 #[.val (.int p0), .val (.int p1), .val (.int p2), .val (.int p3), .val (.int p4), .val (.ref b274), .val (.int (2 : Int32)), .val (.int v1), .val (.ref b458), .val (.ref b487), .val (.int (Int32.ofNat r4)), .unset] [(.int (1 : Int32)), (.int v1), (.int (2 : Int32)), (.ref b274)])) rfl (by rw [hml]; rfl) (argsL := [(.ref b274), (.int (2 : Int32)), (.int v1), (.int (1 : Int32))]) (rest := []) (lenOf pd21711183 rfl) rfl (by show 2 * 0 + _ ≤ _; exact Nat.le_of_eq rfl) (hb hby at_201) (fun _ _ => ⟨rfl, e538, (by decide : 6 + 0 ≤ _), (by decide : 23 + 0 ≤ _)⟩)
          dsimp only [Pt.U, Pt.locs, Pt.cells, Pt.slots] at X542 l542 y542 z542 st542 hQ542
          subst l542 y542 z542
          obtain ⟨rfl, N542q, e542⟩ := hQ542
          have N543 := Fr.app N539 N542q
          have pre544 : ∀ t, Steps p.tables e below (T542.setTop (mkF m 204 #[.val (.int p0), .val (.int p1), .val (.int p2), .val (.int p3), .val (.int p4), .val (.ref b274), .val (.int (2 : Int32)), .val (.int v1), .val (.ref b458), .val (.ref b487), .val (.int (Int32.ofNat r4)), .unset] [(.int (if (u 0) = v1 then (1 : Int32) else (0 : Int32)))])) t → Steps p.tables e below (s₁.setTop (entryFrame m #[(.int p0), (.int p1), (.int p2), (.int p3), (.int p4)] maxLocals)) t := fun t kt => by
            refine pre540 _ ?_
            show Steps p.tables e below (T538.setTop (mkF m 185 #[.val (.int p0), .val (.int p1), .val (.int p2), .val (.int p3), .val (.int p4), .val (.ref b274), .val (.int (2 : Int32)), .val (.int v1), .val (.ref b458), .val (.ref b487), .val (.int (Int32.ofNat r4)), .unset] [(.int (if (u 0) = (u 1) then (if (u 1) = v1 then (1 : Int32) else (0 : Int32)) else (0 : Int32)))])) _
            refine XS.ifYes X538.here hx rfl (pc0 := 185) (pc' := 194) rfl (hb hby at_185) rfl ((if0 _ _).trans (teq hc541).1) (by decide) (by decide) ?_
            show Steps p.tables e below (T538.setTop (mkF m 194 #[.val (.int p0), .val (.int p1), .val (.int p2), .val (.int p3), .val (.int p4), .val (.ref b274), .val (.int (2 : Int32)), .val (.int v1), .val (.ref b458), .val (.ref b487), .val (.int (Int32.ofNat r4)), .unset] [])) _
            refine XS.aload X538.here hx rfl (hb hby at_194) rfl rfl ?_
            show Steps p.tables e below (T538.setTop (mkF m 196 #[.val (.int p0), .val (.int p1), .val (.int p2), .val (.int p3), .val (.int p4), .val (.ref b274), .val (.int (2 : Int32)), .val (.int v1), .val (.ref b458), .val (.ref b487), .val (.int (Int32.ofNat r4)), .unset] [(.ref b274)])) _
            refine XS.iload X538.here hx rfl (hb hby at_196) rfl ?_
            show Steps p.tables e below (T538.setTop (mkF m 198 #[.val (.int p0), .val (.int p1), .val (.int p2), .val (.int p3), .val (.int p4), .val (.ref b274), .val (.int (2 : Int32)), .val (.int v1), .val (.ref b458), .val (.ref b487), .val (.int (Int32.ofNat r4)), .unset] [(.int (2 : Int32)), (.ref b274)])) _
            refine XS.iload X538.here hx rfl (hb hby at_198) rfl ?_
            show Steps p.tables e below (T538.setTop (mkF m 200 #[.val (.int p0), .val (.int p1), .val (.int p2), .val (.int p3), .val (.int p4), .val (.ref b274), .val (.int (2 : Int32)), .val (.int v1), .val (.ref b458), .val (.ref b487), .val (.int (Int32.ofNat r4)), .unset] [(.int v1), (.int (2 : Int32)), (.ref b274)])) _
            refine XS.iconst X538.here hx rfl (hb hby at_200) ?_
            show Steps p.tables e below (T538.setTop (mkF m 201 #[.val (.int p0), .val (.int p1), .val (.int p2), .val (.int p3), .val (.int p4), .val (.ref b274), .val (.int (2 : Int32)), .val (.int v1), .val (.ref b458), .val (.ref b487), .val (.int (Int32.ofNat r4)), .unset] [(.int (1 : Int32)), (.int v1), (.int (2 : Int32)), (.ref b274)])) _
            refine st542 _ ?_
            show Steps p.tables e below (T542.setTop (mkF m 204 #[.val (.int p0), .val (.int p1), .val (.int p2), .val (.int p3), .val (.int p4), .val (.ref b274), .val (.int (2 : Int32)), .val (.int v1), .val (.ref b458), .val (.ref b487), .val (.int (Int32.ofNat r4)), .unset] [(.int (if (u 0) = v1 then (1 : Int32) else (0 : Int32)))])) _
            exact kt
          by_cases hc545 : (if (u 0) = v1 then (1 : Int32) else (0 : Int32)) = (0 : Int32)
          · skip
            have pre546 : ∀ t, Steps p.tables e below (T542.setTop (mkF m 216 #[.val (.int p0), .val (.int p1), .val (.int p2), .val (.int p3), .val (.int p4), .val (.ref b274), .val (.int (2 : Int32)), .val (.int v1), .val (.ref b458), .val (.ref b487), .val (.int (Int32.ofNat r4)), .val (.int (0 : Int32))] [])) t → Steps p.tables e below (s₁.setTop (entryFrame m #[(.int p0), (.int p1), (.int p2), (.int p3), (.int p4)] maxLocals)) t := fun t kt => by
              refine pre544 _ ?_
              show Steps p.tables e below (T542.setTop (mkF m 204 #[.val (.int p0), .val (.int p1), .val (.int p2), .val (.int p3), .val (.int p4), .val (.ref b274), .val (.int (2 : Int32)), .val (.int v1), .val (.ref b458), .val (.ref b487), .val (.int (Int32.ofNat r4)), .unset] [(.int (if (u 0) = v1 then (1 : Int32) else (0 : Int32)))])) _
              refine XS.ifYes X542.here hx rfl (pc0 := 204) (pc' := 213) rfl (hb hby at_204) rfl ((if0 _ _).trans (teq hc545).1) (by decide) (by decide) ?_
              show Steps p.tables e below (T542.setTop (mkF m 213 #[.val (.int p0), .val (.int p1), .val (.int p2), .val (.int p3), .val (.int p4), .val (.ref b274), .val (.int (2 : Int32)), .val (.int v1), .val (.ref b458), .val (.ref b487), .val (.int (Int32.ofNat r4)), .unset] [])) _
              refine XS.iconst X542.here hx rfl (hb hby at_213) ?_
              show Steps p.tables e below (T542.setTop (mkF m 214 #[.val (.int p0), .val (.int p1), .val (.int p2), .val (.int p3), .val (.int p4), .val (.ref b274), .val (.int (2 : Int32)), .val (.int v1), .val (.ref b458), .val (.ref b487), .val (.int (Int32.ofNat r4)), .unset] [(.int (0 : Int32))])) _
              refine XS.istore X542.here hx rfl (hb hby at_214) rfl (l' := #[.val (.int p0), .val (.int p1), .val (.int p2), .val (.int p3), .val (.int p4), .val (.ref b274), .val (.int (2 : Int32)), .val (.int v1), .val (.ref b458), .val (.ref b487), .val (.int (Int32.ofNat r4)), .val (.int (0 : Int32))]) rfl ?_
              show Steps p.tables e below (T542.setTop (mkF m 216 #[.val (.int p0), .val (.int p1), .val (.int p2), .val (.int p3), .val (.int p4), .val (.ref b274), .val (.int (2 : Int32)), .val (.int v1), .val (.ref b458), .val (.ref b487), .val (.int (Int32.ofNat r4)), .val (.int (0 : Int32))] [])) _
              exact kt
            rw [if_pos hc537] at hv2
            rw [if_pos hc541] at hv2
            rw [if_pos hc545] at hv2
            subst hv2
            exact ⟨_, _, X542, N543, (by rw [e542]; exact Z509), (by rw [e542]; exact Y510), (by rw [e542]; exact E505), (by rw [e542]; exact V506), (by rw [e542]; exact E507), (by rw [e542]; exact Vu504), (by rw [e542]; exact E504_0), (by rw [e542]; exact Fu504), (by rw [e542]; exact Fb504), (by rw [e542]; exact Vb504), pre546⟩
          · skip
            have pre547 : ∀ t, Steps p.tables e below (T542.setTop (mkF m 216 #[.val (.int p0), .val (.int p1), .val (.int p2), .val (.int p3), .val (.int p4), .val (.ref b274), .val (.int (2 : Int32)), .val (.int v1), .val (.ref b458), .val (.ref b487), .val (.int (Int32.ofNat r4)), .val (.int (1 : Int32))] [])) t → Steps p.tables e below (s₁.setTop (entryFrame m #[(.int p0), (.int p1), (.int p2), (.int p3), (.int p4)] maxLocals)) t := fun t kt => by
              refine pre544 _ ?_
              show Steps p.tables e below (T542.setTop (mkF m 204 #[.val (.int p0), .val (.int p1), .val (.int p2), .val (.int p3), .val (.int p4), .val (.ref b274), .val (.int (2 : Int32)), .val (.int v1), .val (.ref b458), .val (.ref b487), .val (.int (Int32.ofNat r4)), .unset] [(.int (if (u 0) = v1 then (1 : Int32) else (0 : Int32)))])) _
              refine XS.ifNo X542.here hx rfl (hb hby at_204) rfl ((if0 _ _).trans (feq hc545).1) ?_
              show Steps p.tables e below (T542.setTop (mkF m 207 #[.val (.int p0), .val (.int p1), .val (.int p2), .val (.int p3), .val (.int p4), .val (.ref b274), .val (.int (2 : Int32)), .val (.int v1), .val (.ref b458), .val (.ref b487), .val (.int (Int32.ofNat r4)), .unset] [])) _
              refine XS.iconst X542.here hx rfl (hb hby at_207) ?_
              show Steps p.tables e below (T542.setTop (mkF m 208 #[.val (.int p0), .val (.int p1), .val (.int p2), .val (.int p3), .val (.int p4), .val (.ref b274), .val (.int (2 : Int32)), .val (.int v1), .val (.ref b458), .val (.ref b487), .val (.int (Int32.ofNat r4)), .unset] [(.int (1 : Int32))])) _
              refine XS.istore X542.here hx rfl (hb hby at_208) rfl (l' := #[.val (.int p0), .val (.int p1), .val (.int p2), .val (.int p3), .val (.int p4), .val (.ref b274), .val (.int (2 : Int32)), .val (.int v1), .val (.ref b458), .val (.ref b487), .val (.int (Int32.ofNat r4)), .val (.int (1 : Int32))]) rfl ?_
              show Steps p.tables e below (T542.setTop (mkF m 210 #[.val (.int p0), .val (.int p1), .val (.int p2), .val (.int p3), .val (.int p4), .val (.ref b274), .val (.int (2 : Int32)), .val (.int v1), .val (.ref b458), .val (.ref b487), .val (.int (Int32.ofNat r4)), .val (.int (1 : Int32))] [])) _
              refine XS.goto X542.here hx rfl (pc0 := 210) (pc' := 216) rfl (hb hby at_210) (by decide) (by decide) ?_
              show Steps p.tables e below (T542.setTop (mkF m 216 #[.val (.int p0), .val (.int p1), .val (.int p2), .val (.int p3), .val (.int p4), .val (.ref b274), .val (.int (2 : Int32)), .val (.int v1), .val (.ref b458), .val (.ref b487), .val (.int (Int32.ofNat r4)), .val (.int (1 : Int32))] [])) _
              exact kt
            rw [if_pos hc537] at hv2
            rw [if_pos hc541] at hv2
            rw [if_neg hc545] at hv2
            subst hv2
            exact ⟨_, _, X542, N543, (by rw [e542]; exact Z509), (by rw [e542]; exact Y510), (by rw [e542]; exact E505), (by rw [e542]; exact V506), (by rw [e542]; exact E507), (by rw [e542]; exact Vu504), (by rw [e542]; exact E504_0), (by rw [e542]; exact Fu504), (by rw [e542]; exact Fb504), (by rw [e542]; exact Vb504), pre547⟩
        · skip
          have pre548 : ∀ t, Steps p.tables e below (T538.setTop (mkF m 216 #[.val (.int p0), .val (.int p1), .val (.int p2), .val (.int p3), .val (.int p4), .val (.ref b274), .val (.int (2 : Int32)), .val (.int v1), .val (.ref b458), .val (.ref b487), .val (.int (Int32.ofNat r4)), .val (.int (2 : Int32))] [])) t → Steps p.tables e below (s₁.setTop (entryFrame m #[(.int p0), (.int p1), (.int p2), (.int p3), (.int p4)] maxLocals)) t := fun t kt => by
            refine pre540 _ ?_
            show Steps p.tables e below (T538.setTop (mkF m 185 #[.val (.int p0), .val (.int p1), .val (.int p2), .val (.int p3), .val (.int p4), .val (.ref b274), .val (.int (2 : Int32)), .val (.int v1), .val (.ref b458), .val (.ref b487), .val (.int (Int32.ofNat r4)), .unset] [(.int (if (u 0) = (u 1) then (if (u 1) = v1 then (1 : Int32) else (0 : Int32)) else (0 : Int32)))])) _
            refine XS.ifNo X538.here hx rfl (hb hby at_185) rfl ((if0 _ _).trans (feq hc541).1) ?_
            show Steps p.tables e below (T538.setTop (mkF m 188 #[.val (.int p0), .val (.int p1), .val (.int p2), .val (.int p3), .val (.int p4), .val (.ref b274), .val (.int (2 : Int32)), .val (.int v1), .val (.ref b458), .val (.ref b487), .val (.int (Int32.ofNat r4)), .unset] [])) _
            refine XS.iconst X538.here hx rfl (hb hby at_188) ?_
            show Steps p.tables e below (T538.setTop (mkF m 189 #[.val (.int p0), .val (.int p1), .val (.int p2), .val (.int p3), .val (.int p4), .val (.ref b274), .val (.int (2 : Int32)), .val (.int v1), .val (.ref b458), .val (.ref b487), .val (.int (Int32.ofNat r4)), .unset] [(.int (2 : Int32))])) _
            refine XS.istore X538.here hx rfl (hb hby at_189) rfl (l' := #[.val (.int p0), .val (.int p1), .val (.int p2), .val (.int p3), .val (.int p4), .val (.ref b274), .val (.int (2 : Int32)), .val (.int v1), .val (.ref b458), .val (.ref b487), .val (.int (Int32.ofNat r4)), .val (.int (2 : Int32))]) rfl ?_
            show Steps p.tables e below (T538.setTop (mkF m 191 #[.val (.int p0), .val (.int p1), .val (.int p2), .val (.int p3), .val (.int p4), .val (.ref b274), .val (.int (2 : Int32)), .val (.int v1), .val (.ref b458), .val (.ref b487), .val (.int (Int32.ofNat r4)), .val (.int (2 : Int32))] [])) _
            refine XS.goto X538.here hx rfl (pc0 := 191) (pc' := 216) rfl (hb hby at_191) (by decide) (by decide) ?_
            show Steps p.tables e below (T538.setTop (mkF m 216 #[.val (.int p0), .val (.int p1), .val (.int p2), .val (.int p3), .val (.int p4), .val (.ref b274), .val (.int (2 : Int32)), .val (.int v1), .val (.ref b458), .val (.ref b487), .val (.int (Int32.ofNat r4)), .val (.int (2 : Int32))] [])) _
            exact kt
          rw [if_pos hc537] at hv2
          rw [if_neg hc541] at hv2
          subst hv2
          exact ⟨_, _, X538, N539, (by rw [e538]; exact Z509), (by rw [e538]; exact Y510), (by rw [e538]; exact E505), (by rw [e538]; exact V506), (by rw [e538]; exact E507), (by rw [e538]; exact Vu504), (by rw [e538]; exact E504_0), (by rw [e538]; exact Fu504), (by rw [e538]; exact Fb504), (by rw [e538]; exact Vb504), pre548⟩
      · skip
        have pre549 : ∀ t, Steps p.tables e below (T516.setTop (mkF m 216 #[.val (.int p0), .val (.int p1), .val (.int p2), .val (.int p3), .val (.int p4), .val (.ref b274), .val (.int (2 : Int32)), .val (.int v1), .val (.ref b458), .val (.ref b487), .val (.int (Int32.ofNat r4)), .val (.int (3 : Int32))] [])) t → Steps p.tables e below (s₁.setTop (entryFrame m #[(.int p0), (.int p1), (.int p2), (.int p3), (.int p4)] maxLocals)) t := fun t kt => by
          refine pre518 _ ?_
          show Steps p.tables e below (T516.setTop (mkF m 166 #[.val (.int p0), .val (.int p1), .val (.int p2), .val (.int p3), .val (.int p4), .val (.ref b274), .val (.int (2 : Int32)), .val (.int v1), .val (.ref b458), .val (.ref b487), .val (.int (Int32.ofNat r4)), .unset] [(.int (if (u 2) = v1 then (1 : Int32) else (0 : Int32)))])) _
          refine XS.ifNo X516.here hx rfl (hb hby at_166) rfl ((if0 _ _).trans (feq hc537).1) ?_
          show Steps p.tables e below (T516.setTop (mkF m 169 #[.val (.int p0), .val (.int p1), .val (.int p2), .val (.int p3), .val (.int p4), .val (.ref b274), .val (.int (2 : Int32)), .val (.int v1), .val (.ref b458), .val (.ref b487), .val (.int (Int32.ofNat r4)), .unset] [])) _
          refine XS.iconst X516.here hx rfl (hb hby at_169) ?_
          show Steps p.tables e below (T516.setTop (mkF m 170 #[.val (.int p0), .val (.int p1), .val (.int p2), .val (.int p3), .val (.int p4), .val (.ref b274), .val (.int (2 : Int32)), .val (.int v1), .val (.ref b458), .val (.ref b487), .val (.int (Int32.ofNat r4)), .unset] [(.int (3 : Int32))])) _
          refine XS.istore X516.here hx rfl (hb hby at_170) rfl (l' := #[.val (.int p0), .val (.int p1), .val (.int p2), .val (.int p3), .val (.int p4), .val (.ref b274), .val (.int (2 : Int32)), .val (.int v1), .val (.ref b458), .val (.ref b487), .val (.int (Int32.ofNat r4)), .val (.int (3 : Int32))]) rfl ?_
          show Steps p.tables e below (T516.setTop (mkF m 172 #[.val (.int p0), .val (.int p1), .val (.int p2), .val (.int p3), .val (.int p4), .val (.ref b274), .val (.int (2 : Int32)), .val (.int v1), .val (.ref b458), .val (.ref b487), .val (.int (Int32.ofNat r4)), .val (.int (3 : Int32))] [])) _
          refine XS.goto X516.here hx rfl (pc0 := 172) (pc' := 216) rfl (hb hby at_172) (by decide) (by decide) ?_
          show Steps p.tables e below (T516.setTop (mkF m 216 #[.val (.int p0), .val (.int p1), .val (.int p2), .val (.int p3), .val (.int p4), .val (.ref b274), .val (.int (2 : Int32)), .val (.int v1), .val (.ref b458), .val (.ref b487), .val (.int (Int32.ofNat r4)), .val (.int (3 : Int32))] [])) _
          exact kt
        rw [if_neg hc537] at hv2
        subst hv2
        exact ⟨_, _, X516, N517, (by rw [e516]; exact Z509), (by rw [e516]; exact Y510), (by rw [e516]; exact E505), (by rw [e516]; exact V506), (by rw [e516]; exact E507), (by rw [e516]; exact Vu504), (by rw [e516]; exact E504_0), (by rw [e516]; exact Fu504), (by rw [e516]; exact Fb504), (by rw [e516]; exact Vb504), pre549⟩
    have pre550 : ∀ t, Steps p.tables e below (T528.setTop (mkF m 220 #[.val (.int p0), .val (.int p1), .val (.int p2), .val (.int p3), .val (.int p4), .val (.ref b274), .val (.int (2 : Int32)), .val (.int v1), .val (.ref b458), .val (.ref b487), .val (.int (Int32.ofNat r4)), .val (.int v2)] [(.int v2), (.int (Int32.ofNat r4))])) t → Steps p.tables e below (s₁.setTop (entryFrame m #[(.int p0), (.int p1), (.int p2), (.int p3), (.int p4)] maxLocals)) t := fun t kt => by
      refine pre528 _ ?_
      show Steps p.tables e below (T528.setTop (mkF m 216 #[.val (.int p0), .val (.int p1), .val (.int p2), .val (.int p3), .val (.int p4), .val (.ref b274), .val (.int (2 : Int32)), .val (.int v1), .val (.ref b458), .val (.ref b487), .val (.int (Int32.ofNat r4)), .val (.int v2)] [])) _
      refine XS.iload X528.here hx rfl (hb hby at_216) rfl ?_
      show Steps p.tables e below (T528.setTop (mkF m 218 #[.val (.int p0), .val (.int p1), .val (.int p2), .val (.int p3), .val (.int p4), .val (.ref b274), .val (.int (2 : Int32)), .val (.int v1), .val (.ref b458), .val (.ref b487), .val (.int (Int32.ofNat r4)), .val (.int v2)] [(.int (Int32.ofNat r4))])) _
      refine XS.iload X528.here hx rfl (hb hby at_218) rfl ?_
      show Steps p.tables e below (T528.setTop (mkF m 220 #[.val (.int p0), .val (.int p1), .val (.int p2), .val (.int p3), .val (.int p4), .val (.ref b274), .val (.int (2 : Int32)), .val (.int v1), .val (.ref b458), .val (.ref b487), .val (.int (Int32.ofNat r4)), .val (.int v2)] [(.int v2), (.int (Int32.ofNat r4))])) _
      exact kt
    obtain ⟨v3, hv3⟩ : ∃ z : Int32, z = (if (Int32.ofNat r4) = v2 then (1 : Int32) else (0 : Int32)) := ⟨_, rfl⟩
    have pre552 : ∀ t, Steps p.tables e below (T528.setTop (mkF m 228 #[.val (.int p0), .val (.int p1), .val (.int p2), .val (.int p3), .val (.int p4), .val (.ref b274), .val (.int (2 : Int32)), .val (.int v1), .val (.ref b458), .val (.ref b487), .val (.int (Int32.ofNat r4)), .val (.int v2)] [(.int v3)])) t → Steps p.tables e below (s₁.setTop (entryFrame m #[(.int p0), (.int p1), (.int p2), (.int p3), (.int p4)] maxLocals)) t := fun t kt => by
      refine pre550 _ ?_
      show Steps p.tables e below (T528.setTop (mkF m 220 #[.val (.int p0), .val (.int p1), .val (.int p2), .val (.int p3), .val (.int p4), .val (.ref b274), .val (.int (2 : Int32)), .val (.int v1), .val (.ref b458), .val (.ref b487), .val (.int (Int32.ofNat r4)), .val (.int v2)] [(.int v2), (.int (Int32.ofNat r4))])) _
      by_cases hc551 : (Int32.ofNat r4) = v2
      · rw [if_pos hc551] at hv3
        refine XS.icmpNo X528.here hx rfl (hb hby at_220) rfl (teq hc551).2 ?_
        show Steps p.tables e below (T528.setTop (mkF m 223 #[.val (.int p0), .val (.int p1), .val (.int p2), .val (.int p3), .val (.int p4), .val (.ref b274), .val (.int (2 : Int32)), .val (.int v1), .val (.ref b458), .val (.ref b487), .val (.int (Int32.ofNat r4)), .val (.int v2)] [])) _
        refine XS.iconst X528.here hx rfl (hb hby at_223) ?_
        show Steps p.tables e below (T528.setTop (mkF m 224 #[.val (.int p0), .val (.int p1), .val (.int p2), .val (.int p3), .val (.int p4), .val (.ref b274), .val (.int (2 : Int32)), .val (.int v1), .val (.ref b458), .val (.ref b487), .val (.int (Int32.ofNat r4)), .val (.int v2)] [(.int (1 : Int32))])) _
        refine XS.goto X528.here hx rfl (pc0 := 224) (pc' := 228) rfl (hb hby at_224) (by decide) (by decide) ?_
        subst hv3
        exact kt
      · rw [if_neg hc551] at hv3
        refine XS.icmpYes X528.here hx rfl (pc0 := 220) (pc' := 227) rfl (hb hby at_220) rfl (feq hc551).2 (by decide) (by decide) ?_
        show Steps p.tables e below (T528.setTop (mkF m 227 #[.val (.int p0), .val (.int p1), .val (.int p2), .val (.int p3), .val (.int p4), .val (.ref b274), .val (.int (2 : Int32)), .val (.int v1), .val (.ref b458), .val (.ref b487), .val (.int (Int32.ofNat r4)), .val (.int v2)] [])) _
        refine XS.iconst X528.here hx rfl (hb hby at_227) ?_
        subst hv3
        exact kt
    have hfin : v3 = 1 := (own_plain2 p0 p1 p2 p3 p4 u r1 r2 r3 r4 v1 hv1 v2 hv2 v3 hv3 hr1 hr2 hr3 br1 br2 br3 hr4 br4)
    obtain ⟨fs, hr, hrun, hended, hEW⟩ := X528.leaveW hS493 Y528 (v := some (.int (v3 &&& 1))) (fun h => by rw [Bd.returns] at h; cases h)
    refine ⟨_, _, pre552 _ ?_, hrun, hended, _, _, rfl, ?_, hEW.1, hEW.2.1, hEW.2.2.1, hEW.2.2.2.mono (by decide) (by decide)⟩
    · exact retN X528 hx (t := .boolean) Bd.returns (by simp) (hb hby at_228) hr
    · exact ⟨by rw [hfin]; rfl, N528⟩
  · skip
    have pre553 : ∀ t, Steps p.tables e below (T288.setTop (mkF m 76 #[.val (.int p0), .val (.int p1), .val (.int p2), .val (.int p3), .val (.int p4), .val (.ref b274), .val (.int (3 : Int32)), .val (.int v1), .unset, .unset, .unset, .unset] [])) t → Steps p.tables e below (s₁.setTop (entryFrame m #[(.int p0), (.int p1), (.int p2), (.int p3), (.int p4)] maxLocals)) t := fun t kt => pre296 t (by rw [hk]; exact kt)
    obtain ⟨T554, h554, k554, X554, e554, E554, A554, EE554, st554⟩ := newPE X288 hx hZ (hw _ (List.mem_of_getElem? (i := 0) rfl)) e288 (g := (mkF m 77 #[.val (.int p0), .val (.int p1), .val (.int p2), .val (.int p3), .val (.int p4), .val (.ref b274), .val (.int (3 : Int32)), .val (.int v1), .unset, .unset, .unset, .unset] [(.int (4 : Int32))])) rfl (hb hby at_77) rfl (by decide) (cap := 4) (by decide) (by decide) (by decide) (by decide) (ad := "[I") (by decide)
    obtain ⟨b554, g554⟩ : ∃ z, z = h288.size := ⟨_, rfl⟩
    rw [← g554] at A554 EE554 st554
    have ne_b274_b554 : b274 ≠ b554 := Nat.ne_of_lt (Nat.lt_of_lt_of_le E289.lt (Nat.le_of_eq g554.symm))
    have g_b554 : n0 ≤ b554 := Nat.le_trans Z291 (Nat.le_of_eq g554.symm)
    have E555 := E289.ext E554
    have V556 := V292.ext E554
    have Z557 : n0 ≤ h554.size := Nat.le_trans Z291 E554.1
    have V554 : own_Ar Z h554 b554 .int 4 (fun _ => (0 : Int32)) := own_Ar.of (Arv.new A554 (by decide)) (by decide) (fun i hi => rfl)
    obtain ⟨T558, h558, X558, e558, W558, V558, st558⟩ := own_stI X554 hx hZ e554 V554 (j := (0 : Int32)) (i := 0) (by decide) (by decide) (g := (mkF m 88 #[.val (.int p0), .val (.int p1), .val (.int p2), .val (.int p3), .val (.int p4), .val (.ref b274), .val (.int (3 : Int32)), .val (.int v1), .val (.ref b554), .unset, .unset, .unset] [(.int (u 0)), (.int (0 : Int32)), (.ref b554)])) rfl rfl (hb hby at_88)
    have E559 := E555.wr W558
    have V560 := V556.other W558 ne_b274_b554
    have E561 := EE554.wr W558
    have N562 := Fr.snoc X558 N290 g_b554
    have Z563 : n0 ≤ h558.size := Nat.le_trans Z557 (Keep.of_wr W558).1
    obtain ⟨T564, h564, X564, e564, W564, V564, st564⟩ := own_stI X558 hx hZ e558 V558 (j := (1 : Int32)) (i := 1) (by decide) (by decide) (g := (mkF m 96 #[.val (.int p0), .val (.int p1), .val (.int p2), .val (.int p3), .val (.int p4), .val (.ref b274), .val (.int (3 : Int32)), .val (.int v1), .val (.ref b554), .unset, .unset, .unset] [(.int (u 1)), (.int (1 : Int32)), (.ref b554)])) rfl rfl (hb hby at_96)
    have E565 := E559.wr W564
    have V566 := V560.other W564 ne_b274_b554
    have E567 := E561.wr W564
    have N568 := Fr.snoc X564 N562 g_b554
    have Z569 : n0 ≤ h564.size := Nat.le_trans Z563 (Keep.of_wr W564).1
    obtain ⟨T570, h570, X570, e570, W570, V570, st570⟩ := own_stI X564 hx hZ e564 V564 (j := (2 : Int32)) (i := 2) (by decide) (by decide) (g := (mkF m 104 #[.val (.int p0), .val (.int p1), .val (.int p2), .val (.int p3), .val (.int p4), .val (.ref b274), .val (.int (3 : Int32)), .val (.int v1), .val (.ref b554), .unset, .unset, .unset] [(.int (u 2)), (.int (2 : Int32)), (.ref b554)])) rfl rfl (hb hby at_104)
    have E571 := E565.wr W570
    have V572 := V566.other W570 ne_b274_b554
    have E573 := E567.wr W570
    have N574 := Fr.snoc X570 N568 g_b554
    have Z575 : n0 ≤ h570.size := Nat.le_trans Z569 (Keep.of_wr W570).1
    obtain ⟨T576, h576, X576, e576, W576, V576, st576⟩ := own_stI X570 hx hZ e570 V570 (j := (3 : Int32)) (i := 3) (by decide) (by decide) (g := (mkF m 112 #[.val (.int p0), .val (.int p1), .val (.int p2), .val (.int p3), .val (.int p4), .val (.ref b274), .val (.int (3 : Int32)), .val (.int v1), .val (.ref b554), .unset, .unset, .unset] [(.int (u 3)), (.int (3 : Int32)), (.ref b554)])) rfl rfl (hb hby at_112)
    have E577 := E571.wr W576
    have V578 := V572.other W576 ne_b274_b554
    have E579 := E573.wr W576
    have N580 := Fr.snoc X576 N574 g_b554
    have Z581 : n0 ≤ h576.size := Nat.le_trans Z575 (Keep.of_wr W576).1
    have V582 : own_Ar Z h576 b554 .int 4 u := V576.mono (own_c4 u)
    obtain ⟨T583, h583, X583, e583, E583, A583, D583, -, st583⟩ := newO X576 hx hZ hown (hw _ (List.mem_of_getElem? (i := 2) rfl)) (hw _ (List.mem_of_getElem? (i := 3) rfl)) (hw _ (List.mem_of_getElem? (i := 4) rfl)) e576 (g := (mkF m 113 #[.val (.int p0), .val (.int p1), .val (.int p2), .val (.int p3), .val (.int p4), .val (.ref b274), .val (.int (3 : Int32)), .val (.int v1), .val (.ref b554), .unset, .unset, .unset] [])) rfl (hb hby at_113) (by decide) (by decide)
    obtain ⟨b583, g583⟩ : ∃ z, z = h576.size := ⟨_, rfl⟩
    rw [← g583] at A583 D583 st583
    have ne_b274_b583 : b274 ≠ b583 := Nat.ne_of_lt (Nat.lt_of_lt_of_le E577.lt (Nat.le_of_eq g583.symm))
    have ne_b554_b583 : b554 ≠ b583 := Nat.ne_of_lt (Nat.lt_of_lt_of_le E579.lt (Nat.le_of_eq g583.symm))
    have g_b583 : n0 ≤ b583 := Nat.le_trans Z581 (Nat.le_of_eq g583.symm)
    have E584 := E577.ext E583
    have V585 := V578.ext E583
    have E586 := E579.ext E583
    have V587 := V582.ext E583
    have Z588 : n0 ≤ h583.size := Nat.le_trans Z581 E583.1
    have F583_text : Fld Z h583 b583 "com/example/xcu/xcu/UnitString$Part" "text" "Ljava/lang/String;" .null := D583 (Or.inr (hw _ (List.mem_of_getElem? (i := 20) rfl))) (ty := (.object "java/lang/String")) (by decide)
    have F583_units : Fld Z h583 b583 "com/example/xcu/xcu/UnitString$Part" "units" "[I" .null := D583 (Or.inr (hw _ (List.mem_of_getElem? (i := 22) rfl))) (ty := (.array .int)) (by decide)
    have F583_borders : Fld Z h583 b583 "com/example/xcu/xcu/UnitString$Part" "borders" "[I" .null := D583 (Or.inr (hw _ (List.mem_of_getElem? (i := 24) rfl))) (ty := (.array .int)) (by decide)
    have pre590 : ∀ t, Steps p.tables e below (T583.setTop (mkF m 117 #[.val (.int p0), .val (.int p1), .val (.int p2), .val (.int p3), .val (.int p4), .val (.ref b274), .val (.int (3 : Int32)), .val (.int v1), .val (.ref b554), .unset, .unset, .unset] [(.ref b583), (.ref b583)])) t → Steps p.tables e below (s₁.setTop (entryFrame m #[(.int p0), (.int p1), (.int p2), (.int p3), (.int p4)] maxLocals)) t := fun t kt => by
      refine pre553 _ ?_
      show Steps p.tables e below (T288.setTop (mkF m 76 #[.val (.int p0), .val (.int p1), .val (.int p2), .val (.int p3), .val (.int p4), .val (.ref b274), .val (.int (3 : Int32)), .val (.int v1), .unset, .unset, .unset, .unset] [])) _
      refine XS.iconst X288.here hx rfl (hb hby at_76) ?_
      show Steps p.tables e below (T288.setTop (mkF m 77 #[.val (.int p0), .val (.int p1), .val (.int p2), .val (.int p3), .val (.int p4), .val (.ref b274), .val (.int (3 : Int32)), .val (.int v1), .unset, .unset, .unset, .unset] [(.int (4 : Int32))])) _
      refine st554 _ ?_
      show Steps p.tables e below (T554.setTop (mkF m 79 #[.val (.int p0), .val (.int p1), .val (.int p2), .val (.int p3), .val (.int p4), .val (.ref b274), .val (.int (3 : Int32)), .val (.int v1), .unset, .unset, .unset, .unset] [(.ref b554)])) _
      refine XS.astore X554.here hx rfl (hb hby at_79) rfl rfl (l' := #[.val (.int p0), .val (.int p1), .val (.int p2), .val (.int p3), .val (.int p4), .val (.ref b274), .val (.int (3 : Int32)), .val (.int v1), .val (.ref b554), .unset, .unset, .unset]) rfl ?_
      show Steps p.tables e below (T554.setTop (mkF m 81 #[.val (.int p0), .val (.int p1), .val (.int p2), .val (.int p3), .val (.int p4), .val (.ref b274), .val (.int (3 : Int32)), .val (.int v1), .val (.ref b554), .unset, .unset, .unset] [])) _
      refine XS.aload X554.here hx rfl (hb hby at_81) rfl rfl ?_
      show Steps p.tables e below (T554.setTop (mkF m 83 #[.val (.int p0), .val (.int p1), .val (.int p2), .val (.int p3), .val (.int p4), .val (.ref b274), .val (.int (3 : Int32)), .val (.int v1), .val (.ref b554), .unset, .unset, .unset] [(.ref b554)])) _
      refine XS.iconst X554.here hx rfl (hb hby at_83) ?_
      show Steps p.tables e below (T554.setTop (mkF m 84 #[.val (.int p0), .val (.int p1), .val (.int p2), .val (.int p3), .val (.int p4), .val (.ref b274), .val (.int (3 : Int32)), .val (.int v1), .val (.ref b554), .unset, .unset, .unset] [(.int (0 : Int32)), (.ref b554)])) _
      refine XS.aload X554.here hx rfl (hb hby at_84) rfl rfl ?_
      show Steps p.tables e below (T554.setTop (mkF m 86 #[.val (.int p0), .val (.int p1), .val (.int p2), .val (.int p3), .val (.int p4), .val (.ref b274), .val (.int (3 : Int32)), .val (.int v1), .val (.ref b554), .unset, .unset, .unset] [(.ref b274), (.int (0 : Int32)), (.ref b554)])) _
      refine XS.iconst X554.here hx rfl (hb hby at_86) ?_
      show Steps p.tables e below (T554.setTop (mkF m 87 #[.val (.int p0), .val (.int p1), .val (.int p2), .val (.int p3), .val (.int p4), .val (.ref b274), .val (.int (3 : Int32)), .val (.int v1), .val (.ref b554), .unset, .unset, .unset] [(.int (0 : Int32)), (.ref b274), (.int (0 : Int32)), (.ref b554)])) _
      refine own_rdI X554 hx hZ e554 V556 (j := (0 : Int32)) (i := 0) (by decide) (by decide) (g := (mkF m 87 #[.val (.int p0), .val (.int p1), .val (.int p2), .val (.int p3), .val (.int p4), .val (.ref b274), .val (.int (3 : Int32)), .val (.int v1), .val (.ref b554), .unset, .unset, .unset] [(.int (0 : Int32)), (.ref b274), (.int (0 : Int32)), (.ref b554)])) rfl rfl (hb hby at_87) _ ?_
      show Steps p.tables e below (T554.setTop (mkF m 88 #[.val (.int p0), .val (.int p1), .val (.int p2), .val (.int p3), .val (.int p4), .val (.ref b274), .val (.int (3 : Int32)), .val (.int v1), .val (.ref b554), .unset, .unset, .unset] [(.int (u 0)), (.int (0 : Int32)), (.ref b554)])) _
      refine st558 _ ?_
      show Steps p.tables e below (T558.setTop (mkF m 89 #[.val (.int p0), .val (.int p1), .val (.int p2), .val (.int p3), .val (.int p4), .val (.ref b274), .val (.int (3 : Int32)), .val (.int v1), .val (.ref b554), .unset, .unset, .unset] [])) _
      refine XS.aload X558.here hx rfl (hb hby at_89) rfl rfl ?_
      show Steps p.tables e below (T558.setTop (mkF m 91 #[.val (.int p0), .val (.int p1), .val (.int p2), .val (.int p3), .val (.int p4), .val (.ref b274), .val (.int (3 : Int32)), .val (.int v1), .val (.ref b554), .unset, .unset, .unset] [(.ref b554)])) _
      refine XS.iconst X558.here hx rfl (hb hby at_91) ?_
      show Steps p.tables e below (T558.setTop (mkF m 92 #[.val (.int p0), .val (.int p1), .val (.int p2), .val (.int p3), .val (.int p4), .val (.ref b274), .val (.int (3 : Int32)), .val (.int v1), .val (.ref b554), .unset, .unset, .unset] [(.int (1 : Int32)), (.ref b554)])) _
      refine XS.aload X558.here hx rfl (hb hby at_92) rfl rfl ?_
      show Steps p.tables e below (T558.setTop (mkF m 94 #[.val (.int p0), .val (.int p1), .val (.int p2), .val (.int p3), .val (.int p4), .val (.ref b274), .val (.int (3 : Int32)), .val (.int v1), .val (.ref b554), .unset, .unset, .unset] [(.ref b274), (.int (1 : Int32)), (.ref b554)])) _
      refine XS.iconst X558.here hx rfl (hb hby at_94) ?_
      show Steps p.tables e below (T558.setTop (mkF m 95 #[.val (.int p0), .val (.int p1), .val (.int p2), .val (.int p3), .val (.int p4), .val (.ref b274), .val (.int (3 : Int32)), .val (.int v1), .val (.ref b554), .unset, .unset, .unset] [(.int (1 : Int32)), (.ref b274), (.int (1 : Int32)), (.ref b554)])) _
      refine own_rdI X558 hx hZ e558 V560 (j := (1 : Int32)) (i := 1) (by decide) (by decide) (g := (mkF m 95 #[.val (.int p0), .val (.int p1), .val (.int p2), .val (.int p3), .val (.int p4), .val (.ref b274), .val (.int (3 : Int32)), .val (.int v1), .val (.ref b554), .unset, .unset, .unset] [(.int (1 : Int32)), (.ref b274), (.int (1 : Int32)), (.ref b554)])) rfl rfl (hb hby at_95) _ ?_
      show Steps p.tables e below (T558.setTop (mkF m 96 #[.val (.int p0), .val (.int p1), .val (.int p2), .val (.int p3), .val (.int p4), .val (.ref b274), .val (.int (3 : Int32)), .val (.int v1), .val (.ref b554), .unset, .unset, .unset] [(.int (u 1)), (.int (1 : Int32)), (.ref b554)])) _
      refine st564 _ ?_
      show Steps p.tables e below (T564.setTop (mkF m 97 #[.val (.int p0), .val (.int p1), .val (.int p2), .val (.int p3), .val (.int p4), .val (.ref b274), .val (.int (3 : Int32)), .val (.int v1), .val (.ref b554), .unset, .unset, .unset] [])) _
      refine XS.aload X564.here hx rfl (hb hby at_97) rfl rfl ?_
      show Steps p.tables e below (T564.setTop (mkF m 99 #[.val (.int p0), .val (.int p1), .val (.int p2), .val (.int p3), .val (.int p4), .val (.ref b274), .val (.int (3 : Int32)), .val (.int v1), .val (.ref b554), .unset, .unset, .unset] [(.ref b554)])) _
      refine XS.iconst X564.here hx rfl (hb hby at_99) ?_
      show Steps p.tables e below (T564.setTop (mkF m 100 #[.val (.int p0), .val (.int p1), .val (.int p2), .val (.int p3), .val (.int p4), .val (.ref b274), .val (.int (3 : Int32)), .val (.int v1), .val (.ref b554), .unset, .unset, .unset] [(.int (2 : Int32)), (.ref b554)])) _
      refine XS.aload X564.here hx rfl (hb hby at_100) rfl rfl ?_
      show Steps p.tables e below (T564.setTop (mkF m 102 #[.val (.int p0), .val (.int p1), .val (.int p2), .val (.int p3), .val (.int p4), .val (.ref b274), .val (.int (3 : Int32)), .val (.int v1), .val (.ref b554), .unset, .unset, .unset] [(.ref b274), (.int (2 : Int32)), (.ref b554)])) _
      refine XS.iconst X564.here hx rfl (hb hby at_102) ?_
      show Steps p.tables e below (T564.setTop (mkF m 103 #[.val (.int p0), .val (.int p1), .val (.int p2), .val (.int p3), .val (.int p4), .val (.ref b274), .val (.int (3 : Int32)), .val (.int v1), .val (.ref b554), .unset, .unset, .unset] [(.int (2 : Int32)), (.ref b274), (.int (2 : Int32)), (.ref b554)])) _
      refine own_rdI X564 hx hZ e564 V566 (j := (2 : Int32)) (i := 2) (by decide) (by decide) (g := (mkF m 103 #[.val (.int p0), .val (.int p1), .val (.int p2), .val (.int p3), .val (.int p4), .val (.ref b274), .val (.int (3 : Int32)), .val (.int v1), .val (.ref b554), .unset, .unset, .unset] [(.int (2 : Int32)), (.ref b274), (.int (2 : Int32)), (.ref b554)])) rfl rfl (hb hby at_103) _ ?_
      show Steps p.tables e below (T564.setTop (mkF m 104 #[.val (.int p0), .val (.int p1), .val (.int p2), .val (.int p3), .val (.int p4), .val (.ref b274), .val (.int (3 : Int32)), .val (.int v1), .val (.ref b554), .unset, .unset, .unset] [(.int (u 2)), (.int (2 : Int32)), (.ref b554)])) _
      refine st570 _ ?_
      show Steps p.tables e below (T570.setTop (mkF m 105 #[.val (.int p0), .val (.int p1), .val (.int p2), .val (.int p3), .val (.int p4), .val (.ref b274), .val (.int (3 : Int32)), .val (.int v1), .val (.ref b554), .unset, .unset, .unset] [])) _
      refine XS.aload X570.here hx rfl (hb hby at_105) rfl rfl ?_
      show Steps p.tables e below (T570.setTop (mkF m 107 #[.val (.int p0), .val (.int p1), .val (.int p2), .val (.int p3), .val (.int p4), .val (.ref b274), .val (.int (3 : Int32)), .val (.int v1), .val (.ref b554), .unset, .unset, .unset] [(.ref b554)])) _
      refine XS.iconst X570.here hx rfl (hb hby at_107) ?_
      show Steps p.tables e below (T570.setTop (mkF m 108 #[.val (.int p0), .val (.int p1), .val (.int p2), .val (.int p3), .val (.int p4), .val (.ref b274), .val (.int (3 : Int32)), .val (.int v1), .val (.ref b554), .unset, .unset, .unset] [(.int (3 : Int32)), (.ref b554)])) _
      refine XS.aload X570.here hx rfl (hb hby at_108) rfl rfl ?_
      show Steps p.tables e below (T570.setTop (mkF m 110 #[.val (.int p0), .val (.int p1), .val (.int p2), .val (.int p3), .val (.int p4), .val (.ref b274), .val (.int (3 : Int32)), .val (.int v1), .val (.ref b554), .unset, .unset, .unset] [(.ref b274), (.int (3 : Int32)), (.ref b554)])) _
      refine XS.iconst X570.here hx rfl (hb hby at_110) ?_
      show Steps p.tables e below (T570.setTop (mkF m 111 #[.val (.int p0), .val (.int p1), .val (.int p2), .val (.int p3), .val (.int p4), .val (.ref b274), .val (.int (3 : Int32)), .val (.int v1), .val (.ref b554), .unset, .unset, .unset] [(.int (3 : Int32)), (.ref b274), (.int (3 : Int32)), (.ref b554)])) _
      refine own_rdI X570 hx hZ e570 V572 (j := (3 : Int32)) (i := 3) (by decide) (by decide) (g := (mkF m 111 #[.val (.int p0), .val (.int p1), .val (.int p2), .val (.int p3), .val (.int p4), .val (.ref b274), .val (.int (3 : Int32)), .val (.int v1), .val (.ref b554), .unset, .unset, .unset] [(.int (3 : Int32)), (.ref b274), (.int (3 : Int32)), (.ref b554)])) rfl rfl (hb hby at_111) _ ?_
      show Steps p.tables e below (T570.setTop (mkF m 112 #[.val (.int p0), .val (.int p1), .val (.int p2), .val (.int p3), .val (.int p4), .val (.ref b274), .val (.int (3 : Int32)), .val (.int v1), .val (.ref b554), .unset, .unset, .unset] [(.int (u 3)), (.int (3 : Int32)), (.ref b554)])) _
      refine st576 _ ?_
      show Steps p.tables e below (T576.setTop (mkF m 113 #[.val (.int p0), .val (.int p1), .val (.int p2), .val (.int p3), .val (.int p4), .val (.ref b274), .val (.int (3 : Int32)), .val (.int v1), .val (.ref b554), .unset, .unset, .unset] [])) _
      refine st583 _ ?_
      show Steps p.tables e below (T583.setTop (mkF m 116 #[.val (.int p0), .val (.int p1), .val (.int p2), .val (.int p3), .val (.int p4), .val (.ref b274), .val (.int (3 : Int32)), .val (.int v1), .val (.ref b554), .unset, .unset, .unset] [(.ref b583)])) _
      refine XS.dup X583.here hx rfl (hb hby at_116) rfl rfl ?_
      show Steps p.tables e below (T583.setTop (mkF m 117 #[.val (.int p0), .val (.int p1), .val (.int p2), .val (.int p3), .val (.int p4), .val (.ref b274), .val (.int (3 : Int32)), .val (.int v1), .val (.ref b554), .unset, .unset, .unset] [(.ref b583), (.ref b583)])) _
      exact kt
    obtain ⟨aS589, T589, h589, k589, X589, e589, E589, hS589, hk589, hZ, hown, st589⟩ := ldcS (s := s) (vm0 := s.vm) X583 hx hZ hown (hw _ (List.mem_of_getElem? (i := 5) rfl)) (own_ws hw) e583 ((State.WarmedH.refl s).since 0) (Nat.zero_le _) (g := (mkF m 117 #[.val (.int p0), .val (.int p1), .val (.int p2), .val (.int p3), .val (.int p4), .val (.ref b274), .val (.int (3 : Int32)), .val (.int v1), .val (.ref b554), .unset, .unset, .unset] [(.ref b583), (.ref b583)])) rfl (hb hby at_117) (n := 4) (by decide) (by decide) (by decide) (by decide)
    have E591 := E584.ext E589
    have V592 := V585.ext E589
    have E593 := E586.ext E589
    have V594 := V587.ext E589
    have E595 := A583.ext E589
    have F596 := F583_text.ext E589
    have F597 := F583_units.ext E589
    have F598 := F583_borders.ext E589
    have Z599 : n0 ≤ h589.size := Nat.le_trans Z588 E589.1
    obtain ⟨_, _, ⟨T600, L600, k600, n600⟩, -, X600, ⟨Lc600, hQ600, l600, y600, z600⟩, st600⟩ := X589.specialBack hx (y := (⟨"com/example/xcu/xcu/UnitString$Part", "<init>", "(Ljava/lang/String;[I)V"⟩ : MethodName)) rfl hown (mvT hZ (hw _ (List.mem_of_getElem? (i := 13) rfl))) (mvT hZ (hw _ (List.mem_of_getElem? (i := 14) rfl))) (mvT hZ (hw _ (List.mem_of_getElem? (i := 15) rfl))) (by decide) (backOf (W := 1) (rm1 l Z aq hw [] b583 aS589 b554 u h589 n0 Z599 E595 F596 F597 F598 V594 g_b583 ne_b554_b583) hZ (hw _ (List.mem_of_getElem? (i := 15) rfl)) (hw _ (List.mem_of_getElem? (i := 4) rfl)) (by decide) (by decide)) (g := (mkF m 121 #[.val (.int p0), .val (.int p1), .val (.int p2), .val (.int p3), .val (.int p4), .val (.ref b274), .val (.int (3 : Int32)), .val (.int v1), .val (.ref b554), .unset, .unset, .unset] [(.ref b554), (.ref aS589), (.ref b583), (.ref b583)])) rfl (by rw [hml]; rfl) (Steps.refl _) (a := b583) (argsL := [(.ref aS589), (.ref b554)]) (rest := [(.ref b583)]) (lenOf pd20273392 rfl) rfl (by show 2 * 0 + _ ≤ _; exact Nat.le_of_eq rfl) (hb hby at_121) (fun _ _ => ⟨rfl, e589, (by decide : 5 + 1 ≤ _), (by decide : 19 + 4 ≤ _)⟩)
    dsimp only [Pt.U, Pt.locs, Pt.cells, Pt.slots] at X600 l600 y600 z600 st600 hQ600
    subst l600 y600 z600
    obtain ⟨ab600, r1, r2, r3, hr1, hr2, hr3, br1, br2, br3, rfl, N600q, K600, E600_0, Fu600, Fb600, Vu600, Vb600⟩ := hQ600
    have E601 := E591.keep K600
    have V602 := V592.keep K600 (ninS ne_b274_b583 nin0)
    have E603 := E593.keep K600
    have V604 := V594.keep K600 (ninS ne_b554_b583 nin0)
    have Z605 : n0 ≤ T600.heap.size := Nat.le_trans Z599 K600.1
    have Y606 : k589 ≤ T600.heap.size := Nat.le_trans hk589 K600.1
    have N607 := Fr.app N580 N600q
    obtain ⟨cq608, kq608, q608a, q608b, q608c⟩ := isOf hZ rfl E600_0
    obtain ⟨_, _, ⟨T608, L608, k608, n608⟩, -, X608, ⟨Lc608, hQ608, l608, y608, z608⟩, st608⟩ := X600.virtualBack hx (y := (⟨"com/example/xcu/xcu/UnitString$Part", "extend", "(II)I"⟩ : MethodName)) (z := (⟨"com/example/xcu/xcu/UnitString$Part", "extend", "(II)I"⟩ : MethodName)) hown (mvT hZ (hw _ (List.mem_of_getElem? (i := 30) rfl))) (mvT hZ (hw _ (List.mem_of_getElem? (i := 26) rfl))) (notFace_of_selects (args := #[]) (mvT hZ (hw _ (List.mem_of_getElem? (i := 28) rfl)))) (mvT hZ (hw _ (List.mem_of_getElem? (i := 28) rfl))) (mvT hZ (hw _ (List.mem_of_getElem? (i := 27) rfl))) (by decide) (backOf (W := 0) (rm3 l Z aq hw [] b583 v1 b554 ab600 u (own_up (own_up (own_up (fun _ => (0 : Int32)) 1 (Int32.ofNat r1)) 2 (Int32.ofNat r2)) 3 (Int32.ofNat r3)) 3 T600.heap n0 Z605 Fu600 Fb600 Vu600 Vb600 (by omega) (own_hb3 (by omega) (by omega) (by omega))) hZ (hw _ (List.mem_of_getElem? (i := 29) rfl)) (hw _ (List.mem_of_getElem? (i := 4) rfl)) (by decide) (by decide)) q608a q608c (g := (mkF m 132 #[.val (.int p0), .val (.int p1), .val (.int p2), .val (.int p3), .val (.int p4), .val (.ref b274), .val (.int (3 : Int32)), .val (.int v1), .val (.ref b554), .val (.ref b583), .unset, .unset] [(.int v1), (.int (3 : Int32)), (.ref b583)])) rfl (by rw [hml]; rfl) (Steps.refl _) (argsL := [(.int (3 : Int32)), (.int v1)]) (rest := []) (lenOf pd84293393 rfl) rfl (by show 2 * 0 + _ ≤ _; exact Nat.le_of_eq rfl) (hb hby at_132) (fun _ _ => ⟨rfl, rfl, (by decide : 6 + 0 ≤ _), (by decide : 23 + 0 ≤ _)⟩)
    dsimp only [Pt.U, Pt.locs, Pt.cells, Pt.slots] at X608 l608 y608 z608 st608 hQ608
    subst l608 y608 z608
    obtain ⟨r4, hr4, br4, rfl, N608q, e608⟩ := hQ608
    have N609 := Fr.app N607 N608q
    obtain ⟨_, _, ⟨T610, L610, k610, n610⟩, -, X610, ⟨Lc610, hQ610, l610, y610, z610⟩, st610⟩ := Jvm.LawKit.callS X608 hx (y := (⟨"com/example/xcu/xcu/UnitStringExtendPinLaw", "fits", "([IIII)Z"⟩ : MethodName)) hown (mvT hZ (hw _ (List.mem_of_getElem? (i := 31) rfl))) (mvT hZ (hw _ (List.mem_of_getElem? (i := 32) rfl))) (mvT hZ (hw _ (List.mem_of_getElem? (i := 33) rfl))) (mvT hZ (hw _ (List.mem_of_getElem? (i := 34) rfl))) (by decide) (backOf (W := 0) (rm4_3_4 l Z aq hw [] b274 v1 u T600.heap n0 Z605 V602) hZ (hw _ (List.mem_of_getElem? (i := 34) rfl)) (hw _ (List.mem_of_getElem? (i := 33) rfl)) (by decide) (by decide)) (g := (mkF m 144 #[.val (.int p0), .val (.int p1), .val (.int p2), .val (.int p3), .val (.int p4), .val (.ref b274), .val (.int (3 : Int32)), .val (.int v1), .val (.ref b554), .val (.ref b583), .val (.int (Int32.ofNat r4)), .unset] [(.int (4 : Int32)), (.int v1), (.int (3 : Int32)), (.ref b274)])) rfl (by rw [hml]; rfl) (argsL := [(.ref b274), (.int (3 : Int32)), (.int v1), (.int (4 : Int32))]) (rest := []) (lenOf pd21711183 rfl) rfl (by show 2 * 0 + _ ≤ _; exact Nat.le_of_eq rfl) (hb hby at_144) (fun _ _ => ⟨rfl, e608, (by decide : 6 + 0 ≤ _), (by decide : 23 + 0 ≤ _)⟩)
    dsimp only [Pt.U, Pt.locs, Pt.cells, Pt.slots] at X610 l610 y610 z610 st610 hQ610
    subst l610 y610 z610
    obtain ⟨rfl, N610q, e610⟩ := hQ610
    have N611 := Fr.app N609 N610q
    have pre612 : ∀ t, Steps p.tables e below (T610.setTop (mkF m 147 #[.val (.int p0), .val (.int p1), .val (.int p2), .val (.int p3), .val (.int p4), .val (.ref b274), .val (.int (3 : Int32)), .val (.int v1), .val (.ref b554), .val (.ref b583), .val (.int (Int32.ofNat r4)), .unset] [(.int (if (u 3) = v1 then (1 : Int32) else (0 : Int32)))])) t → Steps p.tables e below (s₁.setTop (entryFrame m #[(.int p0), (.int p1), (.int p2), (.int p3), (.int p4)] maxLocals)) t := fun t kt => by
      refine pre590 _ ?_
      show Steps p.tables e below (T583.setTop (mkF m 117 #[.val (.int p0), .val (.int p1), .val (.int p2), .val (.int p3), .val (.int p4), .val (.ref b274), .val (.int (3 : Int32)), .val (.int v1), .val (.ref b554), .unset, .unset, .unset] [(.ref b583), (.ref b583)])) _
      refine st589 _ ?_
      show Steps p.tables e below (T589.setTop (mkF m 119 #[.val (.int p0), .val (.int p1), .val (.int p2), .val (.int p3), .val (.int p4), .val (.ref b274), .val (.int (3 : Int32)), .val (.int v1), .val (.ref b554), .unset, .unset, .unset] [(.ref aS589), (.ref b583), (.ref b583)])) _
      refine XS.aload X589.here hx rfl (hb hby at_119) rfl rfl ?_
      show Steps p.tables e below (T589.setTop (mkF m 121 #[.val (.int p0), .val (.int p1), .val (.int p2), .val (.int p3), .val (.int p4), .val (.ref b274), .val (.int (3 : Int32)), .val (.int v1), .val (.ref b554), .unset, .unset, .unset] [(.ref b554), (.ref aS589), (.ref b583), (.ref b583)])) _
      refine st600.trans ?_
      show Steps p.tables e below (T600.setTop (mkF m 124 #[.val (.int p0), .val (.int p1), .val (.int p2), .val (.int p3), .val (.int p4), .val (.ref b274), .val (.int (3 : Int32)), .val (.int v1), .val (.ref b554), .unset, .unset, .unset] [(.ref b583)])) _
      refine XS.astore X600.here hx rfl (hb hby at_124) rfl rfl (l' := #[.val (.int p0), .val (.int p1), .val (.int p2), .val (.int p3), .val (.int p4), .val (.ref b274), .val (.int (3 : Int32)), .val (.int v1), .val (.ref b554), .val (.ref b583), .unset, .unset]) rfl ?_
      show Steps p.tables e below (T600.setTop (mkF m 126 #[.val (.int p0), .val (.int p1), .val (.int p2), .val (.int p3), .val (.int p4), .val (.ref b274), .val (.int (3 : Int32)), .val (.int v1), .val (.ref b554), .val (.ref b583), .unset, .unset] [])) _
      refine XS.aload X600.here hx rfl (hb hby at_126) rfl rfl ?_
      show Steps p.tables e below (T600.setTop (mkF m 128 #[.val (.int p0), .val (.int p1), .val (.int p2), .val (.int p3), .val (.int p4), .val (.ref b274), .val (.int (3 : Int32)), .val (.int v1), .val (.ref b554), .val (.ref b583), .unset, .unset] [(.ref b583)])) _
      refine XS.iload X600.here hx rfl (hb hby at_128) rfl ?_
      show Steps p.tables e below (T600.setTop (mkF m 130 #[.val (.int p0), .val (.int p1), .val (.int p2), .val (.int p3), .val (.int p4), .val (.ref b274), .val (.int (3 : Int32)), .val (.int v1), .val (.ref b554), .val (.ref b583), .unset, .unset] [(.int (3 : Int32)), (.ref b583)])) _
      refine XS.iload X600.here hx rfl (hb hby at_130) rfl ?_
      show Steps p.tables e below (T600.setTop (mkF m 132 #[.val (.int p0), .val (.int p1), .val (.int p2), .val (.int p3), .val (.int p4), .val (.ref b274), .val (.int (3 : Int32)), .val (.int v1), .val (.ref b554), .val (.ref b583), .unset, .unset] [(.int v1), (.int (3 : Int32)), (.ref b583)])) _
      refine st608.trans ?_
      show Steps p.tables e below (T608.setTop (mkF m 135 #[.val (.int p0), .val (.int p1), .val (.int p2), .val (.int p3), .val (.int p4), .val (.ref b274), .val (.int (3 : Int32)), .val (.int v1), .val (.ref b554), .val (.ref b583), .unset, .unset] [(.int (Int32.ofNat r4))])) _
      refine XS.istore X608.here hx rfl (hb hby at_135) rfl (l' := #[.val (.int p0), .val (.int p1), .val (.int p2), .val (.int p3), .val (.int p4), .val (.ref b274), .val (.int (3 : Int32)), .val (.int v1), .val (.ref b554), .val (.ref b583), .val (.int (Int32.ofNat r4)), .unset]) rfl ?_
      show Steps p.tables e below (T608.setTop (mkF m 137 #[.val (.int p0), .val (.int p1), .val (.int p2), .val (.int p3), .val (.int p4), .val (.ref b274), .val (.int (3 : Int32)), .val (.int v1), .val (.ref b554), .val (.ref b583), .val (.int (Int32.ofNat r4)), .unset] [])) _
      refine XS.aload X608.here hx rfl (hb hby at_137) rfl rfl ?_
      show Steps p.tables e below (T608.setTop (mkF m 139 #[.val (.int p0), .val (.int p1), .val (.int p2), .val (.int p3), .val (.int p4), .val (.ref b274), .val (.int (3 : Int32)), .val (.int v1), .val (.ref b554), .val (.ref b583), .val (.int (Int32.ofNat r4)), .unset] [(.ref b274)])) _
      refine XS.iload X608.here hx rfl (hb hby at_139) rfl ?_
      show Steps p.tables e below (T608.setTop (mkF m 141 #[.val (.int p0), .val (.int p1), .val (.int p2), .val (.int p3), .val (.int p4), .val (.ref b274), .val (.int (3 : Int32)), .val (.int v1), .val (.ref b554), .val (.ref b583), .val (.int (Int32.ofNat r4)), .unset] [(.int (3 : Int32)), (.ref b274)])) _
      refine XS.iload X608.here hx rfl (hb hby at_141) rfl ?_
      show Steps p.tables e below (T608.setTop (mkF m 143 #[.val (.int p0), .val (.int p1), .val (.int p2), .val (.int p3), .val (.int p4), .val (.ref b274), .val (.int (3 : Int32)), .val (.int v1), .val (.ref b554), .val (.ref b583), .val (.int (Int32.ofNat r4)), .unset] [(.int v1), (.int (3 : Int32)), (.ref b274)])) _
      refine XS.iconst X608.here hx rfl (hb hby at_143) ?_
      show Steps p.tables e below (T608.setTop (mkF m 144 #[.val (.int p0), .val (.int p1), .val (.int p2), .val (.int p3), .val (.int p4), .val (.ref b274), .val (.int (3 : Int32)), .val (.int v1), .val (.ref b554), .val (.ref b583), .val (.int (Int32.ofNat r4)), .unset] [(.int (4 : Int32)), (.int v1), (.int (3 : Int32)), (.ref b274)])) _
      refine st610 _ ?_
      show Steps p.tables e below (T610.setTop (mkF m 147 #[.val (.int p0), .val (.int p1), .val (.int p2), .val (.int p3), .val (.int p4), .val (.ref b274), .val (.int (3 : Int32)), .val (.int v1), .val (.ref b554), .val (.ref b583), .val (.int (Int32.ofNat r4)), .unset] [(.int (if (u 3) = v1 then (1 : Int32) else (0 : Int32)))])) _
      exact kt
    obtain ⟨v2, hv2⟩ : ∃ z : Int32, z = (if (if (u 3) = v1 then (1 : Int32) else (0 : Int32)) = (0 : Int32) then (if (if (u 0) = (u 1) then (if (u 1) = (u 2) then (if (u 2) = v1 then (1 : Int32) else (0 : Int32)) else (0 : Int32)) else (0 : Int32)) = (0 : Int32) then (if (if (u 0) = (u 2) then (if (u 1) = v1 then (1 : Int32) else (0 : Int32)) else (0 : Int32)) = (0 : Int32) then (if (if (u 0) = v1 then (1 : Int32) else (0 : Int32)) = (0 : Int32) then (0 : Int32) else (1 : Int32)) else (2 : Int32)) else (3 : Int32)) else (4 : Int32)) := ⟨_, rfl⟩
    obtain ⟨T626, L626, X626, N626, Z626, Y626, E627, V628, E629, V630, E631, F632, F633, V634, pre626⟩ : ∃ (T' : State) (L' : List Loc), Stand p l e room_1 (s.setVm T589.vm) m #[(.int p0), (.int p1), (.int p2), (.int p3), (.int p4)] below meth c T' L' 6 23 ∧ Fr n0 L' ∧ n0 ≤ T'.heap.size ∧ k589 ≤ T'.heap.size ∧ Exa Z T'.heap b274 "[I" ∧ own_Ar Z T'.heap b274 .int 4 u ∧ Exa Z T'.heap b554 "[I" ∧ own_Ar Z T'.heap b554 .int 4 u ∧ Exa Z T'.heap b583 "com/example/xcu/xcu/UnitString$Part" ∧ Fld Z T'.heap b583 "com/example/xcu/xcu/UnitString$Part" "units" "[I" (.ref b554) ∧ Fld Z T'.heap b583 "com/example/xcu/xcu/UnitString$Part" "borders" "[I" (.ref ab600) ∧ own_Ar Z T'.heap ab600 .int 4 (own_up (own_up (own_up (fun _ => (0 : Int32)) 1 (Int32.ofNat r1)) 2 (Int32.ofNat r2)) 3 (Int32.ofNat r3)) ∧ ∀ t, Steps p.tables e below (T'.setTop (mkF m 216 #[.val (.int p0), .val (.int p1), .val (.int p2), .val (.int p3), .val (.int p4), .val (.ref b274), .val (.int (3 : Int32)), .val (.int v1), .val (.ref b554), .val (.ref b583), .val (.int (Int32.ofNat r4)), .val (.int v2)] [])) t → Steps p.tables e below (s₁.setTop (entryFrame m #[(.int p0), (.int p1), (.int p2), (.int p3), (.int p4)] maxLocals)) t := by
      by_cases hc635 : (if (u 3) = v1 then (1 : Int32) else (0 : Int32)) = (0 : Int32)
      · skip
        obtain ⟨_, _, ⟨T636, L636, k636, n636⟩, -, X636, ⟨Lc636, hQ636, l636, y636, z636⟩, st636⟩ := Jvm.LawKit.callS X610 hx (y := (⟨"com/example/xcu/xcu/UnitStringExtendPinLaw", "fits", "([IIII)Z"⟩ : MethodName)) hown (mvT hZ (hw _ (List.mem_of_getElem? (i := 31) rfl))) (mvT hZ (hw _ (List.mem_of_getElem? (i := 32) rfl))) (mvT hZ (hw _ (List.mem_of_getElem? (i := 33) rfl))) (mvT hZ (hw _ (List.mem_of_getElem? (i := 34) rfl))) (by decide) (backOf (W := 0) (rm4_3_3 l Z aq hw [] b274 v1 u T600.heap n0 Z605 V602) hZ (hw _ (List.mem_of_getElem? (i := 34) rfl)) (hw _ (List.mem_of_getElem? (i := 33) rfl)) (by decide) (by decide)) (g := (mkF m 163 #[.val (.int p0), .val (.int p1), .val (.int p2), .val (.int p3), .val (.int p4), .val (.ref b274), .val (.int (3 : Int32)), .val (.int v1), .val (.ref b554), .val (.ref b583), .val (.int (Int32.ofNat r4)), .unset] [(.int (3 : Int32)), (.int v1), (.int (3 : Int32)), (.ref b274)])) rfl (by rw [hml]; rfl) (argsL := [(.ref b274), (.int (3 : Int32)), (.int v1), (.int (3 : Int32))]) (rest := []) (lenOf pd21711183 rfl) rfl (by show 2 * 0 + _ ≤ _; exact Nat.le_of_eq rfl) (hb hby at_163) (fun _ _ => ⟨rfl, e610, (by decide : 6 + 0 ≤ _), (by decide : 23 + 0 ≤ _)⟩)
        dsimp only [Pt.U, Pt.locs, Pt.cells, Pt.slots] at X636 l636 y636 z636 st636 hQ636
        subst l636 y636 z636
        obtain ⟨rfl, N636q, e636⟩ := hQ636
        have N637 := Fr.app N611 N636q
        have pre638 : ∀ t, Steps p.tables e below (T636.setTop (mkF m 166 #[.val (.int p0), .val (.int p1), .val (.int p2), .val (.int p3), .val (.int p4), .val (.ref b274), .val (.int (3 : Int32)), .val (.int v1), .val (.ref b554), .val (.ref b583), .val (.int (Int32.ofNat r4)), .unset] [(.int (if (u 0) = (u 1) then (if (u 1) = (u 2) then (if (u 2) = v1 then (1 : Int32) else (0 : Int32)) else (0 : Int32)) else (0 : Int32)))])) t → Steps p.tables e below (s₁.setTop (entryFrame m #[(.int p0), (.int p1), (.int p2), (.int p3), (.int p4)] maxLocals)) t := fun t kt => by
          refine pre612 _ ?_
          show Steps p.tables e below (T610.setTop (mkF m 147 #[.val (.int p0), .val (.int p1), .val (.int p2), .val (.int p3), .val (.int p4), .val (.ref b274), .val (.int (3 : Int32)), .val (.int v1), .val (.ref b554), .val (.ref b583), .val (.int (Int32.ofNat r4)), .unset] [(.int (if (u 3) = v1 then (1 : Int32) else (0 : Int32)))])) _
          refine XS.ifYes X610.here hx rfl (pc0 := 147) (pc' := 156) rfl (hb hby at_147) rfl ((if0 _ _).trans (teq hc635).1) (by decide) (by decide) ?_
          show Steps p.tables e below (T610.setTop (mkF m 156 #[.val (.int p0), .val (.int p1), .val (.int p2), .val (.int p3), .val (.int p4), .val (.ref b274), .val (.int (3 : Int32)), .val (.int v1), .val (.ref b554), .val (.ref b583), .val (.int (Int32.ofNat r4)), .unset] [])) _
          refine XS.aload X610.here hx rfl (hb hby at_156) rfl rfl ?_
          show Steps p.tables e below (T610.setTop (mkF m 158 #[.val (.int p0), .val (.int p1), .val (.int p2), .val (.int p3), .val (.int p4), .val (.ref b274), .val (.int (3 : Int32)), .val (.int v1), .val (.ref b554), .val (.ref b583), .val (.int (Int32.ofNat r4)), .unset] [(.ref b274)])) _
          refine XS.iload X610.here hx rfl (hb hby at_158) rfl ?_
          show Steps p.tables e below (T610.setTop (mkF m 160 #[.val (.int p0), .val (.int p1), .val (.int p2), .val (.int p3), .val (.int p4), .val (.ref b274), .val (.int (3 : Int32)), .val (.int v1), .val (.ref b554), .val (.ref b583), .val (.int (Int32.ofNat r4)), .unset] [(.int (3 : Int32)), (.ref b274)])) _
          refine XS.iload X610.here hx rfl (hb hby at_160) rfl ?_
          show Steps p.tables e below (T610.setTop (mkF m 162 #[.val (.int p0), .val (.int p1), .val (.int p2), .val (.int p3), .val (.int p4), .val (.ref b274), .val (.int (3 : Int32)), .val (.int v1), .val (.ref b554), .val (.ref b583), .val (.int (Int32.ofNat r4)), .unset] [(.int v1), (.int (3 : Int32)), (.ref b274)])) _
          refine XS.iconst X610.here hx rfl (hb hby at_162) ?_
          show Steps p.tables e below (T610.setTop (mkF m 163 #[.val (.int p0), .val (.int p1), .val (.int p2), .val (.int p3), .val (.int p4), .val (.ref b274), .val (.int (3 : Int32)), .val (.int v1), .val (.ref b554), .val (.ref b583), .val (.int (Int32.ofNat r4)), .unset] [(.int (3 : Int32)), (.int v1), (.int (3 : Int32)), (.ref b274)])) _
          refine st636 _ ?_
          show Steps p.tables e below (T636.setTop (mkF m 166 #[.val (.int p0), .val (.int p1), .val (.int p2), .val (.int p3), .val (.int p4), .val (.ref b274), .val (.int (3 : Int32)), .val (.int v1), .val (.ref b554), .val (.ref b583), .val (.int (Int32.ofNat r4)), .unset] [(.int (if (u 0) = (u 1) then (if (u 1) = (u 2) then (if (u 2) = v1 then (1 : Int32) else (0 : Int32)) else (0 : Int32)) else (0 : Int32)))])) _
          exact kt
        by_cases hc639 : (if (u 0) = (u 1) then (if (u 1) = (u 2) then (if (u 2) = v1 then (1 : Int32) else (0 : Int32)) else (0 : Int32)) else (0 : Int32)) = (0 : Int32)
        · skip
          obtain ⟨_, _, ⟨T640, L640, k640, n640⟩, -, X640, ⟨Lc640, hQ640, l640, y640, z640⟩, st640⟩ := Jvm.LawKit.callS X636 hx (y := (⟨"com/example/xcu/xcu/UnitStringExtendPinLaw", "fits", "([IIII)Z"⟩ : MethodName)) hown (mvT hZ (hw _ (List.mem_of_getElem? (i := 31) rfl))) (mvT hZ (hw _ (List.mem_of_getElem? (i := 32) rfl))) (mvT hZ (hw _ (List.mem_of_getElem? (i := 33) rfl))) (mvT hZ (hw _ (List.mem_of_getElem? (i := 34) rfl))) (by decide) (backOf (W := 0) (rm4_3_2 l Z aq hw [] b274 v1 u T600.heap n0 Z605 V602) hZ (hw _ (List.mem_of_getElem? (i := 34) rfl)) (hw _ (List.mem_of_getElem? (i := 33) rfl)) (by decide) (by decide)) (g := (mkF m 182 #[.val (.int p0), .val (.int p1), .val (.int p2), .val (.int p3), .val (.int p4), .val (.ref b274), .val (.int (3 : Int32)), .val (.int v1), .val (.ref b554), .val (.ref b583), .val (.int (Int32.ofNat r4)), .unset] [(.int (2 : Int32)), (.int v1), (.int (3 : Int32)), (.ref b274)])) rfl (by rw [hml]; rfl) (argsL := [(.ref b274), (.int (3 : Int32)), (.int v1), (.int (2 : Int32))]) (rest := []) (lenOf pd21711183 rfl) rfl (by show 2 * 0 + _ ≤ _; exact Nat.le_of_eq rfl) (hb hby at_182) (fun _ _ => ⟨rfl, e636, (by decide : 6 + 0 ≤ _), (by decide : 23 + 0 ≤ _)⟩)
          dsimp only [Pt.U, Pt.locs, Pt.cells, Pt.slots] at X640 l640 y640 z640 st640 hQ640
          subst l640 y640 z640
          obtain ⟨rfl, N640q, e640⟩ := hQ640
          have N641 := Fr.app N637 N640q
          have pre642 : ∀ t, Steps p.tables e below (T640.setTop (mkF m 185 #[.val (.int p0), .val (.int p1), .val (.int p2), .val (.int p3), .val (.int p4), .val (.ref b274), .val (.int (3 : Int32)), .val (.int v1), .val (.ref b554), .val (.ref b583), .val (.int (Int32.ofNat r4)), .unset] [(.int (if (u 0) = (u 2) then (if (u 1) = v1 then (1 : Int32) else (0 : Int32)) else (0 : Int32)))])) t → Steps p.tables e below (s₁.setTop (entryFrame m #[(.int p0), (.int p1), (.int p2), (.int p3), (.int p4)] maxLocals)) t := fun t kt => by
            refine pre638 _ ?_
            show Steps p.tables e below (T636.setTop (mkF m 166 #[.val (.int p0), .val (.int p1), .val (.int p2), .val (.int p3), .val (.int p4), .val (.ref b274), .val (.int (3 : Int32)), .val (.int v1), .val (.ref b554), .val (.ref b583), .val (.int (Int32.ofNat r4)), .unset] [(.int (if (u 0) = (u 1) then (if (u 1) = (u 2) then (if (u 2) = v1 then (1 : Int32) else (0 : Int32)) else (0 : Int32)) else (0 : Int32)))])) _
            refine XS.ifYes X636.here hx rfl (pc0 := 166) (pc' := 175) rfl (hb hby at_166) rfl ((if0 _ _).trans (teq hc639).1) (by decide) (by decide) ?_
            show Steps p.tables e below (T636.setTop (mkF m 175 #[.val (.int p0), .val (.int p1), .val (.int p2), .val (.int p3), .val (.int p4), .val (.ref b274), .val (.int (3 : Int32)), .val (.int v1), .val (.ref b554), .val (.ref b583), .val (.int (Int32.ofNat r4)), .unset] [])) _
            refine XS.aload X636.here hx rfl (hb hby at_175) rfl rfl ?_
            show Steps p.tables e below (T636.setTop (mkF m 177 #[.val (.int p0), .val (.int p1), .val (.int p2), .val (.int p3), .val (.int p4), .val (.ref b274), .val (.int (3 : Int32)), .val (.int v1), .val (.ref b554), .val (.ref b583), .val (.int (Int32.ofNat r4)), .unset] [(.ref b274)])) _
            refine XS.iload X636.here hx rfl (hb hby at_177) rfl ?_
            show Steps p.tables e below (T636.setTop (mkF m 179 #[.val (.int p0), .val (.int p1), .val (.int p2), .val (.int p3), .val (.int p4), .val (.ref b274), .val (.int (3 : Int32)), .val (.int v1), .val (.ref b554), .val (.ref b583), .val (.int (Int32.ofNat r4)), .unset] [(.int (3 : Int32)), (.ref b274)])) _
            refine XS.iload X636.here hx rfl (hb hby at_179) rfl ?_
            show Steps p.tables e below (T636.setTop (mkF m 181 #[.val (.int p0), .val (.int p1), .val (.int p2), .val (.int p3), .val (.int p4), .val (.ref b274), .val (.int (3 : Int32)), .val (.int v1), .val (.ref b554), .val (.ref b583), .val (.int (Int32.ofNat r4)), .unset] [(.int v1), (.int (3 : Int32)), (.ref b274)])) _
            refine XS.iconst X636.here hx rfl (hb hby at_181) ?_
            show Steps p.tables e below (T636.setTop (mkF m 182 #[.val (.int p0), .val (.int p1), .val (.int p2), .val (.int p3), .val (.int p4), .val (.ref b274), .val (.int (3 : Int32)), .val (.int v1), .val (.ref b554), .val (.ref b583), .val (.int (Int32.ofNat r4)), .unset] [(.int (2 : Int32)), (.int v1), (.int (3 : Int32)), (.ref b274)])) _
            refine st640 _ ?_
            show Steps p.tables e below (T640.setTop (mkF m 185 #[.val (.int p0), .val (.int p1), .val (.int p2), .val (.int p3), .val (.int p4), .val (.ref b274), .val (.int (3 : Int32)), .val (.int v1), .val (.ref b554), .val (.ref b583), .val (.int (Int32.ofNat r4)), .unset] [(.int (if (u 0) = (u 2) then (if (u 1) = v1 then (1 : Int32) else (0 : Int32)) else (0 : Int32)))])) _
            exact kt
          by_cases hc643 : (if (u 0) = (u 2) then (if (u 1) = v1 then (1 : Int32) else (0 : Int32)) else (0 : Int32)) = (0 : Int32)
          · skip
            obtain ⟨_, _, ⟨T644, L644, k644, n644⟩, -, X644, ⟨Lc644, hQ644, l644, y644, z644⟩, st644⟩ := Jvm.LawKit.callS X640 hx (y := (⟨"com/example/xcu/xcu/UnitStringExtendPinLaw", "fits", "([IIII)Z"⟩ : MethodName)) hown (mvT hZ (hw _ (List.mem_of_getElem? (i := 31) rfl))) (mvT hZ (hw _ (List.mem_of_getElem? (i := 32) rfl))) (mvT hZ (hw _ (List.mem_of_getElem? (i := 33) rfl))) (mvT hZ (hw _ (List.mem_of_getElem? (i := 34) rfl))) (by decide) (backOf (W := 0) (rm4_3_1 l Z aq hw [] b274 v1 u T600.heap n0 Z605 V602) hZ (hw _ (List.mem_of_getElem? (i := 34) rfl)) (hw _ (List.mem_of_getElem? (i := 33) rfl)) (by decide) (by decide)) (g := (mkF m 201 #[.val (.int p0), .val (.int p1), .val (.int p2), .val (.int p3), .val (.int p4), .val (.ref b274), .val (.int (3 : Int32)), .val (.int v1), .val (.ref b554), .val (.ref b583), .val (.int (Int32.ofNat r4)), .unset] [(.int (1 : Int32)), (.int v1), (.int (3 : Int32)), (.ref b274)])) rfl (by rw [hml]; rfl) (argsL := [(.ref b274), (.int (3 : Int32)), (.int v1), (.int (1 : Int32))]) (rest := []) (lenOf pd21711183 rfl) rfl (by show 2 * 0 + _ ≤ _; exact Nat.le_of_eq rfl) (hb hby at_201) (fun _ _ => ⟨rfl, e640, (by decide : 6 + 0 ≤ _), (by decide : 23 + 0 ≤ _)⟩)
            dsimp only [Pt.U, Pt.locs, Pt.cells, Pt.slots] at X644 l644 y644 z644 st644 hQ644
            subst l644 y644 z644
            obtain ⟨rfl, N644q, e644⟩ := hQ644
            have N645 := Fr.app N641 N644q
            have pre646 : ∀ t, Steps p.tables e below (T644.setTop (mkF m 204 #[.val (.int p0), .val (.int p1), .val (.int p2), .val (.int p3), .val (.int p4), .val (.ref b274), .val (.int (3 : Int32)), .val (.int v1), .val (.ref b554), .val (.ref b583), .val (.int (Int32.ofNat r4)), .unset] [(.int (if (u 0) = v1 then (1 : Int32) else (0 : Int32)))])) t → Steps p.tables e below (s₁.setTop (entryFrame m #[(.int p0), (.int p1), (.int p2), (.int p3), (.int p4)] maxLocals)) t := fun t kt => by
              refine pre642 _ ?_
              show Steps p.tables e below (T640.setTop (mkF m 185 #[.val (.int p0), .val (.int p1), .val (.int p2), .val (.int p3), .val (.int p4), .val (.ref b274), .val (.int (3 : Int32)), .val (.int v1), .val (.ref b554), .val (.ref b583), .val (.int (Int32.ofNat r4)), .unset] [(.int (if (u 0) = (u 2) then (if (u 1) = v1 then (1 : Int32) else (0 : Int32)) else (0 : Int32)))])) _
              refine XS.ifYes X640.here hx rfl (pc0 := 185) (pc' := 194) rfl (hb hby at_185) rfl ((if0 _ _).trans (teq hc643).1) (by decide) (by decide) ?_
              show Steps p.tables e below (T640.setTop (mkF m 194 #[.val (.int p0), .val (.int p1), .val (.int p2), .val (.int p3), .val (.int p4), .val (.ref b274), .val (.int (3 : Int32)), .val (.int v1), .val (.ref b554), .val (.ref b583), .val (.int (Int32.ofNat r4)), .unset] [])) _
              refine XS.aload X640.here hx rfl (hb hby at_194) rfl rfl ?_
              show Steps p.tables e below (T640.setTop (mkF m 196 #[.val (.int p0), .val (.int p1), .val (.int p2), .val (.int p3), .val (.int p4), .val (.ref b274), .val (.int (3 : Int32)), .val (.int v1), .val (.ref b554), .val (.ref b583), .val (.int (Int32.ofNat r4)), .unset] [(.ref b274)])) _
              refine XS.iload X640.here hx rfl (hb hby at_196) rfl ?_
              show Steps p.tables e below (T640.setTop (mkF m 198 #[.val (.int p0), .val (.int p1), .val (.int p2), .val (.int p3), .val (.int p4), .val (.ref b274), .val (.int (3 : Int32)), .val (.int v1), .val (.ref b554), .val (.ref b583), .val (.int (Int32.ofNat r4)), .unset] [(.int (3 : Int32)), (.ref b274)])) _
              refine XS.iload X640.here hx rfl (hb hby at_198) rfl ?_
              show Steps p.tables e below (T640.setTop (mkF m 200 #[.val (.int p0), .val (.int p1), .val (.int p2), .val (.int p3), .val (.int p4), .val (.ref b274), .val (.int (3 : Int32)), .val (.int v1), .val (.ref b554), .val (.ref b583), .val (.int (Int32.ofNat r4)), .unset] [(.int v1), (.int (3 : Int32)), (.ref b274)])) _
              refine XS.iconst X640.here hx rfl (hb hby at_200) ?_
              show Steps p.tables e below (T640.setTop (mkF m 201 #[.val (.int p0), .val (.int p1), .val (.int p2), .val (.int p3), .val (.int p4), .val (.ref b274), .val (.int (3 : Int32)), .val (.int v1), .val (.ref b554), .val (.ref b583), .val (.int (Int32.ofNat r4)), .unset] [(.int (1 : Int32)), (.int v1), (.int (3 : Int32)), (.ref b274)])) _
              refine st644 _ ?_
              show Steps p.tables e below (T644.setTop (mkF m 204 #[.val (.int p0), .val (.int p1), .val (.int p2), .val (.int p3), .val (.int p4), .val (.ref b274), .val (.int (3 : Int32)), .val (.int v1), .val (.ref b554), .val (.ref b583), .val (.int (Int32.ofNat r4)), .unset] [(.int (if (u 0) = v1 then (1 : Int32) else (0 : Int32)))])) _
              exact kt
            by_cases hc647 : (if (u 0) = v1 then (1 : Int32) else (0 : Int32)) = (0 : Int32)
            · skip
              have pre648 : ∀ t, Steps p.tables e below (T644.setTop (mkF m 216 #[.val (.int p0), .val (.int p1), .val (.int p2), .val (.int p3), .val (.int p4), .val (.ref b274), .val (.int (3 : Int32)), .val (.int v1), .val (.ref b554), .val (.ref b583), .val (.int (Int32.ofNat r4)), .val (.int (0 : Int32))] [])) t → Steps p.tables e below (s₁.setTop (entryFrame m #[(.int p0), (.int p1), (.int p2), (.int p3), (.int p4)] maxLocals)) t := fun t kt => by
                refine pre646 _ ?_
                show Steps p.tables e below (T644.setTop (mkF m 204 #[.val (.int p0), .val (.int p1), .val (.int p2), .val (.int p3), .val (.int p4), .val (.ref b274), .val (.int (3 : Int32)), .val (.int v1), .val (.ref b554), .val (.ref b583), .val (.int (Int32.ofNat r4)), .unset] [(.int (if (u 0) = v1 then (1 : Int32) else (0 : Int32)))])) _
                refine XS.ifYes X644.here hx rfl (pc0 := 204) (pc' := 213) rfl (hb hby at_204) rfl ((if0 _ _).trans (teq hc647).1) (by decide) (by decide) ?_
                show Steps p.tables e below (T644.setTop (mkF m 213 #[.val (.int p0), .val (.int p1), .val (.int p2), .val (.int p3), .val (.int p4), .val (.ref b274), .val (.int (3 : Int32)), .val (.int v1), .val (.ref b554), .val (.ref b583), .val (.int (Int32.ofNat r4)), .unset] [])) _
                refine XS.iconst X644.here hx rfl (hb hby at_213) ?_
                show Steps p.tables e below (T644.setTop (mkF m 214 #[.val (.int p0), .val (.int p1), .val (.int p2), .val (.int p3), .val (.int p4), .val (.ref b274), .val (.int (3 : Int32)), .val (.int v1), .val (.ref b554), .val (.ref b583), .val (.int (Int32.ofNat r4)), .unset] [(.int (0 : Int32))])) _
                refine XS.istore X644.here hx rfl (hb hby at_214) rfl (l' := #[.val (.int p0), .val (.int p1), .val (.int p2), .val (.int p3), .val (.int p4), .val (.ref b274), .val (.int (3 : Int32)), .val (.int v1), .val (.ref b554), .val (.ref b583), .val (.int (Int32.ofNat r4)), .val (.int (0 : Int32))]) rfl ?_
                show Steps p.tables e below (T644.setTop (mkF m 216 #[.val (.int p0), .val (.int p1), .val (.int p2), .val (.int p3), .val (.int p4), .val (.ref b274), .val (.int (3 : Int32)), .val (.int v1), .val (.ref b554), .val (.ref b583), .val (.int (Int32.ofNat r4)), .val (.int (0 : Int32))] [])) _
                exact kt
              rw [if_pos hc635] at hv2
              rw [if_pos hc639] at hv2
              rw [if_pos hc643] at hv2
              rw [if_pos hc647] at hv2
              subst hv2
              exact ⟨_, _, X644, N645, (by rw [e644]; exact Z605), (by rw [e644]; exact Y606), (by rw [e644]; exact E601), (by rw [e644]; exact V602), (by rw [e644]; exact E603), (by rw [e644]; exact Vu600), (by rw [e644]; exact E600_0), (by rw [e644]; exact Fu600), (by rw [e644]; exact Fb600), (by rw [e644]; exact Vb600), pre648⟩
            · skip
              have pre649 : ∀ t, Steps p.tables e below (T644.setTop (mkF m 216 #[.val (.int p0), .val (.int p1), .val (.int p2), .val (.int p3), .val (.int p4), .val (.ref b274), .val (.int (3 : Int32)), .val (.int v1), .val (.ref b554), .val (.ref b583), .val (.int (Int32.ofNat r4)), .val (.int (1 : Int32))] [])) t → Steps p.tables e below (s₁.setTop (entryFrame m #[(.int p0), (.int p1), (.int p2), (.int p3), (.int p4)] maxLocals)) t := fun t kt => by
                refine pre646 _ ?_
                show Steps p.tables e below (T644.setTop (mkF m 204 #[.val (.int p0), .val (.int p1), .val (.int p2), .val (.int p3), .val (.int p4), .val (.ref b274), .val (.int (3 : Int32)), .val (.int v1), .val (.ref b554), .val (.ref b583), .val (.int (Int32.ofNat r4)), .unset] [(.int (if (u 0) = v1 then (1 : Int32) else (0 : Int32)))])) _
                refine XS.ifNo X644.here hx rfl (hb hby at_204) rfl ((if0 _ _).trans (feq hc647).1) ?_
                show Steps p.tables e below (T644.setTop (mkF m 207 #[.val (.int p0), .val (.int p1), .val (.int p2), .val (.int p3), .val (.int p4), .val (.ref b274), .val (.int (3 : Int32)), .val (.int v1), .val (.ref b554), .val (.ref b583), .val (.int (Int32.ofNat r4)), .unset] [])) _
                refine XS.iconst X644.here hx rfl (hb hby at_207) ?_
                show Steps p.tables e below (T644.setTop (mkF m 208 #[.val (.int p0), .val (.int p1), .val (.int p2), .val (.int p3), .val (.int p4), .val (.ref b274), .val (.int (3 : Int32)), .val (.int v1), .val (.ref b554), .val (.ref b583), .val (.int (Int32.ofNat r4)), .unset] [(.int (1 : Int32))])) _
                refine XS.istore X644.here hx rfl (hb hby at_208) rfl (l' := #[.val (.int p0), .val (.int p1), .val (.int p2), .val (.int p3), .val (.int p4), .val (.ref b274), .val (.int (3 : Int32)), .val (.int v1), .val (.ref b554), .val (.ref b583), .val (.int (Int32.ofNat r4)), .val (.int (1 : Int32))]) rfl ?_
                show Steps p.tables e below (T644.setTop (mkF m 210 #[.val (.int p0), .val (.int p1), .val (.int p2), .val (.int p3), .val (.int p4), .val (.ref b274), .val (.int (3 : Int32)), .val (.int v1), .val (.ref b554), .val (.ref b583), .val (.int (Int32.ofNat r4)), .val (.int (1 : Int32))] [])) _
                refine XS.goto X644.here hx rfl (pc0 := 210) (pc' := 216) rfl (hb hby at_210) (by decide) (by decide) ?_
                show Steps p.tables e below (T644.setTop (mkF m 216 #[.val (.int p0), .val (.int p1), .val (.int p2), .val (.int p3), .val (.int p4), .val (.ref b274), .val (.int (3 : Int32)), .val (.int v1), .val (.ref b554), .val (.ref b583), .val (.int (Int32.ofNat r4)), .val (.int (1 : Int32))] [])) _
                exact kt
              rw [if_pos hc635] at hv2
              rw [if_pos hc639] at hv2
              rw [if_pos hc643] at hv2
              rw [if_neg hc647] at hv2
              subst hv2
              exact ⟨_, _, X644, N645, (by rw [e644]; exact Z605), (by rw [e644]; exact Y606), (by rw [e644]; exact E601), (by rw [e644]; exact V602), (by rw [e644]; exact E603), (by rw [e644]; exact Vu600), (by rw [e644]; exact E600_0), (by rw [e644]; exact Fu600), (by rw [e644]; exact Fb600), (by rw [e644]; exact Vb600), pre649⟩
          · skip
            have pre650 : ∀ t, Steps p.tables e below (T640.setTop (mkF m 216 #[.val (.int p0), .val (.int p1), .val (.int p2), .val (.int p3), .val (.int p4), .val (.ref b274), .val (.int (3 : Int32)), .val (.int v1), .val (.ref b554), .val (.ref b583), .val (.int (Int32.ofNat r4)), .val (.int (2 : Int32))] [])) t → Steps p.tables e below (s₁.setTop (entryFrame m #[(.int p0), (.int p1), (.int p2), (.int p3), (.int p4)] maxLocals)) t := fun t kt => by
              refine pre642 _ ?_
              show Steps p.tables e below (T640.setTop (mkF m 185 #[.val (.int p0), .val (.int p1), .val (.int p2), .val (.int p3), .val (.int p4), .val (.ref b274), .val (.int (3 : Int32)), .val (.int v1), .val (.ref b554), .val (.ref b583), .val (.int (Int32.ofNat r4)), .unset] [(.int (if (u 0) = (u 2) then (if (u 1) = v1 then (1 : Int32) else (0 : Int32)) else (0 : Int32)))])) _
              refine XS.ifNo X640.here hx rfl (hb hby at_185) rfl ((if0 _ _).trans (feq hc643).1) ?_
              show Steps p.tables e below (T640.setTop (mkF m 188 #[.val (.int p0), .val (.int p1), .val (.int p2), .val (.int p3), .val (.int p4), .val (.ref b274), .val (.int (3 : Int32)), .val (.int v1), .val (.ref b554), .val (.ref b583), .val (.int (Int32.ofNat r4)), .unset] [])) _
              refine XS.iconst X640.here hx rfl (hb hby at_188) ?_
              show Steps p.tables e below (T640.setTop (mkF m 189 #[.val (.int p0), .val (.int p1), .val (.int p2), .val (.int p3), .val (.int p4), .val (.ref b274), .val (.int (3 : Int32)), .val (.int v1), .val (.ref b554), .val (.ref b583), .val (.int (Int32.ofNat r4)), .unset] [(.int (2 : Int32))])) _
              refine XS.istore X640.here hx rfl (hb hby at_189) rfl (l' := #[.val (.int p0), .val (.int p1), .val (.int p2), .val (.int p3), .val (.int p4), .val (.ref b274), .val (.int (3 : Int32)), .val (.int v1), .val (.ref b554), .val (.ref b583), .val (.int (Int32.ofNat r4)), .val (.int (2 : Int32))]) rfl ?_
              show Steps p.tables e below (T640.setTop (mkF m 191 #[.val (.int p0), .val (.int p1), .val (.int p2), .val (.int p3), .val (.int p4), .val (.ref b274), .val (.int (3 : Int32)), .val (.int v1), .val (.ref b554), .val (.ref b583), .val (.int (Int32.ofNat r4)), .val (.int (2 : Int32))] [])) _
              refine XS.goto X640.here hx rfl (pc0 := 191) (pc' := 216) rfl (hb hby at_191) (by decide) (by decide) ?_
              show Steps p.tables e below (T640.setTop (mkF m 216 #[.val (.int p0), .val (.int p1), .val (.int p2), .val (.int p3), .val (.int p4), .val (.ref b274), .val (.int (3 : Int32)), .val (.int v1), .val (.ref b554), .val (.ref b583), .val (.int (Int32.ofNat r4)), .val (.int (2 : Int32))] [])) _
              exact kt
            rw [if_pos hc635] at hv2
            rw [if_pos hc639] at hv2
            rw [if_neg hc643] at hv2
            subst hv2
            exact ⟨_, _, X640, N641, (by rw [e640]; exact Z605), (by rw [e640]; exact Y606), (by rw [e640]; exact E601), (by rw [e640]; exact V602), (by rw [e640]; exact E603), (by rw [e640]; exact Vu600), (by rw [e640]; exact E600_0), (by rw [e640]; exact Fu600), (by rw [e640]; exact Fb600), (by rw [e640]; exact Vb600), pre650⟩
        · skip
          have pre651 : ∀ t, Steps p.tables e below (T636.setTop (mkF m 216 #[.val (.int p0), .val (.int p1), .val (.int p2), .val (.int p3), .val (.int p4), .val (.ref b274), .val (.int (3 : Int32)), .val (.int v1), .val (.ref b554), .val (.ref b583), .val (.int (Int32.ofNat r4)), .val (.int (3 : Int32))] [])) t → Steps p.tables e below (s₁.setTop (entryFrame m #[(.int p0), (.int p1), (.int p2), (.int p3), (.int p4)] maxLocals)) t := fun t kt => by
            refine pre638 _ ?_
            show Steps p.tables e below (T636.setTop (mkF m 166 #[.val (.int p0), .val (.int p1), .val (.int p2), .val (.int p3), .val (.int p4), .val (.ref b274), .val (.int (3 : Int32)), .val (.int v1), .val (.ref b554), .val (.ref b583), .val (.int (Int32.ofNat r4)), .unset] [(.int (if (u 0) = (u 1) then (if (u 1) = (u 2) then (if (u 2) = v1 then (1 : Int32) else (0 : Int32)) else (0 : Int32)) else (0 : Int32)))])) _
            refine XS.ifNo X636.here hx rfl (hb hby at_166) rfl ((if0 _ _).trans (feq hc639).1) ?_
            show Steps p.tables e below (T636.setTop (mkF m 169 #[.val (.int p0), .val (.int p1), .val (.int p2), .val (.int p3), .val (.int p4), .val (.ref b274), .val (.int (3 : Int32)), .val (.int v1), .val (.ref b554), .val (.ref b583), .val (.int (Int32.ofNat r4)), .unset] [])) _
            refine XS.iconst X636.here hx rfl (hb hby at_169) ?_
            show Steps p.tables e below (T636.setTop (mkF m 170 #[.val (.int p0), .val (.int p1), .val (.int p2), .val (.int p3), .val (.int p4), .val (.ref b274), .val (.int (3 : Int32)), .val (.int v1), .val (.ref b554), .val (.ref b583), .val (.int (Int32.ofNat r4)), .unset] [(.int (3 : Int32))])) _
            refine XS.istore X636.here hx rfl (hb hby at_170) rfl (l' := #[.val (.int p0), .val (.int p1), .val (.int p2), .val (.int p3), .val (.int p4), .val (.ref b274), .val (.int (3 : Int32)), .val (.int v1), .val (.ref b554), .val (.ref b583), .val (.int (Int32.ofNat r4)), .val (.int (3 : Int32))]) rfl ?_
            show Steps p.tables e below (T636.setTop (mkF m 172 #[.val (.int p0), .val (.int p1), .val (.int p2), .val (.int p3), .val (.int p4), .val (.ref b274), .val (.int (3 : Int32)), .val (.int v1), .val (.ref b554), .val (.ref b583), .val (.int (Int32.ofNat r4)), .val (.int (3 : Int32))] [])) _
            refine XS.goto X636.here hx rfl (pc0 := 172) (pc' := 216) rfl (hb hby at_172) (by decide) (by decide) ?_
            show Steps p.tables e below (T636.setTop (mkF m 216 #[.val (.int p0), .val (.int p1), .val (.int p2), .val (.int p3), .val (.int p4), .val (.ref b274), .val (.int (3 : Int32)), .val (.int v1), .val (.ref b554), .val (.ref b583), .val (.int (Int32.ofNat r4)), .val (.int (3 : Int32))] [])) _
            exact kt
          rw [if_pos hc635] at hv2
          rw [if_neg hc639] at hv2
          subst hv2
          exact ⟨_, _, X636, N637, (by rw [e636]; exact Z605), (by rw [e636]; exact Y606), (by rw [e636]; exact E601), (by rw [e636]; exact V602), (by rw [e636]; exact E603), (by rw [e636]; exact Vu600), (by rw [e636]; exact E600_0), (by rw [e636]; exact Fu600), (by rw [e636]; exact Fb600), (by rw [e636]; exact Vb600), pre651⟩
      · skip
        have pre652 : ∀ t, Steps p.tables e below (T610.setTop (mkF m 216 #[.val (.int p0), .val (.int p1), .val (.int p2), .val (.int p3), .val (.int p4), .val (.ref b274), .val (.int (3 : Int32)), .val (.int v1), .val (.ref b554), .val (.ref b583), .val (.int (Int32.ofNat r4)), .val (.int (4 : Int32))] [])) t → Steps p.tables e below (s₁.setTop (entryFrame m #[(.int p0), (.int p1), (.int p2), (.int p3), (.int p4)] maxLocals)) t := fun t kt => by
          refine pre612 _ ?_
          show Steps p.tables e below (T610.setTop (mkF m 147 #[.val (.int p0), .val (.int p1), .val (.int p2), .val (.int p3), .val (.int p4), .val (.ref b274), .val (.int (3 : Int32)), .val (.int v1), .val (.ref b554), .val (.ref b583), .val (.int (Int32.ofNat r4)), .unset] [(.int (if (u 3) = v1 then (1 : Int32) else (0 : Int32)))])) _
          refine XS.ifNo X610.here hx rfl (hb hby at_147) rfl ((if0 _ _).trans (feq hc635).1) ?_
          show Steps p.tables e below (T610.setTop (mkF m 150 #[.val (.int p0), .val (.int p1), .val (.int p2), .val (.int p3), .val (.int p4), .val (.ref b274), .val (.int (3 : Int32)), .val (.int v1), .val (.ref b554), .val (.ref b583), .val (.int (Int32.ofNat r4)), .unset] [])) _
          refine XS.iconst X610.here hx rfl (hb hby at_150) ?_
          show Steps p.tables e below (T610.setTop (mkF m 151 #[.val (.int p0), .val (.int p1), .val (.int p2), .val (.int p3), .val (.int p4), .val (.ref b274), .val (.int (3 : Int32)), .val (.int v1), .val (.ref b554), .val (.ref b583), .val (.int (Int32.ofNat r4)), .unset] [(.int (4 : Int32))])) _
          refine XS.istore X610.here hx rfl (hb hby at_151) rfl (l' := #[.val (.int p0), .val (.int p1), .val (.int p2), .val (.int p3), .val (.int p4), .val (.ref b274), .val (.int (3 : Int32)), .val (.int v1), .val (.ref b554), .val (.ref b583), .val (.int (Int32.ofNat r4)), .val (.int (4 : Int32))]) rfl ?_
          show Steps p.tables e below (T610.setTop (mkF m 153 #[.val (.int p0), .val (.int p1), .val (.int p2), .val (.int p3), .val (.int p4), .val (.ref b274), .val (.int (3 : Int32)), .val (.int v1), .val (.ref b554), .val (.ref b583), .val (.int (Int32.ofNat r4)), .val (.int (4 : Int32))] [])) _
          refine XS.goto X610.here hx rfl (pc0 := 153) (pc' := 216) rfl (hb hby at_153) (by decide) (by decide) ?_
          show Steps p.tables e below (T610.setTop (mkF m 216 #[.val (.int p0), .val (.int p1), .val (.int p2), .val (.int p3), .val (.int p4), .val (.ref b274), .val (.int (3 : Int32)), .val (.int v1), .val (.ref b554), .val (.ref b583), .val (.int (Int32.ofNat r4)), .val (.int (4 : Int32))] [])) _
          exact kt
        rw [if_neg hc635] at hv2
        subst hv2
        exact ⟨_, _, X610, N611, (by rw [e610]; exact Z605), (by rw [e610]; exact Y606), (by rw [e610]; exact E601), (by rw [e610]; exact V602), (by rw [e610]; exact E603), (by rw [e610]; exact Vu600), (by rw [e610]; exact E600_0), (by rw [e610]; exact Fu600), (by rw [e610]; exact Fb600), (by rw [e610]; exact Vb600), pre652⟩
    have pre653 : ∀ t, Steps p.tables e below (T626.setTop (mkF m 220 #[.val (.int p0), .val (.int p1), .val (.int p2), .val (.int p3), .val (.int p4), .val (.ref b274), .val (.int (3 : Int32)), .val (.int v1), .val (.ref b554), .val (.ref b583), .val (.int (Int32.ofNat r4)), .val (.int v2)] [(.int v2), (.int (Int32.ofNat r4))])) t → Steps p.tables e below (s₁.setTop (entryFrame m #[(.int p0), (.int p1), (.int p2), (.int p3), (.int p4)] maxLocals)) t := fun t kt => by
      refine pre626 _ ?_
      show Steps p.tables e below (T626.setTop (mkF m 216 #[.val (.int p0), .val (.int p1), .val (.int p2), .val (.int p3), .val (.int p4), .val (.ref b274), .val (.int (3 : Int32)), .val (.int v1), .val (.ref b554), .val (.ref b583), .val (.int (Int32.ofNat r4)), .val (.int v2)] [])) _
      refine XS.iload X626.here hx rfl (hb hby at_216) rfl ?_
      show Steps p.tables e below (T626.setTop (mkF m 218 #[.val (.int p0), .val (.int p1), .val (.int p2), .val (.int p3), .val (.int p4), .val (.ref b274), .val (.int (3 : Int32)), .val (.int v1), .val (.ref b554), .val (.ref b583), .val (.int (Int32.ofNat r4)), .val (.int v2)] [(.int (Int32.ofNat r4))])) _
      refine XS.iload X626.here hx rfl (hb hby at_218) rfl ?_
      show Steps p.tables e below (T626.setTop (mkF m 220 #[.val (.int p0), .val (.int p1), .val (.int p2), .val (.int p3), .val (.int p4), .val (.ref b274), .val (.int (3 : Int32)), .val (.int v1), .val (.ref b554), .val (.ref b583), .val (.int (Int32.ofNat r4)), .val (.int v2)] [(.int v2), (.int (Int32.ofNat r4))])) _
      exact kt
    obtain ⟨v3, hv3⟩ : ∃ z : Int32, z = (if (Int32.ofNat r4) = v2 then (1 : Int32) else (0 : Int32)) := ⟨_, rfl⟩
    have pre655 : ∀ t, Steps p.tables e below (T626.setTop (mkF m 228 #[.val (.int p0), .val (.int p1), .val (.int p2), .val (.int p3), .val (.int p4), .val (.ref b274), .val (.int (3 : Int32)), .val (.int v1), .val (.ref b554), .val (.ref b583), .val (.int (Int32.ofNat r4)), .val (.int v2)] [(.int v3)])) t → Steps p.tables e below (s₁.setTop (entryFrame m #[(.int p0), (.int p1), (.int p2), (.int p3), (.int p4)] maxLocals)) t := fun t kt => by
      refine pre653 _ ?_
      show Steps p.tables e below (T626.setTop (mkF m 220 #[.val (.int p0), .val (.int p1), .val (.int p2), .val (.int p3), .val (.int p4), .val (.ref b274), .val (.int (3 : Int32)), .val (.int v1), .val (.ref b554), .val (.ref b583), .val (.int (Int32.ofNat r4)), .val (.int v2)] [(.int v2), (.int (Int32.ofNat r4))])) _
      by_cases hc654 : (Int32.ofNat r4) = v2
      · rw [if_pos hc654] at hv3
        refine XS.icmpNo X626.here hx rfl (hb hby at_220) rfl (teq hc654).2 ?_
        show Steps p.tables e below (T626.setTop (mkF m 223 #[.val (.int p0), .val (.int p1), .val (.int p2), .val (.int p3), .val (.int p4), .val (.ref b274), .val (.int (3 : Int32)), .val (.int v1), .val (.ref b554), .val (.ref b583), .val (.int (Int32.ofNat r4)), .val (.int v2)] [])) _
        refine XS.iconst X626.here hx rfl (hb hby at_223) ?_
        show Steps p.tables e below (T626.setTop (mkF m 224 #[.val (.int p0), .val (.int p1), .val (.int p2), .val (.int p3), .val (.int p4), .val (.ref b274), .val (.int (3 : Int32)), .val (.int v1), .val (.ref b554), .val (.ref b583), .val (.int (Int32.ofNat r4)), .val (.int v2)] [(.int (1 : Int32))])) _
        refine XS.goto X626.here hx rfl (pc0 := 224) (pc' := 228) rfl (hb hby at_224) (by decide) (by decide) ?_
        subst hv3
        exact kt
      · rw [if_neg hc654] at hv3
        refine XS.icmpYes X626.here hx rfl (pc0 := 220) (pc' := 227) rfl (hb hby at_220) rfl (feq hc654).2 (by decide) (by decide) ?_
        show Steps p.tables e below (T626.setTop (mkF m 227 #[.val (.int p0), .val (.int p1), .val (.int p2), .val (.int p3), .val (.int p4), .val (.ref b274), .val (.int (3 : Int32)), .val (.int v1), .val (.ref b554), .val (.ref b583), .val (.int (Int32.ofNat r4)), .val (.int v2)] [])) _
        refine XS.iconst X626.here hx rfl (hb hby at_227) ?_
        subst hv3
        exact kt
    have hfin : v3 = 1 := (own_plain3 p0 p1 p2 p3 p4 u r1 r2 r3 r4 v1 hv1 v2 hv2 v3 hv3 hr1 hr2 hr3 br1 br2 br3 hr4 br4)
    obtain ⟨fs, hr, hrun, hended, hEW⟩ := X626.leaveW hS589 Y626 (v := some (.int (v3 &&& 1))) (fun h => by rw [Bd.returns] at h; cases h)
    refine ⟨_, _, pre655 _ ?_, hrun, hended, _, _, rfl, ?_, hEW.1, hEW.2.1, hEW.2.2.1, hEW.2.2.2.mono (by decide) (by decide)⟩
    · exact retN X626 hx (t := .boolean) Bd.returns (by simp) (hb hby at_228) hr
    · exact ⟨by rw [hfin]; rfl, N626⟩
set_option maxRecDepth 65536 in
set_option maxHeartbeats 40000000 in
theorem comes_1 {Post : Tables → Env → Array Value → State → Outcome → State → Prop} (hpost : ∀ tb e args s v u, (limb_1_1.after args s (.returned v) u = true ∧ limb_1_2.after args s (.returned v) u = true ∧ True) → ReturnedEndW s (.returned v) u (Jvm.fieldLocs frame_1_writes args s ++ Jvm.arrayLocs frame_1_arrays args s ++ Jvm.staticLocs frame_1_statics s) 24 1152 → Post tb e args s (.returned v) u) :
    ArmFor flags0 classFile x code maxLocals ret World_1 tables_1 room_1 Calls_1 rest_1 Pre_1 Post := by
  intro l hfl _ _ p e ha hc hk s m args below hf hA hF happ hP
  obtain ⟨hcalls, hrest, hpre⟩ := hP
  obtain ⟨-, -, -, hnamed, -, -, -, hat⟩ := (Spec.applies_iff hf).mp happ
  obtain ⟨hg, hn⟩ := and_e (Cond.before_iff.mp (show (Jvm.Cond.and given_1 narrow_1).before args s = true from hpre))
  obtain ⟨hcount, hg0⟩ := and_e hg
  obtain ⟨ha0, hg1⟩ := and_e hg0
  obtain ⟨ha1, hg2⟩ := and_e hg1
  obtain ⟨ha2, hg3⟩ := and_e hg2
  obtain ⟨ha3, hg4⟩ := and_e hg3
  have ha4 := hg4
  obtain ⟨w0, w1, w2, w3, w4, rfl⟩ : ∃ w0 w1 w2 w3 w4 : Value, args = #[w0, w1, w2, w3, w4] := by
    have hs : args.size = 5 := by simpa [Cond.value, given_1] using hcount
    obtain ⟨L⟩ := args
    match L, hs with
    | [w0, w1, w2, w3, w4], _ => exact ⟨w0, w1, w2, w3, w4, rfl⟩
  have hw := fun d (hd : d ∈ tables_1) => atoms_spec (ws := Jvm.Cond.code x code maxLocals ret :: tables_1) hat d (List.mem_cons_of_mem _ hd)
  obtain ⟨i0, ei0⟩ := is_v ha0
  obtain rfl : w0 = (.int i0) := Option.some.inj ei0
  obtain ⟨i1, ei1⟩ := is_v ha1
  obtain rfl : w1 = (.int i1) := Option.some.inj ei1
  obtain ⟨i2, ei2⟩ := is_v ha2
  obtain rfl : w2 = (.int i2) := Option.some.inj ei2
  obtain ⟨i3, ei3⟩ := is_v ha3
  obtain rfl : w3 = (.int i3) := Option.some.inj ei3
  obtain ⟨i4, ei4⟩ := is_v ha4
  obtain rfl : w4 = (.int i4) := Option.some.inj ei4
  obtain ⟨n, o, h1, h2, h3, _, L, rfl, ⟨rfl, N⟩, hq⟩ := rm0 l s _ hw tables_1 i0 i1 i2 i3 i4 s.heap s.heap.size (Nat.le_refl _) p e ha hc hk s m _ below hf ((Spec.applies_iff_loose hf).mp happ).1 ⟨rfl, State.Warmed39.refl s, rfl⟩ trivial
  refine ⟨n, _, h1, h2, h3, hpost _ _ _ _ _ _ ⟨Cond.after_iff.mpr rfl, Cond.after_iff.mpr (eq_i res_at (Term.int_eval (1)) rfl), trivial⟩ ⟨hq.1, hq.2.1, hq.2.2.1, (hq.2.2.2.sift fun y hy => Or.inr (N y hy)).mono (by decide) (by decide)⟩⟩
theorem main_1_1 : Claimed_1_1 := comes_1 fun _ _ _ _ _ _ h hF => ⟨h.1, hF⟩
theorem main_1_2 : Claimed_1_2 := comes_1 fun _ _ _ _ _ _ h hF => ⟨h.2.1, hF⟩
end Jvm.Pilot.@@N@@
namespace Jvm.Pilot.@@N@@
open Jvm Jvm.ClassFile Sem Op Lib Jvm.Free Jvm.Stand Jvm.Pilot.@@N@@.Jvm.D
/-! MADE BY PROGRAM (witnessworld.py) out of the Statement's table words and the real class files: 14 classes; the members and pool entries that the words name. The judged class is class 1, her method 3. -/
namespace start1
open Jvm.ClassFile
def u (s : String) : CpInfo := .utf8 (stringToUtf16 s)
/-- a pool by its gaps: so many unusable entries, then the entry; so many at the end -/
def gap : Nat → List CpInfo → List CpInfo
  | 0, r => r
  | n + 1, r => .unusable :: gap n r
def poolList (es : List (Nat × CpInfo)) (last : Nat) : List CpInfo := es.foldr (fun e r => gap e.1 (e.2 :: r)) (gap last [])
def pool (es : List (Nat × CpInfo)) (last : Nat) : Array CpInfo := ⟨poolList es last⟩
def fileOf (pool : Array CpInfo) (this : Nat) (attrs : Array Attribute := #[]) (ms : Array MethodInfo := #[]) (fl : Nat := 33) (sup : Nat := 0) (ifs : Array Nat := #[]) (fds : Array FieldInfo := #[]) : ClassFile where
  minorVersion := 0
  majorVersion := 65
  constantPool := pool
  accessFlags := fl
  thisClass := this
  superClass := sup
  interfaces := ifs
  fields := fds
  methods := ms
  attributes := attrs
def plain (name : String) (sup : Option ClassId) : Class where
  name := name
  kind := .ordinary
  loader := none
  accessFlags := 33
  super := sup
  interfaces := #[]
  cf := none
  fields := #[]
  methods := #[]
  instanceTypes := #[]
  staticTypes := #[]
  resolved := #[]
  callSites := []
  init := .initialized
  statics := none
  mirror := none

def pool0 : Array CpInfo := pool [(5, u "<init>"), (0, u "()V"), (1, .class_ 10), (1, u "java/lang/Object")] 113

def k0c0 : Code := { maxStack := 0, maxLocals := 1, code := object_method_1_code, exceptionTable := #[], attributes := #[] }
def k0m0 : Method := { name := "<init>", desc := "()V", sig := { parameters := [], returnType := none }, accessFlags := 1, code := some k0c0 }
/-- java/lang/Object -/
def k0 : Class := { plain "java/lang/Object" none with
  accessFlags := 33
  interfaces := #[]
  cf := some (fileOf pool0 8 #[] #[{ accessFlags := 1, nameIndex := 5, descriptorIndex := 6, attributes := #[] }] 33 0 #[] #[])
  fields := #[]
  methods := #[k0m0]
  instanceTypes := #[]
  staticTypes := #[]
  resolved := Array.replicate 124 none
  statics := none }

def pool1 : Array CpInfo := pool [(2, .class_ 4), (1, u "java/lang/Object"), (0, u "<init>"), (0, u "()V"), (0, .methodref 8 9), (0, .class_ 10), (0, .nameAndType 11 12), (0, u "com/example/xcu/xcu/UnitStringExtendPinLaw"), (0, u "sAt"), (0, u "([IIII)I"), (0, .integer 2147483647), (0, .class_ 15), (0, u "com/example/xcu/xcu/UnitString$Part"), (0, .string 17), (0, u "p"), (0, .methodref 14 19), (0, .nameAndType 5 20), (0, u "(Ljava/lang/String;[I)V"), (0, .methodref 14 22), (0, .nameAndType 23 24), (0, u "extend"), (0, u "(II)I"), (0, .methodref 8 26), (0, .nameAndType 27 28), (0, u "fits"), (0, u "([IIII)Z"), (3, u "law"), (0, u "(IIIII)Z")] 8

def k1m0 : Method := { name := "<init>", desc := "()V", sig := { parameters := [], returnType := none }, accessFlags := 1, code := none }
def k1c1 : Code := { maxStack := 2, maxLocals := 4, code := method_2_code, exceptionTable := #[], attributes := #[] }
def k1m1 : Method := { name := "sAt", desc := "([IIII)I", sig := { parameters := [(.array .int), .int, .int, .int], returnType := some .int }, accessFlags := 10, code := some k1c1 }
def k1c2 : Code := { maxStack := 6, maxLocals := 5, code := method_3_code, exceptionTable := #[], attributes := #[] }
def k1m2 : Method := { name := "fits", desc := "([IIII)Z", sig := { parameters := [(.array .int), .int, .int, .int], returnType := some .boolean }, accessFlags := 10, code := some k1c2 }
def k1c3 : Code := { maxStack := 5, maxLocals := 12, code := code, exceptionTable := #[], attributes := #[] }
def k1m3 : Method := { name := "law", desc := "(IIIII)Z", sig := { parameters := [.int, .int, .int, .int, .int], returnType := some .boolean }, accessFlags := 9, code := some k1c3 }
/-- com/example/xcu/xcu/UnitStringExtendPinLaw -/
def k1 : Class := { plain "com/example/xcu/xcu/UnitStringExtendPinLaw" (some 0) with
  accessFlags := 49
  interfaces := #[]
  cf := some (fileOf pool1 8 #[] #[{ accessFlags := 1, nameIndex := 5, descriptorIndex := 6, attributes := #[] }, { accessFlags := 10, nameIndex := 11, descriptorIndex := 12, attributes := #[] }, { accessFlags := 10, nameIndex := 27, descriptorIndex := 28, attributes := #[] }, { accessFlags := 9, nameIndex := 32, descriptorIndex := 33, attributes := #[] }] 49 2 #[] #[])
  fields := #[]
  methods := #[k1m0, k1m1, k1m2, k1m3]
  instanceTypes := #[]
  staticTypes := #[]
  resolved := Array.replicate 42 none
  statics := none }

def pool2 : Array CpInfo := pool [(1, .methodref 2 3), (0, .class_ 4), (0, .nameAndType 5 6), (0, u "java/lang/Object"), (0, u "<init>"), (0, u "()V"), (0, .fieldref 8 9), (0, .class_ 10), (0, .nameAndType 11 12), (0, u "com/example/xcu/xcu/UnitString$Part"), (0, u "text"), (0, u "Ljava/lang/String;"), (0, .fieldref 8 14), (0, .nameAndType 15 16), (0, u "units"), (0, u "[I"), (0, .fieldref 8 18), (0, .nameAndType 19 16), (0, u "borders"), (0, .methodref 8 21), (0, .nameAndType 22 23), (0, u "extend"), (0, u "(II)I"), (6, u "(Ljava/lang/String;[I)V"), (16, .class_ 48), (0, u "com/example/xcu/xcu/UnitString")] 2

def k2c0 : Code := { maxStack := 6, maxLocals := 4, code := prog_75_method_1_code, exceptionTable := #[], attributes := #[] }
def k2m0 : Method := { name := "<init>", desc := "(Ljava/lang/String;[I)V", sig := { parameters := [(.object "java/lang/String"), (.array .int)], returnType := none }, accessFlags := 0, code := some k2c0 }
def k2c1 : Code := { maxStack := 3, maxLocals := 4, code := prog_75_method_5_code, exceptionTable := #[], attributes := #[] }
def k2m1 : Method := { name := "extend", desc := "(II)I", sig := { parameters := [.int, .int], returnType := some .int }, accessFlags := 0, code := some k2c1 }
/-- com/example/xcu/xcu/UnitString$Part -/
def k2 : Class := { plain "com/example/xcu/xcu/UnitString$Part" (some 0) with
  accessFlags := 48
  interfaces := #[]
  cf := some (fileOf pool2 8 #[.nestHost 47] #[{ accessFlags := 0, nameIndex := 5, descriptorIndex := 30, attributes := #[] }, { accessFlags := 0, nameIndex := 22, descriptorIndex := 23, attributes := #[] }] 48 2 #[] #[{ accessFlags := 18, nameIndex := 11, descriptorIndex := 12, attributes := #[] }, { accessFlags := 18, nameIndex := 15, descriptorIndex := 16, attributes := #[] }, { accessFlags := 18, nameIndex := 19, descriptorIndex := 16, attributes := #[] }])
  fields := #[{ name := "text", type := (.object "java/lang/String"), accessFlags := 18, slot := 0, constantValue := 0 }, { name := "units", type := (.array .int), accessFlags := 18, slot := 1, constantValue := 0 }, { name := "borders", type := (.array .int), accessFlags := 18, slot := 2, constantValue := 0 }]
  methods := #[k2m0, k2m1]
  instanceTypes := #[(.object "java/lang/String"), (.array .int), (.array .int)]
  staticTypes := #[]
  resolved := Array.replicate 51 none
  statics := none }

def pool3 : Array CpInfo := pool [(1, .class_ 2), (0, u "java/io/Serializable"), (0, .class_ 4), (0, u "java/lang/Object")] 2

/-- java/io/Serializable -/
def k3 : Class := { plain "java/io/Serializable" (some 0) with
  accessFlags := 1537
  interfaces := #[]
  cf := some (fileOf pool3 1 #[] #[] 1537 3 #[] #[])
  fields := #[]
  methods := #[]
  instanceTypes := #[]
  staticTypes := #[]
  resolved := Array.replicate 7 none
  statics := none }

def pool4 : Array CpInfo := pool [(1, .class_ 2), (0, u "java/lang/Comparable"), (0, .class_ 4), (0, u "java/lang/Object")] 7

/-- java/lang/Comparable -/
def k4 : Class := { plain "java/lang/Comparable" (some 0) with
  accessFlags := 1537
  interfaces := #[]
  cf := some (fileOf pool4 1 #[] #[] 1537 3 #[] #[])
  fields := #[]
  methods := #[]
  instanceTypes := #[]
  staticTypes := #[]
  resolved := Array.replicate 12 none
  statics := none }

def pool5 : Array CpInfo := pool [(2, .class_ 4), (1, u "java/lang/CharSequence"), (42, .class_ 48), (0, u "java/lang/CharSequence$1CodePointIterator"), (10, .class_ 60), (0, u "java/lang/CharSequence$1CharIterator"), (5, .class_ 67), (0, u "java/lang/Object")] 63

/-- java/lang/CharSequence -/
def k5 : Class := { plain "java/lang/CharSequence" (some 0) with
  accessFlags := 1537
  interfaces := #[]
  cf := some (fileOf pool5 2 #[.nestMembers #[47, 59]] #[] 1537 66 #[] #[])
  fields := #[]
  methods := #[]
  instanceTypes := #[]
  staticTypes := #[]
  resolved := Array.replicate 131 none
  statics := none }

def pool6 : Array CpInfo := pool [(1, .class_ 2), (0, u "java/lang/constant/Constable"), (0, .class_ 4), (0, u "java/lang/Object")] 6

/-- java/lang/constant/Constable -/
def k6 : Class := { plain "java/lang/constant/Constable" (some 0) with
  accessFlags := 1537
  interfaces := #[]
  cf := some (fileOf pool6 1 #[] #[] 1537 3 #[] #[])
  fields := #[]
  methods := #[]
  instanceTypes := #[]
  staticTypes := #[]
  resolved := Array.replicate 11 none
  statics := none }

def pool7 : Array CpInfo := pool [(1, .class_ 2), (0, u "java/lang/constant/ConstantDesc"), (0, .class_ 4), (0, u "java/lang/Object")] 32

/-- java/lang/constant/ConstantDesc -/
def k7 : Class := { plain "java/lang/constant/ConstantDesc" (some 0) with
  accessFlags := 1537
  interfaces := #[]
  cf := some (fileOf pool7 1 #[] #[] 1537 3 #[] #[])
  fields := #[]
  methods := #[]
  instanceTypes := #[]
  staticTypes := #[]
  resolved := Array.replicate 37 none
  statics := none }

def pool8 : Array CpInfo := pool [(2, .class_ 4), (1, u "java/lang/Object"), (0, u "<init>"), (0, u "()V"), (3, .class_ 12), (1, u "java/lang/String"), (0, u "value"), (0, u "[B"), (2, u "coder"), (0, u "B"), (2, u "hash"), (0, u "I"), (2, u "hashIsZero"), (0, u "Z"), (13, u "COMPACT_STRINGS"), (534, .class_ 576), (0, u "java/lang/CharSequence"), (22, u "CASE_INSENSITIVE_ORDER"), (0, u "Ljava/util/Comparator;"), (500, u "serialPersistentFields"), (0, u "[Ljava/io/ObjectStreamField;"), (0, .class_ 1104), (0, u "java/lang/String$CaseInsensitiveComparator"), (1, .class_ 1107), (0, u "java/io/Serializable"), (0, .class_ 1109), (0, u "java/lang/Comparable"), (0, .class_ 1111), (0, u "java/lang/constant/Constable"), (0, .class_ 1113), (0, u "java/lang/constant/ConstantDesc"), (2, u "serialVersionUID"), (0, u "J"), (3, u "REPL"), (0, u "C"), (2, u "LATIN1"), (1, u "UTF16")] 323

def k8m0 : Method := { name := "<init>", desc := "()V", sig := { parameters := [], returnType := none }, accessFlags := 1, code := none }
/-- java/lang/String -/
def k8 : Class := { plain "java/lang/String" (some 0) with
  accessFlags := 49
  interfaces := #[3, 4, 5, 6, 7]
  cf := some (fileOf pool8 10 #[.nestMembers #[1103]] #[{ accessFlags := 1, nameIndex := 5, descriptorIndex := 6, attributes := #[] }] 49 2 #[1106, 1108, 575, 1110, 1112] #[{ accessFlags := 18, nameIndex := 13, descriptorIndex := 14, attributes := #[] }, { accessFlags := 18, nameIndex := 17, descriptorIndex := 18, attributes := #[] }, { accessFlags := 2, nameIndex := 21, descriptorIndex := 22, attributes := #[] }, { accessFlags := 2, nameIndex := 25, descriptorIndex := 26, attributes := #[] }, { accessFlags := 26, nameIndex := 1116, descriptorIndex := 1117, attributes := #[] }, { accessFlags := 24, nameIndex := 40, descriptorIndex := 26, attributes := #[] }, { accessFlags := 26, nameIndex := 1101, descriptorIndex := 1102, attributes := #[] }, { accessFlags := 26, nameIndex := 1121, descriptorIndex := 1122, attributes := #[] }, { accessFlags := 25, nameIndex := 599, descriptorIndex := 600, attributes := #[] }, { accessFlags := 24, nameIndex := 1125, descriptorIndex := 18, attributes := #[] }, { accessFlags := 24, nameIndex := 1127, descriptorIndex := 18, attributes := #[] }])
  fields := #[{ name := "value", type := (.array .byte), accessFlags := 18, slot := 0, constantValue := 0 }, { name := "coder", type := .byte, accessFlags := 18, slot := 1, constantValue := 0 }, { name := "hash", type := .int, accessFlags := 2, slot := 2, constantValue := 0 }, { name := "hashIsZero", type := .boolean, accessFlags := 2, slot := 3, constantValue := 0 }, { name := "serialVersionUID", type := .long, accessFlags := 26, slot := 0, constantValue := 0 }, { name := "COMPACT_STRINGS", type := .boolean, accessFlags := 24, slot := 1, constantValue := 0 }, { name := "serialPersistentFields", type := (.array (.object "java/io/ObjectStreamField")), accessFlags := 26, slot := 2, constantValue := 0 }, { name := "REPL", type := .char, accessFlags := 26, slot := 3, constantValue := 0 }, { name := "CASE_INSENSITIVE_ORDER", type := (.object "java/util/Comparator"), accessFlags := 25, slot := 4, constantValue := 0 }, { name := "LATIN1", type := .byte, accessFlags := 24, slot := 5, constantValue := 0 }, { name := "UTF16", type := .byte, accessFlags := 24, slot := 6, constantValue := 0 }]
  methods := #[k8m0]
  instanceTypes := #[(.array .byte), .byte, .int, .boolean]
  staticTypes := #[.long, .boolean, (.array (.object "java/io/ObjectStreamField")), .char, (.object "java/util/Comparator"), .byte, .byte]
  resolved := Array.replicate 1451 none
  statics := none }

def pool9 : Array CpInfo := pool [(1, u "java/lang/Cloneable"), (0, .class_ 1), (0, u "java/lang/Object"), (0, .class_ 3)] 3

/-- java/lang/Cloneable -/
def k9 : Class := { plain "java/lang/Cloneable" (some 0) with
  accessFlags := 1537
  interfaces := #[]
  cf := some (fileOf pool9 2 #[] #[] 1537 4 #[] #[])
  fields := #[]
  methods := #[]
  instanceTypes := #[]
  staticTypes := #[]
  resolved := Array.replicate 8 none
  statics := none }

/-- the primitive byte -/
def k10 : Class := { plain "byte" none with kind := .primitive 'B', accessFlags := 0x411 }
/-- [B -/
def k11 : Class := { plain "[B" (some 0) with kind := .array 10 .byte, interfaces := #[9, 3], accessFlags := 1041 }

/-- the primitive int -/
def k12 : Class := { plain "int" none with kind := .primitive 'I', accessFlags := 0x411 }
/-- [I -/
def k13 : Class := { plain "[I" (some 0) with kind := .array 12 .int, interfaces := #[9, 3], accessFlags := 1041 }

def heap : Heap := #[]
def classes : Array Class := #[k0, k1, k2, k3, k4, k5, k6, k7, k8, k9, k10, k11, k12, k13]
def interned : List (Array UInt16 × Addr) := []
def slotsUsed : Nat := 0
def theMethod : MethodId := ⟨1, 3⟩
def args0 : Array Value := #[.int 5, .int 5, .int 5, .int 5, .int 5]
def aboutOver (below : List Frame) : State where
  vm := { classes := classes, interned := interned.toArray }
  heap := heap
  slotsUsed := slotsUsed
  threads := #[{ frames := .invoking theMethod args0 :: below }]
def below0 : List Frame := [.native { method := ⟨0, 0⟩, args := #[] }]
def about1 : State := aboutOver below0
def p0 : Program := .bare "" "" ""
def e0 : Env := launch0.env 0 0 0
theorem w_frames : about1.frames = Frame.invoking theMethod args0 :: below0 := rfl
set_option maxRecDepth 65536 in
theorem w_args : argsFit about1.vm theMethod args0 = true := by decide +kernel
set_option maxRecDepth 65536 in
theorem w_heap : heapFits about1 = true := by decide +kernel
set_option maxRecDepth 65536 in
theorem w_runnable : about1.curStatus? = some .runnable := by decide +kernel
set_option maxRecDepth 65536 in
theorem w_alone : about1.alone = true := by decide +kernel
set_option maxRecDepth 65536 in
theorem w_named : about1.methodNamed? x = some theMethod := by decide +kernel
set_option maxRecDepth 65536 in
theorem w_hears : about1.hears theMethod below0 = true := by decide +kernel
set_option maxRecDepth 65536 in
theorem w_ripe : about1.ripe theMethod args0 below0 = true := by decide +kernel
theorem w_running : about1.status = .running := rfl
set_option maxRecDepth 65536 in
theorem w_room : about1.hasRoom e0.platform room_1 = true :=
  launch0.hasRoom_least _ room_1 (by decide +kernel) (by decide +kernel) (by decide +kernel) (by decide +kernel) (by decide +kernel) (by decide +kernel)
theorem allAtoms_all (ts : List Jvm.Cond) (a : Array Jvm.Value) (st : Jvm.State) : (allAtoms ts).before a st = ts.all (fun c => c.before a st) := by
  induction ts with
  | nil => rfl
  | cons c t ih =>
    show (Jvm.Cond.and c (allAtoms t)).before a st = _
    rw [Jvm.Cond.before_and, ih, List.all_cons]
def words1 : List Jvm.Cond := Jvm.Cond.code x code maxLocals ret :: tables_1
/-- a 'code' word, met by the world's own term for the bytes: nothing is compared byte by byte -/
theorem code_word {y : MethodName} {bytes : ByteArray} {mx : Nat} {rt : Option FieldType} {a : Array Value} {s : State} {m : MethodId} {meth : Method} {c : Code} (h1 : s.methodNamed? y = some m) (h2 : s.vm.method? m = some meth) (h3 : meth.code = some c) (h4 : c.code = bytes)
    (h5 : (c.maxLocals == mx && c.exceptionTable.isEmpty && decide (c.maxStack ≤ mostOperands) && decide (meth.sig.returnType = rt) && !meth.locks && decide (parseMethodDescriptor y.desc = some meth.sig)) = true) : (Jvm.Cond.code y bytes mx rt).before a s = true := by
  simp only [Bool.and_eq_true, beq_iff_eq, Bool.not_eq_true', decide_eq_true_eq] at h5
  obtain ⟨⟨⟨⟨⟨g1, g2⟩, g3⟩, g4⟩, g5⟩, g6⟩ := h5
  simp [Cond.before, Cond.holds, Cond.value, h1, h2, h3, h4, g1, g2, g3, g4, g5, g6]
def isCode : Jvm.Cond → Bool
  | .code _ _ _ _ => true
  | _ => false
theorem all_split {L : List Jvm.Cond} {P : Jvm.Cond → Bool} (h1 : L.all (fun c => isCode c || P c) = true) (h2 : ∀ c ∈ L.filter isCode, P c = true) : L.all P = true := by
  refine List.all_eq_true.mpr fun c hc => ?_
  have h := List.all_eq_true.mp h1 c hc
  rcases Bool.eq_false_or_eq_true (isCode c) with hi | hi
  · exact h2 c (List.mem_filter.mpr ⟨hc, hi⟩)
  · simpa [hi] using h
set_option maxRecDepth 65536 in
theorem w_c0 : (Jvm.Cond.code x code maxLocals ret).before args0 about1 = true := code_word (m := ⟨1, 3⟩) (meth := k1m3) (c := k1c3) (by decide +kernel) rfl rfl rfl (by decide +kernel)
set_option maxRecDepth 65536 in
theorem w_c1 : (Jvm.Cond.code ({ cls := "com/example/xcu/xcu/UnitString$Part", name := "<init>", desc := "(Ljava/lang/String;[I)V" } : Jvm.MethodName) prog_75_method_1_code (4 : Nat) (Option.none : Option Jvm.ClassFile.FieldType)).before args0 about1 = true := code_word (m := ⟨2, 0⟩) (meth := k2m0) (c := k2c0) (by decide +kernel) rfl rfl rfl (by decide +kernel)
set_option maxRecDepth 65536 in
theorem w_c2 : (Jvm.Cond.code ({ cls := "java/lang/Object", name := "<init>", desc := "()V" } : Jvm.MethodName) object_method_1_code (1 : Nat) (Option.none : Option Jvm.ClassFile.FieldType)).before args0 about1 = true := code_word (m := ⟨0, 0⟩) (meth := k0m0) (c := k0c0) (by decide +kernel) rfl rfl rfl (by decide +kernel)
set_option maxRecDepth 65536 in
theorem w_c3 : (Jvm.Cond.code ({ cls := "com/example/xcu/xcu/UnitString$Part", name := "extend", desc := "(II)I" } : Jvm.MethodName) prog_75_method_5_code (4 : Nat) (Option.some Jvm.ClassFile.FieldType.int)).before args0 about1 = true := code_word (m := ⟨2, 1⟩) (meth := k2m1) (c := k2c1) (by decide +kernel) rfl rfl rfl (by decide +kernel)
set_option maxRecDepth 65536 in
theorem w_c4 : (Jvm.Cond.code ({ cls := "com/example/xcu/xcu/UnitStringExtendPinLaw", name := "fits", desc := "([IIII)Z" } : Jvm.MethodName) method_3_code (5 : Nat) (Option.some Jvm.ClassFile.FieldType.boolean)).before args0 about1 = true := code_word (m := ⟨1, 2⟩) (meth := k1m2) (c := k1c2) (by decide +kernel) rfl rfl rfl (by decide +kernel)
set_option maxRecDepth 65536 in
theorem w_c5 : (Jvm.Cond.code ({ cls := "com/example/xcu/xcu/UnitStringExtendPinLaw", name := "sAt", desc := "([IIII)I" } : Jvm.MethodName) method_2_code (4 : Nat) (Option.some Jvm.ClassFile.FieldType.int)).before args0 about1 = true := code_word (m := ⟨1, 1⟩) (meth := k1m1) (c := k1c1) (by decide +kernel) rfl rfl rfl (by decide +kernel)
def codes1 : List Jvm.Cond := [Jvm.Cond.code x code maxLocals ret, Jvm.Cond.code ({ cls := "com/example/xcu/xcu/UnitString$Part", name := "<init>", desc := "(Ljava/lang/String;[I)V" } : Jvm.MethodName) prog_75_method_1_code (4 : Nat) (Option.none : Option Jvm.ClassFile.FieldType), Jvm.Cond.code ({ cls := "java/lang/Object", name := "<init>", desc := "()V" } : Jvm.MethodName) object_method_1_code (1 : Nat) (Option.none : Option Jvm.ClassFile.FieldType), Jvm.Cond.code ({ cls := "com/example/xcu/xcu/UnitString$Part", name := "extend", desc := "(II)I" } : Jvm.MethodName) prog_75_method_5_code (4 : Nat) (Option.some Jvm.ClassFile.FieldType.int), Jvm.Cond.code ({ cls := "com/example/xcu/xcu/UnitStringExtendPinLaw", name := "fits", desc := "([IIII)Z" } : Jvm.MethodName) method_3_code (5 : Nat) (Option.some Jvm.ClassFile.FieldType.boolean), Jvm.Cond.code ({ cls := "com/example/xcu/xcu/UnitStringExtendPinLaw", name := "sAt", desc := "([IIII)I" } : Jvm.MethodName) method_2_code (4 : Nat) (Option.some Jvm.ClassFile.FieldType.int)]
set_option maxRecDepth 65536 in
theorem codes_eq : words1.filter isCode = codes1 := rfl
theorem w_codes : ∀ c ∈ words1.filter isCode, c.before args0 about1 = true := by
  rw [codes_eq]
  intro c hc
  simp only [codes1, List.mem_cons, List.not_mem_nil, or_false] at hc
  rcases hc with rfl | rfl | rfl | rfl | rfl | rfl
  · exact w_c0
  · exact w_c1
  · exact w_c2
  · exact w_c3
  · exact w_c4
  · exact w_c5
set_option maxRecDepth 65536 in
theorem w_t1 : (words1.take 24).all (fun c => isCode c || c.before args0 about1) = true := by decide +kernel
set_option maxRecDepth 65536 in
theorem w_t2 : (words1.drop 24).all (fun c => isCode c || c.before args0 about1) = true := by decide +kernel
theorem w_tables : (allAtoms (Jvm.Cond.code x code maxLocals ret :: tables_1)).before args0 about1 = true := by
  rw [allAtoms_all]
  show words1.all (fun c => c.before args0 about1) = true
  refine all_split ?_ w_codes
  rw [← List.take_append_drop 24 words1, List.all_append, w_t1, w_t2]
  rfl
set_option maxRecDepth 65536 in
theorem w_case : (Jvm.Cond.and given_1 narrow_1).before args0 about1 = true := by decide +kernel
theorem w_applies : (headSpec (Jvm.Cond.code x code maxLocals ret :: tables_1) room_1).applies x e0.platform about1 = true :=
  (Spec.applies_iff w_frames).mpr ⟨w_running, w_runnable, w_alone, w_named, w_hears, w_ripe, w_room, w_tables⟩
theorem atStart : AtStart classFile x code maxLocals ret World_1 tables_1 room_1 Calls_1 rest_1 Pre_1 launch0 p0 e0 about1 theMethod args0 below0 :=
  ⟨lists_1, trivial, launch0.admits_env _ _ _, launch0.least_env, fairChoices_fair.cas, fairChoices_fair.clock, w_frames, w_args, w_heap, w_applies, trivial, trivial, w_case⟩
end start1
theorem witness_1 : WitnessClaimed_1 := ⟨start1.p0, start1.e0, start1.about1, start1.theMethod, start1.args0, start1.below0, start1.atStart⟩
end Jvm.Pilot.@@N@@
