import JvmDerived
import JvmDerived.Pilot.@@N@@Statement
import JvmDerived.Pilot.@@N@@Code
set_option linter.unusedVariables false
set_option linter.unusedSimpArgs false
@@BLOCK:NumsL.lean.txt@@
namespace Jvm.RoadKit
open Sem ClassFile Op Lib Jvm.Stand Jvm.Free Jvm.LawKit
section New
variable {p : Program} {l : Launch} {e : Env} {R : Room} {s : State} {m : MethodId} {args : Array Value} {below : List Frame} {meth : Method} {c : Code} {T : State} {locs : List Loc} {cells slots : Nat}
theorem retI (X : Stand p l e R s m args below meth c T locs cells slots) (hx : p.tables.exec = Jvm.exec) {pc : Nat} {Ls : Array Slot} {z : Int32} {rest : List Value} (hret : meth.sig.returnType = some .int) (hd : decode c.code pc = .ok (.ireturn, 1)) {fs : List Frame}
    (hl : ∀ (f : JFrame) (acts : List Action), f.method = m → f.locked = none → f.entered = [] → (doReturn e (T.setTop f) acts (some (.int z))).1 = T.setFrames fs) : Steps p.tables e below (T.setTop (mkF m pc Ls (.int z :: rest))) (T.setFrames fs) := by
  have hm' : T.vm.method? m = some meth := X.method'
  have hn : narrow .int (.int z) = .int z := rfl
  show Steps p.tables e below (T.setTop { method := m, pc := pc, locals := Ls, stack := _ :: rest, locked := none }) _
  jvm_step X.here [X.here.top, hx, hd, hm', hret, hn]
  first | (intro acts; rw [hl _ acts rfl rfl rfl]) | rw [hl _ _ rfl rfl rfl]
  exact Steps.refl _
end New
end Jvm.RoadKit
namespace Jvm.Pilot.@@N@@
open Jvm Jvm.ClassFile Sem Op Lib Jvm.Free Jvm.Stand Jvm.LawKit Jvm.RoadKit Bundle Jvm.Pilot.@@N@@.Jvm.D
theorem own_lwN {x y : Int64} (h : ¬ x = y) : ¬ lcmpW x y = 0 := fun q => h ((lw_eq x y).mp q)
theorem own_lwE {x y : Int64} (h : x = y) : lcmpW x y = 0 := (lw_eq x y).mpr h
theorem own_lwL {x y : Int64} (h : x < y) : lcmpW x y < 0 := (lw_lt x y).mpr h
theorem own_lwM {x y : Int64} (h : ¬ x < y) : ¬ lcmpW x y < 0 := fun q => h ((lw_lt x y).mp q)
theorem own_lwG {x y : Int64} (h : y < x) : 0 < lcmpW x y := (lw_gt x y).mpr h
theorem own_lwH {x y : Int64} (h : ¬ y < x) : ¬ 0 < lcmpW x y := fun q => h ((lw_gt x y).mp q)
theorem own_F {Z : State} {h : Heap} {a : Addr} {C n d : String} {v w : Value} (q : v = w) (F : Fld Z h a C n d v) : Fld Z h a C n d w := q ▸ F
theorem own_rI {x y : Int32} (q : x = y) : (some (Value.int x)) = some (.int y) := by rw [q]
theorem own_rJ {x y : Int64} (q : x = y) : (some (Value.long x)) = some (.long y) := by rw [q]
def own_Ar (Z : State) (h : Heap) (a : Addr) (ty : FieldType) (n : Nat) (f : Nat → Int32) : Prop := ∃ c : Cell, Arr Z h a c ty ∧ c.slots.size = n ∧ ∀ i, i < n → c.slots[i]? = some (.int (f i))
def own_up (f : Nat → Int32) (i : Nat) (x : Int32) : Nat → Int32 := fun k => if k = i then x else f k
theorem own_up_self (f : Nat → Int32) (i : Nat) (x : Int32) : own_up f i x i = x := if_pos rfl
theorem own_up_ne (f : Nat → Int32) {i k : Nat} (x : Int32) (h : k ≠ i) : own_up f i x k = f k := if_neg h
section OwnArr
variable {Z : State} {h h' : Heap} {a b : Addr} {ty : FieldType} {n : Nat} {f : Nat → Int32} {sl : Nat} {v : Value} {ws : List Addr}
theorem own_Ar.lt (F : own_Ar Z h a ty n f) : a < h.size := by obtain ⟨c, A, -⟩ := F; exact A.lt
theorem own_Ar.ext (F : own_Ar Z h a ty n f) (E : Ext h h') : own_Ar Z h' a ty n f := by obtain ⟨c, A, r⟩ := F; exact ⟨c, A.ext E, r⟩
theorem own_Ar.other (F : own_Ar Z h b ty n f) (W : Wr h h' a sl v) (q : b ≠ a) : own_Ar Z h' b ty n f := by obtain ⟨c, A, r⟩ := F; exact ⟨c, A.other W q, r⟩
theorem own_Ar.keep (F : own_Ar Z h a ty n f) (K : Keep h h' ws) (q : a ∉ ws) : own_Ar Z h' a ty n f := by obtain ⟨c, A, r⟩ := F; exact ⟨c, ⟨K.2.1 a c A.1 q, A.2⟩, r⟩
theorem own_Ar.wr {i : Nat} {x : Int32} (F : own_Ar Z h a ty n f) (W : Wr h h' a i (.int x)) (hi : i < n) : own_Ar Z h' a ty n (own_up f i x) := by
  obtain ⟨c, A, hs, H⟩ := F
  refine ⟨c.setSlot i (.int x), A.same W, by rw [sz_set]; exact hs, fun k hk => ?_⟩
  by_cases e : k = i
  · subst e; rw [own_up_self]; simp [Cell.setSlot, hs, hk]
  · rw [own_up_ne f x e]
    have q := H k hk
    simp only [Cell.setSlot]
    rw [Array.getElem?_setIfInBounds_ne (Ne.symm e)]; exact q
theorem own_Ar.mono {g : Nat → Int32} (F : own_Ar Z h a ty n f) (q : ∀ i, i < n → f i = g i) : own_Ar Z h a ty n g := by
  obtain ⟨c, A, hs, H⟩ := F
  exact ⟨c, A, hs, fun i hi => by rw [← q i hi]; exact H i hi⟩
theorem own_Ar.of {k : ClassId} {z : Int32} {vs : List Value} (F : Arv Z h a k ty z vs (.int 0)) (hz : z.toNatClampNeg = n) (q : ∀ i, i < n → vs.getD i (.int 0) = .int (f i)) : own_Ar Z h a ty n f := by
  obtain ⟨c, A, -, hs, -, H, -⟩ := F
  rw [hz] at hs
  exact ⟨c, A, hs, fun i hi => by rw [H i (by rw [hs]; exact hi), q i hi]⟩
variable {p : Program} {l : Launch} {e : Env} {R : Room} {s : State} {m : MethodId} {args : Array Value} {below : List Frame} {meth : Method} {c : Code} {T : State} {locs : List Loc} {cells slots : Nat}
theorem own_in {cl : Cell} {j : Int32} {i : Nat} (hs : cl.slots.size = n) (hj : ¬ j < 0 ∧ j.toNatClampNeg = i) (hi : i < n) : ¬ (j < 0 ∨ cl.slots.size ≤ j.toNatClampNeg) := by
  rw [hs, hj.2]; exact fun q => q.elim hj.1 (Nat.not_le.mpr hi)
theorem own_rdI (X : Stand p l e R s m args below meth c T locs cells slots) (hx : p.tables.exec = Jvm.exec) (hZ : Z.Warmed39 s.vm) (eT : T.heap = h) (F : own_Ar Z h a .int n f) {j : Int32} {i : Nat} (hj : ¬ j < 0 ∧ j.toNatClampNeg = i) (hi : i < n) {g : JFrame} (hg : g.method = m) {rest : List Value} (hs : g.stack = .int j :: .ref a :: rest) (hd : decode c.code g.pc = .ok (.iaload, 1))
    (target : State) (hr : Steps p.tables e below (T.setTop { g with pc := g.pc + 1, stack := .int (f i) :: rest }) target) : Steps p.tables e below (T.setTop g) target := by
  obtain ⟨cl, A, hsz, H⟩ := F
  exact X.iaload hx (v := .int (f i)) (by rw [eT]; exact A.1) (State.isArrayOf_alike hZ.alike A.2.1) A.2.2 (own_in hsz hj hi) (by rw [hj.2]; exact H i hi) hg hs hd target hr
theorem own_rdB (X : Stand p l e R s m args below meth c T locs cells slots) (hx : p.tables.exec = Jvm.exec) (hZ : Z.Warmed39 s.vm) (eT : T.heap = h) (F : own_Ar Z h a .byte n f) {j : Int32} {i : Nat} (hj : ¬ j < 0 ∧ j.toNatClampNeg = i) (hi : i < n) {g : JFrame} (hg : g.method = m) {rest : List Value} (hs : g.stack = .int j :: .ref a :: rest) (hd : decode c.code g.pc = .ok (.baload, 1))
    (target : State) (hr : Steps p.tables e below (T.setTop { g with pc := g.pc + 1, stack := .int (f i) :: rest }) target) : Steps p.tables e below (T.setTop g) target := by
  obtain ⟨cl, A, hsz, H⟩ := F
  exact X.baloadBytes hx (v := .int (f i)) (by rw [eT]; exact A.1) (State.isArrayOf_alike hZ.alike A.2.1) A.2.2 (own_in hsz hj hi) (by rw [hj.2]; exact H i hi) hg hs hd target hr
theorem own_len (X : Stand p l e R s m args below meth c T locs cells slots) (hx : p.tables.exec = Jvm.exec) (hZ : Z.Warmed39 s.vm) (eT : T.heap = h) (F : own_Ar Z h a ty n f) {z : Int32} (hz : n.toInt32 = z) {g : JFrame} (hg : g.method = m) {rest : List Value} (hs : g.stack = .ref a :: rest) (hd : decode c.code g.pc = .ok (.arraylength, 1))
    (target : State) (hr : Steps p.tables e below (T.setTop { g with pc := g.pc + 1, stack := .int z :: rest }) target) : Steps p.tables e below (T.setTop g) target := by
  obtain ⟨cl, A, hsz, H⟩ := F
  exact X.arraylength hx (by rw [eT]; exact A.1) (State.isArrayOf_alike hZ.alike A.2.1) hg hs hd target (by rw [hsz, hz]; exact hr)
theorem own_stI (X : Stand p l e R s m args below meth c T locs cells slots) (hx : p.tables.exec = Jvm.exec) (hZ : Z.Warmed39 s.vm) (eT : T.heap = h) (F : own_Ar Z h a .int n f) {j x : Int32} {i : Nat} (hj : ¬ j < 0 ∧ j.toNatClampNeg = i) (hi : i < n) {g : JFrame} (hg : g.method = m) {rest : List Value} (hs : g.stack = .int x :: .int j :: .ref a :: rest) (hd : decode c.code g.pc = .ok (.iastore, 1)) :
    ∃ T' h', Stand p l e R s m args below meth c T' (locs ++ [⟨a, i⟩]) cells slots ∧ T'.heap = h' ∧ Wr h h' a i (.int x) ∧ own_Ar Z h' a .int n (own_up f i x) ∧ ∀ target, Steps p.tables e below (T'.setTop { g with pc := g.pc + 1, stack := rest }) target → Steps p.tables e below (T.setTop g) target := by
  have F0 := F
  obtain ⟨cl, A, hsz, H⟩ := F
  obtain ⟨T', h', X', e', W', st⟩ := stI X hx hZ eT A (own_in hsz hj hi) hg hs hd
  rw [hj.2] at X' W'
  exact ⟨T', h', X', e', W', F0.wr W' hi, st⟩
theorem own_stB (X : Stand p l e R s m args below meth c T locs cells slots) (hx : p.tables.exec = Jvm.exec) (hZ : Z.Warmed39 s.vm) (eT : T.heap = h) (F : own_Ar Z h a .byte n f) {j x : Int32} {i : Nat} (hj : ¬ j < 0 ∧ j.toNatClampNeg = i) (hi : i < n) {g : JFrame} (hg : g.method = m) {rest : List Value} (hs : g.stack = .int x :: .int j :: .ref a :: rest) (hd : decode c.code g.pc = .ok (.bastore, 1)) :
    ∃ T' h', Stand p l e R s m args below meth c T' (locs ++ [⟨a, i⟩]) cells slots ∧ T'.heap = h' ∧ Wr h h' a i (.int (x.toInt8.toInt32)) ∧ own_Ar Z h' a .byte n (own_up f i (x.toInt8.toInt32)) ∧ ∀ target, Steps p.tables e below (T'.setTop { g with pc := g.pc + 1, stack := rest }) target → Steps p.tables e below (T.setTop g) target := by
  have F0 := F
  obtain ⟨cl, A, hsz, H⟩ := F
  obtain ⟨T', h', X', e', W', st⟩ := stB X hx hZ eT A (own_in hsz hj hi) hg hs hd
  rw [hj.2] at X' W'
  exact ⟨T', h', X', e', W', F0.wr W' hi, st⟩
end OwnArr
theorem own_n32 {i : Nat} (h : i < 2 ^ 31) : (Int32.ofNat i).toInt = i := Int32.toInt_ofNat_small h
theorem own_ltn {i k : Nat} (h : i ≤ 64) (h2 : k ≤ 64) : Int32.ofNat i < Int32.ofNat k ↔ i < k := by
  rw [Int32.lt_iff_toInt_lt, own_n32 (by omega), own_n32 (by omega)]
  omega
theorem own_of {k : Nat} (h : k ≤ 64) : ¬ Int32.ofNat k < 0 ∧ (Int32.ofNat k).toNatClampNeg = k := by
  refine ⟨?_, ?_⟩
  · rw [Int32.lt_iff_toInt_lt, own_n32 (by omega), Int32.toInt_zero]; omega
  · show (Int32.ofNat k).toInt.toNat = k
    rw [own_n32 (by omega)]; omega
theorem own_addn (a b : Nat) : Int32.ofNat a + Int32.ofNat b = Int32.ofNat (a + b) := (Int32.ofNat_add a b).symm
theorem own_add1 (a : Nat) : Int32.ofNat a + (1 : Int32) = Int32.ofNat (a + 1) := own_addn a 1
theorem own_dbl (a : Nat) : (2 : Int32) * Int32.ofNat a = Int32.ofNat (2 * a) := (Int32.ofNat_mul 2 a).symm
theorem own_hlfF : ∀ k : Fin 64, Int32.ofNat k.val / (2 : Int32) = Int32.ofNat (k.val / 2) ∧ Int32.ofNat k.val % (2 : Int32) = Int32.ofNat (k.val % 2) := by decide +kernel
theorem own_hlf {k : Nat} (h : k < 64) : Int32.ofNat k / (2 : Int32) = Int32.ofNat (k / 2) := (own_hlfF ⟨k, h⟩).1
theorem own_md {k : Nat} (h : k < 64) : Int32.ofNat k % (2 : Int32) = Int32.ofNat (k % 2) := (own_hlfF ⟨k, h⟩).2
theorem own_eqn {i k : Nat} (h : i ≤ 64) (h2 : k ≤ 64) : Int32.ofNat i = Int32.ofNat k ↔ i = k := by
  rw [← Int32.toInt_inj, own_n32 (by omega), own_n32 (by omega)]
  omega
def own_mx (a b : Int32) : Int32 := if a < b then b else a
def own_fix : Nat → (Nat → Int32) → Nat → (Nat → Int32)
  | 0, f, _ => f
  | k + 1, f, p => if p = 0 then f else own_fix k (own_up f p (own_mx (f (2 * p)) (f (2 * p + 1)))) (p / 2)
def own_st (L : Nat) (f : Nat → Int32) (b : Nat) (v : Int32) : Nat → Int32 := own_fix 4 (own_up f (L + b) v) ((L + b) / 2)
def own_cl : Nat → Nat → Nat
  | 0, p => p
  | k + 1, p => if 1 < p ∧ p % 2 = 1 then own_cl k (p / 2) else p
def own_seek (c : Nat → Bool) (N : Nat) : Nat → Nat → Option (Option Nat)
  | 0, _ => none
  | k + 1, p => if 1 ≤ p ∧ p < N then (if c p then some (some p) else (if own_cl 4 p = 1 then some none else own_seek c N k (own_cl 4 p + 1))) else none
def own_ds (c : Nat → Bool) (L : Nat) : Nat → Nat → Option Nat
  | 0, _ => none
  | k + 1, p => if p < 2 * L then (if p < L then (if c (2 * p) then own_ds c L k (2 * p) else own_ds c L k (2 * p + 1)) else some p) else none
def own_cc (f : Nat → Int32) (z : Int32) : Nat → Bool := fun p => !decide (f p < z)
theorem own_ccF {f : Nat → Int32} {z : Int32} {p : Nat} (h : own_cc f z p = true) : ¬ f p < z := by simpa [own_cc] using h
theorem own_ccT {f : Nat → Int32} {z : Int32} {p : Nat} (h : ¬ own_cc f z p = true) : f p < z := by
  have q : own_cc f z p = false := by simpa using h
  simpa [own_cc] using q
theorem own_L16 {L : Nat} (h : L = 1 ∨ L = 2 ∨ L = 4 ∨ L = 8) : L ≤ 8 := by omega
theorem own_i2 {q : Nat} (h : q ≤ 16) : ¬ ((2 : Int32) * Int32.ofNat q) < 0 ∧ ((2 : Int32) * Int32.ofNat q).toNatClampNeg = 2 * q := by rw [own_dbl]; exact own_of (by omega)
theorem own_i21 {q : Nat} (h : q ≤ 16) : ¬ (((2 : Int32) * Int32.ofNat q) + (1 : Int32)) < 0 ∧ (((2 : Int32) * Int32.ofNat q) + (1 : Int32)).toNatClampNeg = 2 * q + 1 := by rw [own_dbl, own_add1]; exact own_of (by omega)
theorem own_ia {a b : Nat} (h : a + b ≤ 64) : ¬ (Int32.ofNat a + Int32.ofNat b) < 0 ∧ (Int32.ofNat a + Int32.ofNat b).toNatClampNeg = a + b := by rw [own_addn]; exact own_of h
theorem own_lt1 {q : Nat} (h : q ≤ 64) : Int32.ofNat q < (1 : Int32) ↔ q < 1 := own_ltn h (by decide : 1 ≤ 64)
theorem own_gt1 {q : Nat} (h : q ≤ 64) : (1 : Int32) < Int32.ofNat q ↔ 1 < q := own_ltn (by decide : 1 ≤ 64) h
theorem own_eq1 {q : Nat} (h : q ≤ 64) : Int32.ofNat q = (1 : Int32) ↔ q = 1 := own_eqn h (by decide : 1 ≤ 64)
theorem own_eq0 {q : Nat} (h : q ≤ 64) : Int32.ofNat q = (0 : Int32) ↔ q = 0 := own_eqn h (by decide : 0 ≤ 64)
theorem own_cl_le : ∀ (k q : Nat), own_cl k q ≤ q
  | 0, q => Nat.le_refl _
  | k + 1, q => by
    rw [own_cl]
    split
    · exact Nat.le_trans (own_cl_le k (q / 2)) (Nat.div_le_self _ _)
    · exact Nat.le_refl _
theorem own_ds_ge (c : Nat → Bool) (M : Nat) : ∀ (k q r : Nat), own_ds c M k q = some r → M ≤ r ∧ r < 2 * M
  | 0, q, r, h => by rw [own_ds] at h; cases h
  | k + 1, q, r, h => by
    rw [own_ds] at h
    split at h
    · split at h
      · split at h
        · exact own_ds_ge c M k _ r h
        · exact own_ds_ge c M k _ r h
      · have e := Option.some.inj h
        omega
    · cases h
def own_res (c : Nat → Bool) (M fm : Nat) : Option (Option Nat) := if fm < M then (match own_seek c (2 * M) 20 (if fm = 0 then 1 else M + fm) with | none => none | some none => some none | some (some q) => (match own_ds c M 5 q with | none => none | some r => some (some (r - M)))) else some none
def own_val : Option Nat → Int32
  | none => (-1 : Int32)
  | some j => Int32.ofNat j
theorem own_subn {a b : Nat} (h : b ≤ a) : Int32.ofNat a - Int32.ofNat b = Int32.ofNat (a - b) := by
  have e : a = (a - b) + b := by omega
  rw [e, Int32.ofNat_add]
  simp
theorem own_os {a : Addr} {x y z v : Int32} {s4 : Slot} (h : One s4) : storeLocals #[.val (.ref a), .val (.int x), .val (.int y), .val (.int z), s4] 4 (.int v) = some #[.val (.ref a), .val (.int x), .val (.int y), .val (.int z), .val (.int v)] := by
  rcases h with rfl | ⟨w, rfl, hw⟩
  · rfl
  · cases w <;> first | rfl | (simp [Value.category] at hw)
theorem own_res1 {c : Nat → Bool} {M fm q : Nat} {R : Option Nat} (h : own_res c M fm = some R) (hlt : fm < M) (hq : (if fm = 0 then 1 else M + fm) = q) : (own_seek c (2 * M) 20 q = some none ∧ R = none) ∨ ∃ q2 r, own_seek c (2 * M) 20 q = some (some q2) ∧ own_ds c M 5 q2 = some r ∧ R = some (r - M) := by
  rw [own_res, if_pos hlt, hq] at h
  cases hs : own_seek c (2 * M) 20 q with
  | none => rw [hs] at h; cases h
  | some o =>
    cases o with
    | none => rw [hs] at h; exact Or.inl ⟨rfl, (Option.some.inj h).symm⟩
    | some q2 =>
      rw [hs] at h
      cases hd : own_ds c M 5 q2 with
      | none => simp only [hd] at h; cases h
      | some r => simp only [hd] at h; exact Or.inr ⟨q2, r, rfl, hd, (Option.some.inj h).symm⟩
theorem d10_0 : decode jdk_29_method_65_code 0 = .ok (.iload_n 0, 1) := by decide +kernel
theorem d10_1 : decode jdk_29_method_65_code 1 = .ok (.iload_n 1, 1) := by decide +kernel
theorem d10_2 : decode jdk_29_method_65_code 2 = .ok (.if_icmp .lt 7, 3) := by decide +kernel
theorem d10_5 : decode jdk_29_method_65_code 5 = .ok (.iload_n 0, 1) := by decide +kernel
theorem d10_6 : decode jdk_29_method_65_code 6 = .ok (.goto 4, 3) := by decide +kernel
theorem d10_9 : decode jdk_29_method_65_code 9 = .ok (.iload_n 1, 1) := by decide +kernel
theorem d10_10 : decode jdk_29_method_65_code 10 = .ok (.ireturn, 1) := by decide +kernel
theorem ef_10 (m : MethodId) (p0 : Int32) (p1 : Int32) : entryFrame m #[(.int p0), (.int p1)] 2 = mkF m 0 #[.val (.int p0), .val (.int p1)] [] := by first | (simp [entryFrame, mkF, argsToLocals, Value.category]; done) | rfl
def Q10 (Z : State) (p0 : Int32) (p1 : Int32) (h0 : Heap) (n0 : Nat) (v : Option Value) (h : Heap) (L : List Loc) : Prop := v = some (.int (if p0 < p1 then p1 else p0)) ∧ Fr n0 L ∧ h = h0
set_option maxRecDepth 65536 in
set_option maxHeartbeats 40000000 in
theorem rm10 (l : Launch) (Z : State) (aq : Array Value) (hw : ∀ d ∈ tables_1, d.before aq Z = true) (ws : List Jvm.Cond) (p0 : Int32) (p1 : Int32) (h0 : Heap) (n0 : Nat) (Z0 : n0 ≤ h0.size) :
    MetFree l (⟨"java/lang/Math", "max", "(II)I"⟩ : MethodName) (head1 (Jvm.Cond.code (⟨"java/lang/Math", "max", "(II)I"⟩ : MethodName) jdk_29_method_65_code 2 (some .int) :: ws) ({ frames := 0, cells := 0, slots := 0, locals := 0 } : Room)) (fun a U => a = #[(.int p0), (.int p1)] ∧ Z.Warmed39 U.vm ∧ U.heap = h0) (fun _ _ _ _ _ => True) (fun _ U o U' => ∃ v L, o = .returned v ∧ Q10 Z p0 p1 h0 n0 v U'.heap L ∧ FrameEnd U o U' L ({ frames := 0, cells := 0, slots := 0, locals := 0 } : Room).cells ({ frames := 0, cells := 0, slots := 0, locals := 0 } : Room).slots) := by
  refine MetFree.of_bodySF (Jvm.Free.JP.mathPlain rfl (by decide +kernel)) hisR ?_
  intro p e s m args below meth c s₁ Bd hml0 hP hK
  obtain ⟨rfl, hZ, hh⟩ := hP
  have hx := Bd.exec
  have hby := Bd.bytes
  have hml : c.maxLocals = 2 := hml0
  have hown : s.vm.findClass "java/lang/Math" = some m.cls := findClass_of_methodNamed Bd.named
  have hnm := (name_of_methodNamed Bd.named Bd.method).1
  have X0 : Stand p l e ({ frames := 0, cells := 0, slots := 0, locals := 0 } : Room) s m #[(.int p0), (.int p1)] below meth c s₁ [] 0 0 := Stand.of_body Bd
  have e0 : s₁.heap = h0 := by rw [← hh, Bd.state]; rfl
  have N0 := Fr.nil n0
  have pre0 : ∀ t, Steps p.tables e below (s₁.setTop (mkF m 0 #[.val (.int p0), .val (.int p1)] [])) t → Steps p.tables e below (s₁.setTop (entryFrame m #[(.int p0), (.int p1)] 2)) t := fun t k => castTop (ef_10 m p0 p1) k
  have pre3 : ∀ t, Steps p.tables e below (s₁.setTop (mkF m 2 #[.val (.int p0), .val (.int p1)] [(.int p1), (.int p0)])) t → Steps p.tables e below (s₁.setTop (entryFrame m #[(.int p0), (.int p1)] 2)) t := fun t kt => by
    refine pre0 _ ?_
    show Steps p.tables e below (s₁.setTop (mkF m 0 #[.val (.int p0), .val (.int p1)] [])) _
    refine XS.iloadN X0.here hx rfl (hb hby d10_0) rfl ?_
    show Steps p.tables e below (s₁.setTop (mkF m 1 #[.val (.int p0), .val (.int p1)] [(.int p0)])) _
    refine XS.iloadN X0.here hx rfl (hb hby d10_1) rfl ?_
    show Steps p.tables e below (s₁.setTop (mkF m 2 #[.val (.int p0), .val (.int p1)] [(.int p1), (.int p0)])) _
    exact kt
  by_cases hc4 : p0 < p1
  · skip
    have pre5 : ∀ t, Steps p.tables e below (s₁.setTop (mkF m 10 #[.val (.int p0), .val (.int p1)] [(.int p1)])) t → Steps p.tables e below (s₁.setTop (entryFrame m #[(.int p0), (.int p1)] 2)) t := fun t kt => by
      refine pre3 _ ?_
      show Steps p.tables e below (s₁.setTop (mkF m 2 #[.val (.int p0), .val (.int p1)] [(.int p1), (.int p0)])) _
      refine XS.icmpYes X0.here hx rfl (pc0 := 2) (pc' := 9) rfl (hb hby d10_2) rfl (tlt hc4).1 (by decide) (by decide) ?_
      show Steps p.tables e below (s₁.setTop (mkF m 9 #[.val (.int p0), .val (.int p1)] [])) _
      refine XS.iloadN X0.here hx rfl (hb hby d10_9) rfl ?_
      show Steps p.tables e below (s₁.setTop (mkF m 10 #[.val (.int p0), .val (.int p1)] [(.int p1)])) _
      exact kt
    obtain ⟨fs, hr, hrun, hended, hW, hsame⟩ := X0.leave (v := some (.int p1)) (fun h => by rw [Bd.returns] at h; cases h)
    refine ⟨_, _, pre5 _ ?_, hrun, hended, _, _, rfl, ?_, ⟨_, rfl⟩, hW, hsame.mono (by decide) (by decide)⟩
    · exact retI X0 hx Bd.returns (hb hby d10_10) hr
    · show Q10 Z p0 p1 h0 n0 _ s₁.heap _
      rw [e0]
      exact ⟨(own_rI (by rw [if_pos hc4] : p1 = (if p0 < p1 then p1 else p0))), N0, rfl⟩
  · skip
    have pre6 : ∀ t, Steps p.tables e below (s₁.setTop (mkF m 10 #[.val (.int p0), .val (.int p1)] [(.int p0)])) t → Steps p.tables e below (s₁.setTop (entryFrame m #[(.int p0), (.int p1)] 2)) t := fun t kt => by
      refine pre3 _ ?_
      show Steps p.tables e below (s₁.setTop (mkF m 2 #[.val (.int p0), .val (.int p1)] [(.int p1), (.int p0)])) _
      refine XS.icmpNo X0.here hx rfl (hb hby d10_2) rfl (flt hc4).1 ?_
      show Steps p.tables e below (s₁.setTop (mkF m 5 #[.val (.int p0), .val (.int p1)] [])) _
      refine XS.iloadN X0.here hx rfl (hb hby d10_5) rfl ?_
      show Steps p.tables e below (s₁.setTop (mkF m 6 #[.val (.int p0), .val (.int p1)] [(.int p0)])) _
      refine XS.goto X0.here hx rfl (pc0 := 6) (pc' := 10) rfl (hb hby d10_6) (by decide) (by decide) ?_
      show Steps p.tables e below (s₁.setTop (mkF m 10 #[.val (.int p0), .val (.int p1)] [(.int p0)])) _
      exact kt
    obtain ⟨fs, hr, hrun, hended, hW, hsame⟩ := X0.leave (v := some (.int p0)) (fun h => by rw [Bd.returns] at h; cases h)
    refine ⟨_, _, pre6 _ ?_, hrun, hended, _, _, rfl, ?_, ⟨_, rfl⟩, hW, hsame.mono (by decide) (by decide)⟩
    · exact retI X0 hx Bd.returns (hb hby d10_10) hr
    · show Q10 Z p0 p1 h0 n0 _ s₁.heap _
      rw [e0]
      exact ⟨(own_rI (by rw [if_neg hc4] : p0 = (if p0 < p1 then p1 else p0))), N0, rfl⟩
theorem d1_0 : decode method_3_code 0 = .ok (.iload 4, 2) := by decide +kernel
theorem d1_2 : decode method_3_code 2 = .ok (.iload 5, 2) := by decide +kernel
theorem d1_4 : decode method_3_code 4 = .ok (.if_icmp .ge 27, 3) := by decide +kernel
theorem d1_7 : decode method_3_code 7 = .ok (.iload_n 3, 1) := by decide +kernel
theorem d1_8 : decode method_3_code 8 = .ok (.iload 4, 2) := by decide +kernel
theorem d1_10 : decode method_3_code 10 = .ok (.iushr, 1) := by decide +kernel
theorem d1_11 : decode method_3_code 11 = .ok (.iconst 1, 1) := by decide +kernel
theorem d1_12 : decode method_3_code 12 = .ok (.iand, 1) := by decide +kernel
theorem d1_13 : decode method_3_code 13 = .ok (.ifCond .eq 18, 3) := by decide +kernel
theorem d1_16 : decode method_3_code 16 = .ok (.lload_n 1, 1) := by decide +kernel
theorem d1_17 : decode method_3_code 17 = .ok (.iconst 4, 1) := by decide +kernel
theorem d1_18 : decode method_3_code 18 = .ok (.iload 4, 2) := by decide +kernel
theorem d1_20 : decode method_3_code 20 = .ok (.imul, 1) := by decide +kernel
theorem d1_21 : decode method_3_code 21 = .ok (.lushr, 1) := by decide +kernel
theorem d1_22 : decode method_3_code 22 = .ok (.ldc2_w 30, 3) := by decide +kernel
theorem d1_25 : decode method_3_code 25 = .ok (.land, 1) := by decide +kernel
theorem d1_26 : decode method_3_code 26 = .ok (.l2i, 1) := by decide +kernel
theorem d1_27 : decode method_3_code 27 = .ok (.bipush 8, 2) := by decide +kernel
theorem d1_29 : decode method_3_code 29 = .ok (.isub, 1) := by decide +kernel
theorem d1_30 : decode method_3_code 30 = .ok (.ireturn, 1) := by decide +kernel
theorem d1_31 : decode method_3_code 31 = .ok (.iload_n 0, 1) := by decide +kernel
theorem d1_32 : decode method_3_code 32 = .ok (.ireturn, 1) := by decide +kernel
theorem pn7838729 : plainName "com/example/packwright/packwright/core/bins/FreeSpaceTreeEarliestPinLaw" = true := by first | (simp [plainName, overriddenIn]; done) | decide +kernel
theorem ef_1 (m : MethodId) (p0 : Int32) (q1 : Int64) (p2 : Int32) (p3 : Int32) (p4 : Int32) : entryFrame m #[(.int p0), (.long q1), (.int p2), (.int p3), (.int p4)] 6 = mkF m 0 #[.val (.int p0), .val (.long q1), .second, .val (.int p2), .val (.int p3), .val (.int p4)] [] := by first | (simp [entryFrame, mkF, argsToLocals, Value.category]; done) | rfl
def Q1 (Z : State) (p0 : Int32) (q1 : Int64) (p2 : Int32) (p3 : Int32) (p4 : Int32) (h0 : Heap) (n0 : Nat) (v : Option Value) (h : Heap) (L : List Loc) : Prop := v = some (.int (if p3 < p4 then (if (((p2.toUInt32 >>> (p3 &&& 31).toUInt32).toInt32) &&& (1 : Int32)) = (0 : Int32) then p0 else (((((q1.toUInt64 >>> (((4 : Int32) * p3) &&& 0x3f).toInt64.toUInt64).toInt64) &&& (15 : Int64)).toInt32) - (8 : Int32))) else p0)) ∧ Fr n0 L ∧ h = h0
set_option maxRecDepth 65536 in
set_option maxHeartbeats 40000000 in
theorem rm1 (l : Launch) (Z : State) (aq : Array Value) (hw : ∀ d ∈ tables_1, d.before aq Z = true) (ws : List Jvm.Cond) (p0 : Int32) (q1 : Int64) (p2 : Int32) (p3 : Int32) (p4 : Int32) (h0 : Heap) (n0 : Nat) (Z0 : n0 ≤ h0.size) :
    MetFree l (⟨"com/example/packwright/packwright/core/bins/FreeSpaceTreeEarliestPinLaw", "pick", "(IJIII)I"⟩ : MethodName) (head1 (Jvm.Cond.code (⟨"com/example/packwright/packwright/core/bins/FreeSpaceTreeEarliestPinLaw", "pick", "(IJIII)I"⟩ : MethodName) method_3_code 6 (some .int) :: ws) ({ frames := 0, cells := 0, slots := 0, locals := 0 } : Room)) (fun a U => a = #[(.int p0), (.long q1), (.int p2), (.int p3), (.int p4)] ∧ Z.Warmed39 U.vm ∧ U.heap = h0) (fun _ _ _ _ _ => True) (fun _ U o U' => ∃ v L, o = .returned v ∧ Q1 Z p0 q1 p2 p3 p4 h0 n0 v U'.heap L ∧ FrameEnd U o U' L ({ frames := 0, cells := 0, slots := 0, locals := 0 } : Room).cells ({ frames := 0, cells := 0, slots := 0, locals := 0 } : Room).slots) := by
  refine MetFree.of_bodySF (plainFor_of_name pn7838729) hisR ?_
  intro p e s m args below meth c s₁ Bd hml0 hP hK
  obtain ⟨rfl, hZ, hh⟩ := hP
  have hx := Bd.exec
  have hby := Bd.bytes
  have hml : c.maxLocals = 6 := hml0
  have hown : s.vm.findClass "com/example/packwright/packwright/core/bins/FreeSpaceTreeEarliestPinLaw" = some m.cls := findClass_of_methodNamed Bd.named
  have hnm := (name_of_methodNamed Bd.named Bd.method).1
  have X0 : Stand p l e ({ frames := 0, cells := 0, slots := 0, locals := 0 } : Room) s m #[(.int p0), (.long q1), (.int p2), (.int p3), (.int p4)] below meth c s₁ [] 0 0 := Stand.of_body Bd
  have e0 : s₁.heap = h0 := by rw [← hh, Bd.state]; rfl
  have N0 := Fr.nil n0
  have pre0 : ∀ t, Steps p.tables e below (s₁.setTop (mkF m 0 #[.val (.int p0), .val (.long q1), .second, .val (.int p2), .val (.int p3), .val (.int p4)] [])) t → Steps p.tables e below (s₁.setTop (entryFrame m #[(.int p0), (.long q1), (.int p2), (.int p3), (.int p4)] 6)) t := fun t k => castTop (ef_1 m p0 q1 p2 p3 p4) k
  have pre11 : ∀ t, Steps p.tables e below (s₁.setTop (mkF m 4 #[.val (.int p0), .val (.long q1), .second, .val (.int p2), .val (.int p3), .val (.int p4)] [(.int p4), (.int p3)])) t → Steps p.tables e below (s₁.setTop (entryFrame m #[(.int p0), (.long q1), (.int p2), (.int p3), (.int p4)] 6)) t := fun t kt => by
    refine pre0 _ ?_
    show Steps p.tables e below (s₁.setTop (mkF m 0 #[.val (.int p0), .val (.long q1), .second, .val (.int p2), .val (.int p3), .val (.int p4)] [])) _
    refine XS.iload X0.here hx rfl (hb hby d1_0) rfl ?_
    show Steps p.tables e below (s₁.setTop (mkF m 2 #[.val (.int p0), .val (.long q1), .second, .val (.int p2), .val (.int p3), .val (.int p4)] [(.int p3)])) _
    refine XS.iload X0.here hx rfl (hb hby d1_2) rfl ?_
    show Steps p.tables e below (s₁.setTop (mkF m 4 #[.val (.int p0), .val (.long q1), .second, .val (.int p2), .val (.int p3), .val (.int p4)] [(.int p4), (.int p3)])) _
    exact kt
  by_cases hc12 : p3 < p4
  · skip
    have pre13 : ∀ t, Steps p.tables e below (s₁.setTop (mkF m 13 #[.val (.int p0), .val (.long q1), .second, .val (.int p2), .val (.int p3), .val (.int p4)] [(.int (((p2.toUInt32 >>> (p3 &&& 31).toUInt32).toInt32) &&& (1 : Int32)))])) t → Steps p.tables e below (s₁.setTop (entryFrame m #[(.int p0), (.long q1), (.int p2), (.int p3), (.int p4)] 6)) t := fun t kt => by
      refine pre11 _ ?_
      show Steps p.tables e below (s₁.setTop (mkF m 4 #[.val (.int p0), .val (.long q1), .second, .val (.int p2), .val (.int p3), .val (.int p4)] [(.int p4), (.int p3)])) _
      refine XS.icmpNo X0.here hx rfl (hb hby d1_4) rfl (tlt hc12).2.1 ?_
      show Steps p.tables e below (s₁.setTop (mkF m 7 #[.val (.int p0), .val (.long q1), .second, .val (.int p2), .val (.int p3), .val (.int p4)] [])) _
      refine XS.iloadN X0.here hx rfl (hb hby d1_7) rfl ?_
      show Steps p.tables e below (s₁.setTop (mkF m 8 #[.val (.int p0), .val (.long q1), .second, .val (.int p2), .val (.int p3), .val (.int p4)] [(.int p2)])) _
      refine XS.iload X0.here hx rfl (hb hby d1_8) rfl ?_
      show Steps p.tables e below (s₁.setTop (mkF m 10 #[.val (.int p0), .val (.long q1), .second, .val (.int p2), .val (.int p3), .val (.int p4)] [(.int p3), (.int p2)])) _
      refine XS.iushr X0.here hx rfl (hb hby d1_10) rfl ?_
      show Steps p.tables e below (s₁.setTop (mkF m 11 #[.val (.int p0), .val (.long q1), .second, .val (.int p2), .val (.int p3), .val (.int p4)] [(.int ((p2.toUInt32 >>> (p3 &&& 31).toUInt32).toInt32))])) _
      refine XS.iconst X0.here hx rfl (hb hby d1_11) ?_
      show Steps p.tables e below (s₁.setTop (mkF m 12 #[.val (.int p0), .val (.long q1), .second, .val (.int p2), .val (.int p3), .val (.int p4)] [(.int (1 : Int32)), (.int ((p2.toUInt32 >>> (p3 &&& 31).toUInt32).toInt32))])) _
      refine XS.iand X0.here hx rfl (hb hby d1_12) rfl ?_
      show Steps p.tables e below (s₁.setTop (mkF m 13 #[.val (.int p0), .val (.long q1), .second, .val (.int p2), .val (.int p3), .val (.int p4)] [(.int (((p2.toUInt32 >>> (p3 &&& 31).toUInt32).toInt32) &&& (1 : Int32)))])) _
      exact kt
    by_cases hc14 : (((p2.toUInt32 >>> (p3 &&& 31).toUInt32).toInt32) &&& (1 : Int32)) = (0 : Int32)
    · skip
      have pre15 : ∀ t, Steps p.tables e below (s₁.setTop (mkF m 32 #[.val (.int p0), .val (.long q1), .second, .val (.int p2), .val (.int p3), .val (.int p4)] [(.int p0)])) t → Steps p.tables e below (s₁.setTop (entryFrame m #[(.int p0), (.long q1), (.int p2), (.int p3), (.int p4)] 6)) t := fun t kt => by
        refine pre13 _ ?_
        show Steps p.tables e below (s₁.setTop (mkF m 13 #[.val (.int p0), .val (.long q1), .second, .val (.int p2), .val (.int p3), .val (.int p4)] [(.int (((p2.toUInt32 >>> (p3 &&& 31).toUInt32).toInt32) &&& (1 : Int32)))])) _
        refine XS.ifYes X0.here hx rfl (pc0 := 13) (pc' := 31) rfl (hb hby d1_13) rfl ((if0 _ _).trans (teq hc14).1) (by decide) (by decide) ?_
        show Steps p.tables e below (s₁.setTop (mkF m 31 #[.val (.int p0), .val (.long q1), .second, .val (.int p2), .val (.int p3), .val (.int p4)] [])) _
        refine XS.iloadN X0.here hx rfl (hb hby d1_31) rfl ?_
        show Steps p.tables e below (s₁.setTop (mkF m 32 #[.val (.int p0), .val (.long q1), .second, .val (.int p2), .val (.int p3), .val (.int p4)] [(.int p0)])) _
        exact kt
      obtain ⟨fs, hr, hrun, hended, hW, hsame⟩ := X0.leave (v := some (.int p0)) (fun h => by rw [Bd.returns] at h; cases h)
      refine ⟨_, _, pre15 _ ?_, hrun, hended, _, _, rfl, ?_, ⟨_, rfl⟩, hW, hsame.mono (by decide) (by decide)⟩
      · exact retI X0 hx Bd.returns (hb hby d1_32) hr
      · show Q1 Z p0 q1 p2 p3 p4 h0 n0 _ s₁.heap _
        rw [e0]
        exact ⟨(own_rI (by rw [if_pos hc12, if_pos hc14] : p0 = (if p3 < p4 then (if (((p2.toUInt32 >>> (p3 &&& 31).toUInt32).toInt32) &&& (1 : Int32)) = (0 : Int32) then p0 else (((((q1.toUInt64 >>> (((4 : Int32) * p3) &&& 0x3f).toInt64.toUInt64).toInt64) &&& (15 : Int64)).toInt32) - (8 : Int32))) else p0))), N0, rfl⟩
    · skip
      have pre16 : ∀ t, Steps p.tables e below (s₁.setTop (mkF m 30 #[.val (.int p0), .val (.long q1), .second, .val (.int p2), .val (.int p3), .val (.int p4)] [(.int (((((q1.toUInt64 >>> (((4 : Int32) * p3) &&& 0x3f).toInt64.toUInt64).toInt64) &&& (15 : Int64)).toInt32) - (8 : Int32)))])) t → Steps p.tables e below (s₁.setTop (entryFrame m #[(.int p0), (.long q1), (.int p2), (.int p3), (.int p4)] 6)) t := fun t kt => by
        refine pre13 _ ?_
        show Steps p.tables e below (s₁.setTop (mkF m 13 #[.val (.int p0), .val (.long q1), .second, .val (.int p2), .val (.int p3), .val (.int p4)] [(.int (((p2.toUInt32 >>> (p3 &&& 31).toUInt32).toInt32) &&& (1 : Int32)))])) _
        refine XS.ifNo X0.here hx rfl (hb hby d1_13) rfl ((if0 _ _).trans (feq hc14).1) ?_
        show Steps p.tables e below (s₁.setTop (mkF m 16 #[.val (.int p0), .val (.long q1), .second, .val (.int p2), .val (.int p3), .val (.int p4)] [])) _
        refine XS.lloadN X0.here hx rfl (hb hby d1_16) rfl ?_
        show Steps p.tables e below (s₁.setTop (mkF m 17 #[.val (.int p0), .val (.long q1), .second, .val (.int p2), .val (.int p3), .val (.int p4)] [(.long q1)])) _
        refine XS.iconst X0.here hx rfl (hb hby d1_17) ?_
        show Steps p.tables e below (s₁.setTop (mkF m 18 #[.val (.int p0), .val (.long q1), .second, .val (.int p2), .val (.int p3), .val (.int p4)] [(.int (4 : Int32)), (.long q1)])) _
        refine XS.iload X0.here hx rfl (hb hby d1_18) rfl ?_
        show Steps p.tables e below (s₁.setTop (mkF m 20 #[.val (.int p0), .val (.long q1), .second, .val (.int p2), .val (.int p3), .val (.int p4)] [(.int p3), (.int (4 : Int32)), (.long q1)])) _
        refine XS.imul X0.here hx rfl (hb hby d1_20) rfl ?_
        show Steps p.tables e below (s₁.setTop (mkF m 21 #[.val (.int p0), .val (.long q1), .second, .val (.int p2), .val (.int p3), .val (.int p4)] [(.int ((4 : Int32) * p3)), (.long q1)])) _
        refine XS.lushr X0.here hx rfl (hb hby d1_21) rfl ?_
        show Steps p.tables e below (s₁.setTop (mkF m 22 #[.val (.int p0), .val (.long q1), .second, .val (.int p2), .val (.int p3), .val (.int p4)] [(.long ((q1.toUInt64 >>> (((4 : Int32) * p3) &&& 0x3f).toInt64.toUInt64).toInt64))])) _
        refine X0.ldc2Long hx hown (mvT hZ (hw _ (List.mem_of_getElem? (i := 36) rfl))) (g := (mkF m 22 #[.val (.int p0), .val (.long q1), .second, .val (.int p2), .val (.int p3), .val (.int p4)] [(.long ((q1.toUInt64 >>> (((4 : Int32) * p3) &&& 0x3f).toInt64.toUInt64).toInt64))])) rfl (hb hby d1_22) _ ?_
        show Steps p.tables e below (s₁.setTop (mkF m 25 #[.val (.int p0), .val (.long q1), .second, .val (.int p2), .val (.int p3), .val (.int p4)] [(.long (15 : Int64)), (.long ((q1.toUInt64 >>> (((4 : Int32) * p3) &&& 0x3f).toInt64.toUInt64).toInt64))])) _
        refine XS.land X0.here hx rfl (hb hby d1_25) rfl ?_
        show Steps p.tables e below (s₁.setTop (mkF m 26 #[.val (.int p0), .val (.long q1), .second, .val (.int p2), .val (.int p3), .val (.int p4)] [(.long (((q1.toUInt64 >>> (((4 : Int32) * p3) &&& 0x3f).toInt64.toUInt64).toInt64) &&& (15 : Int64)))])) _
        refine XS.l2i X0.here hx rfl (hb hby d1_26) rfl ?_
        show Steps p.tables e below (s₁.setTop (mkF m 27 #[.val (.int p0), .val (.long q1), .second, .val (.int p2), .val (.int p3), .val (.int p4)] [(.int ((((q1.toUInt64 >>> (((4 : Int32) * p3) &&& 0x3f).toInt64.toUInt64).toInt64) &&& (15 : Int64)).toInt32))])) _
        refine XS.bipush X0.here hx rfl (hb hby d1_27) ?_
        show Steps p.tables e below (s₁.setTop (mkF m 29 #[.val (.int p0), .val (.long q1), .second, .val (.int p2), .val (.int p3), .val (.int p4)] [(.int (8 : Int32)), (.int ((((q1.toUInt64 >>> (((4 : Int32) * p3) &&& 0x3f).toInt64.toUInt64).toInt64) &&& (15 : Int64)).toInt32))])) _
        refine XS.isub X0.here hx rfl (hb hby d1_29) rfl ?_
        show Steps p.tables e below (s₁.setTop (mkF m 30 #[.val (.int p0), .val (.long q1), .second, .val (.int p2), .val (.int p3), .val (.int p4)] [(.int (((((q1.toUInt64 >>> (((4 : Int32) * p3) &&& 0x3f).toInt64.toUInt64).toInt64) &&& (15 : Int64)).toInt32) - (8 : Int32)))])) _
        exact kt
      obtain ⟨fs, hr, hrun, hended, hW, hsame⟩ := X0.leave (v := some (.int (((((q1.toUInt64 >>> (((4 : Int32) * p3) &&& 0x3f).toInt64.toUInt64).toInt64) &&& (15 : Int64)).toInt32) - (8 : Int32)))) (fun h => by rw [Bd.returns] at h; cases h)
      refine ⟨_, _, pre16 _ ?_, hrun, hended, _, _, rfl, ?_, ⟨_, rfl⟩, hW, hsame.mono (by decide) (by decide)⟩
      · exact retI X0 hx Bd.returns (hb hby d1_30) hr
      · show Q1 Z p0 q1 p2 p3 p4 h0 n0 _ s₁.heap _
        rw [e0]
        exact ⟨(own_rI (by rw [if_pos hc12, if_neg hc14] : (((((q1.toUInt64 >>> (((4 : Int32) * p3) &&& 0x3f).toInt64.toUInt64).toInt64) &&& (15 : Int64)).toInt32) - (8 : Int32)) = (if p3 < p4 then (if (((p2.toUInt32 >>> (p3 &&& 31).toUInt32).toInt32) &&& (1 : Int32)) = (0 : Int32) then p0 else (((((q1.toUInt64 >>> (((4 : Int32) * p3) &&& 0x3f).toInt64.toUInt64).toInt64) &&& (15 : Int64)).toInt32) - (8 : Int32))) else p0))), N0, rfl⟩
  · skip
    have pre17 : ∀ t, Steps p.tables e below (s₁.setTop (mkF m 32 #[.val (.int p0), .val (.long q1), .second, .val (.int p2), .val (.int p3), .val (.int p4)] [(.int p0)])) t → Steps p.tables e below (s₁.setTop (entryFrame m #[(.int p0), (.long q1), (.int p2), (.int p3), (.int p4)] 6)) t := fun t kt => by
      refine pre11 _ ?_
      show Steps p.tables e below (s₁.setTop (mkF m 4 #[.val (.int p0), .val (.long q1), .second, .val (.int p2), .val (.int p3), .val (.int p4)] [(.int p4), (.int p3)])) _
      refine XS.icmpYes X0.here hx rfl (pc0 := 4) (pc' := 31) rfl (hb hby d1_4) rfl (flt hc12).2.1 (by decide) (by decide) ?_
      show Steps p.tables e below (s₁.setTop (mkF m 31 #[.val (.int p0), .val (.long q1), .second, .val (.int p2), .val (.int p3), .val (.int p4)] [])) _
      refine XS.iloadN X0.here hx rfl (hb hby d1_31) rfl ?_
      show Steps p.tables e below (s₁.setTop (mkF m 32 #[.val (.int p0), .val (.long q1), .second, .val (.int p2), .val (.int p3), .val (.int p4)] [(.int p0)])) _
      exact kt
    obtain ⟨fs, hr, hrun, hended, hW, hsame⟩ := X0.leave (v := some (.int p0)) (fun h => by rw [Bd.returns] at h; cases h)
    refine ⟨_, _, pre17 _ ?_, hrun, hended, _, _, rfl, ?_, ⟨_, rfl⟩, hW, hsame.mono (by decide) (by decide)⟩
    · exact retI X0 hx Bd.returns (hb hby d1_32) hr
    · show Q1 Z p0 q1 p2 p3 p4 h0 n0 _ s₁.heap _
      rw [e0]
      exact ⟨(own_rI (by rw [if_neg hc12] : p0 = (if p3 < p4 then (if (((p2.toUInt32 >>> (p3 &&& 31).toUInt32).toInt32) &&& (1 : Int32)) = (0 : Int32) then p0 else (((((q1.toUInt64 >>> (((4 : Int32) * p3) &&& 0x3f).toInt64.toUInt64).toInt64) &&& (15 : Int64)).toInt32) - (8 : Int32))) else p0))), N0, rfl⟩
theorem d8_0 : decode method_5_code 0 = .ok (.iload 4, 2) := by decide +kernel
theorem d8_2 : decode method_5_code 2 = .ok (.iload_n 2, 1) := by decide +kernel
theorem d8_3 : decode method_5_code 3 = .ok (.if_icmp .lt 21, 3) := by decide +kernel
theorem d8_6 : decode method_5_code 6 = .ok (.iload 4, 2) := by decide +kernel
theorem d8_8 : decode method_5_code 8 = .ok (.iload_n 1, 1) := by decide +kernel
theorem d8_9 : decode method_5_code 9 = .ok (.if_icmp .ge 15, 3) := by decide +kernel
theorem d8_12 : decode method_5_code 12 = .ok (.aload_n 0, 1) := by decide +kernel
theorem d8_13 : decode method_5_code 13 = .ok (.iload 4, 2) := by decide +kernel
theorem d8_15 : decode method_5_code 15 = .ok (.iaload, 1) := by decide +kernel
theorem d8_16 : decode method_5_code 16 = .ok (.iload_n 3, 1) := by decide +kernel
theorem d8_17 : decode method_5_code 17 = .ok (.if_icmp .lt 7, 3) := by decide +kernel
theorem d8_20 : decode method_5_code 20 = .ok (.iconst 1, 1) := by decide +kernel
theorem d8_21 : decode method_5_code 21 = .ok (.goto 4, 3) := by decide +kernel
theorem d8_24 : decode method_5_code 24 = .ok (.iconst 0, 1) := by decide +kernel
theorem d8_25 : decode method_5_code 25 = .ok (.ireturn, 1) := by decide +kernel
theorem ef_8 (m : MethodId) (a0 : Addr) (p1 : Int32) (p2 : Int32) (p3 : Int32) : entryFrame m #[(.ref a0), (.int p1), (.int p2), (.int p3), (.int (Int32.ofNat b))] 5 = mkF m 0 #[.val (.ref a0), .val (.int p1), .val (.int p2), .val (.int p3), .val (.int (Int32.ofNat b))] [] := by first | (simp [entryFrame, mkF, argsToLocals, Value.category]; done) | rfl
def Q8 (Z : State) (a0 : Addr) (p1 : Int32) (p2 : Int32) (p3 : Int32) (f : Nat → Int32) (b : Nat) (h0 : Heap) (n0 : Nat) (v : Option Value) (h : Heap) (L : List Loc) : Prop := v = some (.int (if (Int32.ofNat b) < p2 then (0 : Int32) else (if (Int32.ofNat b) < p1 then (if (f b) < p3 then (0 : Int32) else (1 : Int32)) else (0 : Int32)))) ∧ Fr n0 L ∧ h = h0
set_option maxRecDepth 65536 in
set_option maxHeartbeats 40000000 in
theorem rm8 (l : Launch) (Z : State) (aq : Array Value) (hw : ∀ d ∈ tables_1, d.before aq Z = true) (ws : List Jvm.Cond) (a0 : Addr) (p1 : Int32) (p2 : Int32) (p3 : Int32) (f : Nat → Int32) (b : Nat) (h0 : Heap) (n0 : Nat) (Z0 : n0 ≤ h0.size) (V_a0 : own_Ar Z h0 a0 .int 8 f) (hb8 : b < 8) :
    MetFree l (⟨"com/example/packwright/packwright/core/bins/FreeSpaceTreeEarliestPinLaw", "hit", "([IIIII)Z"⟩ : MethodName) (head1 (Jvm.Cond.code (⟨"com/example/packwright/packwright/core/bins/FreeSpaceTreeEarliestPinLaw", "hit", "([IIIII)Z"⟩ : MethodName) method_5_code 5 (some .boolean) :: ws) ({ frames := 0, cells := 0, slots := 0, locals := 0 } : Room)) (fun a U => a = #[(.ref a0), (.int p1), (.int p2), (.int p3), (.int (Int32.ofNat b))] ∧ Z.Warmed39 U.vm ∧ U.heap = h0) (fun _ _ _ _ _ => True) (fun _ U o U' => ∃ v L, o = .returned v ∧ Q8 Z a0 p1 p2 p3 f b h0 n0 v U'.heap L ∧ FrameEnd U o U' L ({ frames := 0, cells := 0, slots := 0, locals := 0 } : Room).cells ({ frames := 0, cells := 0, slots := 0, locals := 0 } : Room).slots) := by
  refine MetFree.of_bodySF (plainFor_of_name pn7838729) hisR ?_
  intro p e s m args below meth c s₁ Bd hml0 hP hK
  obtain ⟨rfl, hZ, hh⟩ := hP
  have hx := Bd.exec
  have hby := Bd.bytes
  have hml : c.maxLocals = 5 := hml0
  have hown : s.vm.findClass "com/example/packwright/packwright/core/bins/FreeSpaceTreeEarliestPinLaw" = some m.cls := findClass_of_methodNamed Bd.named
  have hnm := (name_of_methodNamed Bd.named Bd.method).1
  have X0 : Stand p l e ({ frames := 0, cells := 0, slots := 0, locals := 0 } : Room) s m #[(.ref a0), (.int p1), (.int p2), (.int p3), (.int (Int32.ofNat b))] below meth c s₁ [] 0 0 := Stand.of_body Bd
  have e0 : s₁.heap = h0 := by rw [← hh, Bd.state]; rfl
  have N0 := Fr.nil n0
  have pre0 : ∀ t, Steps p.tables e below (s₁.setTop (mkF m 0 #[.val (.ref a0), .val (.int p1), .val (.int p2), .val (.int p3), .val (.int (Int32.ofNat b))] [])) t → Steps p.tables e below (s₁.setTop (entryFrame m #[(.ref a0), (.int p1), (.int p2), (.int p3), (.int (Int32.ofNat b))] 5)) t := fun t k => castTop (ef_8 m a0 p1 p2 p3) k
  have pre24 : ∀ t, Steps p.tables e below (s₁.setTop (mkF m 3 #[.val (.ref a0), .val (.int p1), .val (.int p2), .val (.int p3), .val (.int (Int32.ofNat b))] [(.int p2), (.int (Int32.ofNat b))])) t → Steps p.tables e below (s₁.setTop (entryFrame m #[(.ref a0), (.int p1), (.int p2), (.int p3), (.int (Int32.ofNat b))] 5)) t := fun t kt => by
    refine pre0 _ ?_
    show Steps p.tables e below (s₁.setTop (mkF m 0 #[.val (.ref a0), .val (.int p1), .val (.int p2), .val (.int p3), .val (.int (Int32.ofNat b))] [])) _
    refine XS.iload X0.here hx rfl (hb hby d8_0) rfl ?_
    show Steps p.tables e below (s₁.setTop (mkF m 2 #[.val (.ref a0), .val (.int p1), .val (.int p2), .val (.int p3), .val (.int (Int32.ofNat b))] [(.int (Int32.ofNat b))])) _
    refine XS.iloadN X0.here hx rfl (hb hby d8_2) rfl ?_
    show Steps p.tables e below (s₁.setTop (mkF m 3 #[.val (.ref a0), .val (.int p1), .val (.int p2), .val (.int p3), .val (.int (Int32.ofNat b))] [(.int p2), (.int (Int32.ofNat b))])) _
    exact kt
  by_cases hc25 : (Int32.ofNat b) < p2
  · skip
    have pre26 : ∀ t, Steps p.tables e below (s₁.setTop (mkF m 25 #[.val (.ref a0), .val (.int p1), .val (.int p2), .val (.int p3), .val (.int (Int32.ofNat b))] [(.int (0 : Int32))])) t → Steps p.tables e below (s₁.setTop (entryFrame m #[(.ref a0), (.int p1), (.int p2), (.int p3), (.int (Int32.ofNat b))] 5)) t := fun t kt => by
      refine pre24 _ ?_
      show Steps p.tables e below (s₁.setTop (mkF m 3 #[.val (.ref a0), .val (.int p1), .val (.int p2), .val (.int p3), .val (.int (Int32.ofNat b))] [(.int p2), (.int (Int32.ofNat b))])) _
      refine XS.icmpYes X0.here hx rfl (pc0 := 3) (pc' := 24) rfl (hb hby d8_3) rfl (tlt hc25).1 (by decide) (by decide) ?_
      show Steps p.tables e below (s₁.setTop (mkF m 24 #[.val (.ref a0), .val (.int p1), .val (.int p2), .val (.int p3), .val (.int (Int32.ofNat b))] [])) _
      refine XS.iconst X0.here hx rfl (hb hby d8_24) ?_
      show Steps p.tables e below (s₁.setTop (mkF m 25 #[.val (.ref a0), .val (.int p1), .val (.int p2), .val (.int p3), .val (.int (Int32.ofNat b))] [(.int (0 : Int32))])) _
      exact kt
    obtain ⟨fs, hr, hrun, hended, hW, hsame⟩ := X0.leave (v := some (.int (0 : Int32))) (fun h => by rw [Bd.returns] at h; cases h)
    refine ⟨_, _, pre26 _ ?_, hrun, hended, _, _, rfl, ?_, ⟨_, rfl⟩, hW, hsame.mono (by decide) (by decide)⟩
    · exact retN X0 hx (t := .boolean) Bd.returns (by simp) (hb hby d8_25) hr
    · show Q8 Z a0 p1 p2 p3 f b h0 n0 _ s₁.heap _
      rw [e0]
      exact ⟨(own_rI (by rw [if_pos hc25] : (0 : Int32) = (if (Int32.ofNat b) < p2 then (0 : Int32) else (if (Int32.ofNat b) < p1 then (if (f b) < p3 then (0 : Int32) else (1 : Int32)) else (0 : Int32))))), N0, rfl⟩
  · skip
    have pre27 : ∀ t, Steps p.tables e below (s₁.setTop (mkF m 9 #[.val (.ref a0), .val (.int p1), .val (.int p2), .val (.int p3), .val (.int (Int32.ofNat b))] [(.int p1), (.int (Int32.ofNat b))])) t → Steps p.tables e below (s₁.setTop (entryFrame m #[(.ref a0), (.int p1), (.int p2), (.int p3), (.int (Int32.ofNat b))] 5)) t := fun t kt => by
      refine pre24 _ ?_
      show Steps p.tables e below (s₁.setTop (mkF m 3 #[.val (.ref a0), .val (.int p1), .val (.int p2), .val (.int p3), .val (.int (Int32.ofNat b))] [(.int p2), (.int (Int32.ofNat b))])) _
      refine XS.icmpNo X0.here hx rfl (hb hby d8_3) rfl (flt hc25).1 ?_
      show Steps p.tables e below (s₁.setTop (mkF m 6 #[.val (.ref a0), .val (.int p1), .val (.int p2), .val (.int p3), .val (.int (Int32.ofNat b))] [])) _
      refine XS.iload X0.here hx rfl (hb hby d8_6) rfl ?_
      show Steps p.tables e below (s₁.setTop (mkF m 8 #[.val (.ref a0), .val (.int p1), .val (.int p2), .val (.int p3), .val (.int (Int32.ofNat b))] [(.int (Int32.ofNat b))])) _
      refine XS.iloadN X0.here hx rfl (hb hby d8_8) rfl ?_
      show Steps p.tables e below (s₁.setTop (mkF m 9 #[.val (.ref a0), .val (.int p1), .val (.int p2), .val (.int p3), .val (.int (Int32.ofNat b))] [(.int p1), (.int (Int32.ofNat b))])) _
      exact kt
    by_cases hc28 : (Int32.ofNat b) < p1
    · skip
      have pre29 : ∀ t, Steps p.tables e below (s₁.setTop (mkF m 17 #[.val (.ref a0), .val (.int p1), .val (.int p2), .val (.int p3), .val (.int (Int32.ofNat b))] [(.int p3), (.int (f b))])) t → Steps p.tables e below (s₁.setTop (entryFrame m #[(.ref a0), (.int p1), (.int p2), (.int p3), (.int (Int32.ofNat b))] 5)) t := fun t kt => by
        refine pre27 _ ?_
        show Steps p.tables e below (s₁.setTop (mkF m 9 #[.val (.ref a0), .val (.int p1), .val (.int p2), .val (.int p3), .val (.int (Int32.ofNat b))] [(.int p1), (.int (Int32.ofNat b))])) _
        refine XS.icmpNo X0.here hx rfl (hb hby d8_9) rfl (tlt hc28).2.1 ?_
        show Steps p.tables e below (s₁.setTop (mkF m 12 #[.val (.ref a0), .val (.int p1), .val (.int p2), .val (.int p3), .val (.int (Int32.ofNat b))] [])) _
        refine XS.aloadN X0.here hx rfl (hb hby d8_12) rfl rfl ?_
        show Steps p.tables e below (s₁.setTop (mkF m 13 #[.val (.ref a0), .val (.int p1), .val (.int p2), .val (.int p3), .val (.int (Int32.ofNat b))] [(.ref a0)])) _
        refine XS.iload X0.here hx rfl (hb hby d8_13) rfl ?_
        show Steps p.tables e below (s₁.setTop (mkF m 15 #[.val (.ref a0), .val (.int p1), .val (.int p2), .val (.int p3), .val (.int (Int32.ofNat b))] [(.int (Int32.ofNat b)), (.ref a0)])) _
        refine own_rdI X0 hx hZ e0 V_a0 (j := (Int32.ofNat b)) (i := b) (own_of (by omega)) hb8 (g := (mkF m 15 #[.val (.ref a0), .val (.int p1), .val (.int p2), .val (.int p3), .val (.int (Int32.ofNat b))] [(.int (Int32.ofNat b)), (.ref a0)])) rfl rfl (hb hby d8_15) _ ?_
        show Steps p.tables e below (s₁.setTop (mkF m 16 #[.val (.ref a0), .val (.int p1), .val (.int p2), .val (.int p3), .val (.int (Int32.ofNat b))] [(.int (f b))])) _
        refine XS.iloadN X0.here hx rfl (hb hby d8_16) rfl ?_
        show Steps p.tables e below (s₁.setTop (mkF m 17 #[.val (.ref a0), .val (.int p1), .val (.int p2), .val (.int p3), .val (.int (Int32.ofNat b))] [(.int p3), (.int (f b))])) _
        exact kt
      by_cases hc30 : (f b) < p3
      · skip
        have pre31 : ∀ t, Steps p.tables e below (s₁.setTop (mkF m 25 #[.val (.ref a0), .val (.int p1), .val (.int p2), .val (.int p3), .val (.int (Int32.ofNat b))] [(.int (0 : Int32))])) t → Steps p.tables e below (s₁.setTop (entryFrame m #[(.ref a0), (.int p1), (.int p2), (.int p3), (.int (Int32.ofNat b))] 5)) t := fun t kt => by
          refine pre29 _ ?_
          show Steps p.tables e below (s₁.setTop (mkF m 17 #[.val (.ref a0), .val (.int p1), .val (.int p2), .val (.int p3), .val (.int (Int32.ofNat b))] [(.int p3), (.int (f b))])) _
          refine XS.icmpYes X0.here hx rfl (pc0 := 17) (pc' := 24) rfl (hb hby d8_17) rfl (tlt hc30).1 (by decide) (by decide) ?_
          show Steps p.tables e below (s₁.setTop (mkF m 24 #[.val (.ref a0), .val (.int p1), .val (.int p2), .val (.int p3), .val (.int (Int32.ofNat b))] [])) _
          refine XS.iconst X0.here hx rfl (hb hby d8_24) ?_
          show Steps p.tables e below (s₁.setTop (mkF m 25 #[.val (.ref a0), .val (.int p1), .val (.int p2), .val (.int p3), .val (.int (Int32.ofNat b))] [(.int (0 : Int32))])) _
          exact kt
        obtain ⟨fs, hr, hrun, hended, hW, hsame⟩ := X0.leave (v := some (.int (0 : Int32))) (fun h => by rw [Bd.returns] at h; cases h)
        refine ⟨_, _, pre31 _ ?_, hrun, hended, _, _, rfl, ?_, ⟨_, rfl⟩, hW, hsame.mono (by decide) (by decide)⟩
        · exact retN X0 hx (t := .boolean) Bd.returns (by simp) (hb hby d8_25) hr
        · show Q8 Z a0 p1 p2 p3 f b h0 n0 _ s₁.heap _
          rw [e0]
          exact ⟨(own_rI (by rw [if_neg hc25, if_pos hc28, if_pos hc30] : (0 : Int32) = (if (Int32.ofNat b) < p2 then (0 : Int32) else (if (Int32.ofNat b) < p1 then (if (f b) < p3 then (0 : Int32) else (1 : Int32)) else (0 : Int32))))), N0, rfl⟩
      · skip
        have pre32 : ∀ t, Steps p.tables e below (s₁.setTop (mkF m 25 #[.val (.ref a0), .val (.int p1), .val (.int p2), .val (.int p3), .val (.int (Int32.ofNat b))] [(.int (1 : Int32))])) t → Steps p.tables e below (s₁.setTop (entryFrame m #[(.ref a0), (.int p1), (.int p2), (.int p3), (.int (Int32.ofNat b))] 5)) t := fun t kt => by
          refine pre29 _ ?_
          show Steps p.tables e below (s₁.setTop (mkF m 17 #[.val (.ref a0), .val (.int p1), .val (.int p2), .val (.int p3), .val (.int (Int32.ofNat b))] [(.int p3), (.int (f b))])) _
          refine XS.icmpNo X0.here hx rfl (hb hby d8_17) rfl (flt hc30).1 ?_
          show Steps p.tables e below (s₁.setTop (mkF m 20 #[.val (.ref a0), .val (.int p1), .val (.int p2), .val (.int p3), .val (.int (Int32.ofNat b))] [])) _
          refine XS.iconst X0.here hx rfl (hb hby d8_20) ?_
          show Steps p.tables e below (s₁.setTop (mkF m 21 #[.val (.ref a0), .val (.int p1), .val (.int p2), .val (.int p3), .val (.int (Int32.ofNat b))] [(.int (1 : Int32))])) _
          refine XS.goto X0.here hx rfl (pc0 := 21) (pc' := 25) rfl (hb hby d8_21) (by decide) (by decide) ?_
          show Steps p.tables e below (s₁.setTop (mkF m 25 #[.val (.ref a0), .val (.int p1), .val (.int p2), .val (.int p3), .val (.int (Int32.ofNat b))] [(.int (1 : Int32))])) _
          exact kt
        obtain ⟨fs, hr, hrun, hended, hW, hsame⟩ := X0.leave (v := some (.int (1 : Int32))) (fun h => by rw [Bd.returns] at h; cases h)
        refine ⟨_, _, pre32 _ ?_, hrun, hended, _, _, rfl, ?_, ⟨_, rfl⟩, hW, hsame.mono (by decide) (by decide)⟩
        · exact retN X0 hx (t := .boolean) Bd.returns (by simp) (hb hby d8_25) hr
        · show Q8 Z a0 p1 p2 p3 f b h0 n0 _ s₁.heap _
          rw [e0]
          exact ⟨(own_rI (by rw [if_neg hc25, if_pos hc28, if_neg hc30] : (1 : Int32) = (if (Int32.ofNat b) < p2 then (0 : Int32) else (if (Int32.ofNat b) < p1 then (if (f b) < p3 then (0 : Int32) else (1 : Int32)) else (0 : Int32))))), N0, rfl⟩
    · skip
      have pre33 : ∀ t, Steps p.tables e below (s₁.setTop (mkF m 25 #[.val (.ref a0), .val (.int p1), .val (.int p2), .val (.int p3), .val (.int (Int32.ofNat b))] [(.int (0 : Int32))])) t → Steps p.tables e below (s₁.setTop (entryFrame m #[(.ref a0), (.int p1), (.int p2), (.int p3), (.int (Int32.ofNat b))] 5)) t := fun t kt => by
        refine pre27 _ ?_
        show Steps p.tables e below (s₁.setTop (mkF m 9 #[.val (.ref a0), .val (.int p1), .val (.int p2), .val (.int p3), .val (.int (Int32.ofNat b))] [(.int p1), (.int (Int32.ofNat b))])) _
        refine XS.icmpYes X0.here hx rfl (pc0 := 9) (pc' := 24) rfl (hb hby d8_9) rfl (flt hc28).2.1 (by decide) (by decide) ?_
        show Steps p.tables e below (s₁.setTop (mkF m 24 #[.val (.ref a0), .val (.int p1), .val (.int p2), .val (.int p3), .val (.int (Int32.ofNat b))] [])) _
        refine XS.iconst X0.here hx rfl (hb hby d8_24) ?_
        show Steps p.tables e below (s₁.setTop (mkF m 25 #[.val (.ref a0), .val (.int p1), .val (.int p2), .val (.int p3), .val (.int (Int32.ofNat b))] [(.int (0 : Int32))])) _
        exact kt
      obtain ⟨fs, hr, hrun, hended, hW, hsame⟩ := X0.leave (v := some (.int (0 : Int32))) (fun h => by rw [Bd.returns] at h; cases h)
      refine ⟨_, _, pre33 _ ?_, hrun, hended, _, _, rfl, ?_, ⟨_, rfl⟩, hW, hsame.mono (by decide) (by decide)⟩
      · exact retN X0 hx (t := .boolean) Bd.returns (by simp) (hb hby d8_25) hr
      · show Q8 Z a0 p1 p2 p3 f b h0 n0 _ s₁.heap _
        rw [e0]
        exact ⟨(own_rI (by rw [if_neg hc25, if_neg hc28] : (0 : Int32) = (if (Int32.ofNat b) < p2 then (0 : Int32) else (if (Int32.ofNat b) < p1 then (if (f b) < p3 then (0 : Int32) else (1 : Int32)) else (0 : Int32))))), N0, rfl⟩
theorem d7_0 : decode method_6_code 0 = .ok (.aload_n 0, 1) := by decide +kernel
theorem d7_1 : decode method_6_code 1 = .ok (.iload_n 1, 1) := by decide +kernel
theorem d7_2 : decode method_6_code 2 = .ok (.iload_n 2, 1) := by decide +kernel
theorem d7_3 : decode method_6_code 3 = .ok (.iload_n 3, 1) := by decide +kernel
theorem d7_4 : decode method_6_code 4 = .ok (.iconst 0, 1) := by decide +kernel
theorem d7_5 : decode method_6_code 5 = .ok (.invokestatic 35, 3) := by decide +kernel
theorem d7_8 : decode method_6_code 8 = .ok (.ifCond .eq 5, 3) := by decide +kernel
theorem d7_11 : decode method_6_code 11 = .ok (.iconst 0, 1) := by decide +kernel
theorem d7_12 : decode method_6_code 12 = .ok (.ireturn, 1) := by decide +kernel
theorem d7_13 : decode method_6_code 13 = .ok (.aload_n 0, 1) := by decide +kernel
theorem d7_14 : decode method_6_code 14 = .ok (.iload_n 1, 1) := by decide +kernel
theorem d7_15 : decode method_6_code 15 = .ok (.iload_n 2, 1) := by decide +kernel
theorem d7_16 : decode method_6_code 16 = .ok (.iload_n 3, 1) := by decide +kernel
theorem d7_17 : decode method_6_code 17 = .ok (.iconst 1, 1) := by decide +kernel
theorem d7_18 : decode method_6_code 18 = .ok (.invokestatic 35, 3) := by decide +kernel
theorem d7_21 : decode method_6_code 21 = .ok (.ifCond .eq 5, 3) := by decide +kernel
theorem d7_24 : decode method_6_code 24 = .ok (.iconst 1, 1) := by decide +kernel
theorem d7_25 : decode method_6_code 25 = .ok (.ireturn, 1) := by decide +kernel
theorem d7_26 : decode method_6_code 26 = .ok (.aload_n 0, 1) := by decide +kernel
theorem d7_27 : decode method_6_code 27 = .ok (.iload_n 1, 1) := by decide +kernel
theorem d7_28 : decode method_6_code 28 = .ok (.iload_n 2, 1) := by decide +kernel
theorem d7_29 : decode method_6_code 29 = .ok (.iload_n 3, 1) := by decide +kernel
theorem d7_30 : decode method_6_code 30 = .ok (.iconst 2, 1) := by decide +kernel
theorem d7_31 : decode method_6_code 31 = .ok (.invokestatic 35, 3) := by decide +kernel
theorem d7_34 : decode method_6_code 34 = .ok (.ifCond .eq 5, 3) := by decide +kernel
theorem d7_37 : decode method_6_code 37 = .ok (.iconst 2, 1) := by decide +kernel
theorem d7_38 : decode method_6_code 38 = .ok (.ireturn, 1) := by decide +kernel
theorem d7_39 : decode method_6_code 39 = .ok (.aload_n 0, 1) := by decide +kernel
theorem d7_40 : decode method_6_code 40 = .ok (.iload_n 1, 1) := by decide +kernel
theorem d7_41 : decode method_6_code 41 = .ok (.iload_n 2, 1) := by decide +kernel
theorem d7_42 : decode method_6_code 42 = .ok (.iload_n 3, 1) := by decide +kernel
theorem d7_43 : decode method_6_code 43 = .ok (.iconst 3, 1) := by decide +kernel
theorem d7_44 : decode method_6_code 44 = .ok (.invokestatic 35, 3) := by decide +kernel
theorem d7_47 : decode method_6_code 47 = .ok (.ifCond .eq 5, 3) := by decide +kernel
theorem d7_50 : decode method_6_code 50 = .ok (.iconst 3, 1) := by decide +kernel
theorem d7_51 : decode method_6_code 51 = .ok (.ireturn, 1) := by decide +kernel
theorem d7_52 : decode method_6_code 52 = .ok (.aload_n 0, 1) := by decide +kernel
theorem d7_53 : decode method_6_code 53 = .ok (.iload_n 1, 1) := by decide +kernel
theorem d7_54 : decode method_6_code 54 = .ok (.iload_n 2, 1) := by decide +kernel
theorem d7_55 : decode method_6_code 55 = .ok (.iload_n 3, 1) := by decide +kernel
theorem d7_56 : decode method_6_code 56 = .ok (.iconst 4, 1) := by decide +kernel
theorem d7_57 : decode method_6_code 57 = .ok (.invokestatic 35, 3) := by decide +kernel
theorem d7_60 : decode method_6_code 60 = .ok (.ifCond .eq 5, 3) := by decide +kernel
theorem d7_63 : decode method_6_code 63 = .ok (.iconst 4, 1) := by decide +kernel
theorem d7_64 : decode method_6_code 64 = .ok (.ireturn, 1) := by decide +kernel
theorem d7_65 : decode method_6_code 65 = .ok (.aload_n 0, 1) := by decide +kernel
theorem d7_66 : decode method_6_code 66 = .ok (.iload_n 1, 1) := by decide +kernel
theorem d7_67 : decode method_6_code 67 = .ok (.iload_n 2, 1) := by decide +kernel
theorem d7_68 : decode method_6_code 68 = .ok (.iload_n 3, 1) := by decide +kernel
theorem d7_69 : decode method_6_code 69 = .ok (.iconst 5, 1) := by decide +kernel
theorem d7_70 : decode method_6_code 70 = .ok (.invokestatic 35, 3) := by decide +kernel
theorem d7_73 : decode method_6_code 73 = .ok (.ifCond .eq 5, 3) := by decide +kernel
theorem d7_76 : decode method_6_code 76 = .ok (.iconst 5, 1) := by decide +kernel
theorem d7_77 : decode method_6_code 77 = .ok (.ireturn, 1) := by decide +kernel
theorem d7_78 : decode method_6_code 78 = .ok (.aload_n 0, 1) := by decide +kernel
theorem d7_79 : decode method_6_code 79 = .ok (.iload_n 1, 1) := by decide +kernel
theorem d7_80 : decode method_6_code 80 = .ok (.iload_n 2, 1) := by decide +kernel
theorem d7_81 : decode method_6_code 81 = .ok (.iload_n 3, 1) := by decide +kernel
theorem d7_82 : decode method_6_code 82 = .ok (.bipush 6, 2) := by decide +kernel
theorem d7_84 : decode method_6_code 84 = .ok (.invokestatic 35, 3) := by decide +kernel
theorem d7_87 : decode method_6_code 87 = .ok (.ifCond .eq 6, 3) := by decide +kernel
theorem d7_90 : decode method_6_code 90 = .ok (.bipush 6, 2) := by decide +kernel
theorem d7_92 : decode method_6_code 92 = .ok (.ireturn, 1) := by decide +kernel
theorem d7_93 : decode method_6_code 93 = .ok (.aload_n 0, 1) := by decide +kernel
theorem d7_94 : decode method_6_code 94 = .ok (.iload_n 1, 1) := by decide +kernel
theorem d7_95 : decode method_6_code 95 = .ok (.iload_n 2, 1) := by decide +kernel
theorem d7_96 : decode method_6_code 96 = .ok (.iload_n 3, 1) := by decide +kernel
theorem d7_97 : decode method_6_code 97 = .ok (.bipush 7, 2) := by decide +kernel
theorem d7_99 : decode method_6_code 99 = .ok (.invokestatic 35, 3) := by decide +kernel
theorem d7_102 : decode method_6_code 102 = .ok (.ifCond .eq 6, 3) := by decide +kernel
theorem d7_105 : decode method_6_code 105 = .ok (.bipush 7, 2) := by decide +kernel
theorem d7_107 : decode method_6_code 107 = .ok (.ireturn, 1) := by decide +kernel
theorem d7_108 : decode method_6_code 108 = .ok (.iconst (-1), 1) := by decide +kernel
theorem d7_109 : decode method_6_code 109 = .ok (.ireturn, 1) := by decide +kernel
theorem pd39476568 : parseMethodDescriptor "([IIIII)Z" = some ⟨[(.array .int), .int, .int, .int, .int], some .boolean⟩ := by decide +kernel
theorem ef_7 (m : MethodId) (a0 : Addr) (p1 : Int32) (p2 : Int32) (p3 : Int32) : entryFrame m #[(.ref a0), (.int p1), (.int p2), (.int p3)] 4 = mkF m 0 #[.val (.ref a0), .val (.int p1), .val (.int p2), .val (.int p3)] [] := by first | (simp [entryFrame, mkF, argsToLocals, Value.category]; done) | rfl
def Q7 (Z : State) (a0 : Addr) (p1 : Int32) (p2 : Int32) (p3 : Int32) (f : Nat → Int32) (h0 : Heap) (n0 : Nat) (v : Option Value) (h : Heap) (L : List Loc) : Prop := v = some (.int (if (if (Int32.ofNat 0) < p2 then (0 : Int32) else (if (Int32.ofNat 0) < p1 then (if (f 0) < p3 then (0 : Int32) else (1 : Int32)) else (0 : Int32))) = (0 : Int32) then (if (if (Int32.ofNat 1) < p2 then (0 : Int32) else (if (Int32.ofNat 1) < p1 then (if (f 1) < p3 then (0 : Int32) else (1 : Int32)) else (0 : Int32))) = (0 : Int32) then (if (if (Int32.ofNat 2) < p2 then (0 : Int32) else (if (Int32.ofNat 2) < p1 then (if (f 2) < p3 then (0 : Int32) else (1 : Int32)) else (0 : Int32))) = (0 : Int32) then (if (if (Int32.ofNat 3) < p2 then (0 : Int32) else (if (Int32.ofNat 3) < p1 then (if (f 3) < p3 then (0 : Int32) else (1 : Int32)) else (0 : Int32))) = (0 : Int32) then (if (if (Int32.ofNat 4) < p2 then (0 : Int32) else (if (Int32.ofNat 4) < p1 then (if (f 4) < p3 then (0 : Int32) else (1 : Int32)) else (0 : Int32))) = (0 : Int32) then (if (if (Int32.ofNat 5) < p2 then (0 : Int32) else (if (Int32.ofNat 5) < p1 then (if (f 5) < p3 then (0 : Int32) else (1 : Int32)) else (0 : Int32))) = (0 : Int32) then (if (if (Int32.ofNat 6) < p2 then (0 : Int32) else (if (Int32.ofNat 6) < p1 then (if (f 6) < p3 then (0 : Int32) else (1 : Int32)) else (0 : Int32))) = (0 : Int32) then (if (if (Int32.ofNat 7) < p2 then (0 : Int32) else (if (Int32.ofNat 7) < p1 then (if (f 7) < p3 then (0 : Int32) else (1 : Int32)) else (0 : Int32))) = (0 : Int32) then (-1 : Int32) else (7 : Int32)) else (6 : Int32)) else (5 : Int32)) else (4 : Int32)) else (3 : Int32)) else (2 : Int32)) else (1 : Int32)) else (0 : Int32))) ∧ Fr n0 L ∧ h = h0
set_option maxRecDepth 65536 in
set_option maxHeartbeats 40000000 in
theorem rm7 (l : Launch) (Z : State) (aq : Array Value) (hw : ∀ d ∈ tables_1, d.before aq Z = true) (ws : List Jvm.Cond) (a0 : Addr) (p1 : Int32) (p2 : Int32) (p3 : Int32) (f : Nat → Int32) (h0 : Heap) (n0 : Nat) (Z0 : n0 ≤ h0.size) (V_a0 : own_Ar Z h0 a0 .int 8 f) :
    MetFree l (⟨"com/example/packwright/packwright/core/bins/FreeSpaceTreeEarliestPinLaw", "expected", "([IIII)I"⟩ : MethodName) (head1 (Jvm.Cond.code (⟨"com/example/packwright/packwright/core/bins/FreeSpaceTreeEarliestPinLaw", "expected", "([IIII)I"⟩ : MethodName) method_6_code 4 (some .int) :: ws) ({ frames := 1, cells := 0, slots := 0, locals := 16 } : Room)) (fun a U => a = #[(.ref a0), (.int p1), (.int p2), (.int p3)] ∧ Z.Warmed39 U.vm ∧ U.heap = h0) (fun _ _ _ _ _ => True) (fun _ U o U' => ∃ v L, o = .returned v ∧ Q7 Z a0 p1 p2 p3 f h0 n0 v U'.heap L ∧ FrameEnd U o U' L ({ frames := 1, cells := 0, slots := 0, locals := 16 } : Room).cells ({ frames := 1, cells := 0, slots := 0, locals := 16 } : Room).slots) := by
  refine MetFree.of_bodySF (plainFor_of_name pn7838729) hisR ?_
  intro p e s m args below meth c s₁ Bd hml0 hP hK
  obtain ⟨rfl, hZ, hh⟩ := hP
  have hx := Bd.exec
  have hby := Bd.bytes
  have hml : c.maxLocals = 4 := hml0
  have hown : s.vm.findClass "com/example/packwright/packwright/core/bins/FreeSpaceTreeEarliestPinLaw" = some m.cls := findClass_of_methodNamed Bd.named
  have hnm := (name_of_methodNamed Bd.named Bd.method).1
  have X0 : Stand p l e ({ frames := 1, cells := 0, slots := 0, locals := 16 } : Room) s m #[(.ref a0), (.int p1), (.int p2), (.int p3)] below meth c s₁ [] 0 0 := Stand.of_body Bd
  have e0 : s₁.heap = h0 := by rw [← hh, Bd.state]; rfl
  have N0 := Fr.nil n0
  have pre0 : ∀ t, Steps p.tables e below (s₁.setTop (mkF m 0 #[.val (.ref a0), .val (.int p1), .val (.int p2), .val (.int p3)] [])) t → Steps p.tables e below (s₁.setTop (entryFrame m #[(.ref a0), (.int p1), (.int p2), (.int p3)] 4)) t := fun t k => castTop (ef_7 m a0 p1 p2 p3) k
  obtain ⟨_, _, ⟨T66, L66, k66, n66⟩, -, X66, ⟨Lc66, hQ66, l66, y66, z66⟩, st66⟩ := Jvm.LawKit.callS X0 hx (y := (⟨"com/example/packwright/packwright/core/bins/FreeSpaceTreeEarliestPinLaw", "hit", "([IIIII)Z"⟩ : MethodName)) hown (mvT hZ (hw _ (List.mem_of_getElem? (i := 33) rfl))) (mvT hZ (hw _ (List.mem_of_getElem? (i := 34) rfl))) (mvT hZ (hw _ (List.mem_of_getElem? (i := 3) rfl))) (mvT hZ (hw _ (List.mem_of_getElem? (i := 35) rfl))) (by decide) (backOf (W := 0) (rm8 l Z aq hw [] a0 p1 p2 p3 f 0 h0 n0 Z0 V_a0 (by decide)) hZ (hw _ (List.mem_of_getElem? (i := 35) rfl)) (hw _ (List.mem_of_getElem? (i := 3) rfl)) (by decide) (by decide)) (g := (mkF m 5 #[.val (.ref a0), .val (.int p1), .val (.int p2), .val (.int p3)] [(.int (0 : Int32)), (.int p3), (.int p2), (.int p1), (.ref a0)])) rfl (by rw [hml]; rfl) (argsL := [(.ref a0), (.int p1), (.int p2), (.int p3), (.int (0 : Int32))]) (rest := []) (lenOf pd39476568 rfl) rfl (by show 2 * 0 + _ ≤ _; exact Nat.le_of_eq rfl) (hb hby d7_5) (fun _ _ => ⟨rfl, e0, (by decide : 0 + 0 ≤ _), (by decide : 0 + 0 ≤ _)⟩)
  dsimp only [Pt.U, Pt.locs, Pt.cells, Pt.slots] at X66 l66 y66 z66 st66 hQ66
  rw [l66, y66, z66] at X66
  obtain ⟨rfl, N66q, e66⟩ := hQ66
  have N67 := Fr.app N0 N66q
  have pre68 : ∀ t, Steps p.tables e below (T66.setTop (mkF m 8 #[.val (.ref a0), .val (.int p1), .val (.int p2), .val (.int p3)] [(.int (if (Int32.ofNat 0) < p2 then (0 : Int32) else (if (Int32.ofNat 0) < p1 then (if (f 0) < p3 then (0 : Int32) else (1 : Int32)) else (0 : Int32))))])) t → Steps p.tables e below (s₁.setTop (entryFrame m #[(.ref a0), (.int p1), (.int p2), (.int p3)] 4)) t := fun t kt => by
    refine pre0 _ ?_
    show Steps p.tables e below (s₁.setTop (mkF m 0 #[.val (.ref a0), .val (.int p1), .val (.int p2), .val (.int p3)] [])) _
    refine XS.aloadN X0.here hx rfl (hb hby d7_0) rfl rfl ?_
    show Steps p.tables e below (s₁.setTop (mkF m 1 #[.val (.ref a0), .val (.int p1), .val (.int p2), .val (.int p3)] [(.ref a0)])) _
    refine XS.iloadN X0.here hx rfl (hb hby d7_1) rfl ?_
    show Steps p.tables e below (s₁.setTop (mkF m 2 #[.val (.ref a0), .val (.int p1), .val (.int p2), .val (.int p3)] [(.int p1), (.ref a0)])) _
    refine XS.iloadN X0.here hx rfl (hb hby d7_2) rfl ?_
    show Steps p.tables e below (s₁.setTop (mkF m 3 #[.val (.ref a0), .val (.int p1), .val (.int p2), .val (.int p3)] [(.int p2), (.int p1), (.ref a0)])) _
    refine XS.iloadN X0.here hx rfl (hb hby d7_3) rfl ?_
    show Steps p.tables e below (s₁.setTop (mkF m 4 #[.val (.ref a0), .val (.int p1), .val (.int p2), .val (.int p3)] [(.int p3), (.int p2), (.int p1), (.ref a0)])) _
    refine XS.iconst X0.here hx rfl (hb hby d7_4) ?_
    show Steps p.tables e below (s₁.setTop (mkF m 5 #[.val (.ref a0), .val (.int p1), .val (.int p2), .val (.int p3)] [(.int (0 : Int32)), (.int p3), (.int p2), (.int p1), (.ref a0)])) _
    refine st66 _ ?_
    show Steps p.tables e below (T66.setTop (mkF m 8 #[.val (.ref a0), .val (.int p1), .val (.int p2), .val (.int p3)] [(.int (if (Int32.ofNat 0) < p2 then (0 : Int32) else (if (Int32.ofNat 0) < p1 then (if (f 0) < p3 then (0 : Int32) else (1 : Int32)) else (0 : Int32))))])) _
    exact kt
  by_cases hc69 : (if (Int32.ofNat 0) < p2 then (0 : Int32) else (if (Int32.ofNat 0) < p1 then (if (f 0) < p3 then (0 : Int32) else (1 : Int32)) else (0 : Int32))) = (0 : Int32)
  · skip
    obtain ⟨_, _, ⟨T70, L70, k70, n70⟩, -, X70, ⟨Lc70, hQ70, l70, y70, z70⟩, st70⟩ := Jvm.LawKit.callS X66 hx (y := (⟨"com/example/packwright/packwright/core/bins/FreeSpaceTreeEarliestPinLaw", "hit", "([IIIII)Z"⟩ : MethodName)) hown (mvT hZ (hw _ (List.mem_of_getElem? (i := 33) rfl))) (mvT hZ (hw _ (List.mem_of_getElem? (i := 34) rfl))) (mvT hZ (hw _ (List.mem_of_getElem? (i := 3) rfl))) (mvT hZ (hw _ (List.mem_of_getElem? (i := 35) rfl))) (by decide) (backOf (W := 0) (rm8 l Z aq hw [] a0 p1 p2 p3 f 1 h0 n0 Z0 V_a0 (by decide)) hZ (hw _ (List.mem_of_getElem? (i := 35) rfl)) (hw _ (List.mem_of_getElem? (i := 3) rfl)) (by decide) (by decide)) (g := (mkF m 18 #[.val (.ref a0), .val (.int p1), .val (.int p2), .val (.int p3)] [(.int (1 : Int32)), (.int p3), (.int p2), (.int p1), (.ref a0)])) rfl (by rw [hml]; rfl) (argsL := [(.ref a0), (.int p1), (.int p2), (.int p3), (.int (1 : Int32))]) (rest := []) (lenOf pd39476568 rfl) rfl (by show 2 * 0 + _ ≤ _; exact Nat.le_of_eq rfl) (hb hby d7_18) (fun _ _ => ⟨rfl, e66, (by decide : 0 + 0 ≤ _), (by decide : 0 + 0 ≤ _)⟩)
    dsimp only [Pt.U, Pt.locs, Pt.cells, Pt.slots] at X70 l70 y70 z70 st70 hQ70
    rw [l70, y70, z70] at X70
    obtain ⟨rfl, N70q, e70⟩ := hQ70
    have N71 := Fr.app N67 N70q
    have pre72 : ∀ t, Steps p.tables e below (T70.setTop (mkF m 21 #[.val (.ref a0), .val (.int p1), .val (.int p2), .val (.int p3)] [(.int (if (Int32.ofNat 1) < p2 then (0 : Int32) else (if (Int32.ofNat 1) < p1 then (if (f 1) < p3 then (0 : Int32) else (1 : Int32)) else (0 : Int32))))])) t → Steps p.tables e below (s₁.setTop (entryFrame m #[(.ref a0), (.int p1), (.int p2), (.int p3)] 4)) t := fun t kt => by
      refine pre68 _ ?_
      show Steps p.tables e below (T66.setTop (mkF m 8 #[.val (.ref a0), .val (.int p1), .val (.int p2), .val (.int p3)] [(.int (if (Int32.ofNat 0) < p2 then (0 : Int32) else (if (Int32.ofNat 0) < p1 then (if (f 0) < p3 then (0 : Int32) else (1 : Int32)) else (0 : Int32))))])) _
      refine XS.ifYes X66.here hx rfl (pc0 := 8) (pc' := 13) rfl (hb hby d7_8) rfl ((if0 _ _).trans (teq hc69).1) (by decide) (by decide) ?_
      show Steps p.tables e below (T66.setTop (mkF m 13 #[.val (.ref a0), .val (.int p1), .val (.int p2), .val (.int p3)] [])) _
      refine XS.aloadN X66.here hx rfl (hb hby d7_13) rfl rfl ?_
      show Steps p.tables e below (T66.setTop (mkF m 14 #[.val (.ref a0), .val (.int p1), .val (.int p2), .val (.int p3)] [(.ref a0)])) _
      refine XS.iloadN X66.here hx rfl (hb hby d7_14) rfl ?_
      show Steps p.tables e below (T66.setTop (mkF m 15 #[.val (.ref a0), .val (.int p1), .val (.int p2), .val (.int p3)] [(.int p1), (.ref a0)])) _
      refine XS.iloadN X66.here hx rfl (hb hby d7_15) rfl ?_
      show Steps p.tables e below (T66.setTop (mkF m 16 #[.val (.ref a0), .val (.int p1), .val (.int p2), .val (.int p3)] [(.int p2), (.int p1), (.ref a0)])) _
      refine XS.iloadN X66.here hx rfl (hb hby d7_16) rfl ?_
      show Steps p.tables e below (T66.setTop (mkF m 17 #[.val (.ref a0), .val (.int p1), .val (.int p2), .val (.int p3)] [(.int p3), (.int p2), (.int p1), (.ref a0)])) _
      refine XS.iconst X66.here hx rfl (hb hby d7_17) ?_
      show Steps p.tables e below (T66.setTop (mkF m 18 #[.val (.ref a0), .val (.int p1), .val (.int p2), .val (.int p3)] [(.int (1 : Int32)), (.int p3), (.int p2), (.int p1), (.ref a0)])) _
      refine st70 _ ?_
      show Steps p.tables e below (T70.setTop (mkF m 21 #[.val (.ref a0), .val (.int p1), .val (.int p2), .val (.int p3)] [(.int (if (Int32.ofNat 1) < p2 then (0 : Int32) else (if (Int32.ofNat 1) < p1 then (if (f 1) < p3 then (0 : Int32) else (1 : Int32)) else (0 : Int32))))])) _
      exact kt
    by_cases hc73 : (if (Int32.ofNat 1) < p2 then (0 : Int32) else (if (Int32.ofNat 1) < p1 then (if (f 1) < p3 then (0 : Int32) else (1 : Int32)) else (0 : Int32))) = (0 : Int32)
    · skip
      obtain ⟨_, _, ⟨T74, L74, k74, n74⟩, -, X74, ⟨Lc74, hQ74, l74, y74, z74⟩, st74⟩ := Jvm.LawKit.callS X70 hx (y := (⟨"com/example/packwright/packwright/core/bins/FreeSpaceTreeEarliestPinLaw", "hit", "([IIIII)Z"⟩ : MethodName)) hown (mvT hZ (hw _ (List.mem_of_getElem? (i := 33) rfl))) (mvT hZ (hw _ (List.mem_of_getElem? (i := 34) rfl))) (mvT hZ (hw _ (List.mem_of_getElem? (i := 3) rfl))) (mvT hZ (hw _ (List.mem_of_getElem? (i := 35) rfl))) (by decide) (backOf (W := 0) (rm8 l Z aq hw [] a0 p1 p2 p3 f 2 h0 n0 Z0 V_a0 (by decide)) hZ (hw _ (List.mem_of_getElem? (i := 35) rfl)) (hw _ (List.mem_of_getElem? (i := 3) rfl)) (by decide) (by decide)) (g := (mkF m 31 #[.val (.ref a0), .val (.int p1), .val (.int p2), .val (.int p3)] [(.int (2 : Int32)), (.int p3), (.int p2), (.int p1), (.ref a0)])) rfl (by rw [hml]; rfl) (argsL := [(.ref a0), (.int p1), (.int p2), (.int p3), (.int (2 : Int32))]) (rest := []) (lenOf pd39476568 rfl) rfl (by show 2 * 0 + _ ≤ _; exact Nat.le_of_eq rfl) (hb hby d7_31) (fun _ _ => ⟨rfl, e70, (by decide : 0 + 0 ≤ _), (by decide : 0 + 0 ≤ _)⟩)
      dsimp only [Pt.U, Pt.locs, Pt.cells, Pt.slots] at X74 l74 y74 z74 st74 hQ74
      rw [l74, y74, z74] at X74
      obtain ⟨rfl, N74q, e74⟩ := hQ74
      have N75 := Fr.app N71 N74q
      have pre76 : ∀ t, Steps p.tables e below (T74.setTop (mkF m 34 #[.val (.ref a0), .val (.int p1), .val (.int p2), .val (.int p3)] [(.int (if (Int32.ofNat 2) < p2 then (0 : Int32) else (if (Int32.ofNat 2) < p1 then (if (f 2) < p3 then (0 : Int32) else (1 : Int32)) else (0 : Int32))))])) t → Steps p.tables e below (s₁.setTop (entryFrame m #[(.ref a0), (.int p1), (.int p2), (.int p3)] 4)) t := fun t kt => by
        refine pre72 _ ?_
        show Steps p.tables e below (T70.setTop (mkF m 21 #[.val (.ref a0), .val (.int p1), .val (.int p2), .val (.int p3)] [(.int (if (Int32.ofNat 1) < p2 then (0 : Int32) else (if (Int32.ofNat 1) < p1 then (if (f 1) < p3 then (0 : Int32) else (1 : Int32)) else (0 : Int32))))])) _
        refine XS.ifYes X70.here hx rfl (pc0 := 21) (pc' := 26) rfl (hb hby d7_21) rfl ((if0 _ _).trans (teq hc73).1) (by decide) (by decide) ?_
        show Steps p.tables e below (T70.setTop (mkF m 26 #[.val (.ref a0), .val (.int p1), .val (.int p2), .val (.int p3)] [])) _
        refine XS.aloadN X70.here hx rfl (hb hby d7_26) rfl rfl ?_
        show Steps p.tables e below (T70.setTop (mkF m 27 #[.val (.ref a0), .val (.int p1), .val (.int p2), .val (.int p3)] [(.ref a0)])) _
        refine XS.iloadN X70.here hx rfl (hb hby d7_27) rfl ?_
        show Steps p.tables e below (T70.setTop (mkF m 28 #[.val (.ref a0), .val (.int p1), .val (.int p2), .val (.int p3)] [(.int p1), (.ref a0)])) _
        refine XS.iloadN X70.here hx rfl (hb hby d7_28) rfl ?_
        show Steps p.tables e below (T70.setTop (mkF m 29 #[.val (.ref a0), .val (.int p1), .val (.int p2), .val (.int p3)] [(.int p2), (.int p1), (.ref a0)])) _
        refine XS.iloadN X70.here hx rfl (hb hby d7_29) rfl ?_
        show Steps p.tables e below (T70.setTop (mkF m 30 #[.val (.ref a0), .val (.int p1), .val (.int p2), .val (.int p3)] [(.int p3), (.int p2), (.int p1), (.ref a0)])) _
        refine XS.iconst X70.here hx rfl (hb hby d7_30) ?_
        show Steps p.tables e below (T70.setTop (mkF m 31 #[.val (.ref a0), .val (.int p1), .val (.int p2), .val (.int p3)] [(.int (2 : Int32)), (.int p3), (.int p2), (.int p1), (.ref a0)])) _
        refine st74 _ ?_
        show Steps p.tables e below (T74.setTop (mkF m 34 #[.val (.ref a0), .val (.int p1), .val (.int p2), .val (.int p3)] [(.int (if (Int32.ofNat 2) < p2 then (0 : Int32) else (if (Int32.ofNat 2) < p1 then (if (f 2) < p3 then (0 : Int32) else (1 : Int32)) else (0 : Int32))))])) _
        exact kt
      by_cases hc77 : (if (Int32.ofNat 2) < p2 then (0 : Int32) else (if (Int32.ofNat 2) < p1 then (if (f 2) < p3 then (0 : Int32) else (1 : Int32)) else (0 : Int32))) = (0 : Int32)
      · skip
        obtain ⟨_, _, ⟨T78, L78, k78, n78⟩, -, X78, ⟨Lc78, hQ78, l78, y78, z78⟩, st78⟩ := Jvm.LawKit.callS X74 hx (y := (⟨"com/example/packwright/packwright/core/bins/FreeSpaceTreeEarliestPinLaw", "hit", "([IIIII)Z"⟩ : MethodName)) hown (mvT hZ (hw _ (List.mem_of_getElem? (i := 33) rfl))) (mvT hZ (hw _ (List.mem_of_getElem? (i := 34) rfl))) (mvT hZ (hw _ (List.mem_of_getElem? (i := 3) rfl))) (mvT hZ (hw _ (List.mem_of_getElem? (i := 35) rfl))) (by decide) (backOf (W := 0) (rm8 l Z aq hw [] a0 p1 p2 p3 f 3 h0 n0 Z0 V_a0 (by decide)) hZ (hw _ (List.mem_of_getElem? (i := 35) rfl)) (hw _ (List.mem_of_getElem? (i := 3) rfl)) (by decide) (by decide)) (g := (mkF m 44 #[.val (.ref a0), .val (.int p1), .val (.int p2), .val (.int p3)] [(.int (3 : Int32)), (.int p3), (.int p2), (.int p1), (.ref a0)])) rfl (by rw [hml]; rfl) (argsL := [(.ref a0), (.int p1), (.int p2), (.int p3), (.int (3 : Int32))]) (rest := []) (lenOf pd39476568 rfl) rfl (by show 2 * 0 + _ ≤ _; exact Nat.le_of_eq rfl) (hb hby d7_44) (fun _ _ => ⟨rfl, e74, (by decide : 0 + 0 ≤ _), (by decide : 0 + 0 ≤ _)⟩)
        dsimp only [Pt.U, Pt.locs, Pt.cells, Pt.slots] at X78 l78 y78 z78 st78 hQ78
        rw [l78, y78, z78] at X78
        obtain ⟨rfl, N78q, e78⟩ := hQ78
        have N79 := Fr.app N75 N78q
        have pre80 : ∀ t, Steps p.tables e below (T78.setTop (mkF m 47 #[.val (.ref a0), .val (.int p1), .val (.int p2), .val (.int p3)] [(.int (if (Int32.ofNat 3) < p2 then (0 : Int32) else (if (Int32.ofNat 3) < p1 then (if (f 3) < p3 then (0 : Int32) else (1 : Int32)) else (0 : Int32))))])) t → Steps p.tables e below (s₁.setTop (entryFrame m #[(.ref a0), (.int p1), (.int p2), (.int p3)] 4)) t := fun t kt => by
          refine pre76 _ ?_
          show Steps p.tables e below (T74.setTop (mkF m 34 #[.val (.ref a0), .val (.int p1), .val (.int p2), .val (.int p3)] [(.int (if (Int32.ofNat 2) < p2 then (0 : Int32) else (if (Int32.ofNat 2) < p1 then (if (f 2) < p3 then (0 : Int32) else (1 : Int32)) else (0 : Int32))))])) _
          refine XS.ifYes X74.here hx rfl (pc0 := 34) (pc' := 39) rfl (hb hby d7_34) rfl ((if0 _ _).trans (teq hc77).1) (by decide) (by decide) ?_
          show Steps p.tables e below (T74.setTop (mkF m 39 #[.val (.ref a0), .val (.int p1), .val (.int p2), .val (.int p3)] [])) _
          refine XS.aloadN X74.here hx rfl (hb hby d7_39) rfl rfl ?_
          show Steps p.tables e below (T74.setTop (mkF m 40 #[.val (.ref a0), .val (.int p1), .val (.int p2), .val (.int p3)] [(.ref a0)])) _
          refine XS.iloadN X74.here hx rfl (hb hby d7_40) rfl ?_
          show Steps p.tables e below (T74.setTop (mkF m 41 #[.val (.ref a0), .val (.int p1), .val (.int p2), .val (.int p3)] [(.int p1), (.ref a0)])) _
          refine XS.iloadN X74.here hx rfl (hb hby d7_41) rfl ?_
          show Steps p.tables e below (T74.setTop (mkF m 42 #[.val (.ref a0), .val (.int p1), .val (.int p2), .val (.int p3)] [(.int p2), (.int p1), (.ref a0)])) _
          refine XS.iloadN X74.here hx rfl (hb hby d7_42) rfl ?_
          show Steps p.tables e below (T74.setTop (mkF m 43 #[.val (.ref a0), .val (.int p1), .val (.int p2), .val (.int p3)] [(.int p3), (.int p2), (.int p1), (.ref a0)])) _
          refine XS.iconst X74.here hx rfl (hb hby d7_43) ?_
          show Steps p.tables e below (T74.setTop (mkF m 44 #[.val (.ref a0), .val (.int p1), .val (.int p2), .val (.int p3)] [(.int (3 : Int32)), (.int p3), (.int p2), (.int p1), (.ref a0)])) _
          refine st78 _ ?_
          show Steps p.tables e below (T78.setTop (mkF m 47 #[.val (.ref a0), .val (.int p1), .val (.int p2), .val (.int p3)] [(.int (if (Int32.ofNat 3) < p2 then (0 : Int32) else (if (Int32.ofNat 3) < p1 then (if (f 3) < p3 then (0 : Int32) else (1 : Int32)) else (0 : Int32))))])) _
          exact kt
        by_cases hc81 : (if (Int32.ofNat 3) < p2 then (0 : Int32) else (if (Int32.ofNat 3) < p1 then (if (f 3) < p3 then (0 : Int32) else (1 : Int32)) else (0 : Int32))) = (0 : Int32)
        · skip
          obtain ⟨_, _, ⟨T82, L82, k82, n82⟩, -, X82, ⟨Lc82, hQ82, l82, y82, z82⟩, st82⟩ := Jvm.LawKit.callS X78 hx (y := (⟨"com/example/packwright/packwright/core/bins/FreeSpaceTreeEarliestPinLaw", "hit", "([IIIII)Z"⟩ : MethodName)) hown (mvT hZ (hw _ (List.mem_of_getElem? (i := 33) rfl))) (mvT hZ (hw _ (List.mem_of_getElem? (i := 34) rfl))) (mvT hZ (hw _ (List.mem_of_getElem? (i := 3) rfl))) (mvT hZ (hw _ (List.mem_of_getElem? (i := 35) rfl))) (by decide) (backOf (W := 0) (rm8 l Z aq hw [] a0 p1 p2 p3 f 4 h0 n0 Z0 V_a0 (by decide)) hZ (hw _ (List.mem_of_getElem? (i := 35) rfl)) (hw _ (List.mem_of_getElem? (i := 3) rfl)) (by decide) (by decide)) (g := (mkF m 57 #[.val (.ref a0), .val (.int p1), .val (.int p2), .val (.int p3)] [(.int (4 : Int32)), (.int p3), (.int p2), (.int p1), (.ref a0)])) rfl (by rw [hml]; rfl) (argsL := [(.ref a0), (.int p1), (.int p2), (.int p3), (.int (4 : Int32))]) (rest := []) (lenOf pd39476568 rfl) rfl (by show 2 * 0 + _ ≤ _; exact Nat.le_of_eq rfl) (hb hby d7_57) (fun _ _ => ⟨rfl, e78, (by decide : 0 + 0 ≤ _), (by decide : 0 + 0 ≤ _)⟩)
          dsimp only [Pt.U, Pt.locs, Pt.cells, Pt.slots] at X82 l82 y82 z82 st82 hQ82
          rw [l82, y82, z82] at X82
          obtain ⟨rfl, N82q, e82⟩ := hQ82
          have N83 := Fr.app N79 N82q
          have pre84 : ∀ t, Steps p.tables e below (T82.setTop (mkF m 60 #[.val (.ref a0), .val (.int p1), .val (.int p2), .val (.int p3)] [(.int (if (Int32.ofNat 4) < p2 then (0 : Int32) else (if (Int32.ofNat 4) < p1 then (if (f 4) < p3 then (0 : Int32) else (1 : Int32)) else (0 : Int32))))])) t → Steps p.tables e below (s₁.setTop (entryFrame m #[(.ref a0), (.int p1), (.int p2), (.int p3)] 4)) t := fun t kt => by
            refine pre80 _ ?_
            show Steps p.tables e below (T78.setTop (mkF m 47 #[.val (.ref a0), .val (.int p1), .val (.int p2), .val (.int p3)] [(.int (if (Int32.ofNat 3) < p2 then (0 : Int32) else (if (Int32.ofNat 3) < p1 then (if (f 3) < p3 then (0 : Int32) else (1 : Int32)) else (0 : Int32))))])) _
            refine XS.ifYes X78.here hx rfl (pc0 := 47) (pc' := 52) rfl (hb hby d7_47) rfl ((if0 _ _).trans (teq hc81).1) (by decide) (by decide) ?_
            show Steps p.tables e below (T78.setTop (mkF m 52 #[.val (.ref a0), .val (.int p1), .val (.int p2), .val (.int p3)] [])) _
            refine XS.aloadN X78.here hx rfl (hb hby d7_52) rfl rfl ?_
            show Steps p.tables e below (T78.setTop (mkF m 53 #[.val (.ref a0), .val (.int p1), .val (.int p2), .val (.int p3)] [(.ref a0)])) _
            refine XS.iloadN X78.here hx rfl (hb hby d7_53) rfl ?_
            show Steps p.tables e below (T78.setTop (mkF m 54 #[.val (.ref a0), .val (.int p1), .val (.int p2), .val (.int p3)] [(.int p1), (.ref a0)])) _
            refine XS.iloadN X78.here hx rfl (hb hby d7_54) rfl ?_
            show Steps p.tables e below (T78.setTop (mkF m 55 #[.val (.ref a0), .val (.int p1), .val (.int p2), .val (.int p3)] [(.int p2), (.int p1), (.ref a0)])) _
            refine XS.iloadN X78.here hx rfl (hb hby d7_55) rfl ?_
            show Steps p.tables e below (T78.setTop (mkF m 56 #[.val (.ref a0), .val (.int p1), .val (.int p2), .val (.int p3)] [(.int p3), (.int p2), (.int p1), (.ref a0)])) _
            refine XS.iconst X78.here hx rfl (hb hby d7_56) ?_
            show Steps p.tables e below (T78.setTop (mkF m 57 #[.val (.ref a0), .val (.int p1), .val (.int p2), .val (.int p3)] [(.int (4 : Int32)), (.int p3), (.int p2), (.int p1), (.ref a0)])) _
            refine st82 _ ?_
            show Steps p.tables e below (T82.setTop (mkF m 60 #[.val (.ref a0), .val (.int p1), .val (.int p2), .val (.int p3)] [(.int (if (Int32.ofNat 4) < p2 then (0 : Int32) else (if (Int32.ofNat 4) < p1 then (if (f 4) < p3 then (0 : Int32) else (1 : Int32)) else (0 : Int32))))])) _
            exact kt
          by_cases hc85 : (if (Int32.ofNat 4) < p2 then (0 : Int32) else (if (Int32.ofNat 4) < p1 then (if (f 4) < p3 then (0 : Int32) else (1 : Int32)) else (0 : Int32))) = (0 : Int32)
          · skip
            obtain ⟨_, _, ⟨T86, L86, k86, n86⟩, -, X86, ⟨Lc86, hQ86, l86, y86, z86⟩, st86⟩ := Jvm.LawKit.callS X82 hx (y := (⟨"com/example/packwright/packwright/core/bins/FreeSpaceTreeEarliestPinLaw", "hit", "([IIIII)Z"⟩ : MethodName)) hown (mvT hZ (hw _ (List.mem_of_getElem? (i := 33) rfl))) (mvT hZ (hw _ (List.mem_of_getElem? (i := 34) rfl))) (mvT hZ (hw _ (List.mem_of_getElem? (i := 3) rfl))) (mvT hZ (hw _ (List.mem_of_getElem? (i := 35) rfl))) (by decide) (backOf (W := 0) (rm8 l Z aq hw [] a0 p1 p2 p3 f 5 h0 n0 Z0 V_a0 (by decide)) hZ (hw _ (List.mem_of_getElem? (i := 35) rfl)) (hw _ (List.mem_of_getElem? (i := 3) rfl)) (by decide) (by decide)) (g := (mkF m 70 #[.val (.ref a0), .val (.int p1), .val (.int p2), .val (.int p3)] [(.int (5 : Int32)), (.int p3), (.int p2), (.int p1), (.ref a0)])) rfl (by rw [hml]; rfl) (argsL := [(.ref a0), (.int p1), (.int p2), (.int p3), (.int (5 : Int32))]) (rest := []) (lenOf pd39476568 rfl) rfl (by show 2 * 0 + _ ≤ _; exact Nat.le_of_eq rfl) (hb hby d7_70) (fun _ _ => ⟨rfl, e82, (by decide : 0 + 0 ≤ _), (by decide : 0 + 0 ≤ _)⟩)
            dsimp only [Pt.U, Pt.locs, Pt.cells, Pt.slots] at X86 l86 y86 z86 st86 hQ86
            rw [l86, y86, z86] at X86
            obtain ⟨rfl, N86q, e86⟩ := hQ86
            have N87 := Fr.app N83 N86q
            have pre88 : ∀ t, Steps p.tables e below (T86.setTop (mkF m 73 #[.val (.ref a0), .val (.int p1), .val (.int p2), .val (.int p3)] [(.int (if (Int32.ofNat 5) < p2 then (0 : Int32) else (if (Int32.ofNat 5) < p1 then (if (f 5) < p3 then (0 : Int32) else (1 : Int32)) else (0 : Int32))))])) t → Steps p.tables e below (s₁.setTop (entryFrame m #[(.ref a0), (.int p1), (.int p2), (.int p3)] 4)) t := fun t kt => by
              refine pre84 _ ?_
              show Steps p.tables e below (T82.setTop (mkF m 60 #[.val (.ref a0), .val (.int p1), .val (.int p2), .val (.int p3)] [(.int (if (Int32.ofNat 4) < p2 then (0 : Int32) else (if (Int32.ofNat 4) < p1 then (if (f 4) < p3 then (0 : Int32) else (1 : Int32)) else (0 : Int32))))])) _
              refine XS.ifYes X82.here hx rfl (pc0 := 60) (pc' := 65) rfl (hb hby d7_60) rfl ((if0 _ _).trans (teq hc85).1) (by decide) (by decide) ?_
              show Steps p.tables e below (T82.setTop (mkF m 65 #[.val (.ref a0), .val (.int p1), .val (.int p2), .val (.int p3)] [])) _
              refine XS.aloadN X82.here hx rfl (hb hby d7_65) rfl rfl ?_
              show Steps p.tables e below (T82.setTop (mkF m 66 #[.val (.ref a0), .val (.int p1), .val (.int p2), .val (.int p3)] [(.ref a0)])) _
              refine XS.iloadN X82.here hx rfl (hb hby d7_66) rfl ?_
              show Steps p.tables e below (T82.setTop (mkF m 67 #[.val (.ref a0), .val (.int p1), .val (.int p2), .val (.int p3)] [(.int p1), (.ref a0)])) _
              refine XS.iloadN X82.here hx rfl (hb hby d7_67) rfl ?_
              show Steps p.tables e below (T82.setTop (mkF m 68 #[.val (.ref a0), .val (.int p1), .val (.int p2), .val (.int p3)] [(.int p2), (.int p1), (.ref a0)])) _
              refine XS.iloadN X82.here hx rfl (hb hby d7_68) rfl ?_
              show Steps p.tables e below (T82.setTop (mkF m 69 #[.val (.ref a0), .val (.int p1), .val (.int p2), .val (.int p3)] [(.int p3), (.int p2), (.int p1), (.ref a0)])) _
              refine XS.iconst X82.here hx rfl (hb hby d7_69) ?_
              show Steps p.tables e below (T82.setTop (mkF m 70 #[.val (.ref a0), .val (.int p1), .val (.int p2), .val (.int p3)] [(.int (5 : Int32)), (.int p3), (.int p2), (.int p1), (.ref a0)])) _
              refine st86 _ ?_
              show Steps p.tables e below (T86.setTop (mkF m 73 #[.val (.ref a0), .val (.int p1), .val (.int p2), .val (.int p3)] [(.int (if (Int32.ofNat 5) < p2 then (0 : Int32) else (if (Int32.ofNat 5) < p1 then (if (f 5) < p3 then (0 : Int32) else (1 : Int32)) else (0 : Int32))))])) _
              exact kt
            by_cases hc89 : (if (Int32.ofNat 5) < p2 then (0 : Int32) else (if (Int32.ofNat 5) < p1 then (if (f 5) < p3 then (0 : Int32) else (1 : Int32)) else (0 : Int32))) = (0 : Int32)
            · skip
              obtain ⟨_, _, ⟨T90, L90, k90, n90⟩, -, X90, ⟨Lc90, hQ90, l90, y90, z90⟩, st90⟩ := Jvm.LawKit.callS X86 hx (y := (⟨"com/example/packwright/packwright/core/bins/FreeSpaceTreeEarliestPinLaw", "hit", "([IIIII)Z"⟩ : MethodName)) hown (mvT hZ (hw _ (List.mem_of_getElem? (i := 33) rfl))) (mvT hZ (hw _ (List.mem_of_getElem? (i := 34) rfl))) (mvT hZ (hw _ (List.mem_of_getElem? (i := 3) rfl))) (mvT hZ (hw _ (List.mem_of_getElem? (i := 35) rfl))) (by decide) (backOf (W := 0) (rm8 l Z aq hw [] a0 p1 p2 p3 f 6 h0 n0 Z0 V_a0 (by decide)) hZ (hw _ (List.mem_of_getElem? (i := 35) rfl)) (hw _ (List.mem_of_getElem? (i := 3) rfl)) (by decide) (by decide)) (g := (mkF m 84 #[.val (.ref a0), .val (.int p1), .val (.int p2), .val (.int p3)] [(.int (6 : Int32)), (.int p3), (.int p2), (.int p1), (.ref a0)])) rfl (by rw [hml]; rfl) (argsL := [(.ref a0), (.int p1), (.int p2), (.int p3), (.int (6 : Int32))]) (rest := []) (lenOf pd39476568 rfl) rfl (by show 2 * 0 + _ ≤ _; exact Nat.le_of_eq rfl) (hb hby d7_84) (fun _ _ => ⟨rfl, e86, (by decide : 0 + 0 ≤ _), (by decide : 0 + 0 ≤ _)⟩)
              dsimp only [Pt.U, Pt.locs, Pt.cells, Pt.slots] at X90 l90 y90 z90 st90 hQ90
              rw [l90, y90, z90] at X90
              obtain ⟨rfl, N90q, e90⟩ := hQ90
              have N91 := Fr.app N87 N90q
              have pre92 : ∀ t, Steps p.tables e below (T90.setTop (mkF m 87 #[.val (.ref a0), .val (.int p1), .val (.int p2), .val (.int p3)] [(.int (if (Int32.ofNat 6) < p2 then (0 : Int32) else (if (Int32.ofNat 6) < p1 then (if (f 6) < p3 then (0 : Int32) else (1 : Int32)) else (0 : Int32))))])) t → Steps p.tables e below (s₁.setTop (entryFrame m #[(.ref a0), (.int p1), (.int p2), (.int p3)] 4)) t := fun t kt => by
                refine pre88 _ ?_
                show Steps p.tables e below (T86.setTop (mkF m 73 #[.val (.ref a0), .val (.int p1), .val (.int p2), .val (.int p3)] [(.int (if (Int32.ofNat 5) < p2 then (0 : Int32) else (if (Int32.ofNat 5) < p1 then (if (f 5) < p3 then (0 : Int32) else (1 : Int32)) else (0 : Int32))))])) _
                refine XS.ifYes X86.here hx rfl (pc0 := 73) (pc' := 78) rfl (hb hby d7_73) rfl ((if0 _ _).trans (teq hc89).1) (by decide) (by decide) ?_
                show Steps p.tables e below (T86.setTop (mkF m 78 #[.val (.ref a0), .val (.int p1), .val (.int p2), .val (.int p3)] [])) _
                refine XS.aloadN X86.here hx rfl (hb hby d7_78) rfl rfl ?_
                show Steps p.tables e below (T86.setTop (mkF m 79 #[.val (.ref a0), .val (.int p1), .val (.int p2), .val (.int p3)] [(.ref a0)])) _
                refine XS.iloadN X86.here hx rfl (hb hby d7_79) rfl ?_
                show Steps p.tables e below (T86.setTop (mkF m 80 #[.val (.ref a0), .val (.int p1), .val (.int p2), .val (.int p3)] [(.int p1), (.ref a0)])) _
                refine XS.iloadN X86.here hx rfl (hb hby d7_80) rfl ?_
                show Steps p.tables e below (T86.setTop (mkF m 81 #[.val (.ref a0), .val (.int p1), .val (.int p2), .val (.int p3)] [(.int p2), (.int p1), (.ref a0)])) _
                refine XS.iloadN X86.here hx rfl (hb hby d7_81) rfl ?_
                show Steps p.tables e below (T86.setTop (mkF m 82 #[.val (.ref a0), .val (.int p1), .val (.int p2), .val (.int p3)] [(.int p3), (.int p2), (.int p1), (.ref a0)])) _
                refine XS.bipush X86.here hx rfl (hb hby d7_82) ?_
                show Steps p.tables e below (T86.setTop (mkF m 84 #[.val (.ref a0), .val (.int p1), .val (.int p2), .val (.int p3)] [(.int (6 : Int32)), (.int p3), (.int p2), (.int p1), (.ref a0)])) _
                refine st90 _ ?_
                show Steps p.tables e below (T90.setTop (mkF m 87 #[.val (.ref a0), .val (.int p1), .val (.int p2), .val (.int p3)] [(.int (if (Int32.ofNat 6) < p2 then (0 : Int32) else (if (Int32.ofNat 6) < p1 then (if (f 6) < p3 then (0 : Int32) else (1 : Int32)) else (0 : Int32))))])) _
                exact kt
              by_cases hc93 : (if (Int32.ofNat 6) < p2 then (0 : Int32) else (if (Int32.ofNat 6) < p1 then (if (f 6) < p3 then (0 : Int32) else (1 : Int32)) else (0 : Int32))) = (0 : Int32)
              · skip
                obtain ⟨_, _, ⟨T94, L94, k94, n94⟩, -, X94, ⟨Lc94, hQ94, l94, y94, z94⟩, st94⟩ := Jvm.LawKit.callS X90 hx (y := (⟨"com/example/packwright/packwright/core/bins/FreeSpaceTreeEarliestPinLaw", "hit", "([IIIII)Z"⟩ : MethodName)) hown (mvT hZ (hw _ (List.mem_of_getElem? (i := 33) rfl))) (mvT hZ (hw _ (List.mem_of_getElem? (i := 34) rfl))) (mvT hZ (hw _ (List.mem_of_getElem? (i := 3) rfl))) (mvT hZ (hw _ (List.mem_of_getElem? (i := 35) rfl))) (by decide) (backOf (W := 0) (rm8 l Z aq hw [] a0 p1 p2 p3 f 7 h0 n0 Z0 V_a0 (by decide)) hZ (hw _ (List.mem_of_getElem? (i := 35) rfl)) (hw _ (List.mem_of_getElem? (i := 3) rfl)) (by decide) (by decide)) (g := (mkF m 99 #[.val (.ref a0), .val (.int p1), .val (.int p2), .val (.int p3)] [(.int (7 : Int32)), (.int p3), (.int p2), (.int p1), (.ref a0)])) rfl (by rw [hml]; rfl) (argsL := [(.ref a0), (.int p1), (.int p2), (.int p3), (.int (7 : Int32))]) (rest := []) (lenOf pd39476568 rfl) rfl (by show 2 * 0 + _ ≤ _; exact Nat.le_of_eq rfl) (hb hby d7_99) (fun _ _ => ⟨rfl, e90, (by decide : 0 + 0 ≤ _), (by decide : 0 + 0 ≤ _)⟩)
                dsimp only [Pt.U, Pt.locs, Pt.cells, Pt.slots] at X94 l94 y94 z94 st94 hQ94
                rw [l94, y94, z94] at X94
                obtain ⟨rfl, N94q, e94⟩ := hQ94
                have N95 := Fr.app N91 N94q
                have pre96 : ∀ t, Steps p.tables e below (T94.setTop (mkF m 102 #[.val (.ref a0), .val (.int p1), .val (.int p2), .val (.int p3)] [(.int (if (Int32.ofNat 7) < p2 then (0 : Int32) else (if (Int32.ofNat 7) < p1 then (if (f 7) < p3 then (0 : Int32) else (1 : Int32)) else (0 : Int32))))])) t → Steps p.tables e below (s₁.setTop (entryFrame m #[(.ref a0), (.int p1), (.int p2), (.int p3)] 4)) t := fun t kt => by
                  refine pre92 _ ?_
                  show Steps p.tables e below (T90.setTop (mkF m 87 #[.val (.ref a0), .val (.int p1), .val (.int p2), .val (.int p3)] [(.int (if (Int32.ofNat 6) < p2 then (0 : Int32) else (if (Int32.ofNat 6) < p1 then (if (f 6) < p3 then (0 : Int32) else (1 : Int32)) else (0 : Int32))))])) _
                  refine XS.ifYes X90.here hx rfl (pc0 := 87) (pc' := 93) rfl (hb hby d7_87) rfl ((if0 _ _).trans (teq hc93).1) (by decide) (by decide) ?_
                  show Steps p.tables e below (T90.setTop (mkF m 93 #[.val (.ref a0), .val (.int p1), .val (.int p2), .val (.int p3)] [])) _
                  refine XS.aloadN X90.here hx rfl (hb hby d7_93) rfl rfl ?_
                  show Steps p.tables e below (T90.setTop (mkF m 94 #[.val (.ref a0), .val (.int p1), .val (.int p2), .val (.int p3)] [(.ref a0)])) _
                  refine XS.iloadN X90.here hx rfl (hb hby d7_94) rfl ?_
                  show Steps p.tables e below (T90.setTop (mkF m 95 #[.val (.ref a0), .val (.int p1), .val (.int p2), .val (.int p3)] [(.int p1), (.ref a0)])) _
                  refine XS.iloadN X90.here hx rfl (hb hby d7_95) rfl ?_
                  show Steps p.tables e below (T90.setTop (mkF m 96 #[.val (.ref a0), .val (.int p1), .val (.int p2), .val (.int p3)] [(.int p2), (.int p1), (.ref a0)])) _
                  refine XS.iloadN X90.here hx rfl (hb hby d7_96) rfl ?_
                  show Steps p.tables e below (T90.setTop (mkF m 97 #[.val (.ref a0), .val (.int p1), .val (.int p2), .val (.int p3)] [(.int p3), (.int p2), (.int p1), (.ref a0)])) _
                  refine XS.bipush X90.here hx rfl (hb hby d7_97) ?_
                  show Steps p.tables e below (T90.setTop (mkF m 99 #[.val (.ref a0), .val (.int p1), .val (.int p2), .val (.int p3)] [(.int (7 : Int32)), (.int p3), (.int p2), (.int p1), (.ref a0)])) _
                  refine st94 _ ?_
                  show Steps p.tables e below (T94.setTop (mkF m 102 #[.val (.ref a0), .val (.int p1), .val (.int p2), .val (.int p3)] [(.int (if (Int32.ofNat 7) < p2 then (0 : Int32) else (if (Int32.ofNat 7) < p1 then (if (f 7) < p3 then (0 : Int32) else (1 : Int32)) else (0 : Int32))))])) _
                  exact kt
                by_cases hc97 : (if (Int32.ofNat 7) < p2 then (0 : Int32) else (if (Int32.ofNat 7) < p1 then (if (f 7) < p3 then (0 : Int32) else (1 : Int32)) else (0 : Int32))) = (0 : Int32)
                · skip
                  have pre98 : ∀ t, Steps p.tables e below (T94.setTop (mkF m 109 #[.val (.ref a0), .val (.int p1), .val (.int p2), .val (.int p3)] [(.int (-1 : Int32))])) t → Steps p.tables e below (s₁.setTop (entryFrame m #[(.ref a0), (.int p1), (.int p2), (.int p3)] 4)) t := fun t kt => by
                    refine pre96 _ ?_
                    show Steps p.tables e below (T94.setTop (mkF m 102 #[.val (.ref a0), .val (.int p1), .val (.int p2), .val (.int p3)] [(.int (if (Int32.ofNat 7) < p2 then (0 : Int32) else (if (Int32.ofNat 7) < p1 then (if (f 7) < p3 then (0 : Int32) else (1 : Int32)) else (0 : Int32))))])) _
                    refine XS.ifYes X94.here hx rfl (pc0 := 102) (pc' := 108) rfl (hb hby d7_102) rfl ((if0 _ _).trans (teq hc97).1) (by decide) (by decide) ?_
                    show Steps p.tables e below (T94.setTop (mkF m 108 #[.val (.ref a0), .val (.int p1), .val (.int p2), .val (.int p3)] [])) _
                    refine XS.iconst X94.here hx rfl (hb hby d7_108) ?_
                    show Steps p.tables e below (T94.setTop (mkF m 109 #[.val (.ref a0), .val (.int p1), .val (.int p2), .val (.int p3)] [(.int (-1 : Int32))])) _
                    exact kt
                  obtain ⟨fs, hr, hrun, hended, hW, hsame⟩ := X94.leave (v := some (.int (-1 : Int32))) (fun h => by rw [Bd.returns] at h; cases h)
                  refine ⟨_, _, pre98 _ ?_, hrun, hended, _, _, rfl, ?_, ⟨_, rfl⟩, hW, hsame.mono (by decide) (by decide)⟩
                  · exact retI X94 hx Bd.returns (hb hby d7_109) hr
                  · show Q7 Z a0 p1 p2 p3 f h0 n0 _ T94.heap _
                    rw [e94]
                    exact ⟨(own_rI (by rw [if_pos hc69, if_pos hc73, if_pos hc77, if_pos hc81, if_pos hc85, if_pos hc89, if_pos hc93, if_pos hc97] : (-1 : Int32) = (if (if (Int32.ofNat 0) < p2 then (0 : Int32) else (if (Int32.ofNat 0) < p1 then (if (f 0) < p3 then (0 : Int32) else (1 : Int32)) else (0 : Int32))) = (0 : Int32) then (if (if (Int32.ofNat 1) < p2 then (0 : Int32) else (if (Int32.ofNat 1) < p1 then (if (f 1) < p3 then (0 : Int32) else (1 : Int32)) else (0 : Int32))) = (0 : Int32) then (if (if (Int32.ofNat 2) < p2 then (0 : Int32) else (if (Int32.ofNat 2) < p1 then (if (f 2) < p3 then (0 : Int32) else (1 : Int32)) else (0 : Int32))) = (0 : Int32) then (if (if (Int32.ofNat 3) < p2 then (0 : Int32) else (if (Int32.ofNat 3) < p1 then (if (f 3) < p3 then (0 : Int32) else (1 : Int32)) else (0 : Int32))) = (0 : Int32) then (if (if (Int32.ofNat 4) < p2 then (0 : Int32) else (if (Int32.ofNat 4) < p1 then (if (f 4) < p3 then (0 : Int32) else (1 : Int32)) else (0 : Int32))) = (0 : Int32) then (if (if (Int32.ofNat 5) < p2 then (0 : Int32) else (if (Int32.ofNat 5) < p1 then (if (f 5) < p3 then (0 : Int32) else (1 : Int32)) else (0 : Int32))) = (0 : Int32) then (if (if (Int32.ofNat 6) < p2 then (0 : Int32) else (if (Int32.ofNat 6) < p1 then (if (f 6) < p3 then (0 : Int32) else (1 : Int32)) else (0 : Int32))) = (0 : Int32) then (if (if (Int32.ofNat 7) < p2 then (0 : Int32) else (if (Int32.ofNat 7) < p1 then (if (f 7) < p3 then (0 : Int32) else (1 : Int32)) else (0 : Int32))) = (0 : Int32) then (-1 : Int32) else (7 : Int32)) else (6 : Int32)) else (5 : Int32)) else (4 : Int32)) else (3 : Int32)) else (2 : Int32)) else (1 : Int32)) else (0 : Int32)))), N95, rfl⟩
                · skip
                  have pre99 : ∀ t, Steps p.tables e below (T94.setTop (mkF m 107 #[.val (.ref a0), .val (.int p1), .val (.int p2), .val (.int p3)] [(.int (7 : Int32))])) t → Steps p.tables e below (s₁.setTop (entryFrame m #[(.ref a0), (.int p1), (.int p2), (.int p3)] 4)) t := fun t kt => by
                    refine pre96 _ ?_
                    show Steps p.tables e below (T94.setTop (mkF m 102 #[.val (.ref a0), .val (.int p1), .val (.int p2), .val (.int p3)] [(.int (if (Int32.ofNat 7) < p2 then (0 : Int32) else (if (Int32.ofNat 7) < p1 then (if (f 7) < p3 then (0 : Int32) else (1 : Int32)) else (0 : Int32))))])) _
                    refine XS.ifNo X94.here hx rfl (hb hby d7_102) rfl ((if0 _ _).trans (feq hc97).1) ?_
                    show Steps p.tables e below (T94.setTop (mkF m 105 #[.val (.ref a0), .val (.int p1), .val (.int p2), .val (.int p3)] [])) _
                    refine XS.bipush X94.here hx rfl (hb hby d7_105) ?_
                    show Steps p.tables e below (T94.setTop (mkF m 107 #[.val (.ref a0), .val (.int p1), .val (.int p2), .val (.int p3)] [(.int (7 : Int32))])) _
                    exact kt
                  obtain ⟨fs, hr, hrun, hended, hW, hsame⟩ := X94.leave (v := some (.int (7 : Int32))) (fun h => by rw [Bd.returns] at h; cases h)
                  refine ⟨_, _, pre99 _ ?_, hrun, hended, _, _, rfl, ?_, ⟨_, rfl⟩, hW, hsame.mono (by decide) (by decide)⟩
                  · exact retI X94 hx Bd.returns (hb hby d7_107) hr
                  · show Q7 Z a0 p1 p2 p3 f h0 n0 _ T94.heap _
                    rw [e94]
                    exact ⟨(own_rI (by rw [if_pos hc69, if_pos hc73, if_pos hc77, if_pos hc81, if_pos hc85, if_pos hc89, if_pos hc93, if_neg hc97] : (7 : Int32) = (if (if (Int32.ofNat 0) < p2 then (0 : Int32) else (if (Int32.ofNat 0) < p1 then (if (f 0) < p3 then (0 : Int32) else (1 : Int32)) else (0 : Int32))) = (0 : Int32) then (if (if (Int32.ofNat 1) < p2 then (0 : Int32) else (if (Int32.ofNat 1) < p1 then (if (f 1) < p3 then (0 : Int32) else (1 : Int32)) else (0 : Int32))) = (0 : Int32) then (if (if (Int32.ofNat 2) < p2 then (0 : Int32) else (if (Int32.ofNat 2) < p1 then (if (f 2) < p3 then (0 : Int32) else (1 : Int32)) else (0 : Int32))) = (0 : Int32) then (if (if (Int32.ofNat 3) < p2 then (0 : Int32) else (if (Int32.ofNat 3) < p1 then (if (f 3) < p3 then (0 : Int32) else (1 : Int32)) else (0 : Int32))) = (0 : Int32) then (if (if (Int32.ofNat 4) < p2 then (0 : Int32) else (if (Int32.ofNat 4) < p1 then (if (f 4) < p3 then (0 : Int32) else (1 : Int32)) else (0 : Int32))) = (0 : Int32) then (if (if (Int32.ofNat 5) < p2 then (0 : Int32) else (if (Int32.ofNat 5) < p1 then (if (f 5) < p3 then (0 : Int32) else (1 : Int32)) else (0 : Int32))) = (0 : Int32) then (if (if (Int32.ofNat 6) < p2 then (0 : Int32) else (if (Int32.ofNat 6) < p1 then (if (f 6) < p3 then (0 : Int32) else (1 : Int32)) else (0 : Int32))) = (0 : Int32) then (if (if (Int32.ofNat 7) < p2 then (0 : Int32) else (if (Int32.ofNat 7) < p1 then (if (f 7) < p3 then (0 : Int32) else (1 : Int32)) else (0 : Int32))) = (0 : Int32) then (-1 : Int32) else (7 : Int32)) else (6 : Int32)) else (5 : Int32)) else (4 : Int32)) else (3 : Int32)) else (2 : Int32)) else (1 : Int32)) else (0 : Int32)))), N95, rfl⟩
              · skip
                have pre100 : ∀ t, Steps p.tables e below (T90.setTop (mkF m 92 #[.val (.ref a0), .val (.int p1), .val (.int p2), .val (.int p3)] [(.int (6 : Int32))])) t → Steps p.tables e below (s₁.setTop (entryFrame m #[(.ref a0), (.int p1), (.int p2), (.int p3)] 4)) t := fun t kt => by
                  refine pre92 _ ?_
                  show Steps p.tables e below (T90.setTop (mkF m 87 #[.val (.ref a0), .val (.int p1), .val (.int p2), .val (.int p3)] [(.int (if (Int32.ofNat 6) < p2 then (0 : Int32) else (if (Int32.ofNat 6) < p1 then (if (f 6) < p3 then (0 : Int32) else (1 : Int32)) else (0 : Int32))))])) _
                  refine XS.ifNo X90.here hx rfl (hb hby d7_87) rfl ((if0 _ _).trans (feq hc93).1) ?_
                  show Steps p.tables e below (T90.setTop (mkF m 90 #[.val (.ref a0), .val (.int p1), .val (.int p2), .val (.int p3)] [])) _
                  refine XS.bipush X90.here hx rfl (hb hby d7_90) ?_
                  show Steps p.tables e below (T90.setTop (mkF m 92 #[.val (.ref a0), .val (.int p1), .val (.int p2), .val (.int p3)] [(.int (6 : Int32))])) _
                  exact kt
                obtain ⟨fs, hr, hrun, hended, hW, hsame⟩ := X90.leave (v := some (.int (6 : Int32))) (fun h => by rw [Bd.returns] at h; cases h)
                refine ⟨_, _, pre100 _ ?_, hrun, hended, _, _, rfl, ?_, ⟨_, rfl⟩, hW, hsame.mono (by decide) (by decide)⟩
                · exact retI X90 hx Bd.returns (hb hby d7_92) hr
                · show Q7 Z a0 p1 p2 p3 f h0 n0 _ T90.heap _
                  rw [e90]
                  exact ⟨(own_rI (by rw [if_pos hc69, if_pos hc73, if_pos hc77, if_pos hc81, if_pos hc85, if_pos hc89, if_neg hc93] : (6 : Int32) = (if (if (Int32.ofNat 0) < p2 then (0 : Int32) else (if (Int32.ofNat 0) < p1 then (if (f 0) < p3 then (0 : Int32) else (1 : Int32)) else (0 : Int32))) = (0 : Int32) then (if (if (Int32.ofNat 1) < p2 then (0 : Int32) else (if (Int32.ofNat 1) < p1 then (if (f 1) < p3 then (0 : Int32) else (1 : Int32)) else (0 : Int32))) = (0 : Int32) then (if (if (Int32.ofNat 2) < p2 then (0 : Int32) else (if (Int32.ofNat 2) < p1 then (if (f 2) < p3 then (0 : Int32) else (1 : Int32)) else (0 : Int32))) = (0 : Int32) then (if (if (Int32.ofNat 3) < p2 then (0 : Int32) else (if (Int32.ofNat 3) < p1 then (if (f 3) < p3 then (0 : Int32) else (1 : Int32)) else (0 : Int32))) = (0 : Int32) then (if (if (Int32.ofNat 4) < p2 then (0 : Int32) else (if (Int32.ofNat 4) < p1 then (if (f 4) < p3 then (0 : Int32) else (1 : Int32)) else (0 : Int32))) = (0 : Int32) then (if (if (Int32.ofNat 5) < p2 then (0 : Int32) else (if (Int32.ofNat 5) < p1 then (if (f 5) < p3 then (0 : Int32) else (1 : Int32)) else (0 : Int32))) = (0 : Int32) then (if (if (Int32.ofNat 6) < p2 then (0 : Int32) else (if (Int32.ofNat 6) < p1 then (if (f 6) < p3 then (0 : Int32) else (1 : Int32)) else (0 : Int32))) = (0 : Int32) then (if (if (Int32.ofNat 7) < p2 then (0 : Int32) else (if (Int32.ofNat 7) < p1 then (if (f 7) < p3 then (0 : Int32) else (1 : Int32)) else (0 : Int32))) = (0 : Int32) then (-1 : Int32) else (7 : Int32)) else (6 : Int32)) else (5 : Int32)) else (4 : Int32)) else (3 : Int32)) else (2 : Int32)) else (1 : Int32)) else (0 : Int32)))), N91, rfl⟩
            · skip
              have pre101 : ∀ t, Steps p.tables e below (T86.setTop (mkF m 77 #[.val (.ref a0), .val (.int p1), .val (.int p2), .val (.int p3)] [(.int (5 : Int32))])) t → Steps p.tables e below (s₁.setTop (entryFrame m #[(.ref a0), (.int p1), (.int p2), (.int p3)] 4)) t := fun t kt => by
                refine pre88 _ ?_
                show Steps p.tables e below (T86.setTop (mkF m 73 #[.val (.ref a0), .val (.int p1), .val (.int p2), .val (.int p3)] [(.int (if (Int32.ofNat 5) < p2 then (0 : Int32) else (if (Int32.ofNat 5) < p1 then (if (f 5) < p3 then (0 : Int32) else (1 : Int32)) else (0 : Int32))))])) _
                refine XS.ifNo X86.here hx rfl (hb hby d7_73) rfl ((if0 _ _).trans (feq hc89).1) ?_
                show Steps p.tables e below (T86.setTop (mkF m 76 #[.val (.ref a0), .val (.int p1), .val (.int p2), .val (.int p3)] [])) _
                refine XS.iconst X86.here hx rfl (hb hby d7_76) ?_
                show Steps p.tables e below (T86.setTop (mkF m 77 #[.val (.ref a0), .val (.int p1), .val (.int p2), .val (.int p3)] [(.int (5 : Int32))])) _
                exact kt
              obtain ⟨fs, hr, hrun, hended, hW, hsame⟩ := X86.leave (v := some (.int (5 : Int32))) (fun h => by rw [Bd.returns] at h; cases h)
              refine ⟨_, _, pre101 _ ?_, hrun, hended, _, _, rfl, ?_, ⟨_, rfl⟩, hW, hsame.mono (by decide) (by decide)⟩
              · exact retI X86 hx Bd.returns (hb hby d7_77) hr
              · show Q7 Z a0 p1 p2 p3 f h0 n0 _ T86.heap _
                rw [e86]
                exact ⟨(own_rI (by rw [if_pos hc69, if_pos hc73, if_pos hc77, if_pos hc81, if_pos hc85, if_neg hc89] : (5 : Int32) = (if (if (Int32.ofNat 0) < p2 then (0 : Int32) else (if (Int32.ofNat 0) < p1 then (if (f 0) < p3 then (0 : Int32) else (1 : Int32)) else (0 : Int32))) = (0 : Int32) then (if (if (Int32.ofNat 1) < p2 then (0 : Int32) else (if (Int32.ofNat 1) < p1 then (if (f 1) < p3 then (0 : Int32) else (1 : Int32)) else (0 : Int32))) = (0 : Int32) then (if (if (Int32.ofNat 2) < p2 then (0 : Int32) else (if (Int32.ofNat 2) < p1 then (if (f 2) < p3 then (0 : Int32) else (1 : Int32)) else (0 : Int32))) = (0 : Int32) then (if (if (Int32.ofNat 3) < p2 then (0 : Int32) else (if (Int32.ofNat 3) < p1 then (if (f 3) < p3 then (0 : Int32) else (1 : Int32)) else (0 : Int32))) = (0 : Int32) then (if (if (Int32.ofNat 4) < p2 then (0 : Int32) else (if (Int32.ofNat 4) < p1 then (if (f 4) < p3 then (0 : Int32) else (1 : Int32)) else (0 : Int32))) = (0 : Int32) then (if (if (Int32.ofNat 5) < p2 then (0 : Int32) else (if (Int32.ofNat 5) < p1 then (if (f 5) < p3 then (0 : Int32) else (1 : Int32)) else (0 : Int32))) = (0 : Int32) then (if (if (Int32.ofNat 6) < p2 then (0 : Int32) else (if (Int32.ofNat 6) < p1 then (if (f 6) < p3 then (0 : Int32) else (1 : Int32)) else (0 : Int32))) = (0 : Int32) then (if (if (Int32.ofNat 7) < p2 then (0 : Int32) else (if (Int32.ofNat 7) < p1 then (if (f 7) < p3 then (0 : Int32) else (1 : Int32)) else (0 : Int32))) = (0 : Int32) then (-1 : Int32) else (7 : Int32)) else (6 : Int32)) else (5 : Int32)) else (4 : Int32)) else (3 : Int32)) else (2 : Int32)) else (1 : Int32)) else (0 : Int32)))), N87, rfl⟩
          · skip
            have pre102 : ∀ t, Steps p.tables e below (T82.setTop (mkF m 64 #[.val (.ref a0), .val (.int p1), .val (.int p2), .val (.int p3)] [(.int (4 : Int32))])) t → Steps p.tables e below (s₁.setTop (entryFrame m #[(.ref a0), (.int p1), (.int p2), (.int p3)] 4)) t := fun t kt => by
              refine pre84 _ ?_
              show Steps p.tables e below (T82.setTop (mkF m 60 #[.val (.ref a0), .val (.int p1), .val (.int p2), .val (.int p3)] [(.int (if (Int32.ofNat 4) < p2 then (0 : Int32) else (if (Int32.ofNat 4) < p1 then (if (f 4) < p3 then (0 : Int32) else (1 : Int32)) else (0 : Int32))))])) _
              refine XS.ifNo X82.here hx rfl (hb hby d7_60) rfl ((if0 _ _).trans (feq hc85).1) ?_
              show Steps p.tables e below (T82.setTop (mkF m 63 #[.val (.ref a0), .val (.int p1), .val (.int p2), .val (.int p3)] [])) _
              refine XS.iconst X82.here hx rfl (hb hby d7_63) ?_
              show Steps p.tables e below (T82.setTop (mkF m 64 #[.val (.ref a0), .val (.int p1), .val (.int p2), .val (.int p3)] [(.int (4 : Int32))])) _
              exact kt
            obtain ⟨fs, hr, hrun, hended, hW, hsame⟩ := X82.leave (v := some (.int (4 : Int32))) (fun h => by rw [Bd.returns] at h; cases h)
            refine ⟨_, _, pre102 _ ?_, hrun, hended, _, _, rfl, ?_, ⟨_, rfl⟩, hW, hsame.mono (by decide) (by decide)⟩
            · exact retI X82 hx Bd.returns (hb hby d7_64) hr
            · show Q7 Z a0 p1 p2 p3 f h0 n0 _ T82.heap _
              rw [e82]
              exact ⟨(own_rI (by rw [if_pos hc69, if_pos hc73, if_pos hc77, if_pos hc81, if_neg hc85] : (4 : Int32) = (if (if (Int32.ofNat 0) < p2 then (0 : Int32) else (if (Int32.ofNat 0) < p1 then (if (f 0) < p3 then (0 : Int32) else (1 : Int32)) else (0 : Int32))) = (0 : Int32) then (if (if (Int32.ofNat 1) < p2 then (0 : Int32) else (if (Int32.ofNat 1) < p1 then (if (f 1) < p3 then (0 : Int32) else (1 : Int32)) else (0 : Int32))) = (0 : Int32) then (if (if (Int32.ofNat 2) < p2 then (0 : Int32) else (if (Int32.ofNat 2) < p1 then (if (f 2) < p3 then (0 : Int32) else (1 : Int32)) else (0 : Int32))) = (0 : Int32) then (if (if (Int32.ofNat 3) < p2 then (0 : Int32) else (if (Int32.ofNat 3) < p1 then (if (f 3) < p3 then (0 : Int32) else (1 : Int32)) else (0 : Int32))) = (0 : Int32) then (if (if (Int32.ofNat 4) < p2 then (0 : Int32) else (if (Int32.ofNat 4) < p1 then (if (f 4) < p3 then (0 : Int32) else (1 : Int32)) else (0 : Int32))) = (0 : Int32) then (if (if (Int32.ofNat 5) < p2 then (0 : Int32) else (if (Int32.ofNat 5) < p1 then (if (f 5) < p3 then (0 : Int32) else (1 : Int32)) else (0 : Int32))) = (0 : Int32) then (if (if (Int32.ofNat 6) < p2 then (0 : Int32) else (if (Int32.ofNat 6) < p1 then (if (f 6) < p3 then (0 : Int32) else (1 : Int32)) else (0 : Int32))) = (0 : Int32) then (if (if (Int32.ofNat 7) < p2 then (0 : Int32) else (if (Int32.ofNat 7) < p1 then (if (f 7) < p3 then (0 : Int32) else (1 : Int32)) else (0 : Int32))) = (0 : Int32) then (-1 : Int32) else (7 : Int32)) else (6 : Int32)) else (5 : Int32)) else (4 : Int32)) else (3 : Int32)) else (2 : Int32)) else (1 : Int32)) else (0 : Int32)))), N83, rfl⟩
        · skip
          have pre103 : ∀ t, Steps p.tables e below (T78.setTop (mkF m 51 #[.val (.ref a0), .val (.int p1), .val (.int p2), .val (.int p3)] [(.int (3 : Int32))])) t → Steps p.tables e below (s₁.setTop (entryFrame m #[(.ref a0), (.int p1), (.int p2), (.int p3)] 4)) t := fun t kt => by
            refine pre80 _ ?_
            show Steps p.tables e below (T78.setTop (mkF m 47 #[.val (.ref a0), .val (.int p1), .val (.int p2), .val (.int p3)] [(.int (if (Int32.ofNat 3) < p2 then (0 : Int32) else (if (Int32.ofNat 3) < p1 then (if (f 3) < p3 then (0 : Int32) else (1 : Int32)) else (0 : Int32))))])) _
            refine XS.ifNo X78.here hx rfl (hb hby d7_47) rfl ((if0 _ _).trans (feq hc81).1) ?_
            show Steps p.tables e below (T78.setTop (mkF m 50 #[.val (.ref a0), .val (.int p1), .val (.int p2), .val (.int p3)] [])) _
            refine XS.iconst X78.here hx rfl (hb hby d7_50) ?_
            show Steps p.tables e below (T78.setTop (mkF m 51 #[.val (.ref a0), .val (.int p1), .val (.int p2), .val (.int p3)] [(.int (3 : Int32))])) _
            exact kt
          obtain ⟨fs, hr, hrun, hended, hW, hsame⟩ := X78.leave (v := some (.int (3 : Int32))) (fun h => by rw [Bd.returns] at h; cases h)
          refine ⟨_, _, pre103 _ ?_, hrun, hended, _, _, rfl, ?_, ⟨_, rfl⟩, hW, hsame.mono (by decide) (by decide)⟩
          · exact retI X78 hx Bd.returns (hb hby d7_51) hr
          · show Q7 Z a0 p1 p2 p3 f h0 n0 _ T78.heap _
            rw [e78]
            exact ⟨(own_rI (by rw [if_pos hc69, if_pos hc73, if_pos hc77, if_neg hc81] : (3 : Int32) = (if (if (Int32.ofNat 0) < p2 then (0 : Int32) else (if (Int32.ofNat 0) < p1 then (if (f 0) < p3 then (0 : Int32) else (1 : Int32)) else (0 : Int32))) = (0 : Int32) then (if (if (Int32.ofNat 1) < p2 then (0 : Int32) else (if (Int32.ofNat 1) < p1 then (if (f 1) < p3 then (0 : Int32) else (1 : Int32)) else (0 : Int32))) = (0 : Int32) then (if (if (Int32.ofNat 2) < p2 then (0 : Int32) else (if (Int32.ofNat 2) < p1 then (if (f 2) < p3 then (0 : Int32) else (1 : Int32)) else (0 : Int32))) = (0 : Int32) then (if (if (Int32.ofNat 3) < p2 then (0 : Int32) else (if (Int32.ofNat 3) < p1 then (if (f 3) < p3 then (0 : Int32) else (1 : Int32)) else (0 : Int32))) = (0 : Int32) then (if (if (Int32.ofNat 4) < p2 then (0 : Int32) else (if (Int32.ofNat 4) < p1 then (if (f 4) < p3 then (0 : Int32) else (1 : Int32)) else (0 : Int32))) = (0 : Int32) then (if (if (Int32.ofNat 5) < p2 then (0 : Int32) else (if (Int32.ofNat 5) < p1 then (if (f 5) < p3 then (0 : Int32) else (1 : Int32)) else (0 : Int32))) = (0 : Int32) then (if (if (Int32.ofNat 6) < p2 then (0 : Int32) else (if (Int32.ofNat 6) < p1 then (if (f 6) < p3 then (0 : Int32) else (1 : Int32)) else (0 : Int32))) = (0 : Int32) then (if (if (Int32.ofNat 7) < p2 then (0 : Int32) else (if (Int32.ofNat 7) < p1 then (if (f 7) < p3 then (0 : Int32) else (1 : Int32)) else (0 : Int32))) = (0 : Int32) then (-1 : Int32) else (7 : Int32)) else (6 : Int32)) else (5 : Int32)) else (4 : Int32)) else (3 : Int32)) else (2 : Int32)) else (1 : Int32)) else (0 : Int32)))), N79, rfl⟩
      · skip
        have pre104 : ∀ t, Steps p.tables e below (T74.setTop (mkF m 38 #[.val (.ref a0), .val (.int p1), .val (.int p2), .val (.int p3)] [(.int (2 : Int32))])) t → Steps p.tables e below (s₁.setTop (entryFrame m #[(.ref a0), (.int p1), (.int p2), (.int p3)] 4)) t := fun t kt => by
          refine pre76 _ ?_
          show Steps p.tables e below (T74.setTop (mkF m 34 #[.val (.ref a0), .val (.int p1), .val (.int p2), .val (.int p3)] [(.int (if (Int32.ofNat 2) < p2 then (0 : Int32) else (if (Int32.ofNat 2) < p1 then (if (f 2) < p3 then (0 : Int32) else (1 : Int32)) else (0 : Int32))))])) _
          refine XS.ifNo X74.here hx rfl (hb hby d7_34) rfl ((if0 _ _).trans (feq hc77).1) ?_
          show Steps p.tables e below (T74.setTop (mkF m 37 #[.val (.ref a0), .val (.int p1), .val (.int p2), .val (.int p3)] [])) _
          refine XS.iconst X74.here hx rfl (hb hby d7_37) ?_
          show Steps p.tables e below (T74.setTop (mkF m 38 #[.val (.ref a0), .val (.int p1), .val (.int p2), .val (.int p3)] [(.int (2 : Int32))])) _
          exact kt
        obtain ⟨fs, hr, hrun, hended, hW, hsame⟩ := X74.leave (v := some (.int (2 : Int32))) (fun h => by rw [Bd.returns] at h; cases h)
        refine ⟨_, _, pre104 _ ?_, hrun, hended, _, _, rfl, ?_, ⟨_, rfl⟩, hW, hsame.mono (by decide) (by decide)⟩
        · exact retI X74 hx Bd.returns (hb hby d7_38) hr
        · show Q7 Z a0 p1 p2 p3 f h0 n0 _ T74.heap _
          rw [e74]
          exact ⟨(own_rI (by rw [if_pos hc69, if_pos hc73, if_neg hc77] : (2 : Int32) = (if (if (Int32.ofNat 0) < p2 then (0 : Int32) else (if (Int32.ofNat 0) < p1 then (if (f 0) < p3 then (0 : Int32) else (1 : Int32)) else (0 : Int32))) = (0 : Int32) then (if (if (Int32.ofNat 1) < p2 then (0 : Int32) else (if (Int32.ofNat 1) < p1 then (if (f 1) < p3 then (0 : Int32) else (1 : Int32)) else (0 : Int32))) = (0 : Int32) then (if (if (Int32.ofNat 2) < p2 then (0 : Int32) else (if (Int32.ofNat 2) < p1 then (if (f 2) < p3 then (0 : Int32) else (1 : Int32)) else (0 : Int32))) = (0 : Int32) then (if (if (Int32.ofNat 3) < p2 then (0 : Int32) else (if (Int32.ofNat 3) < p1 then (if (f 3) < p3 then (0 : Int32) else (1 : Int32)) else (0 : Int32))) = (0 : Int32) then (if (if (Int32.ofNat 4) < p2 then (0 : Int32) else (if (Int32.ofNat 4) < p1 then (if (f 4) < p3 then (0 : Int32) else (1 : Int32)) else (0 : Int32))) = (0 : Int32) then (if (if (Int32.ofNat 5) < p2 then (0 : Int32) else (if (Int32.ofNat 5) < p1 then (if (f 5) < p3 then (0 : Int32) else (1 : Int32)) else (0 : Int32))) = (0 : Int32) then (if (if (Int32.ofNat 6) < p2 then (0 : Int32) else (if (Int32.ofNat 6) < p1 then (if (f 6) < p3 then (0 : Int32) else (1 : Int32)) else (0 : Int32))) = (0 : Int32) then (if (if (Int32.ofNat 7) < p2 then (0 : Int32) else (if (Int32.ofNat 7) < p1 then (if (f 7) < p3 then (0 : Int32) else (1 : Int32)) else (0 : Int32))) = (0 : Int32) then (-1 : Int32) else (7 : Int32)) else (6 : Int32)) else (5 : Int32)) else (4 : Int32)) else (3 : Int32)) else (2 : Int32)) else (1 : Int32)) else (0 : Int32)))), N75, rfl⟩
    · skip
      have pre105 : ∀ t, Steps p.tables e below (T70.setTop (mkF m 25 #[.val (.ref a0), .val (.int p1), .val (.int p2), .val (.int p3)] [(.int (1 : Int32))])) t → Steps p.tables e below (s₁.setTop (entryFrame m #[(.ref a0), (.int p1), (.int p2), (.int p3)] 4)) t := fun t kt => by
        refine pre72 _ ?_
        show Steps p.tables e below (T70.setTop (mkF m 21 #[.val (.ref a0), .val (.int p1), .val (.int p2), .val (.int p3)] [(.int (if (Int32.ofNat 1) < p2 then (0 : Int32) else (if (Int32.ofNat 1) < p1 then (if (f 1) < p3 then (0 : Int32) else (1 : Int32)) else (0 : Int32))))])) _
        refine XS.ifNo X70.here hx rfl (hb hby d7_21) rfl ((if0 _ _).trans (feq hc73).1) ?_
        show Steps p.tables e below (T70.setTop (mkF m 24 #[.val (.ref a0), .val (.int p1), .val (.int p2), .val (.int p3)] [])) _
        refine XS.iconst X70.here hx rfl (hb hby d7_24) ?_
        show Steps p.tables e below (T70.setTop (mkF m 25 #[.val (.ref a0), .val (.int p1), .val (.int p2), .val (.int p3)] [(.int (1 : Int32))])) _
        exact kt
      obtain ⟨fs, hr, hrun, hended, hW, hsame⟩ := X70.leave (v := some (.int (1 : Int32))) (fun h => by rw [Bd.returns] at h; cases h)
      refine ⟨_, _, pre105 _ ?_, hrun, hended, _, _, rfl, ?_, ⟨_, rfl⟩, hW, hsame.mono (by decide) (by decide)⟩
      · exact retI X70 hx Bd.returns (hb hby d7_25) hr
      · show Q7 Z a0 p1 p2 p3 f h0 n0 _ T70.heap _
        rw [e70]
        exact ⟨(own_rI (by rw [if_pos hc69, if_neg hc73] : (1 : Int32) = (if (if (Int32.ofNat 0) < p2 then (0 : Int32) else (if (Int32.ofNat 0) < p1 then (if (f 0) < p3 then (0 : Int32) else (1 : Int32)) else (0 : Int32))) = (0 : Int32) then (if (if (Int32.ofNat 1) < p2 then (0 : Int32) else (if (Int32.ofNat 1) < p1 then (if (f 1) < p3 then (0 : Int32) else (1 : Int32)) else (0 : Int32))) = (0 : Int32) then (if (if (Int32.ofNat 2) < p2 then (0 : Int32) else (if (Int32.ofNat 2) < p1 then (if (f 2) < p3 then (0 : Int32) else (1 : Int32)) else (0 : Int32))) = (0 : Int32) then (if (if (Int32.ofNat 3) < p2 then (0 : Int32) else (if (Int32.ofNat 3) < p1 then (if (f 3) < p3 then (0 : Int32) else (1 : Int32)) else (0 : Int32))) = (0 : Int32) then (if (if (Int32.ofNat 4) < p2 then (0 : Int32) else (if (Int32.ofNat 4) < p1 then (if (f 4) < p3 then (0 : Int32) else (1 : Int32)) else (0 : Int32))) = (0 : Int32) then (if (if (Int32.ofNat 5) < p2 then (0 : Int32) else (if (Int32.ofNat 5) < p1 then (if (f 5) < p3 then (0 : Int32) else (1 : Int32)) else (0 : Int32))) = (0 : Int32) then (if (if (Int32.ofNat 6) < p2 then (0 : Int32) else (if (Int32.ofNat 6) < p1 then (if (f 6) < p3 then (0 : Int32) else (1 : Int32)) else (0 : Int32))) = (0 : Int32) then (if (if (Int32.ofNat 7) < p2 then (0 : Int32) else (if (Int32.ofNat 7) < p1 then (if (f 7) < p3 then (0 : Int32) else (1 : Int32)) else (0 : Int32))) = (0 : Int32) then (-1 : Int32) else (7 : Int32)) else (6 : Int32)) else (5 : Int32)) else (4 : Int32)) else (3 : Int32)) else (2 : Int32)) else (1 : Int32)) else (0 : Int32)))), N71, rfl⟩
  · skip
    have pre106 : ∀ t, Steps p.tables e below (T66.setTop (mkF m 12 #[.val (.ref a0), .val (.int p1), .val (.int p2), .val (.int p3)] [(.int (0 : Int32))])) t → Steps p.tables e below (s₁.setTop (entryFrame m #[(.ref a0), (.int p1), (.int p2), (.int p3)] 4)) t := fun t kt => by
      refine pre68 _ ?_
      show Steps p.tables e below (T66.setTop (mkF m 8 #[.val (.ref a0), .val (.int p1), .val (.int p2), .val (.int p3)] [(.int (if (Int32.ofNat 0) < p2 then (0 : Int32) else (if (Int32.ofNat 0) < p1 then (if (f 0) < p3 then (0 : Int32) else (1 : Int32)) else (0 : Int32))))])) _
      refine XS.ifNo X66.here hx rfl (hb hby d7_8) rfl ((if0 _ _).trans (feq hc69).1) ?_
      show Steps p.tables e below (T66.setTop (mkF m 11 #[.val (.ref a0), .val (.int p1), .val (.int p2), .val (.int p3)] [])) _
      refine XS.iconst X66.here hx rfl (hb hby d7_11) ?_
      show Steps p.tables e below (T66.setTop (mkF m 12 #[.val (.ref a0), .val (.int p1), .val (.int p2), .val (.int p3)] [(.int (0 : Int32))])) _
      exact kt
    obtain ⟨fs, hr, hrun, hended, hW, hsame⟩ := X66.leave (v := some (.int (0 : Int32))) (fun h => by rw [Bd.returns] at h; cases h)
    refine ⟨_, _, pre106 _ ?_, hrun, hended, _, _, rfl, ?_, ⟨_, rfl⟩, hW, hsame.mono (by decide) (by decide)⟩
    · exact retI X66 hx Bd.returns (hb hby d7_12) hr
    · show Q7 Z a0 p1 p2 p3 f h0 n0 _ T66.heap _
      rw [e66]
      exact ⟨(own_rI (by rw [if_neg hc69] : (0 : Int32) = (if (if (Int32.ofNat 0) < p2 then (0 : Int32) else (if (Int32.ofNat 0) < p1 then (if (f 0) < p3 then (0 : Int32) else (1 : Int32)) else (0 : Int32))) = (0 : Int32) then (if (if (Int32.ofNat 1) < p2 then (0 : Int32) else (if (Int32.ofNat 1) < p1 then (if (f 1) < p3 then (0 : Int32) else (1 : Int32)) else (0 : Int32))) = (0 : Int32) then (if (if (Int32.ofNat 2) < p2 then (0 : Int32) else (if (Int32.ofNat 2) < p1 then (if (f 2) < p3 then (0 : Int32) else (1 : Int32)) else (0 : Int32))) = (0 : Int32) then (if (if (Int32.ofNat 3) < p2 then (0 : Int32) else (if (Int32.ofNat 3) < p1 then (if (f 3) < p3 then (0 : Int32) else (1 : Int32)) else (0 : Int32))) = (0 : Int32) then (if (if (Int32.ofNat 4) < p2 then (0 : Int32) else (if (Int32.ofNat 4) < p1 then (if (f 4) < p3 then (0 : Int32) else (1 : Int32)) else (0 : Int32))) = (0 : Int32) then (if (if (Int32.ofNat 5) < p2 then (0 : Int32) else (if (Int32.ofNat 5) < p1 then (if (f 5) < p3 then (0 : Int32) else (1 : Int32)) else (0 : Int32))) = (0 : Int32) then (if (if (Int32.ofNat 6) < p2 then (0 : Int32) else (if (Int32.ofNat 6) < p1 then (if (f 6) < p3 then (0 : Int32) else (1 : Int32)) else (0 : Int32))) = (0 : Int32) then (if (if (Int32.ofNat 7) < p2 then (0 : Int32) else (if (Int32.ofNat 7) < p1 then (if (f 7) < p3 then (0 : Int32) else (1 : Int32)) else (0 : Int32))) = (0 : Int32) then (-1 : Int32) else (7 : Int32)) else (6 : Int32)) else (5 : Int32)) else (4 : Int32)) else (3 : Int32)) else (2 : Int32)) else (1 : Int32)) else (0 : Int32)))), N67, rfl⟩
theorem d4_0 : decode jdk_65_method_103_code 0 = .ok (.iconst 0, 1) := by decide +kernel
theorem d4_1 : decode jdk_65_method_103_code 1 = .ok (.istore_n 2, 1) := by decide +kernel
theorem d4_2 : decode jdk_65_method_103_code 2 = .ok (.aload_n 0, 1) := by decide +kernel
theorem d4_3 : decode jdk_65_method_103_code 3 = .ok (.arraylength, 1) := by decide +kernel
theorem d4_4 : decode jdk_65_method_103_code 4 = .ok (.istore_n 3, 1) := by decide +kernel
theorem d4_5 : decode jdk_65_method_103_code 5 = .ok (.iload_n 2, 1) := by decide +kernel
theorem d4_6 : decode jdk_65_method_103_code 6 = .ok (.iload_n 3, 1) := by decide +kernel
theorem d4_7 : decode jdk_65_method_103_code 7 = .ok (.if_icmp .ge 13, 3) := by decide +kernel
theorem d4_10 : decode jdk_65_method_103_code 10 = .ok (.aload_n 0, 1) := by decide +kernel
theorem d4_11 : decode jdk_65_method_103_code 11 = .ok (.iload_n 2, 1) := by decide +kernel
theorem d4_12 : decode jdk_65_method_103_code 12 = .ok (.iload_n 1, 1) := by decide +kernel
theorem d4_13 : decode jdk_65_method_103_code 13 = .ok (.iastore, 1) := by decide +kernel
theorem d4_14 : decode jdk_65_method_103_code 14 = .ok (.iinc 2 1, 3) := by decide +kernel
theorem d4_17 : decode jdk_65_method_103_code 17 = .ok (.goto (-12), 3) := by decide +kernel
theorem d4_20 : decode jdk_65_method_103_code 20 = .ok (.return_, 1) := by decide +kernel
set_option maxRecDepth 65536 in
set_option maxHeartbeats 40000000 in
theorem lpf {p : Program} {l : Launch} {e : Env} {s : State} {m : MethodId} {args : Array Value} {below : List Frame} {meth : Method} {c : Code} {Z : State} {aq : Array Value} {h0 : Heap} {n0 : Nat} {a0 : Addr} {p1 : Int32} {n : Nat} (hx : p.tables.exec = Jvm.exec) (hZ : Z.Warmed39 s.vm) (hw : ∀ d ∈ tables_1, d.before aq Z = true) (hby : c.code = jdk_65_method_103_code) (hml : c.maxLocals = 4) (hown : s.vm.findClass "java/util/Arrays" = some m.cls) (g_a0 : n0 ≤ a0) (hn : n ≤ 16) (k : Nat) :
    ∀ (T0 : State) (locs : List Loc) (hq : Heap) (i : Nat) (f : Nat → Int32), Stand p l e ({ frames := 0, cells := 0, slots := 0, locals := 0 } : Room) s m args below meth c T0 locs 0 0 → T0.heap = hq → Fr n0 locs → n0 ≤ hq.size → Keep h0 hq [a0] → own_Ar Z hq a0 .int n f → i + k = n → ∃ (T' : State) (L' : List Loc) (Ls : Array Slot) (f' : Nat → Int32), Stand p l e ({ frames := 0, cells := 0, slots := 0, locals := 0 } : Room) s m args below meth c T' L' 0 0 ∧ Fr n0 L' ∧ n0 ≤ T'.heap.size ∧ Keep h0 T'.heap [a0] ∧ own_Ar Z T'.heap a0 .int n f' ∧ (∀ j, j < i → f' j = f j) ∧ (∀ j, i ≤ j → j < n → f' j = p1) ∧ ∀ t, Steps p.tables e below (T'.setTop (mkF m 20 Ls [])) t → Steps p.tables e below (T0.setTop (mkF m 5 #[.val (.ref a0), .val (.int p1), .val (.int (Int32.ofNat i)), .val (.int (Int32.ofNat n))] [])) t := by
  induction k with
  | zero =>
    intro T0 locs hq i f X0 e0 N0 Z0 K0 V0 hik
    have pre0 : ∀ t, Steps p.tables e below (T0.setTop (mkF m 5 #[.val (.ref a0), .val (.int p1), .val (.int (Int32.ofNat i)), .val (.int (Int32.ofNat n))] [])) t → Steps p.tables e below (T0.setTop (mkF m 5 #[.val (.ref a0), .val (.int p1), .val (.int (Int32.ofNat i)), .val (.int (Int32.ofNat n))] [])) t := fun _ k => k
    have pre107 : ∀ t, Steps p.tables e below (T0.setTop (mkF m 20 #[.val (.ref a0), .val (.int p1), .val (.int (Int32.ofNat i)), .val (.int (Int32.ofNat n))] [])) t → Steps p.tables e below (T0.setTop (mkF m 5 #[.val (.ref a0), .val (.int p1), .val (.int (Int32.ofNat i)), .val (.int (Int32.ofNat n))] [])) t := fun t kt => by
      refine pre0 _ ?_
      show Steps p.tables e below (T0.setTop (mkF m 5 #[.val (.ref a0), .val (.int p1), .val (.int (Int32.ofNat i)), .val (.int (Int32.ofNat n))] [])) _
      refine XS.iloadN X0.here hx rfl (hb hby d4_5) rfl ?_
      show Steps p.tables e below (T0.setTop (mkF m 6 #[.val (.ref a0), .val (.int p1), .val (.int (Int32.ofNat i)), .val (.int (Int32.ofNat n))] [(.int (Int32.ofNat i))])) _
      refine XS.iloadN X0.here hx rfl (hb hby d4_6) rfl ?_
      show Steps p.tables e below (T0.setTop (mkF m 7 #[.val (.ref a0), .val (.int p1), .val (.int (Int32.ofNat i)), .val (.int (Int32.ofNat n))] [(.int (Int32.ofNat n)), (.int (Int32.ofNat i))])) _
      refine XS.icmpYes X0.here hx rfl (pc0 := 7) (pc' := 20) rfl (hb hby d4_7) rfl (flt (fun q => absurd ((own_ltn (by omega) (by omega)).mp q) (by omega))).2.1 (by decide) (by decide) ?_
      show Steps p.tables e below (T0.setTop (mkF m 20 #[.val (.ref a0), .val (.int p1), .val (.int (Int32.ofNat i)), .val (.int (Int32.ofNat n))] [])) _
      exact kt
    exact ⟨_, _, _, f, X0, N0, by rw [e0]; exact Z0, by rw [e0]; exact K0, by rw [e0]; exact V0, fun _ _ => rfl, fun j h1 h2 => absurd h1 (by omega), pre107⟩
  | succ k ih =>
    intro T0 locs hq i f X0 e0 N0 Z0 K0 V0 hik
    have pre0 : ∀ t, Steps p.tables e below (T0.setTop (mkF m 5 #[.val (.ref a0), .val (.int p1), .val (.int (Int32.ofNat i)), .val (.int (Int32.ofNat n))] [])) t → Steps p.tables e below (T0.setTop (mkF m 5 #[.val (.ref a0), .val (.int p1), .val (.int (Int32.ofNat i)), .val (.int (Int32.ofNat n))] [])) t := fun _ k => k
    obtain ⟨T108, h108, X108, e108, W108, V108, st108⟩ := own_stI X0 hx hZ e0 V0 (j := (Int32.ofNat i)) (i := i) (own_of (by omega)) (by omega) (g := (mkF m 13 #[.val (.ref a0), .val (.int p1), .val (.int (Int32.ofNat i)), .val (.int (Int32.ofNat n))] [(.int p1), (.int (Int32.ofNat i)), (.ref a0)])) rfl rfl (hb hby d4_13)
    have N109 := Fr.snoc X108 N0 g_a0
    have K110 : Keep h0 h108 [a0] := K0.wr W108 (Or.inl (List.mem_of_getElem? (i := 0) rfl))
    have Z111 : n0 ≤ h108.size := Nat.le_trans Z0 (Keep.of_wr W108).1
    have pre112 : ∀ t, Steps p.tables e below (T108.setTop (mkF m 5 #[.val (.ref a0), .val (.int p1), .val (.int ((Int32.ofNat i) + (1 : Int32))), .val (.int (Int32.ofNat n))] [])) t → Steps p.tables e below (T0.setTop (mkF m 5 #[.val (.ref a0), .val (.int p1), .val (.int (Int32.ofNat i)), .val (.int (Int32.ofNat n))] [])) t := fun t kt => by
      refine pre0 _ ?_
      show Steps p.tables e below (T0.setTop (mkF m 5 #[.val (.ref a0), .val (.int p1), .val (.int (Int32.ofNat i)), .val (.int (Int32.ofNat n))] [])) _
      refine XS.iloadN X0.here hx rfl (hb hby d4_5) rfl ?_
      show Steps p.tables e below (T0.setTop (mkF m 6 #[.val (.ref a0), .val (.int p1), .val (.int (Int32.ofNat i)), .val (.int (Int32.ofNat n))] [(.int (Int32.ofNat i))])) _
      refine XS.iloadN X0.here hx rfl (hb hby d4_6) rfl ?_
      show Steps p.tables e below (T0.setTop (mkF m 7 #[.val (.ref a0), .val (.int p1), .val (.int (Int32.ofNat i)), .val (.int (Int32.ofNat n))] [(.int (Int32.ofNat n)), (.int (Int32.ofNat i))])) _
      refine XS.icmpNo X0.here hx rfl (hb hby d4_7) rfl (tlt ((own_ltn (by omega) (by omega)).mpr (by omega))).2.1 ?_
      show Steps p.tables e below (T0.setTop (mkF m 10 #[.val (.ref a0), .val (.int p1), .val (.int (Int32.ofNat i)), .val (.int (Int32.ofNat n))] [])) _
      refine XS.aloadN X0.here hx rfl (hb hby d4_10) rfl rfl ?_
      show Steps p.tables e below (T0.setTop (mkF m 11 #[.val (.ref a0), .val (.int p1), .val (.int (Int32.ofNat i)), .val (.int (Int32.ofNat n))] [(.ref a0)])) _
      refine XS.iloadN X0.here hx rfl (hb hby d4_11) rfl ?_
      show Steps p.tables e below (T0.setTop (mkF m 12 #[.val (.ref a0), .val (.int p1), .val (.int (Int32.ofNat i)), .val (.int (Int32.ofNat n))] [(.int (Int32.ofNat i)), (.ref a0)])) _
      refine XS.iloadN X0.here hx rfl (hb hby d4_12) rfl ?_
      show Steps p.tables e below (T0.setTop (mkF m 13 #[.val (.ref a0), .val (.int p1), .val (.int (Int32.ofNat i)), .val (.int (Int32.ofNat n))] [(.int p1), (.int (Int32.ofNat i)), (.ref a0)])) _
      refine st108 _ ?_
      show Steps p.tables e below (T108.setTop (mkF m 14 #[.val (.ref a0), .val (.int p1), .val (.int (Int32.ofNat i)), .val (.int (Int32.ofNat n))] [])) _
      refine XS.iinc X108.here hx rfl (hb hby d4_14) rfl (l' := #[.val (.ref a0), .val (.int p1), .val (.int ((Int32.ofNat i) + (1 : Int32))), .val (.int (Int32.ofNat n))]) rfl ?_
      show Steps p.tables e below (T108.setTop (mkF m 17 #[.val (.ref a0), .val (.int p1), .val (.int ((Int32.ofNat i) + (1 : Int32))), .val (.int (Int32.ofNat n))] [])) _
      refine XS.goto X108.here hx rfl (pc0 := 17) (pc' := 5) rfl (hb hby d4_17) (by decide) (by decide) ?_
      show Steps p.tables e below (T108.setTop (mkF m 5 #[.val (.ref a0), .val (.int p1), .val (.int ((Int32.ofNat i) + (1 : Int32))), .val (.int (Int32.ofNat n))] [])) _
      exact kt
    obtain ⟨T', L', Ls, f', X', N', Z', K', V', q1, q2, st⟩ := ih T108 _ _ (i + 1) _ X108 e108 N109 Z111 K110 V108 (by omega)
    rw [← own_add1] at st
    refine ⟨T', L', Ls, f', X', N', Z', K', V', fun j hj => ?_, fun j h1 h2 => ?_, fun t kt => pre112 t (st t kt)⟩
    · rw [q1 j (by omega)]; exact own_up_ne f _ (by omega)
    · by_cases e : j = i
      · subst e; rw [q1 j (by omega)]; exact own_up_self f j _
      · exact q2 j (by omega) h2
theorem pn755157 : plainName "java/util/Arrays" = true := by first | (simp [plainName, overriddenIn]; done) | decide +kernel
theorem ef_4 (m : MethodId) (a0 : Addr) (p1 : Int32) : entryFrame m #[(.ref a0), (.int p1)] 4 = mkF m 0 #[.val (.ref a0), .val (.int p1), .unset, .unset] [] := by first | (simp [entryFrame, mkF, argsToLocals, Value.category]; done) | rfl
def Q4 (Z : State) (a0 : Addr) (p1 : Int32) (n : Nat) (f : Nat → Int32) (h0 : Heap) (n0 : Nat) (v : Option Value) (h : Heap) (L : List Loc) : Prop := ∃ f' : Nat → Int32, v = none ∧ Fr n0 L ∧ Keep h0 h [a0] ∧ own_Ar Z h a0 .int n f' ∧ ∀ j, j < n → f' j = p1
set_option maxRecDepth 65536 in
set_option maxHeartbeats 40000000 in
theorem rm4 (l : Launch) (Z : State) (aq : Array Value) (hw : ∀ d ∈ tables_1, d.before aq Z = true) (ws : List Jvm.Cond) (a0 : Addr) (p1 : Int32) (n : Nat) (f : Nat → Int32) (h0 : Heap) (n0 : Nat) (Z0 : n0 ≤ h0.size) (V_ : own_Ar Z h0 a0 .int n f) (g_a0 : n0 ≤ a0) (hn : n ≤ 16) :
    MetFree l (⟨"java/util/Arrays", "fill", "([II)V"⟩ : MethodName) (head1 (Jvm.Cond.code (⟨"java/util/Arrays", "fill", "([II)V"⟩ : MethodName) jdk_65_method_103_code 4 none :: ws) ({ frames := 0, cells := 0, slots := 0, locals := 0 } : Room)) (fun a U => a = #[(.ref a0), (.int p1)] ∧ Z.Warmed39 U.vm ∧ U.heap = h0) (fun _ _ _ _ _ => True) (fun _ U o U' => ∃ v L, o = .returned v ∧ Q4 Z a0 p1 n f h0 n0 v U'.heap L ∧ FrameEnd U o U' L ({ frames := 0, cells := 0, slots := 0, locals := 0 } : Room).cells ({ frames := 0, cells := 0, slots := 0, locals := 0 } : Room).slots) := by
  refine MetFree.of_bodySF (plainFor_of_name pn755157) hisR ?_
  intro p e s m args below meth c s₁ Bd hml0 hP hK
  obtain ⟨rfl, hZ, hh⟩ := hP
  have hx := Bd.exec
  have hby := Bd.bytes
  have hml : c.maxLocals = 4 := hml0
  have hown : s.vm.findClass "java/util/Arrays" = some m.cls := findClass_of_methodNamed Bd.named
  have hnm := (name_of_methodNamed Bd.named Bd.method).1
  have X0 : Stand p l e ({ frames := 0, cells := 0, slots := 0, locals := 0 } : Room) s m #[(.ref a0), (.int p1)] below meth c s₁ [] 0 0 := Stand.of_body Bd
  have e0 : s₁.heap = h0 := by rw [← hh, Bd.state]; rfl
  have N0 := Fr.nil n0
  have K0 : Keep h0 h0 [a0] := Keep.refl _ _
  have pre0 : ∀ t, Steps p.tables e below (s₁.setTop (mkF m 0 #[.val (.ref a0), .val (.int p1), .unset, .unset] [])) t → Steps p.tables e below (s₁.setTop (entryFrame m #[(.ref a0), (.int p1)] 4)) t := fun t k => castTop (ef_4 m a0 p1) k
  have pre113 : ∀ t, Steps p.tables e below (s₁.setTop (mkF m 5 #[.val (.ref a0), .val (.int p1), .val (.int (0 : Int32)), .val (.int (Int32.ofNat n))] [])) t → Steps p.tables e below (s₁.setTop (entryFrame m #[(.ref a0), (.int p1)] 4)) t := fun t kt => by
    refine pre0 _ ?_
    show Steps p.tables e below (s₁.setTop (mkF m 0 #[.val (.ref a0), .val (.int p1), .unset, .unset] [])) _
    refine XS.iconst X0.here hx rfl (hb hby d4_0) ?_
    show Steps p.tables e below (s₁.setTop (mkF m 1 #[.val (.ref a0), .val (.int p1), .unset, .unset] [(.int (0 : Int32))])) _
    refine XS.istoreN X0.here hx rfl (hb hby d4_1) rfl (l' := #[.val (.ref a0), .val (.int p1), .val (.int (0 : Int32)), .unset]) rfl ?_
    show Steps p.tables e below (s₁.setTop (mkF m 2 #[.val (.ref a0), .val (.int p1), .val (.int (0 : Int32)), .unset] [])) _
    refine XS.aloadN X0.here hx rfl (hb hby d4_2) rfl rfl ?_
    show Steps p.tables e below (s₁.setTop (mkF m 3 #[.val (.ref a0), .val (.int p1), .val (.int (0 : Int32)), .unset] [(.ref a0)])) _
    refine own_len X0 hx hZ e0 V_ (z := (Int32.ofNat n)) rfl (g := (mkF m 3 #[.val (.ref a0), .val (.int p1), .val (.int (0 : Int32)), .unset] [(.ref a0)])) rfl rfl (hb hby d4_3) _ ?_
    show Steps p.tables e below (s₁.setTop (mkF m 4 #[.val (.ref a0), .val (.int p1), .val (.int (0 : Int32)), .unset] [(.int (Int32.ofNat n))])) _
    refine XS.istoreN X0.here hx rfl (hb hby d4_4) rfl (l' := #[.val (.ref a0), .val (.int p1), .val (.int (0 : Int32)), .val (.int (Int32.ofNat n))]) rfl ?_
    show Steps p.tables e below (s₁.setTop (mkF m 5 #[.val (.ref a0), .val (.int p1), .val (.int (0 : Int32)), .val (.int (Int32.ofNat n))] [])) _
    exact kt
  obtain ⟨T', L', Ls, f', X', N', Z', K', V', -, q2, st⟩ := lpf hx hZ hw hby hml hown g_a0 hn n s₁ _ _ 0 f X0 e0 N0 Z0 K0 V_ (by omega)
  have pre114 : ∀ t, Steps p.tables e below (T'.setTop (mkF m 20 Ls [])) t → Steps p.tables e below (s₁.setTop (entryFrame m #[(.ref a0), (.int p1)] 4)) t := fun t kt => pre113 t (st t kt)
  obtain ⟨fs, hr, hrun, hended, hW, hsame⟩ := X'.leave (v := none) (fun _ => rfl)
  refine ⟨_, _, pre114 _ ?_, hrun, hended, _, _, rfl, ?_, ⟨_, rfl⟩, hW, hsame.mono (by decide) (by decide)⟩
  · exact X'.returnOut hx Bd.returns (hb hby d4_20) hr
  · show Q4 Z a0 p1 n f h0 n0 _ T'.heap _
    exact ⟨f', rfl, N', K', V', (fun j hj => q2 j (Nat.zero_le _) hj)⟩
theorem d2_0 : decode prog_58_method_1_code 0 = .ok (.aload_n 0, 1) := by decide +kernel
theorem d2_1 : decode prog_58_method_1_code 1 = .ok (.invokespecial 1, 3) := by decide +kernel
theorem d2_4 : decode prog_58_method_1_code 4 = .ok (.iconst 1, 1) := by decide +kernel
theorem d2_5 : decode prog_58_method_1_code 5 = .ok (.istore_n 3, 1) := by decide +kernel
theorem d2_6 : decode prog_58_method_1_code 6 = .ok (.iload_n 3, 1) := by decide +kernel
theorem d2_7 : decode prog_58_method_1_code 7 = .ok (.iload_n 1, 1) := by decide +kernel
theorem d2_8 : decode prog_58_method_1_code 8 = .ok (.if_icmp .ge 10, 3) := by decide +kernel
theorem d2_11 : decode prog_58_method_1_code 11 = .ok (.iload_n 3, 1) := by decide +kernel
theorem d2_12 : decode prog_58_method_1_code 12 = .ok (.iconst 2, 1) := by decide +kernel
theorem d2_13 : decode prog_58_method_1_code 13 = .ok (.imul, 1) := by decide +kernel
theorem d2_14 : decode prog_58_method_1_code 14 = .ok (.istore_n 3, 1) := by decide +kernel
theorem d2_15 : decode prog_58_method_1_code 15 = .ok (.goto (-9), 3) := by decide +kernel
theorem d2_18 : decode prog_58_method_1_code 18 = .ok (.aload_n 0, 1) := by decide +kernel
theorem d2_19 : decode prog_58_method_1_code 19 = .ok (.iload_n 3, 1) := by decide +kernel
theorem d2_20 : decode prog_58_method_1_code 20 = .ok (.putfield 7, 3) := by decide +kernel
theorem d2_23 : decode prog_58_method_1_code 23 = .ok (.aload_n 0, 1) := by decide +kernel
theorem d2_24 : decode prog_58_method_1_code 24 = .ok (.iconst 2, 1) := by decide +kernel
theorem d2_25 : decode prog_58_method_1_code 25 = .ok (.aload_n 0, 1) := by decide +kernel
theorem d2_26 : decode prog_58_method_1_code 26 = .ok (.getfield 7, 3) := by decide +kernel
theorem d2_29 : decode prog_58_method_1_code 29 = .ok (.imul, 1) := by decide +kernel
theorem d2_30 : decode prog_58_method_1_code 30 = .ok (.newarray .int, 2) := by decide +kernel
theorem d2_32 : decode prog_58_method_1_code 32 = .ok (.putfield 13, 3) := by decide +kernel
theorem d2_35 : decode prog_58_method_1_code 35 = .ok (.aload_n 0, 1) := by decide +kernel
theorem d2_36 : decode prog_58_method_1_code 36 = .ok (.getfield 13, 3) := by decide +kernel
theorem d2_39 : decode prog_58_method_1_code 39 = .ok (.iload_n 2, 1) := by decide +kernel
theorem d2_40 : decode prog_58_method_1_code 40 = .ok (.invokestatic 17, 3) := by decide +kernel
theorem d2_43 : decode prog_58_method_1_code 43 = .ok (.return_, 1) := by decide +kernel
theorem pn1235653 : plainName "com/example/packwright/packwright/core/bins/FreeSpaceTree" = true := by first | (simp [plainName, overriddenIn]; done) | decide +kernel
theorem pd8095129 : parseMethodDescriptor "([II)V" = some ⟨[(.array .int), .int], none⟩ := by decide +kernel
theorem ef_2 (m : MethodId) (a0 : Addr) (p2 : Int32) : entryFrame m #[(.ref a0), (.int (Int32.ofNat M)), (.int p2)] 4 = mkF m 0 #[.val (.ref a0), .val (.int (Int32.ofNat M)), .val (.int p2), .unset] [] := by first | (simp [entryFrame, mkF, argsToLocals, Value.category]; done) | rfl
def Q2 (Z : State) (a0 : Addr) (p2 : Int32) (M : Nat) (u_l : Int32) (h0 : Heap) (n0 : Nat) (v : Option Value) (h : Heap) (L : List Loc) : Prop := ∃ (ar : Addr) (f' : Nat → Int32), v = none ∧ Fr n0 L ∧ Keep h0 h [a0] ∧ h0.size ≤ ar ∧ Exa Z h a0 "com/example/packwright/packwright/core/bins/FreeSpaceTree" ∧ Fld Z h a0 "com/example/packwright/packwright/core/bins/FreeSpaceTree" "leaves" "I" (.int (Int32.ofNat M)) ∧ Fld Z h a0 "com/example/packwright/packwright/core/bins/FreeSpaceTree" "maxFree" "[I" (.ref ar) ∧ own_Ar Z h ar .int (2 * M) f' ∧ ∀ j, j < 2 * M → f' j = p2
set_option maxRecDepth 65536 in
set_option maxHeartbeats 40000000 in
theorem rm2 (l : Launch) (Z : State) (aq : Array Value) (hw : ∀ d ∈ tables_1, d.before aq Z = true) (ws : List Jvm.Cond) (a0 : Addr) (p2 : Int32) (M : Nat) (u_l : Int32) (h0 : Heap) (n0 : Nat) (Z0 : n0 ≤ h0.size) (E_ : Exa Z h0 a0 "com/example/packwright/packwright/core/bins/FreeSpaceTree") (Fl_ : Fld Z h0 a0 "com/example/packwright/packwright/core/bins/FreeSpaceTree" "leaves" "I" (.int u_l)) (Fm_ : Fld Z h0 a0 "com/example/packwright/packwright/core/bins/FreeSpaceTree" "maxFree" "[I" .null) (g_a0 : n0 ≤ a0) (hL : M = 1 ∨ M = 2 ∨ M = 4 ∨ M = 8) :
    MetFree l (⟨"com/example/packwright/packwright/core/bins/FreeSpaceTree", "<init>", "(II)V"⟩ : MethodName) (head1 (Jvm.Cond.code (⟨"com/example/packwright/packwright/core/bins/FreeSpaceTree", "<init>", "(II)V"⟩ : MethodName) prog_58_method_1_code 4 none :: ws) ({ frames := 1, cells := 1, slots := 16, locals := 15 } : Room)) (fun a U => a = #[(.ref a0), (.int (Int32.ofNat M)), (.int p2)] ∧ Z.Warmed39 U.vm ∧ U.heap = h0) (fun _ _ _ _ _ => True) (fun _ U o U' => ∃ v L, o = .returned v ∧ Q2 Z a0 p2 M u_l h0 n0 v U'.heap L ∧ FrameEnd U o U' L ({ frames := 1, cells := 1, slots := 16, locals := 15 } : Room).cells ({ frames := 1, cells := 1, slots := 16, locals := 15 } : Room).slots) := by
  refine MetFree.of_bodySF (plainFor_of_name pn1235653) hisR ?_
  intro p e s m args below meth c s₁ Bd hml0 hP hK
  obtain ⟨rfl, hZ, hh⟩ := hP
  have hx := Bd.exec
  have hby := Bd.bytes
  have hml : c.maxLocals = 4 := hml0
  have hown : s.vm.findClass "com/example/packwright/packwright/core/bins/FreeSpaceTree" = some m.cls := findClass_of_methodNamed Bd.named
  have hnm := (name_of_methodNamed Bd.named Bd.method).1
  have X0 : Stand p l e ({ frames := 1, cells := 1, slots := 16, locals := 15 } : Room) s m #[(.ref a0), (.int (Int32.ofNat M)), (.int p2)] below meth c s₁ [] 0 0 := Stand.of_body Bd
  have e0 : s₁.heap = h0 := by rw [← hh, Bd.state]; rfl
  have N0 := Fr.nil n0
  have K0 : Keep h0 h0 [a0] := Keep.refl _ _
  have pre0 : ∀ t, Steps p.tables e below (s₁.setTop (mkF m 0 #[.val (.ref a0), .val (.int (Int32.ofNat M)), .val (.int p2), .unset] [])) t → Steps p.tables e below (s₁.setTop (entryFrame m #[(.ref a0), (.int (Int32.ofNat M)), (.int p2)] 4)) t := fun t k => castTop (ef_2 m a0 p2) k
  obtain ⟨T115, X115, e115, st115⟩ := initO X0 hx hZ hown (hw _ (List.mem_of_getElem? (i := 11) rfl)) (hw _ (List.mem_of_getElem? (i := 12) rfl)) (hw _ (List.mem_of_getElem? (i := 13) rfl)) e0 (g := (mkF m 1 #[.val (.ref a0), .val (.int (Int32.ofNat M)), .val (.int p2), .unset] [(.ref a0)])) rfl (by rw [hml]; rfl) rfl (hb hby d2_1) (by decide) (W := 0) (by show 2 * 0 + _ ≤ _; exact Nat.le_of_eq rfl) (by decide)
  have pre116 : ∀ t, Steps p.tables e below (T115.setTop (mkF m 6 #[.val (.ref a0), .val (.int (Int32.ofNat M)), .val (.int p2), .val (.int (1 : Int32))] [])) t → Steps p.tables e below (s₁.setTop (entryFrame m #[(.ref a0), (.int (Int32.ofNat M)), (.int p2)] 4)) t := fun t kt => by
    refine pre0 _ ?_
    show Steps p.tables e below (s₁.setTop (mkF m 0 #[.val (.ref a0), .val (.int (Int32.ofNat M)), .val (.int p2), .unset] [])) _
    refine XS.aloadN X0.here hx rfl (hb hby d2_0) rfl rfl ?_
    show Steps p.tables e below (s₁.setTop (mkF m 1 #[.val (.ref a0), .val (.int (Int32.ofNat M)), .val (.int p2), .unset] [(.ref a0)])) _
    refine st115 _ ?_
    show Steps p.tables e below (T115.setTop (mkF m 4 #[.val (.ref a0), .val (.int (Int32.ofNat M)), .val (.int p2), .unset] [])) _
    refine XS.iconst X115.here hx rfl (hb hby d2_4) ?_
    show Steps p.tables e below (T115.setTop (mkF m 5 #[.val (.ref a0), .val (.int (Int32.ofNat M)), .val (.int p2), .unset] [(.int (1 : Int32))])) _
    refine XS.istoreN X115.here hx rfl (hb hby d2_5) rfl (l' := #[.val (.ref a0), .val (.int (Int32.ofNat M)), .val (.int p2), .val (.int (1 : Int32))]) rfl ?_
    show Steps p.tables e below (T115.setTop (mkF m 6 #[.val (.ref a0), .val (.int (Int32.ofNat M)), .val (.int p2), .val (.int (1 : Int32))] [])) _
    exact kt
  rcases hL with hk | hk | hk | hk
  · skip
    have pre117 : ∀ t, Steps p.tables e below (T115.setTop (mkF m 6 #[.val (.ref a0), .val (.int (1 : Int32)), .val (.int p2), .val (.int (1 : Int32))] [])) t → Steps p.tables e below (s₁.setTop (entryFrame m #[(.ref a0), (.int (Int32.ofNat M)), (.int p2)] 4)) t := fun t kt => pre116 t (by rw [hk]; exact kt)
    obtain ⟨T118, h118, X118, e118, W118, st118⟩ := putF X115 hx hZ hown (host := "") (Or.inl (hw _ (List.mem_of_getElem? (i := 14) rfl))) Via.refl e115 Fl_ E_ (Or.inr ⟨(hw _ (List.mem_of_getElem? (i := 15) rfl)), rfl, hnm⟩) (hw _ (List.mem_of_getElem? (i := 6) rfl)) (ty := .int) (by decide) rfl rfl (g := (mkF m 20 #[.val (.ref a0), .val (.int (1 : Int32)), .val (.int p2), .val (.int (1 : Int32))] [(.int (1 : Int32)), (.ref a0)])) rfl rfl (hb hby d2_20)
    have E119 := E_.wr W118
    have F120 : Fld Z h118 a0 "com/example/packwright/packwright/core/bins/FreeSpaceTree" "leaves" "I" (.int (1 : Int32)) := Fl_.same W118
    have F121 := Fm_.other W118 (Or.inr (slot_ne (Or.inr (hw _ (List.mem_of_getElem? (i := 17) rfl))) (Or.inr (hw _ (List.mem_of_getElem? (i := 15) rfl))) (by decide) (t := (.array .int)) (t' := .int) (by decide) (by decide)))
    have N122 := Fr.snoc X118 N0 g_a0
    have K123 : Keep h0 h118 [a0] := K0.wr W118 (Or.inl (List.mem_of_getElem? (i := 0) rfl))
    have Z124 : n0 ≤ h118.size := Nat.le_trans Z0 (Keep.of_wr W118).1
    obtain ⟨T125, X125, e125, st125⟩ := getF X118 hx hZ hown (host := "") (Or.inl (hw _ (List.mem_of_getElem? (i := 14) rfl))) Via.refl e118 F120 (g := (mkF m 26 #[.val (.ref a0), .val (.int (1 : Int32)), .val (.int p2), .val (.int (1 : Int32))] [(.ref a0), (.int (2 : Int32)), (.ref a0)])) rfl rfl (hb hby d2_26)
    obtain ⟨T126, h126, k126, X126, e126, E126, A126, EE126, st126⟩ := newPE X125 hx hZ (hw _ (List.mem_of_getElem? (i := 0) rfl)) e125 (g := (mkF m 30 #[.val (.ref a0), .val (.int (1 : Int32)), .val (.int p2), .val (.int (1 : Int32))] [(.int ((2 : Int32) * (1 : Int32))), (.ref a0)])) rfl (hb hby d2_30) rfl (by decide) (cap := 2) (by decide) (by decide) (by decide) (by decide) (ad := "[I") (by decide)
    obtain ⟨b126, g126⟩ : ∃ z, z = h118.size := ⟨_, rfl⟩
    rw [← g126] at A126 EE126 st126
    have ne_a0_b126 : a0 ≠ b126 := Nat.ne_of_lt (Nat.lt_of_lt_of_le E119.lt (Nat.le_of_eq g126.symm))
    have g_b126 : n0 ≤ b126 := Nat.le_trans Z124 (Nat.le_of_eq g126.symm)
    have sz_b126 : h0.size ≤ b126 := Nat.le_trans K123.1 (Nat.le_of_eq g126.symm)
    have E127 := E119.ext E126
    have F128 := F120.ext E126
    have F129 := F121.ext E126
    have K130 : Keep h0 h126 [a0] := K123.ext E126
    have Z131 : n0 ≤ h126.size := Nat.le_trans Z124 E126.1
    have V126 : own_Ar Z h126 b126 .int 2 (fun _ => (0 : Int32)) := own_Ar.of (Arv.new A126 (by decide)) (by decide) (fun i hi => rfl)
    obtain ⟨T132, h132, X132, e132, W132, st132⟩ := putF X126 hx hZ hown (host := "") (Or.inl (hw _ (List.mem_of_getElem? (i := 16) rfl))) Via.refl e126 F129 E127 (Or.inr ⟨(hw _ (List.mem_of_getElem? (i := 17) rfl)), rfl, hnm⟩) (hw _ (List.mem_of_getElem? (i := 6) rfl)) (ty := (.array .int)) (by decide) rfl rfl (g := (mkF m 32 #[.val (.ref a0), .val (.int (1 : Int32)), .val (.int p2), .val (.int (1 : Int32))] [(.ref b126), (.ref a0)])) rfl rfl (hb hby d2_32)
    have E133 := E127.wr W132
    have F134 := F128.other W132 (Or.inr (slot_ne (Or.inr (hw _ (List.mem_of_getElem? (i := 15) rfl))) (Or.inr (hw _ (List.mem_of_getElem? (i := 17) rfl))) (by decide) (t := .int) (t' := (.array .int)) (by decide) (by decide)))
    have F135 : Fld Z h132 a0 "com/example/packwright/packwright/core/bins/FreeSpaceTree" "maxFree" "[I" (.ref b126) := F129.same W132
    have E136 := EE126.wr W132
    have V137 := V126.other W132 (Ne.symm ne_a0_b126)
    have N138 := Fr.snoc X132 N122 g_a0
    have K139 : Keep h0 h132 [a0] := K130.wr W132 (Or.inl (List.mem_of_getElem? (i := 0) rfl))
    have Z140 : n0 ≤ h132.size := Nat.le_trans Z131 (Keep.of_wr W132).1
    obtain ⟨T141, X141, e141, st141⟩ := getF X132 hx hZ hown (host := "") (Or.inl (hw _ (List.mem_of_getElem? (i := 16) rfl))) Via.refl e132 F135 (g := (mkF m 36 #[.val (.ref a0), .val (.int (1 : Int32)), .val (.int p2), .val (.int (1 : Int32))] [(.ref a0)])) rfl rfl (hb hby d2_36)
    obtain ⟨_, _, ⟨T142, L142, k142, n142⟩, -, X142, ⟨Lc142, hQ142, l142, y142, z142⟩, st142⟩ := Jvm.LawKit.callS X141 hx (y := (⟨"java/util/Arrays", "fill", "([II)V"⟩ : MethodName)) hown (mvT hZ (hw _ (List.mem_of_getElem? (i := 18) rfl))) (mvT hZ (hw _ (List.mem_of_getElem? (i := 19) rfl))) (mvT hZ (hw _ (List.mem_of_getElem? (i := 20) rfl))) (mvT hZ (hw _ (List.mem_of_getElem? (i := 21) rfl))) (by decide) (backOf (W := 0) (rm4 l Z aq hw [] b126 p2 2 (fun _ => (0 : Int32)) h132 n0 Z140 V137 g_b126 (by decide)) hZ (hw _ (List.mem_of_getElem? (i := 21) rfl)) (hw _ (List.mem_of_getElem? (i := 20) rfl)) (by decide) (by decide)) (g := (mkF m 40 #[.val (.ref a0), .val (.int (1 : Int32)), .val (.int p2), .val (.int (1 : Int32))] [(.int p2), (.ref b126)])) rfl (by rw [hml]; rfl) (argsL := [(.ref b126), (.int p2)]) (rest := []) (lenOf pd8095129 rfl) rfl (by show 2 * 0 + _ ≤ _; exact Nat.le_of_eq rfl) (hb hby d2_40) (fun _ _ => ⟨rfl, e141, (by decide : 1 + 0 ≤ _), (by decide : 2 + 0 ≤ _)⟩)
    dsimp only [Pt.U, Pt.locs, Pt.cells, Pt.slots] at X142 l142 y142 z142 st142 hQ142
    rw [l142, y142, z142] at X142
    obtain ⟨f142, rfl, N142q, K142, V142, qf142⟩ := hQ142
    have E143 := E133.keep K142
    have F144 := F134.keep K142 (ninS ne_a0_b126 nin0)
    have F145 := F135.keep K142 (ninS ne_a0_b126 nin0)
    have Z146 : n0 ≤ T142.heap.size := Nat.le_trans Z140 K142.1
    have K147 : Keep h0 T142.heap [a0] := K139.trans K142 (allS (Or.inr sz_b126) all0)
    have N148 := Fr.app N138 N142q
    have E149 := E136.keep K142
    have pre150 : ∀ t, Steps p.tables e below (T142.setTop (mkF m 43 #[.val (.ref a0), .val (.int (1 : Int32)), .val (.int p2), .val (.int (1 : Int32))] [])) t → Steps p.tables e below (s₁.setTop (entryFrame m #[(.ref a0), (.int (Int32.ofNat M)), (.int p2)] 4)) t := fun t kt => by
      refine pre117 _ ?_
      show Steps p.tables e below (T115.setTop (mkF m 6 #[.val (.ref a0), .val (.int (1 : Int32)), .val (.int p2), .val (.int (1 : Int32))] [])) _
      refine XS.iloadN X115.here hx rfl (hb hby d2_6) rfl ?_
      show Steps p.tables e below (T115.setTop (mkF m 7 #[.val (.ref a0), .val (.int (1 : Int32)), .val (.int p2), .val (.int (1 : Int32))] [(.int (1 : Int32))])) _
      refine XS.iloadN X115.here hx rfl (hb hby d2_7) rfl ?_
      show Steps p.tables e below (T115.setTop (mkF m 8 #[.val (.ref a0), .val (.int (1 : Int32)), .val (.int p2), .val (.int (1 : Int32))] [(.int (1 : Int32)), (.int (1 : Int32))])) _
      refine XS.icmpYes X115.here hx rfl (pc0 := 8) (pc' := 18) rfl (hb hby d2_8) rfl (flt (by decide : ¬ ((1 : Int32) < (1 : Int32)))).2.1 (by decide) (by decide) ?_
      show Steps p.tables e below (T115.setTop (mkF m 18 #[.val (.ref a0), .val (.int (1 : Int32)), .val (.int p2), .val (.int (1 : Int32))] [])) _
      refine XS.aloadN X115.here hx rfl (hb hby d2_18) rfl rfl ?_
      show Steps p.tables e below (T115.setTop (mkF m 19 #[.val (.ref a0), .val (.int (1 : Int32)), .val (.int p2), .val (.int (1 : Int32))] [(.ref a0)])) _
      refine XS.iloadN X115.here hx rfl (hb hby d2_19) rfl ?_
      show Steps p.tables e below (T115.setTop (mkF m 20 #[.val (.ref a0), .val (.int (1 : Int32)), .val (.int p2), .val (.int (1 : Int32))] [(.int (1 : Int32)), (.ref a0)])) _
      refine st118 _ ?_
      show Steps p.tables e below (T118.setTop (mkF m 23 #[.val (.ref a0), .val (.int (1 : Int32)), .val (.int p2), .val (.int (1 : Int32))] [])) _
      refine XS.aloadN X118.here hx rfl (hb hby d2_23) rfl rfl ?_
      show Steps p.tables e below (T118.setTop (mkF m 24 #[.val (.ref a0), .val (.int (1 : Int32)), .val (.int p2), .val (.int (1 : Int32))] [(.ref a0)])) _
      refine XS.iconst X118.here hx rfl (hb hby d2_24) ?_
      show Steps p.tables e below (T118.setTop (mkF m 25 #[.val (.ref a0), .val (.int (1 : Int32)), .val (.int p2), .val (.int (1 : Int32))] [(.int (2 : Int32)), (.ref a0)])) _
      refine XS.aloadN X118.here hx rfl (hb hby d2_25) rfl rfl ?_
      show Steps p.tables e below (T118.setTop (mkF m 26 #[.val (.ref a0), .val (.int (1 : Int32)), .val (.int p2), .val (.int (1 : Int32))] [(.ref a0), (.int (2 : Int32)), (.ref a0)])) _
      refine st125 _ ?_
      show Steps p.tables e below (T125.setTop (mkF m 29 #[.val (.ref a0), .val (.int (1 : Int32)), .val (.int p2), .val (.int (1 : Int32))] [(.int (1 : Int32)), (.int (2 : Int32)), (.ref a0)])) _
      refine XS.imul X125.here hx rfl (hb hby d2_29) rfl ?_
      show Steps p.tables e below (T125.setTop (mkF m 30 #[.val (.ref a0), .val (.int (1 : Int32)), .val (.int p2), .val (.int (1 : Int32))] [(.int ((2 : Int32) * (1 : Int32))), (.ref a0)])) _
      refine st126 _ ?_
      show Steps p.tables e below (T126.setTop (mkF m 32 #[.val (.ref a0), .val (.int (1 : Int32)), .val (.int p2), .val (.int (1 : Int32))] [(.ref b126), (.ref a0)])) _
      refine st132 _ ?_
      show Steps p.tables e below (T132.setTop (mkF m 35 #[.val (.ref a0), .val (.int (1 : Int32)), .val (.int p2), .val (.int (1 : Int32))] [])) _
      refine XS.aloadN X132.here hx rfl (hb hby d2_35) rfl rfl ?_
      show Steps p.tables e below (T132.setTop (mkF m 36 #[.val (.ref a0), .val (.int (1 : Int32)), .val (.int p2), .val (.int (1 : Int32))] [(.ref a0)])) _
      refine st141 _ ?_
      show Steps p.tables e below (T141.setTop (mkF m 39 #[.val (.ref a0), .val (.int (1 : Int32)), .val (.int p2), .val (.int (1 : Int32))] [(.ref b126)])) _
      refine XS.iloadN X141.here hx rfl (hb hby d2_39) rfl ?_
      show Steps p.tables e below (T141.setTop (mkF m 40 #[.val (.ref a0), .val (.int (1 : Int32)), .val (.int p2), .val (.int (1 : Int32))] [(.int p2), (.ref b126)])) _
      refine st142 _ ?_
      show Steps p.tables e below (T142.setTop (mkF m 43 #[.val (.ref a0), .val (.int (1 : Int32)), .val (.int p2), .val (.int (1 : Int32))] [])) _
      exact kt
    obtain ⟨fs, hr, hrun, hended, hW, hsame⟩ := X142.leave (v := none) (fun _ => rfl)
    refine ⟨_, _, pre150 _ ?_, hrun, hended, _, _, rfl, ?_, ⟨_, rfl⟩, hW, hsame.mono (by decide) (by decide)⟩
    · exact X142.returnOut hx Bd.returns (hb hby d2_43) hr
    · show Q2 Z a0 p2 M u_l h0 n0 _ T142.heap _
      exact ⟨b126, f142, rfl, N148, K147, sz_b126, E143, (own_F (congrArg Value.int (by rw [hk]; decide : (1 : Int32) = Int32.ofNat M)) F144), F145, (by rw [hk]; exact V142), (by rw [hk]; exact qf142)⟩
  · skip
    have pre151 : ∀ t, Steps p.tables e below (T115.setTop (mkF m 6 #[.val (.ref a0), .val (.int (2 : Int32)), .val (.int p2), .val (.int (1 : Int32))] [])) t → Steps p.tables e below (s₁.setTop (entryFrame m #[(.ref a0), (.int (Int32.ofNat M)), (.int p2)] 4)) t := fun t kt => pre116 t (by rw [hk]; exact kt)
    obtain ⟨T152, h152, X152, e152, W152, st152⟩ := putF X115 hx hZ hown (host := "") (Or.inl (hw _ (List.mem_of_getElem? (i := 14) rfl))) Via.refl e115 Fl_ E_ (Or.inr ⟨(hw _ (List.mem_of_getElem? (i := 15) rfl)), rfl, hnm⟩) (hw _ (List.mem_of_getElem? (i := 6) rfl)) (ty := .int) (by decide) rfl rfl (g := (mkF m 20 #[.val (.ref a0), .val (.int (2 : Int32)), .val (.int p2), .val (.int ((1 : Int32) * (2 : Int32)))] [(.int ((1 : Int32) * (2 : Int32))), (.ref a0)])) rfl rfl (hb hby d2_20)
    have E153 := E_.wr W152
    have F154 : Fld Z h152 a0 "com/example/packwright/packwright/core/bins/FreeSpaceTree" "leaves" "I" (.int ((1 : Int32) * (2 : Int32))) := Fl_.same W152
    have F155 := Fm_.other W152 (Or.inr (slot_ne (Or.inr (hw _ (List.mem_of_getElem? (i := 17) rfl))) (Or.inr (hw _ (List.mem_of_getElem? (i := 15) rfl))) (by decide) (t := (.array .int)) (t' := .int) (by decide) (by decide)))
    have N156 := Fr.snoc X152 N0 g_a0
    have K157 : Keep h0 h152 [a0] := K0.wr W152 (Or.inl (List.mem_of_getElem? (i := 0) rfl))
    have Z158 : n0 ≤ h152.size := Nat.le_trans Z0 (Keep.of_wr W152).1
    obtain ⟨T159, X159, e159, st159⟩ := getF X152 hx hZ hown (host := "") (Or.inl (hw _ (List.mem_of_getElem? (i := 14) rfl))) Via.refl e152 F154 (g := (mkF m 26 #[.val (.ref a0), .val (.int (2 : Int32)), .val (.int p2), .val (.int ((1 : Int32) * (2 : Int32)))] [(.ref a0), (.int (2 : Int32)), (.ref a0)])) rfl rfl (hb hby d2_26)
    obtain ⟨T160, h160, k160, X160, e160, E160, A160, EE160, st160⟩ := newPE X159 hx hZ (hw _ (List.mem_of_getElem? (i := 0) rfl)) e159 (g := (mkF m 30 #[.val (.ref a0), .val (.int (2 : Int32)), .val (.int p2), .val (.int ((1 : Int32) * (2 : Int32)))] [(.int ((2 : Int32) * ((1 : Int32) * (2 : Int32)))), (.ref a0)])) rfl (hb hby d2_30) rfl (by decide) (cap := 4) (by decide) (by decide) (by decide) (by decide) (ad := "[I") (by decide)
    obtain ⟨b160, g160⟩ : ∃ z, z = h152.size := ⟨_, rfl⟩
    rw [← g160] at A160 EE160 st160
    have ne_a0_b160 : a0 ≠ b160 := Nat.ne_of_lt (Nat.lt_of_lt_of_le E153.lt (Nat.le_of_eq g160.symm))
    have g_b160 : n0 ≤ b160 := Nat.le_trans Z158 (Nat.le_of_eq g160.symm)
    have sz_b160 : h0.size ≤ b160 := Nat.le_trans K157.1 (Nat.le_of_eq g160.symm)
    have E161 := E153.ext E160
    have F162 := F154.ext E160
    have F163 := F155.ext E160
    have K164 : Keep h0 h160 [a0] := K157.ext E160
    have Z165 : n0 ≤ h160.size := Nat.le_trans Z158 E160.1
    have V160 : own_Ar Z h160 b160 .int 4 (fun _ => (0 : Int32)) := own_Ar.of (Arv.new A160 (by decide)) (by decide) (fun i hi => rfl)
    obtain ⟨T166, h166, X166, e166, W166, st166⟩ := putF X160 hx hZ hown (host := "") (Or.inl (hw _ (List.mem_of_getElem? (i := 16) rfl))) Via.refl e160 F163 E161 (Or.inr ⟨(hw _ (List.mem_of_getElem? (i := 17) rfl)), rfl, hnm⟩) (hw _ (List.mem_of_getElem? (i := 6) rfl)) (ty := (.array .int)) (by decide) rfl rfl (g := (mkF m 32 #[.val (.ref a0), .val (.int (2 : Int32)), .val (.int p2), .val (.int ((1 : Int32) * (2 : Int32)))] [(.ref b160), (.ref a0)])) rfl rfl (hb hby d2_32)
    have E167 := E161.wr W166
    have F168 := F162.other W166 (Or.inr (slot_ne (Or.inr (hw _ (List.mem_of_getElem? (i := 15) rfl))) (Or.inr (hw _ (List.mem_of_getElem? (i := 17) rfl))) (by decide) (t := .int) (t' := (.array .int)) (by decide) (by decide)))
    have F169 : Fld Z h166 a0 "com/example/packwright/packwright/core/bins/FreeSpaceTree" "maxFree" "[I" (.ref b160) := F163.same W166
    have E170 := EE160.wr W166
    have V171 := V160.other W166 (Ne.symm ne_a0_b160)
    have N172 := Fr.snoc X166 N156 g_a0
    have K173 : Keep h0 h166 [a0] := K164.wr W166 (Or.inl (List.mem_of_getElem? (i := 0) rfl))
    have Z174 : n0 ≤ h166.size := Nat.le_trans Z165 (Keep.of_wr W166).1
    obtain ⟨T175, X175, e175, st175⟩ := getF X166 hx hZ hown (host := "") (Or.inl (hw _ (List.mem_of_getElem? (i := 16) rfl))) Via.refl e166 F169 (g := (mkF m 36 #[.val (.ref a0), .val (.int (2 : Int32)), .val (.int p2), .val (.int ((1 : Int32) * (2 : Int32)))] [(.ref a0)])) rfl rfl (hb hby d2_36)
    obtain ⟨_, _, ⟨T176, L176, k176, n176⟩, -, X176, ⟨Lc176, hQ176, l176, y176, z176⟩, st176⟩ := Jvm.LawKit.callS X175 hx (y := (⟨"java/util/Arrays", "fill", "([II)V"⟩ : MethodName)) hown (mvT hZ (hw _ (List.mem_of_getElem? (i := 18) rfl))) (mvT hZ (hw _ (List.mem_of_getElem? (i := 19) rfl))) (mvT hZ (hw _ (List.mem_of_getElem? (i := 20) rfl))) (mvT hZ (hw _ (List.mem_of_getElem? (i := 21) rfl))) (by decide) (backOf (W := 0) (rm4 l Z aq hw [] b160 p2 4 (fun _ => (0 : Int32)) h166 n0 Z174 V171 g_b160 (by decide)) hZ (hw _ (List.mem_of_getElem? (i := 21) rfl)) (hw _ (List.mem_of_getElem? (i := 20) rfl)) (by decide) (by decide)) (g := (mkF m 40 #[.val (.ref a0), .val (.int (2 : Int32)), .val (.int p2), .val (.int ((1 : Int32) * (2 : Int32)))] [(.int p2), (.ref b160)])) rfl (by rw [hml]; rfl) (argsL := [(.ref b160), (.int p2)]) (rest := []) (lenOf pd8095129 rfl) rfl (by show 2 * 0 + _ ≤ _; exact Nat.le_of_eq rfl) (hb hby d2_40) (fun _ _ => ⟨rfl, e175, (by decide : 1 + 0 ≤ _), (by decide : 4 + 0 ≤ _)⟩)
    dsimp only [Pt.U, Pt.locs, Pt.cells, Pt.slots] at X176 l176 y176 z176 st176 hQ176
    rw [l176, y176, z176] at X176
    obtain ⟨f176, rfl, N176q, K176, V176, qf176⟩ := hQ176
    have E177 := E167.keep K176
    have F178 := F168.keep K176 (ninS ne_a0_b160 nin0)
    have F179 := F169.keep K176 (ninS ne_a0_b160 nin0)
    have Z180 : n0 ≤ T176.heap.size := Nat.le_trans Z174 K176.1
    have K181 : Keep h0 T176.heap [a0] := K173.trans K176 (allS (Or.inr sz_b160) all0)
    have N182 := Fr.app N172 N176q
    have E183 := E170.keep K176
    have pre184 : ∀ t, Steps p.tables e below (T176.setTop (mkF m 43 #[.val (.ref a0), .val (.int (2 : Int32)), .val (.int p2), .val (.int ((1 : Int32) * (2 : Int32)))] [])) t → Steps p.tables e below (s₁.setTop (entryFrame m #[(.ref a0), (.int (Int32.ofNat M)), (.int p2)] 4)) t := fun t kt => by
      refine pre151 _ ?_
      show Steps p.tables e below (T115.setTop (mkF m 6 #[.val (.ref a0), .val (.int (2 : Int32)), .val (.int p2), .val (.int (1 : Int32))] [])) _
      refine XS.iloadN X115.here hx rfl (hb hby d2_6) rfl ?_
      show Steps p.tables e below (T115.setTop (mkF m 7 #[.val (.ref a0), .val (.int (2 : Int32)), .val (.int p2), .val (.int (1 : Int32))] [(.int (1 : Int32))])) _
      refine XS.iloadN X115.here hx rfl (hb hby d2_7) rfl ?_
      show Steps p.tables e below (T115.setTop (mkF m 8 #[.val (.ref a0), .val (.int (2 : Int32)), .val (.int p2), .val (.int (1 : Int32))] [(.int (2 : Int32)), (.int (1 : Int32))])) _
      refine XS.icmpNo X115.here hx rfl (hb hby d2_8) rfl (tlt (by decide : (1 : Int32) < (2 : Int32))).2.1 ?_
      show Steps p.tables e below (T115.setTop (mkF m 11 #[.val (.ref a0), .val (.int (2 : Int32)), .val (.int p2), .val (.int (1 : Int32))] [])) _
      refine XS.iloadN X115.here hx rfl (hb hby d2_11) rfl ?_
      show Steps p.tables e below (T115.setTop (mkF m 12 #[.val (.ref a0), .val (.int (2 : Int32)), .val (.int p2), .val (.int (1 : Int32))] [(.int (1 : Int32))])) _
      refine XS.iconst X115.here hx rfl (hb hby d2_12) ?_
      show Steps p.tables e below (T115.setTop (mkF m 13 #[.val (.ref a0), .val (.int (2 : Int32)), .val (.int p2), .val (.int (1 : Int32))] [(.int (2 : Int32)), (.int (1 : Int32))])) _
      refine XS.imul X115.here hx rfl (hb hby d2_13) rfl ?_
      show Steps p.tables e below (T115.setTop (mkF m 14 #[.val (.ref a0), .val (.int (2 : Int32)), .val (.int p2), .val (.int (1 : Int32))] [(.int ((1 : Int32) * (2 : Int32)))])) _
      refine XS.istoreN X115.here hx rfl (hb hby d2_14) rfl (l' := #[.val (.ref a0), .val (.int (2 : Int32)), .val (.int p2), .val (.int ((1 : Int32) * (2 : Int32)))]) rfl ?_
      show Steps p.tables e below (T115.setTop (mkF m 15 #[.val (.ref a0), .val (.int (2 : Int32)), .val (.int p2), .val (.int ((1 : Int32) * (2 : Int32)))] [])) _
      refine XS.goto X115.here hx rfl (pc0 := 15) (pc' := 6) rfl (hb hby d2_15) (by decide) (by decide) ?_
      show Steps p.tables e below (T115.setTop (mkF m 6 #[.val (.ref a0), .val (.int (2 : Int32)), .val (.int p2), .val (.int ((1 : Int32) * (2 : Int32)))] [])) _
      refine XS.iloadN X115.here hx rfl (hb hby d2_6) rfl ?_
      show Steps p.tables e below (T115.setTop (mkF m 7 #[.val (.ref a0), .val (.int (2 : Int32)), .val (.int p2), .val (.int ((1 : Int32) * (2 : Int32)))] [(.int ((1 : Int32) * (2 : Int32)))])) _
      refine XS.iloadN X115.here hx rfl (hb hby d2_7) rfl ?_
      show Steps p.tables e below (T115.setTop (mkF m 8 #[.val (.ref a0), .val (.int (2 : Int32)), .val (.int p2), .val (.int ((1 : Int32) * (2 : Int32)))] [(.int (2 : Int32)), (.int ((1 : Int32) * (2 : Int32)))])) _
      refine XS.icmpYes X115.here hx rfl (pc0 := 8) (pc' := 18) rfl (hb hby d2_8) rfl (flt (by decide : ¬ (((1 : Int32) * (2 : Int32)) < (2 : Int32)))).2.1 (by decide) (by decide) ?_
      show Steps p.tables e below (T115.setTop (mkF m 18 #[.val (.ref a0), .val (.int (2 : Int32)), .val (.int p2), .val (.int ((1 : Int32) * (2 : Int32)))] [])) _
      refine XS.aloadN X115.here hx rfl (hb hby d2_18) rfl rfl ?_
      show Steps p.tables e below (T115.setTop (mkF m 19 #[.val (.ref a0), .val (.int (2 : Int32)), .val (.int p2), .val (.int ((1 : Int32) * (2 : Int32)))] [(.ref a0)])) _
      refine XS.iloadN X115.here hx rfl (hb hby d2_19) rfl ?_
      show Steps p.tables e below (T115.setTop (mkF m 20 #[.val (.ref a0), .val (.int (2 : Int32)), .val (.int p2), .val (.int ((1 : Int32) * (2 : Int32)))] [(.int ((1 : Int32) * (2 : Int32))), (.ref a0)])) _
      refine st152 _ ?_
      show Steps p.tables e below (T152.setTop (mkF m 23 #[.val (.ref a0), .val (.int (2 : Int32)), .val (.int p2), .val (.int ((1 : Int32) * (2 : Int32)))] [])) _
      refine XS.aloadN X152.here hx rfl (hb hby d2_23) rfl rfl ?_
      show Steps p.tables e below (T152.setTop (mkF m 24 #[.val (.ref a0), .val (.int (2 : Int32)), .val (.int p2), .val (.int ((1 : Int32) * (2 : Int32)))] [(.ref a0)])) _
      refine XS.iconst X152.here hx rfl (hb hby d2_24) ?_
      show Steps p.tables e below (T152.setTop (mkF m 25 #[.val (.ref a0), .val (.int (2 : Int32)), .val (.int p2), .val (.int ((1 : Int32) * (2 : Int32)))] [(.int (2 : Int32)), (.ref a0)])) _
      refine XS.aloadN X152.here hx rfl (hb hby d2_25) rfl rfl ?_
      show Steps p.tables e below (T152.setTop (mkF m 26 #[.val (.ref a0), .val (.int (2 : Int32)), .val (.int p2), .val (.int ((1 : Int32) * (2 : Int32)))] [(.ref a0), (.int (2 : Int32)), (.ref a0)])) _
      refine st159 _ ?_
      show Steps p.tables e below (T159.setTop (mkF m 29 #[.val (.ref a0), .val (.int (2 : Int32)), .val (.int p2), .val (.int ((1 : Int32) * (2 : Int32)))] [(.int ((1 : Int32) * (2 : Int32))), (.int (2 : Int32)), (.ref a0)])) _
      refine XS.imul X159.here hx rfl (hb hby d2_29) rfl ?_
      show Steps p.tables e below (T159.setTop (mkF m 30 #[.val (.ref a0), .val (.int (2 : Int32)), .val (.int p2), .val (.int ((1 : Int32) * (2 : Int32)))] [(.int ((2 : Int32) * ((1 : Int32) * (2 : Int32)))), (.ref a0)])) _
      refine st160 _ ?_
      show Steps p.tables e below (T160.setTop (mkF m 32 #[.val (.ref a0), .val (.int (2 : Int32)), .val (.int p2), .val (.int ((1 : Int32) * (2 : Int32)))] [(.ref b160), (.ref a0)])) _
      refine st166 _ ?_
      show Steps p.tables e below (T166.setTop (mkF m 35 #[.val (.ref a0), .val (.int (2 : Int32)), .val (.int p2), .val (.int ((1 : Int32) * (2 : Int32)))] [])) _
      refine XS.aloadN X166.here hx rfl (hb hby d2_35) rfl rfl ?_
      show Steps p.tables e below (T166.setTop (mkF m 36 #[.val (.ref a0), .val (.int (2 : Int32)), .val (.int p2), .val (.int ((1 : Int32) * (2 : Int32)))] [(.ref a0)])) _
      refine st175 _ ?_
      show Steps p.tables e below (T175.setTop (mkF m 39 #[.val (.ref a0), .val (.int (2 : Int32)), .val (.int p2), .val (.int ((1 : Int32) * (2 : Int32)))] [(.ref b160)])) _
      refine XS.iloadN X175.here hx rfl (hb hby d2_39) rfl ?_
      show Steps p.tables e below (T175.setTop (mkF m 40 #[.val (.ref a0), .val (.int (2 : Int32)), .val (.int p2), .val (.int ((1 : Int32) * (2 : Int32)))] [(.int p2), (.ref b160)])) _
      refine st176 _ ?_
      show Steps p.tables e below (T176.setTop (mkF m 43 #[.val (.ref a0), .val (.int (2 : Int32)), .val (.int p2), .val (.int ((1 : Int32) * (2 : Int32)))] [])) _
      exact kt
    obtain ⟨fs, hr, hrun, hended, hW, hsame⟩ := X176.leave (v := none) (fun _ => rfl)
    refine ⟨_, _, pre184 _ ?_, hrun, hended, _, _, rfl, ?_, ⟨_, rfl⟩, hW, hsame.mono (by decide) (by decide)⟩
    · exact X176.returnOut hx Bd.returns (hb hby d2_43) hr
    · show Q2 Z a0 p2 M u_l h0 n0 _ T176.heap _
      exact ⟨b160, f176, rfl, N182, K181, sz_b160, E177, (own_F (congrArg Value.int (by rw [hk]; decide : ((1 : Int32) * (2 : Int32)) = Int32.ofNat M)) F178), F179, (by rw [hk]; exact V176), (by rw [hk]; exact qf176)⟩
  · skip
    have pre185 : ∀ t, Steps p.tables e below (T115.setTop (mkF m 6 #[.val (.ref a0), .val (.int (4 : Int32)), .val (.int p2), .val (.int (1 : Int32))] [])) t → Steps p.tables e below (s₁.setTop (entryFrame m #[(.ref a0), (.int (Int32.ofNat M)), (.int p2)] 4)) t := fun t kt => pre116 t (by rw [hk]; exact kt)
    obtain ⟨T186, h186, X186, e186, W186, st186⟩ := putF X115 hx hZ hown (host := "") (Or.inl (hw _ (List.mem_of_getElem? (i := 14) rfl))) Via.refl e115 Fl_ E_ (Or.inr ⟨(hw _ (List.mem_of_getElem? (i := 15) rfl)), rfl, hnm⟩) (hw _ (List.mem_of_getElem? (i := 6) rfl)) (ty := .int) (by decide) rfl rfl (g := (mkF m 20 #[.val (.ref a0), .val (.int (4 : Int32)), .val (.int p2), .val (.int (((1 : Int32) * (2 : Int32)) * (2 : Int32)))] [(.int (((1 : Int32) * (2 : Int32)) * (2 : Int32))), (.ref a0)])) rfl rfl (hb hby d2_20)
    have E187 := E_.wr W186
    have F188 : Fld Z h186 a0 "com/example/packwright/packwright/core/bins/FreeSpaceTree" "leaves" "I" (.int (((1 : Int32) * (2 : Int32)) * (2 : Int32))) := Fl_.same W186
    have F189 := Fm_.other W186 (Or.inr (slot_ne (Or.inr (hw _ (List.mem_of_getElem? (i := 17) rfl))) (Or.inr (hw _ (List.mem_of_getElem? (i := 15) rfl))) (by decide) (t := (.array .int)) (t' := .int) (by decide) (by decide)))
    have N190 := Fr.snoc X186 N0 g_a0
    have K191 : Keep h0 h186 [a0] := K0.wr W186 (Or.inl (List.mem_of_getElem? (i := 0) rfl))
    have Z192 : n0 ≤ h186.size := Nat.le_trans Z0 (Keep.of_wr W186).1
    obtain ⟨T193, X193, e193, st193⟩ := getF X186 hx hZ hown (host := "") (Or.inl (hw _ (List.mem_of_getElem? (i := 14) rfl))) Via.refl e186 F188 (g := (mkF m 26 #[.val (.ref a0), .val (.int (4 : Int32)), .val (.int p2), .val (.int (((1 : Int32) * (2 : Int32)) * (2 : Int32)))] [(.ref a0), (.int (2 : Int32)), (.ref a0)])) rfl rfl (hb hby d2_26)
    obtain ⟨T194, h194, k194, X194, e194, E194, A194, EE194, st194⟩ := newPE X193 hx hZ (hw _ (List.mem_of_getElem? (i := 0) rfl)) e193 (g := (mkF m 30 #[.val (.ref a0), .val (.int (4 : Int32)), .val (.int p2), .val (.int (((1 : Int32) * (2 : Int32)) * (2 : Int32)))] [(.int ((2 : Int32) * (((1 : Int32) * (2 : Int32)) * (2 : Int32)))), (.ref a0)])) rfl (hb hby d2_30) rfl (by decide) (cap := 8) (by decide) (by decide) (by decide) (by decide) (ad := "[I") (by decide)
    obtain ⟨b194, g194⟩ : ∃ z, z = h186.size := ⟨_, rfl⟩
    rw [← g194] at A194 EE194 st194
    have ne_a0_b194 : a0 ≠ b194 := Nat.ne_of_lt (Nat.lt_of_lt_of_le E187.lt (Nat.le_of_eq g194.symm))
    have g_b194 : n0 ≤ b194 := Nat.le_trans Z192 (Nat.le_of_eq g194.symm)
    have sz_b194 : h0.size ≤ b194 := Nat.le_trans K191.1 (Nat.le_of_eq g194.symm)
    have E195 := E187.ext E194
    have F196 := F188.ext E194
    have F197 := F189.ext E194
    have K198 : Keep h0 h194 [a0] := K191.ext E194
    have Z199 : n0 ≤ h194.size := Nat.le_trans Z192 E194.1
    have V194 : own_Ar Z h194 b194 .int 8 (fun _ => (0 : Int32)) := own_Ar.of (Arv.new A194 (by decide)) (by decide) (fun i hi => rfl)
    obtain ⟨T200, h200, X200, e200, W200, st200⟩ := putF X194 hx hZ hown (host := "") (Or.inl (hw _ (List.mem_of_getElem? (i := 16) rfl))) Via.refl e194 F197 E195 (Or.inr ⟨(hw _ (List.mem_of_getElem? (i := 17) rfl)), rfl, hnm⟩) (hw _ (List.mem_of_getElem? (i := 6) rfl)) (ty := (.array .int)) (by decide) rfl rfl (g := (mkF m 32 #[.val (.ref a0), .val (.int (4 : Int32)), .val (.int p2), .val (.int (((1 : Int32) * (2 : Int32)) * (2 : Int32)))] [(.ref b194), (.ref a0)])) rfl rfl (hb hby d2_32)
    have E201 := E195.wr W200
    have F202 := F196.other W200 (Or.inr (slot_ne (Or.inr (hw _ (List.mem_of_getElem? (i := 15) rfl))) (Or.inr (hw _ (List.mem_of_getElem? (i := 17) rfl))) (by decide) (t := .int) (t' := (.array .int)) (by decide) (by decide)))
    have F203 : Fld Z h200 a0 "com/example/packwright/packwright/core/bins/FreeSpaceTree" "maxFree" "[I" (.ref b194) := F197.same W200
    have E204 := EE194.wr W200
    have V205 := V194.other W200 (Ne.symm ne_a0_b194)
    have N206 := Fr.snoc X200 N190 g_a0
    have K207 : Keep h0 h200 [a0] := K198.wr W200 (Or.inl (List.mem_of_getElem? (i := 0) rfl))
    have Z208 : n0 ≤ h200.size := Nat.le_trans Z199 (Keep.of_wr W200).1
    obtain ⟨T209, X209, e209, st209⟩ := getF X200 hx hZ hown (host := "") (Or.inl (hw _ (List.mem_of_getElem? (i := 16) rfl))) Via.refl e200 F203 (g := (mkF m 36 #[.val (.ref a0), .val (.int (4 : Int32)), .val (.int p2), .val (.int (((1 : Int32) * (2 : Int32)) * (2 : Int32)))] [(.ref a0)])) rfl rfl (hb hby d2_36)
    obtain ⟨_, _, ⟨T210, L210, k210, n210⟩, -, X210, ⟨Lc210, hQ210, l210, y210, z210⟩, st210⟩ := Jvm.LawKit.callS X209 hx (y := (⟨"java/util/Arrays", "fill", "([II)V"⟩ : MethodName)) hown (mvT hZ (hw _ (List.mem_of_getElem? (i := 18) rfl))) (mvT hZ (hw _ (List.mem_of_getElem? (i := 19) rfl))) (mvT hZ (hw _ (List.mem_of_getElem? (i := 20) rfl))) (mvT hZ (hw _ (List.mem_of_getElem? (i := 21) rfl))) (by decide) (backOf (W := 0) (rm4 l Z aq hw [] b194 p2 8 (fun _ => (0 : Int32)) h200 n0 Z208 V205 g_b194 (by decide)) hZ (hw _ (List.mem_of_getElem? (i := 21) rfl)) (hw _ (List.mem_of_getElem? (i := 20) rfl)) (by decide) (by decide)) (g := (mkF m 40 #[.val (.ref a0), .val (.int (4 : Int32)), .val (.int p2), .val (.int (((1 : Int32) * (2 : Int32)) * (2 : Int32)))] [(.int p2), (.ref b194)])) rfl (by rw [hml]; rfl) (argsL := [(.ref b194), (.int p2)]) (rest := []) (lenOf pd8095129 rfl) rfl (by show 2 * 0 + _ ≤ _; exact Nat.le_of_eq rfl) (hb hby d2_40) (fun _ _ => ⟨rfl, e209, (by decide : 1 + 0 ≤ _), (by decide : 8 + 0 ≤ _)⟩)
    dsimp only [Pt.U, Pt.locs, Pt.cells, Pt.slots] at X210 l210 y210 z210 st210 hQ210
    rw [l210, y210, z210] at X210
    obtain ⟨f210, rfl, N210q, K210, V210, qf210⟩ := hQ210
    have E211 := E201.keep K210
    have F212 := F202.keep K210 (ninS ne_a0_b194 nin0)
    have F213 := F203.keep K210 (ninS ne_a0_b194 nin0)
    have Z214 : n0 ≤ T210.heap.size := Nat.le_trans Z208 K210.1
    have K215 : Keep h0 T210.heap [a0] := K207.trans K210 (allS (Or.inr sz_b194) all0)
    have N216 := Fr.app N206 N210q
    have E217 := E204.keep K210
    have pre218 : ∀ t, Steps p.tables e below (T210.setTop (mkF m 43 #[.val (.ref a0), .val (.int (4 : Int32)), .val (.int p2), .val (.int (((1 : Int32) * (2 : Int32)) * (2 : Int32)))] [])) t → Steps p.tables e below (s₁.setTop (entryFrame m #[(.ref a0), (.int (Int32.ofNat M)), (.int p2)] 4)) t := fun t kt => by
      refine pre185 _ ?_
      show Steps p.tables e below (T115.setTop (mkF m 6 #[.val (.ref a0), .val (.int (4 : Int32)), .val (.int p2), .val (.int (1 : Int32))] [])) _
      refine XS.iloadN X115.here hx rfl (hb hby d2_6) rfl ?_
      show Steps p.tables e below (T115.setTop (mkF m 7 #[.val (.ref a0), .val (.int (4 : Int32)), .val (.int p2), .val (.int (1 : Int32))] [(.int (1 : Int32))])) _
      refine XS.iloadN X115.here hx rfl (hb hby d2_7) rfl ?_
      show Steps p.tables e below (T115.setTop (mkF m 8 #[.val (.ref a0), .val (.int (4 : Int32)), .val (.int p2), .val (.int (1 : Int32))] [(.int (4 : Int32)), (.int (1 : Int32))])) _
      refine XS.icmpNo X115.here hx rfl (hb hby d2_8) rfl (tlt (by decide : (1 : Int32) < (4 : Int32))).2.1 ?_
      show Steps p.tables e below (T115.setTop (mkF m 11 #[.val (.ref a0), .val (.int (4 : Int32)), .val (.int p2), .val (.int (1 : Int32))] [])) _
      refine XS.iloadN X115.here hx rfl (hb hby d2_11) rfl ?_
      show Steps p.tables e below (T115.setTop (mkF m 12 #[.val (.ref a0), .val (.int (4 : Int32)), .val (.int p2), .val (.int (1 : Int32))] [(.int (1 : Int32))])) _
      refine XS.iconst X115.here hx rfl (hb hby d2_12) ?_
      show Steps p.tables e below (T115.setTop (mkF m 13 #[.val (.ref a0), .val (.int (4 : Int32)), .val (.int p2), .val (.int (1 : Int32))] [(.int (2 : Int32)), (.int (1 : Int32))])) _
      refine XS.imul X115.here hx rfl (hb hby d2_13) rfl ?_
      show Steps p.tables e below (T115.setTop (mkF m 14 #[.val (.ref a0), .val (.int (4 : Int32)), .val (.int p2), .val (.int (1 : Int32))] [(.int ((1 : Int32) * (2 : Int32)))])) _
      refine XS.istoreN X115.here hx rfl (hb hby d2_14) rfl (l' := #[.val (.ref a0), .val (.int (4 : Int32)), .val (.int p2), .val (.int ((1 : Int32) * (2 : Int32)))]) rfl ?_
      show Steps p.tables e below (T115.setTop (mkF m 15 #[.val (.ref a0), .val (.int (4 : Int32)), .val (.int p2), .val (.int ((1 : Int32) * (2 : Int32)))] [])) _
      refine XS.goto X115.here hx rfl (pc0 := 15) (pc' := 6) rfl (hb hby d2_15) (by decide) (by decide) ?_
      show Steps p.tables e below (T115.setTop (mkF m 6 #[.val (.ref a0), .val (.int (4 : Int32)), .val (.int p2), .val (.int ((1 : Int32) * (2 : Int32)))] [])) _
      refine XS.iloadN X115.here hx rfl (hb hby d2_6) rfl ?_
      show Steps p.tables e below (T115.setTop (mkF m 7 #[.val (.ref a0), .val (.int (4 : Int32)), .val (.int p2), .val (.int ((1 : Int32) * (2 : Int32)))] [(.int ((1 : Int32) * (2 : Int32)))])) _
      refine XS.iloadN X115.here hx rfl (hb hby d2_7) rfl ?_
      show Steps p.tables e below (T115.setTop (mkF m 8 #[.val (.ref a0), .val (.int (4 : Int32)), .val (.int p2), .val (.int ((1 : Int32) * (2 : Int32)))] [(.int (4 : Int32)), (.int ((1 : Int32) * (2 : Int32)))])) _
      refine XS.icmpNo X115.here hx rfl (hb hby d2_8) rfl (tlt (by decide : ((1 : Int32) * (2 : Int32)) < (4 : Int32))).2.1 ?_
      show Steps p.tables e below (T115.setTop (mkF m 11 #[.val (.ref a0), .val (.int (4 : Int32)), .val (.int p2), .val (.int ((1 : Int32) * (2 : Int32)))] [])) _
      refine XS.iloadN X115.here hx rfl (hb hby d2_11) rfl ?_
      show Steps p.tables e below (T115.setTop (mkF m 12 #[.val (.ref a0), .val (.int (4 : Int32)), .val (.int p2), .val (.int ((1 : Int32) * (2 : Int32)))] [(.int ((1 : Int32) * (2 : Int32)))])) _
      refine XS.iconst X115.here hx rfl (hb hby d2_12) ?_
      show Steps p.tables e below (T115.setTop (mkF m 13 #[.val (.ref a0), .val (.int (4 : Int32)), .val (.int p2), .val (.int ((1 : Int32) * (2 : Int32)))] [(.int (2 : Int32)), (.int ((1 : Int32) * (2 : Int32)))])) _
      refine XS.imul X115.here hx rfl (hb hby d2_13) rfl ?_
      show Steps p.tables e below (T115.setTop (mkF m 14 #[.val (.ref a0), .val (.int (4 : Int32)), .val (.int p2), .val (.int ((1 : Int32) * (2 : Int32)))] [(.int (((1 : Int32) * (2 : Int32)) * (2 : Int32)))])) _
      refine XS.istoreN X115.here hx rfl (hb hby d2_14) rfl (l' := #[.val (.ref a0), .val (.int (4 : Int32)), .val (.int p2), .val (.int (((1 : Int32) * (2 : Int32)) * (2 : Int32)))]) rfl ?_
      show Steps p.tables e below (T115.setTop (mkF m 15 #[.val (.ref a0), .val (.int (4 : Int32)), .val (.int p2), .val (.int (((1 : Int32) * (2 : Int32)) * (2 : Int32)))] [])) _
      refine XS.goto X115.here hx rfl (pc0 := 15) (pc' := 6) rfl (hb hby d2_15) (by decide) (by decide) ?_
      show Steps p.tables e below (T115.setTop (mkF m 6 #[.val (.ref a0), .val (.int (4 : Int32)), .val (.int p2), .val (.int (((1 : Int32) * (2 : Int32)) * (2 : Int32)))] [])) _
      refine XS.iloadN X115.here hx rfl (hb hby d2_6) rfl ?_
      show Steps p.tables e below (T115.setTop (mkF m 7 #[.val (.ref a0), .val (.int (4 : Int32)), .val (.int p2), .val (.int (((1 : Int32) * (2 : Int32)) * (2 : Int32)))] [(.int (((1 : Int32) * (2 : Int32)) * (2 : Int32)))])) _
      refine XS.iloadN X115.here hx rfl (hb hby d2_7) rfl ?_
      show Steps p.tables e below (T115.setTop (mkF m 8 #[.val (.ref a0), .val (.int (4 : Int32)), .val (.int p2), .val (.int (((1 : Int32) * (2 : Int32)) * (2 : Int32)))] [(.int (4 : Int32)), (.int (((1 : Int32) * (2 : Int32)) * (2 : Int32)))])) _
      refine XS.icmpYes X115.here hx rfl (pc0 := 8) (pc' := 18) rfl (hb hby d2_8) rfl (flt (by decide : ¬ ((((1 : Int32) * (2 : Int32)) * (2 : Int32)) < (4 : Int32)))).2.1 (by decide) (by decide) ?_
      show Steps p.tables e below (T115.setTop (mkF m 18 #[.val (.ref a0), .val (.int (4 : Int32)), .val (.int p2), .val (.int (((1 : Int32) * (2 : Int32)) * (2 : Int32)))] [])) _
      refine XS.aloadN X115.here hx rfl (hb hby d2_18) rfl rfl ?_
      show Steps p.tables e below (T115.setTop (mkF m 19 #[.val (.ref a0), .val (.int (4 : Int32)), .val (.int p2), .val (.int (((1 : Int32) * (2 : Int32)) * (2 : Int32)))] [(.ref a0)])) _
      refine XS.iloadN X115.here hx rfl (hb hby d2_19) rfl ?_
      show Steps p.tables e below (T115.setTop (mkF m 20 #[.val (.ref a0), .val (.int (4 : Int32)), .val (.int p2), .val (.int (((1 : Int32) * (2 : Int32)) * (2 : Int32)))] [(.int (((1 : Int32) * (2 : Int32)) * (2 : Int32))), (.ref a0)])) _
      refine st186 _ ?_
      show Steps p.tables e below (T186.setTop (mkF m 23 #[.val (.ref a0), .val (.int (4 : Int32)), .val (.int p2), .val (.int (((1 : Int32) * (2 : Int32)) * (2 : Int32)))] [])) _
      refine XS.aloadN X186.here hx rfl (hb hby d2_23) rfl rfl ?_
      show Steps p.tables e below (T186.setTop (mkF m 24 #[.val (.ref a0), .val (.int (4 : Int32)), .val (.int p2), .val (.int (((1 : Int32) * (2 : Int32)) * (2 : Int32)))] [(.ref a0)])) _
      refine XS.iconst X186.here hx rfl (hb hby d2_24) ?_
      show Steps p.tables e below (T186.setTop (mkF m 25 #[.val (.ref a0), .val (.int (4 : Int32)), .val (.int p2), .val (.int (((1 : Int32) * (2 : Int32)) * (2 : Int32)))] [(.int (2 : Int32)), (.ref a0)])) _
      refine XS.aloadN X186.here hx rfl (hb hby d2_25) rfl rfl ?_
      show Steps p.tables e below (T186.setTop (mkF m 26 #[.val (.ref a0), .val (.int (4 : Int32)), .val (.int p2), .val (.int (((1 : Int32) * (2 : Int32)) * (2 : Int32)))] [(.ref a0), (.int (2 : Int32)), (.ref a0)])) _
      refine st193 _ ?_
      show Steps p.tables e below (T193.setTop (mkF m 29 #[.val (.ref a0), .val (.int (4 : Int32)), .val (.int p2), .val (.int (((1 : Int32) * (2 : Int32)) * (2 : Int32)))] [(.int (((1 : Int32) * (2 : Int32)) * (2 : Int32))), (.int (2 : Int32)), (.ref a0)])) _
      refine XS.imul X193.here hx rfl (hb hby d2_29) rfl ?_
      show Steps p.tables e below (T193.setTop (mkF m 30 #[.val (.ref a0), .val (.int (4 : Int32)), .val (.int p2), .val (.int (((1 : Int32) * (2 : Int32)) * (2 : Int32)))] [(.int ((2 : Int32) * (((1 : Int32) * (2 : Int32)) * (2 : Int32)))), (.ref a0)])) _
      refine st194 _ ?_
      show Steps p.tables e below (T194.setTop (mkF m 32 #[.val (.ref a0), .val (.int (4 : Int32)), .val (.int p2), .val (.int (((1 : Int32) * (2 : Int32)) * (2 : Int32)))] [(.ref b194), (.ref a0)])) _
      refine st200 _ ?_
      show Steps p.tables e below (T200.setTop (mkF m 35 #[.val (.ref a0), .val (.int (4 : Int32)), .val (.int p2), .val (.int (((1 : Int32) * (2 : Int32)) * (2 : Int32)))] [])) _
      refine XS.aloadN X200.here hx rfl (hb hby d2_35) rfl rfl ?_
      show Steps p.tables e below (T200.setTop (mkF m 36 #[.val (.ref a0), .val (.int (4 : Int32)), .val (.int p2), .val (.int (((1 : Int32) * (2 : Int32)) * (2 : Int32)))] [(.ref a0)])) _
      refine st209 _ ?_
      show Steps p.tables e below (T209.setTop (mkF m 39 #[.val (.ref a0), .val (.int (4 : Int32)), .val (.int p2), .val (.int (((1 : Int32) * (2 : Int32)) * (2 : Int32)))] [(.ref b194)])) _
      refine XS.iloadN X209.here hx rfl (hb hby d2_39) rfl ?_
      show Steps p.tables e below (T209.setTop (mkF m 40 #[.val (.ref a0), .val (.int (4 : Int32)), .val (.int p2), .val (.int (((1 : Int32) * (2 : Int32)) * (2 : Int32)))] [(.int p2), (.ref b194)])) _
      refine st210 _ ?_
      show Steps p.tables e below (T210.setTop (mkF m 43 #[.val (.ref a0), .val (.int (4 : Int32)), .val (.int p2), .val (.int (((1 : Int32) * (2 : Int32)) * (2 : Int32)))] [])) _
      exact kt
    obtain ⟨fs, hr, hrun, hended, hW, hsame⟩ := X210.leave (v := none) (fun _ => rfl)
    refine ⟨_, _, pre218 _ ?_, hrun, hended, _, _, rfl, ?_, ⟨_, rfl⟩, hW, hsame.mono (by decide) (by decide)⟩
    · exact X210.returnOut hx Bd.returns (hb hby d2_43) hr
    · show Q2 Z a0 p2 M u_l h0 n0 _ T210.heap _
      exact ⟨b194, f210, rfl, N216, K215, sz_b194, E211, (own_F (congrArg Value.int (by rw [hk]; decide : (((1 : Int32) * (2 : Int32)) * (2 : Int32)) = Int32.ofNat M)) F212), F213, (by rw [hk]; exact V210), (by rw [hk]; exact qf210)⟩
  · skip
    have pre219 : ∀ t, Steps p.tables e below (T115.setTop (mkF m 6 #[.val (.ref a0), .val (.int (8 : Int32)), .val (.int p2), .val (.int (1 : Int32))] [])) t → Steps p.tables e below (s₁.setTop (entryFrame m #[(.ref a0), (.int (Int32.ofNat M)), (.int p2)] 4)) t := fun t kt => pre116 t (by rw [hk]; exact kt)
    obtain ⟨T220, h220, X220, e220, W220, st220⟩ := putF X115 hx hZ hown (host := "") (Or.inl (hw _ (List.mem_of_getElem? (i := 14) rfl))) Via.refl e115 Fl_ E_ (Or.inr ⟨(hw _ (List.mem_of_getElem? (i := 15) rfl)), rfl, hnm⟩) (hw _ (List.mem_of_getElem? (i := 6) rfl)) (ty := .int) (by decide) rfl rfl (g := (mkF m 20 #[.val (.ref a0), .val (.int (8 : Int32)), .val (.int p2), .val (.int ((((1 : Int32) * (2 : Int32)) * (2 : Int32)) * (2 : Int32)))] [(.int ((((1 : Int32) * (2 : Int32)) * (2 : Int32)) * (2 : Int32))), (.ref a0)])) rfl rfl (hb hby d2_20)
    have E221 := E_.wr W220
    have F222 : Fld Z h220 a0 "com/example/packwright/packwright/core/bins/FreeSpaceTree" "leaves" "I" (.int ((((1 : Int32) * (2 : Int32)) * (2 : Int32)) * (2 : Int32))) := Fl_.same W220
    have F223 := Fm_.other W220 (Or.inr (slot_ne (Or.inr (hw _ (List.mem_of_getElem? (i := 17) rfl))) (Or.inr (hw _ (List.mem_of_getElem? (i := 15) rfl))) (by decide) (t := (.array .int)) (t' := .int) (by decide) (by decide)))
    have N224 := Fr.snoc X220 N0 g_a0
    have K225 : Keep h0 h220 [a0] := K0.wr W220 (Or.inl (List.mem_of_getElem? (i := 0) rfl))
    have Z226 : n0 ≤ h220.size := Nat.le_trans Z0 (Keep.of_wr W220).1
    obtain ⟨T227, X227, e227, st227⟩ := getF X220 hx hZ hown (host := "") (Or.inl (hw _ (List.mem_of_getElem? (i := 14) rfl))) Via.refl e220 F222 (g := (mkF m 26 #[.val (.ref a0), .val (.int (8 : Int32)), .val (.int p2), .val (.int ((((1 : Int32) * (2 : Int32)) * (2 : Int32)) * (2 : Int32)))] [(.ref a0), (.int (2 : Int32)), (.ref a0)])) rfl rfl (hb hby d2_26)
    obtain ⟨T228, h228, k228, X228, e228, E228, A228, EE228, st228⟩ := newPE X227 hx hZ (hw _ (List.mem_of_getElem? (i := 0) rfl)) e227 (g := (mkF m 30 #[.val (.ref a0), .val (.int (8 : Int32)), .val (.int p2), .val (.int ((((1 : Int32) * (2 : Int32)) * (2 : Int32)) * (2 : Int32)))] [(.int ((2 : Int32) * ((((1 : Int32) * (2 : Int32)) * (2 : Int32)) * (2 : Int32)))), (.ref a0)])) rfl (hb hby d2_30) rfl (by decide) (cap := 16) (by decide) (by decide) (by decide) (by decide) (ad := "[I") (by decide)
    obtain ⟨b228, g228⟩ : ∃ z, z = h220.size := ⟨_, rfl⟩
    rw [← g228] at A228 EE228 st228
    have ne_a0_b228 : a0 ≠ b228 := Nat.ne_of_lt (Nat.lt_of_lt_of_le E221.lt (Nat.le_of_eq g228.symm))
    have g_b228 : n0 ≤ b228 := Nat.le_trans Z226 (Nat.le_of_eq g228.symm)
    have sz_b228 : h0.size ≤ b228 := Nat.le_trans K225.1 (Nat.le_of_eq g228.symm)
    have E229 := E221.ext E228
    have F230 := F222.ext E228
    have F231 := F223.ext E228
    have K232 : Keep h0 h228 [a0] := K225.ext E228
    have Z233 : n0 ≤ h228.size := Nat.le_trans Z226 E228.1
    have V228 : own_Ar Z h228 b228 .int 16 (fun _ => (0 : Int32)) := own_Ar.of (Arv.new A228 (by decide)) (by decide) (fun i hi => rfl)
    obtain ⟨T234, h234, X234, e234, W234, st234⟩ := putF X228 hx hZ hown (host := "") (Or.inl (hw _ (List.mem_of_getElem? (i := 16) rfl))) Via.refl e228 F231 E229 (Or.inr ⟨(hw _ (List.mem_of_getElem? (i := 17) rfl)), rfl, hnm⟩) (hw _ (List.mem_of_getElem? (i := 6) rfl)) (ty := (.array .int)) (by decide) rfl rfl (g := (mkF m 32 #[.val (.ref a0), .val (.int (8 : Int32)), .val (.int p2), .val (.int ((((1 : Int32) * (2 : Int32)) * (2 : Int32)) * (2 : Int32)))] [(.ref b228), (.ref a0)])) rfl rfl (hb hby d2_32)
    have E235 := E229.wr W234
    have F236 := F230.other W234 (Or.inr (slot_ne (Or.inr (hw _ (List.mem_of_getElem? (i := 15) rfl))) (Or.inr (hw _ (List.mem_of_getElem? (i := 17) rfl))) (by decide) (t := .int) (t' := (.array .int)) (by decide) (by decide)))
    have F237 : Fld Z h234 a0 "com/example/packwright/packwright/core/bins/FreeSpaceTree" "maxFree" "[I" (.ref b228) := F231.same W234
    have E238 := EE228.wr W234
    have V239 := V228.other W234 (Ne.symm ne_a0_b228)
    have N240 := Fr.snoc X234 N224 g_a0
    have K241 : Keep h0 h234 [a0] := K232.wr W234 (Or.inl (List.mem_of_getElem? (i := 0) rfl))
    have Z242 : n0 ≤ h234.size := Nat.le_trans Z233 (Keep.of_wr W234).1
    obtain ⟨T243, X243, e243, st243⟩ := getF X234 hx hZ hown (host := "") (Or.inl (hw _ (List.mem_of_getElem? (i := 16) rfl))) Via.refl e234 F237 (g := (mkF m 36 #[.val (.ref a0), .val (.int (8 : Int32)), .val (.int p2), .val (.int ((((1 : Int32) * (2 : Int32)) * (2 : Int32)) * (2 : Int32)))] [(.ref a0)])) rfl rfl (hb hby d2_36)
    obtain ⟨_, _, ⟨T244, L244, k244, n244⟩, -, X244, ⟨Lc244, hQ244, l244, y244, z244⟩, st244⟩ := Jvm.LawKit.callS X243 hx (y := (⟨"java/util/Arrays", "fill", "([II)V"⟩ : MethodName)) hown (mvT hZ (hw _ (List.mem_of_getElem? (i := 18) rfl))) (mvT hZ (hw _ (List.mem_of_getElem? (i := 19) rfl))) (mvT hZ (hw _ (List.mem_of_getElem? (i := 20) rfl))) (mvT hZ (hw _ (List.mem_of_getElem? (i := 21) rfl))) (by decide) (backOf (W := 0) (rm4 l Z aq hw [] b228 p2 16 (fun _ => (0 : Int32)) h234 n0 Z242 V239 g_b228 (by decide)) hZ (hw _ (List.mem_of_getElem? (i := 21) rfl)) (hw _ (List.mem_of_getElem? (i := 20) rfl)) (by decide) (by decide)) (g := (mkF m 40 #[.val (.ref a0), .val (.int (8 : Int32)), .val (.int p2), .val (.int ((((1 : Int32) * (2 : Int32)) * (2 : Int32)) * (2 : Int32)))] [(.int p2), (.ref b228)])) rfl (by rw [hml]; rfl) (argsL := [(.ref b228), (.int p2)]) (rest := []) (lenOf pd8095129 rfl) rfl (by show 2 * 0 + _ ≤ _; exact Nat.le_of_eq rfl) (hb hby d2_40) (fun _ _ => ⟨rfl, e243, (by decide : 1 + 0 ≤ _), (by decide : 16 + 0 ≤ _)⟩)
    dsimp only [Pt.U, Pt.locs, Pt.cells, Pt.slots] at X244 l244 y244 z244 st244 hQ244
    rw [l244, y244, z244] at X244
    obtain ⟨f244, rfl, N244q, K244, V244, qf244⟩ := hQ244
    have E245 := E235.keep K244
    have F246 := F236.keep K244 (ninS ne_a0_b228 nin0)
    have F247 := F237.keep K244 (ninS ne_a0_b228 nin0)
    have Z248 : n0 ≤ T244.heap.size := Nat.le_trans Z242 K244.1
    have K249 : Keep h0 T244.heap [a0] := K241.trans K244 (allS (Or.inr sz_b228) all0)
    have N250 := Fr.app N240 N244q
    have E251 := E238.keep K244
    have pre252 : ∀ t, Steps p.tables e below (T244.setTop (mkF m 43 #[.val (.ref a0), .val (.int (8 : Int32)), .val (.int p2), .val (.int ((((1 : Int32) * (2 : Int32)) * (2 : Int32)) * (2 : Int32)))] [])) t → Steps p.tables e below (s₁.setTop (entryFrame m #[(.ref a0), (.int (Int32.ofNat M)), (.int p2)] 4)) t := fun t kt => by
      refine pre219 _ ?_
      show Steps p.tables e below (T115.setTop (mkF m 6 #[.val (.ref a0), .val (.int (8 : Int32)), .val (.int p2), .val (.int (1 : Int32))] [])) _
      refine XS.iloadN X115.here hx rfl (hb hby d2_6) rfl ?_
      show Steps p.tables e below (T115.setTop (mkF m 7 #[.val (.ref a0), .val (.int (8 : Int32)), .val (.int p2), .val (.int (1 : Int32))] [(.int (1 : Int32))])) _
      refine XS.iloadN X115.here hx rfl (hb hby d2_7) rfl ?_
      show Steps p.tables e below (T115.setTop (mkF m 8 #[.val (.ref a0), .val (.int (8 : Int32)), .val (.int p2), .val (.int (1 : Int32))] [(.int (8 : Int32)), (.int (1 : Int32))])) _
      refine XS.icmpNo X115.here hx rfl (hb hby d2_8) rfl (tlt (by decide : (1 : Int32) < (8 : Int32))).2.1 ?_
      show Steps p.tables e below (T115.setTop (mkF m 11 #[.val (.ref a0), .val (.int (8 : Int32)), .val (.int p2), .val (.int (1 : Int32))] [])) _
      refine XS.iloadN X115.here hx rfl (hb hby d2_11) rfl ?_
      show Steps p.tables e below (T115.setTop (mkF m 12 #[.val (.ref a0), .val (.int (8 : Int32)), .val (.int p2), .val (.int (1 : Int32))] [(.int (1 : Int32))])) _
      refine XS.iconst X115.here hx rfl (hb hby d2_12) ?_
      show Steps p.tables e below (T115.setTop (mkF m 13 #[.val (.ref a0), .val (.int (8 : Int32)), .val (.int p2), .val (.int (1 : Int32))] [(.int (2 : Int32)), (.int (1 : Int32))])) _
      refine XS.imul X115.here hx rfl (hb hby d2_13) rfl ?_
      show Steps p.tables e below (T115.setTop (mkF m 14 #[.val (.ref a0), .val (.int (8 : Int32)), .val (.int p2), .val (.int (1 : Int32))] [(.int ((1 : Int32) * (2 : Int32)))])) _
      refine XS.istoreN X115.here hx rfl (hb hby d2_14) rfl (l' := #[.val (.ref a0), .val (.int (8 : Int32)), .val (.int p2), .val (.int ((1 : Int32) * (2 : Int32)))]) rfl ?_
      show Steps p.tables e below (T115.setTop (mkF m 15 #[.val (.ref a0), .val (.int (8 : Int32)), .val (.int p2), .val (.int ((1 : Int32) * (2 : Int32)))] [])) _
      refine XS.goto X115.here hx rfl (pc0 := 15) (pc' := 6) rfl (hb hby d2_15) (by decide) (by decide) ?_
      show Steps p.tables e below (T115.setTop (mkF m 6 #[.val (.ref a0), .val (.int (8 : Int32)), .val (.int p2), .val (.int ((1 : Int32) * (2 : Int32)))] [])) _
      refine XS.iloadN X115.here hx rfl (hb hby d2_6) rfl ?_
      show Steps p.tables e below (T115.setTop (mkF m 7 #[.val (.ref a0), .val (.int (8 : Int32)), .val (.int p2), .val (.int ((1 : Int32) * (2 : Int32)))] [(.int ((1 : Int32) * (2 : Int32)))])) _
      refine XS.iloadN X115.here hx rfl (hb hby d2_7) rfl ?_
      show Steps p.tables e below (T115.setTop (mkF m 8 #[.val (.ref a0), .val (.int (8 : Int32)), .val (.int p2), .val (.int ((1 : Int32) * (2 : Int32)))] [(.int (8 : Int32)), (.int ((1 : Int32) * (2 : Int32)))])) _
      refine XS.icmpNo X115.here hx rfl (hb hby d2_8) rfl (tlt (by decide : ((1 : Int32) * (2 : Int32)) < (8 : Int32))).2.1 ?_
      show Steps p.tables e below (T115.setTop (mkF m 11 #[.val (.ref a0), .val (.int (8 : Int32)), .val (.int p2), .val (.int ((1 : Int32) * (2 : Int32)))] [])) _
      refine XS.iloadN X115.here hx rfl (hb hby d2_11) rfl ?_
      show Steps p.tables e below (T115.setTop (mkF m 12 #[.val (.ref a0), .val (.int (8 : Int32)), .val (.int p2), .val (.int ((1 : Int32) * (2 : Int32)))] [(.int ((1 : Int32) * (2 : Int32)))])) _
      refine XS.iconst X115.here hx rfl (hb hby d2_12) ?_
      show Steps p.tables e below (T115.setTop (mkF m 13 #[.val (.ref a0), .val (.int (8 : Int32)), .val (.int p2), .val (.int ((1 : Int32) * (2 : Int32)))] [(.int (2 : Int32)), (.int ((1 : Int32) * (2 : Int32)))])) _
      refine XS.imul X115.here hx rfl (hb hby d2_13) rfl ?_
      show Steps p.tables e below (T115.setTop (mkF m 14 #[.val (.ref a0), .val (.int (8 : Int32)), .val (.int p2), .val (.int ((1 : Int32) * (2 : Int32)))] [(.int (((1 : Int32) * (2 : Int32)) * (2 : Int32)))])) _
      refine XS.istoreN X115.here hx rfl (hb hby d2_14) rfl (l' := #[.val (.ref a0), .val (.int (8 : Int32)), .val (.int p2), .val (.int (((1 : Int32) * (2 : Int32)) * (2 : Int32)))]) rfl ?_
      show Steps p.tables e below (T115.setTop (mkF m 15 #[.val (.ref a0), .val (.int (8 : Int32)), .val (.int p2), .val (.int (((1 : Int32) * (2 : Int32)) * (2 : Int32)))] [])) _
      refine XS.goto X115.here hx rfl (pc0 := 15) (pc' := 6) rfl (hb hby d2_15) (by decide) (by decide) ?_
      show Steps p.tables e below (T115.setTop (mkF m 6 #[.val (.ref a0), .val (.int (8 : Int32)), .val (.int p2), .val (.int (((1 : Int32) * (2 : Int32)) * (2 : Int32)))] [])) _
      refine XS.iloadN X115.here hx rfl (hb hby d2_6) rfl ?_
      show Steps p.tables e below (T115.setTop (mkF m 7 #[.val (.ref a0), .val (.int (8 : Int32)), .val (.int p2), .val (.int (((1 : Int32) * (2 : Int32)) * (2 : Int32)))] [(.int (((1 : Int32) * (2 : Int32)) * (2 : Int32)))])) _
      refine XS.iloadN X115.here hx rfl (hb hby d2_7) rfl ?_
      show Steps p.tables e below (T115.setTop (mkF m 8 #[.val (.ref a0), .val (.int (8 : Int32)), .val (.int p2), .val (.int (((1 : Int32) * (2 : Int32)) * (2 : Int32)))] [(.int (8 : Int32)), (.int (((1 : Int32) * (2 : Int32)) * (2 : Int32)))])) _
      refine XS.icmpNo X115.here hx rfl (hb hby d2_8) rfl (tlt (by decide : (((1 : Int32) * (2 : Int32)) * (2 : Int32)) < (8 : Int32))).2.1 ?_
      show Steps p.tables e below (T115.setTop (mkF m 11 #[.val (.ref a0), .val (.int (8 : Int32)), .val (.int p2), .val (.int (((1 : Int32) * (2 : Int32)) * (2 : Int32)))] [])) _
      refine XS.iloadN X115.here hx rfl (hb hby d2_11) rfl ?_
      show Steps p.tables e below (T115.setTop (mkF m 12 #[.val (.ref a0), .val (.int (8 : Int32)), .val (.int p2), .val (.int (((1 : Int32) * (2 : Int32)) * (2 : Int32)))] [(.int (((1 : Int32) * (2 : Int32)) * (2 : Int32)))])) _
      refine XS.iconst X115.here hx rfl (hb hby d2_12) ?_
      show Steps p.tables e below (T115.setTop (mkF m 13 #[.val (.ref a0), .val (.int (8 : Int32)), .val (.int p2), .val (.int (((1 : Int32) * (2 : Int32)) * (2 : Int32)))] [(.int (2 : Int32)), (.int (((1 : Int32) * (2 : Int32)) * (2 : Int32)))])) _
      refine XS.imul X115.here hx rfl (hb hby d2_13) rfl ?_
      show Steps p.tables e below (T115.setTop (mkF m 14 #[.val (.ref a0), .val (.int (8 : Int32)), .val (.int p2), .val (.int (((1 : Int32) * (2 : Int32)) * (2 : Int32)))] [(.int ((((1 : Int32) * (2 : Int32)) * (2 : Int32)) * (2 : Int32)))])) _
      refine XS.istoreN X115.here hx rfl (hb hby d2_14) rfl (l' := #[.val (.ref a0), .val (.int (8 : Int32)), .val (.int p2), .val (.int ((((1 : Int32) * (2 : Int32)) * (2 : Int32)) * (2 : Int32)))]) rfl ?_
      show Steps p.tables e below (T115.setTop (mkF m 15 #[.val (.ref a0), .val (.int (8 : Int32)), .val (.int p2), .val (.int ((((1 : Int32) * (2 : Int32)) * (2 : Int32)) * (2 : Int32)))] [])) _
      refine XS.goto X115.here hx rfl (pc0 := 15) (pc' := 6) rfl (hb hby d2_15) (by decide) (by decide) ?_
      show Steps p.tables e below (T115.setTop (mkF m 6 #[.val (.ref a0), .val (.int (8 : Int32)), .val (.int p2), .val (.int ((((1 : Int32) * (2 : Int32)) * (2 : Int32)) * (2 : Int32)))] [])) _
      refine XS.iloadN X115.here hx rfl (hb hby d2_6) rfl ?_
      show Steps p.tables e below (T115.setTop (mkF m 7 #[.val (.ref a0), .val (.int (8 : Int32)), .val (.int p2), .val (.int ((((1 : Int32) * (2 : Int32)) * (2 : Int32)) * (2 : Int32)))] [(.int ((((1 : Int32) * (2 : Int32)) * (2 : Int32)) * (2 : Int32)))])) _
      refine XS.iloadN X115.here hx rfl (hb hby d2_7) rfl ?_
      show Steps p.tables e below (T115.setTop (mkF m 8 #[.val (.ref a0), .val (.int (8 : Int32)), .val (.int p2), .val (.int ((((1 : Int32) * (2 : Int32)) * (2 : Int32)) * (2 : Int32)))] [(.int (8 : Int32)), (.int ((((1 : Int32) * (2 : Int32)) * (2 : Int32)) * (2 : Int32)))])) _
      refine XS.icmpYes X115.here hx rfl (pc0 := 8) (pc' := 18) rfl (hb hby d2_8) rfl (flt (by decide : ¬ (((((1 : Int32) * (2 : Int32)) * (2 : Int32)) * (2 : Int32)) < (8 : Int32)))).2.1 (by decide) (by decide) ?_
      show Steps p.tables e below (T115.setTop (mkF m 18 #[.val (.ref a0), .val (.int (8 : Int32)), .val (.int p2), .val (.int ((((1 : Int32) * (2 : Int32)) * (2 : Int32)) * (2 : Int32)))] [])) _
      refine XS.aloadN X115.here hx rfl (hb hby d2_18) rfl rfl ?_
      show Steps p.tables e below (T115.setTop (mkF m 19 #[.val (.ref a0), .val (.int (8 : Int32)), .val (.int p2), .val (.int ((((1 : Int32) * (2 : Int32)) * (2 : Int32)) * (2 : Int32)))] [(.ref a0)])) _
      refine XS.iloadN X115.here hx rfl (hb hby d2_19) rfl ?_
      show Steps p.tables e below (T115.setTop (mkF m 20 #[.val (.ref a0), .val (.int (8 : Int32)), .val (.int p2), .val (.int ((((1 : Int32) * (2 : Int32)) * (2 : Int32)) * (2 : Int32)))] [(.int ((((1 : Int32) * (2 : Int32)) * (2 : Int32)) * (2 : Int32))), (.ref a0)])) _
      refine st220 _ ?_
      show Steps p.tables e below (T220.setTop (mkF m 23 #[.val (.ref a0), .val (.int (8 : Int32)), .val (.int p2), .val (.int ((((1 : Int32) * (2 : Int32)) * (2 : Int32)) * (2 : Int32)))] [])) _
      refine XS.aloadN X220.here hx rfl (hb hby d2_23) rfl rfl ?_
      show Steps p.tables e below (T220.setTop (mkF m 24 #[.val (.ref a0), .val (.int (8 : Int32)), .val (.int p2), .val (.int ((((1 : Int32) * (2 : Int32)) * (2 : Int32)) * (2 : Int32)))] [(.ref a0)])) _
      refine XS.iconst X220.here hx rfl (hb hby d2_24) ?_
      show Steps p.tables e below (T220.setTop (mkF m 25 #[.val (.ref a0), .val (.int (8 : Int32)), .val (.int p2), .val (.int ((((1 : Int32) * (2 : Int32)) * (2 : Int32)) * (2 : Int32)))] [(.int (2 : Int32)), (.ref a0)])) _
      refine XS.aloadN X220.here hx rfl (hb hby d2_25) rfl rfl ?_
      show Steps p.tables e below (T220.setTop (mkF m 26 #[.val (.ref a0), .val (.int (8 : Int32)), .val (.int p2), .val (.int ((((1 : Int32) * (2 : Int32)) * (2 : Int32)) * (2 : Int32)))] [(.ref a0), (.int (2 : Int32)), (.ref a0)])) _
      refine st227 _ ?_
      show Steps p.tables e below (T227.setTop (mkF m 29 #[.val (.ref a0), .val (.int (8 : Int32)), .val (.int p2), .val (.int ((((1 : Int32) * (2 : Int32)) * (2 : Int32)) * (2 : Int32)))] [(.int ((((1 : Int32) * (2 : Int32)) * (2 : Int32)) * (2 : Int32))), (.int (2 : Int32)), (.ref a0)])) _
      refine XS.imul X227.here hx rfl (hb hby d2_29) rfl ?_
      show Steps p.tables e below (T227.setTop (mkF m 30 #[.val (.ref a0), .val (.int (8 : Int32)), .val (.int p2), .val (.int ((((1 : Int32) * (2 : Int32)) * (2 : Int32)) * (2 : Int32)))] [(.int ((2 : Int32) * ((((1 : Int32) * (2 : Int32)) * (2 : Int32)) * (2 : Int32)))), (.ref a0)])) _
      refine st228 _ ?_
      show Steps p.tables e below (T228.setTop (mkF m 32 #[.val (.ref a0), .val (.int (8 : Int32)), .val (.int p2), .val (.int ((((1 : Int32) * (2 : Int32)) * (2 : Int32)) * (2 : Int32)))] [(.ref b228), (.ref a0)])) _
      refine st234 _ ?_
      show Steps p.tables e below (T234.setTop (mkF m 35 #[.val (.ref a0), .val (.int (8 : Int32)), .val (.int p2), .val (.int ((((1 : Int32) * (2 : Int32)) * (2 : Int32)) * (2 : Int32)))] [])) _
      refine XS.aloadN X234.here hx rfl (hb hby d2_35) rfl rfl ?_
      show Steps p.tables e below (T234.setTop (mkF m 36 #[.val (.ref a0), .val (.int (8 : Int32)), .val (.int p2), .val (.int ((((1 : Int32) * (2 : Int32)) * (2 : Int32)) * (2 : Int32)))] [(.ref a0)])) _
      refine st243 _ ?_
      show Steps p.tables e below (T243.setTop (mkF m 39 #[.val (.ref a0), .val (.int (8 : Int32)), .val (.int p2), .val (.int ((((1 : Int32) * (2 : Int32)) * (2 : Int32)) * (2 : Int32)))] [(.ref b228)])) _
      refine XS.iloadN X243.here hx rfl (hb hby d2_39) rfl ?_
      show Steps p.tables e below (T243.setTop (mkF m 40 #[.val (.ref a0), .val (.int (8 : Int32)), .val (.int p2), .val (.int ((((1 : Int32) * (2 : Int32)) * (2 : Int32)) * (2 : Int32)))] [(.int p2), (.ref b228)])) _
      refine st244 _ ?_
      show Steps p.tables e below (T244.setTop (mkF m 43 #[.val (.ref a0), .val (.int (8 : Int32)), .val (.int p2), .val (.int ((((1 : Int32) * (2 : Int32)) * (2 : Int32)) * (2 : Int32)))] [])) _
      exact kt
    obtain ⟨fs, hr, hrun, hended, hW, hsame⟩ := X244.leave (v := none) (fun _ => rfl)
    refine ⟨_, _, pre252 _ ?_, hrun, hended, _, _, rfl, ?_, ⟨_, rfl⟩, hW, hsame.mono (by decide) (by decide)⟩
    · exact X244.returnOut hx Bd.returns (hb hby d2_43) hr
    · show Q2 Z a0 p2 M u_l h0 n0 _ T244.heap _
      exact ⟨b228, f244, rfl, N250, K249, sz_b228, E245, (own_F (congrArg Value.int (by rw [hk]; decide : ((((1 : Int32) * (2 : Int32)) * (2 : Int32)) * (2 : Int32)) = Int32.ofNat M)) F246), F247, (by rw [hk]; exact V244), (by rw [hk]; exact qf244)⟩
theorem d9_0 : decode prog_58_method_3_code 0 = .ok (.aload_n 0, 1) := by decide +kernel
theorem d9_1 : decode prog_58_method_3_code 1 = .ok (.getfield 7, 3) := by decide +kernel
theorem d9_4 : decode prog_58_method_3_code 4 = .ok (.iload_n 1, 1) := by decide +kernel
theorem d9_5 : decode prog_58_method_3_code 5 = .ok (.iadd, 1) := by decide +kernel
theorem d9_6 : decode prog_58_method_3_code 6 = .ok (.istore_n 3, 1) := by decide +kernel
theorem d9_7 : decode prog_58_method_3_code 7 = .ok (.aload_n 0, 1) := by decide +kernel
theorem d9_8 : decode prog_58_method_3_code 8 = .ok (.getfield 13, 3) := by decide +kernel
theorem d9_11 : decode prog_58_method_3_code 11 = .ok (.iload_n 3, 1) := by decide +kernel
theorem d9_12 : decode prog_58_method_3_code 12 = .ok (.iload_n 2, 1) := by decide +kernel
theorem d9_13 : decode prog_58_method_3_code 13 = .ok (.iastore, 1) := by decide +kernel
theorem d9_14 : decode prog_58_method_3_code 14 = .ok (.iload_n 3, 1) := by decide +kernel
theorem d9_15 : decode prog_58_method_3_code 15 = .ok (.iconst 2, 1) := by decide +kernel
theorem d9_16 : decode prog_58_method_3_code 16 = .ok (.idiv, 1) := by decide +kernel
theorem d9_17 : decode prog_58_method_3_code 17 = .ok (.istore 4, 2) := by decide +kernel
theorem d9_19 : decode prog_58_method_3_code 19 = .ok (.iload 4, 2) := by decide +kernel
theorem d9_21 : decode prog_58_method_3_code 21 = .ok (.iconst 1, 1) := by decide +kernel
theorem d9_22 : decode prog_58_method_3_code 22 = .ok (.if_icmp .lt 42, 3) := by decide +kernel
theorem d9_25 : decode prog_58_method_3_code 25 = .ok (.aload_n 0, 1) := by decide +kernel
theorem d9_26 : decode prog_58_method_3_code 26 = .ok (.getfield 13, 3) := by decide +kernel
theorem d9_29 : decode prog_58_method_3_code 29 = .ok (.iload 4, 2) := by decide +kernel
theorem d9_31 : decode prog_58_method_3_code 31 = .ok (.aload_n 0, 1) := by decide +kernel
theorem d9_32 : decode prog_58_method_3_code 32 = .ok (.getfield 13, 3) := by decide +kernel
theorem d9_35 : decode prog_58_method_3_code 35 = .ok (.iconst 2, 1) := by decide +kernel
theorem d9_36 : decode prog_58_method_3_code 36 = .ok (.iload 4, 2) := by decide +kernel
theorem d9_38 : decode prog_58_method_3_code 38 = .ok (.imul, 1) := by decide +kernel
theorem d9_39 : decode prog_58_method_3_code 39 = .ok (.iaload, 1) := by decide +kernel
theorem d9_40 : decode prog_58_method_3_code 40 = .ok (.aload_n 0, 1) := by decide +kernel
theorem d9_41 : decode prog_58_method_3_code 41 = .ok (.getfield 13, 3) := by decide +kernel
theorem d9_44 : decode prog_58_method_3_code 44 = .ok (.iconst 2, 1) := by decide +kernel
theorem d9_45 : decode prog_58_method_3_code 45 = .ok (.iload 4, 2) := by decide +kernel
theorem d9_47 : decode prog_58_method_3_code 47 = .ok (.imul, 1) := by decide +kernel
theorem d9_48 : decode prog_58_method_3_code 48 = .ok (.iconst 1, 1) := by decide +kernel
theorem d9_49 : decode prog_58_method_3_code 49 = .ok (.iadd, 1) := by decide +kernel
theorem d9_50 : decode prog_58_method_3_code 50 = .ok (.iaload, 1) := by decide +kernel
theorem d9_51 : decode prog_58_method_3_code 51 = .ok (.invokestatic 23, 3) := by decide +kernel
theorem d9_54 : decode prog_58_method_3_code 54 = .ok (.iastore, 1) := by decide +kernel
theorem d9_55 : decode prog_58_method_3_code 55 = .ok (.iload 4, 2) := by decide +kernel
theorem d9_57 : decode prog_58_method_3_code 57 = .ok (.iconst 2, 1) := by decide +kernel
theorem d9_58 : decode prog_58_method_3_code 58 = .ok (.idiv, 1) := by decide +kernel
theorem d9_59 : decode prog_58_method_3_code 59 = .ok (.istore 4, 2) := by decide +kernel
theorem d9_61 : decode prog_58_method_3_code 61 = .ok (.goto (-42), 3) := by decide +kernel
theorem d9_64 : decode prog_58_method_3_code 64 = .ok (.return_, 1) := by decide +kernel
theorem pd84293393 : parseMethodDescriptor "(II)I" = some ⟨[.int, .int], some .int⟩ := by decide +kernel
set_option maxRecDepth 65536 in
set_option maxHeartbeats 40000000 in
theorem lps {p : Program} {l : Launch} {e : Env} {s : State} {m : MethodId} {args : Array Value} {below : List Frame} {meth : Method} {c : Code} {Z : State} {aq : Array Value} {h0 : Heap} {n0 : Nat} {a0 ar : Addr} {p1 p2 i3 : Int32} {M : Nat} (hx : p.tables.exec = Jvm.exec) (hZ : Z.Warmed39 s.vm) (hw : ∀ d ∈ tables_1, d.before aq Z = true) (hby : c.code = prog_58_method_3_code) (hml : c.maxLocals = 5) (hown : s.vm.findClass "com/example/packwright/packwright/core/bins/FreeSpaceTree" = some m.cls) (g_ar : n0 ≤ ar) (ne_ar : a0 ≠ ar) (hM : M ≤ 8) (k : Nat) :
    ∀ (T0 : State) (locs : List Loc) (hq : Heap) (q : Nat) (f : Nat → Int32), Stand p l e ({ frames := 1, cells := 0, slots := 0, locals := 15 } : Room) s m args below meth c T0 locs 0 0 → T0.heap = hq → Fr n0 locs → n0 ≤ hq.size → Keep h0 hq [ar] → Fld Z hq a0 "com/example/packwright/packwright/core/bins/FreeSpaceTree" "maxFree" "[I" (.ref ar) → own_Ar Z hq ar .int (2 * M) f → q < 2 ^ k → q < M → ∃ (T' : State) (L' : List Loc) (Ls : Array Slot), Stand p l e ({ frames := 1, cells := 0, slots := 0, locals := 15 } : Room) s m args below meth c T' L' 0 0 ∧ Fr n0 L' ∧ n0 ≤ T'.heap.size ∧ Keep h0 T'.heap [ar] ∧ own_Ar Z T'.heap ar .int (2 * M) (own_fix k f q) ∧ ∀ t, Steps p.tables e below (T'.setTop (mkF m 64 Ls [])) t → Steps p.tables e below (T0.setTop (mkF m 19 #[.val (.ref a0), .val (.int p1), .val (.int p2), .val (.int i3), .val (.int (Int32.ofNat q))] [])) t := by
  induction k with
  | zero =>
    intro T0 locs hq q f X0 e0 N0 Z0 K0 Fm0 V0 hqk hqM
    have hq0 : q = 0 := by omega
    have pre0 : ∀ t, Steps p.tables e below (T0.setTop (mkF m 19 #[.val (.ref a0), .val (.int p1), .val (.int p2), .val (.int i3), .val (.int (Int32.ofNat q))] [])) t → Steps p.tables e below (T0.setTop (mkF m 19 #[.val (.ref a0), .val (.int p1), .val (.int p2), .val (.int i3), .val (.int (Int32.ofNat q))] [])) t := fun _ k => k
    have pre264 : ∀ t, Steps p.tables e below (T0.setTop (mkF m 64 #[.val (.ref a0), .val (.int p1), .val (.int p2), .val (.int i3), .val (.int (Int32.ofNat q))] [])) t → Steps p.tables e below (T0.setTop (mkF m 19 #[.val (.ref a0), .val (.int p1), .val (.int p2), .val (.int i3), .val (.int (Int32.ofNat q))] [])) t := fun t kt => by
      refine pre0 _ ?_
      show Steps p.tables e below (T0.setTop (mkF m 19 #[.val (.ref a0), .val (.int p1), .val (.int p2), .val (.int i3), .val (.int (Int32.ofNat q))] [])) _
      refine XS.iload X0.here hx rfl (hb hby d9_19) rfl ?_
      show Steps p.tables e below (T0.setTop (mkF m 21 #[.val (.ref a0), .val (.int p1), .val (.int p2), .val (.int i3), .val (.int (Int32.ofNat q))] [(.int (Int32.ofNat q))])) _
      refine XS.iconst X0.here hx rfl (hb hby d9_21) ?_
      show Steps p.tables e below (T0.setTop (mkF m 22 #[.val (.ref a0), .val (.int p1), .val (.int p2), .val (.int i3), .val (.int (Int32.ofNat q))] [(.int (1 : Int32)), (.int (Int32.ofNat q))])) _
      refine XS.icmpYes X0.here hx rfl (pc0 := 22) (pc' := 64) rfl (hb hby d9_22) rfl (tlt ((own_lt1 (by omega)).mpr (by omega))).1 (by decide) (by decide) ?_
      show Steps p.tables e below (T0.setTop (mkF m 64 #[.val (.ref a0), .val (.int p1), .val (.int p2), .val (.int i3), .val (.int (Int32.ofNat q))] [])) _
      exact kt
    exact ⟨_, _, _, X0, N0, by rw [e0]; exact Z0, by rw [e0]; exact K0, by rw [e0, own_fix]; exact V0, pre264⟩
  | succ k ih =>
    intro T0 locs hq q f X0 e0 N0 Z0 K0 Fm0 V0 hqk hqM
    by_cases hq0 : q = 0
    · skip
      have pre0 : ∀ t, Steps p.tables e below (T0.setTop (mkF m 19 #[.val (.ref a0), .val (.int p1), .val (.int p2), .val (.int i3), .val (.int (Int32.ofNat q))] [])) t → Steps p.tables e below (T0.setTop (mkF m 19 #[.val (.ref a0), .val (.int p1), .val (.int p2), .val (.int i3), .val (.int (Int32.ofNat q))] [])) t := fun _ k => k
      have pre265 : ∀ t, Steps p.tables e below (T0.setTop (mkF m 64 #[.val (.ref a0), .val (.int p1), .val (.int p2), .val (.int i3), .val (.int (Int32.ofNat q))] [])) t → Steps p.tables e below (T0.setTop (mkF m 19 #[.val (.ref a0), .val (.int p1), .val (.int p2), .val (.int i3), .val (.int (Int32.ofNat q))] [])) t := fun t kt => by
        refine pre0 _ ?_
        show Steps p.tables e below (T0.setTop (mkF m 19 #[.val (.ref a0), .val (.int p1), .val (.int p2), .val (.int i3), .val (.int (Int32.ofNat q))] [])) _
        refine XS.iload X0.here hx rfl (hb hby d9_19) rfl ?_
        show Steps p.tables e below (T0.setTop (mkF m 21 #[.val (.ref a0), .val (.int p1), .val (.int p2), .val (.int i3), .val (.int (Int32.ofNat q))] [(.int (Int32.ofNat q))])) _
        refine XS.iconst X0.here hx rfl (hb hby d9_21) ?_
        show Steps p.tables e below (T0.setTop (mkF m 22 #[.val (.ref a0), .val (.int p1), .val (.int p2), .val (.int i3), .val (.int (Int32.ofNat q))] [(.int (1 : Int32)), (.int (Int32.ofNat q))])) _
        refine XS.icmpYes X0.here hx rfl (pc0 := 22) (pc' := 64) rfl (hb hby d9_22) rfl (tlt ((own_lt1 (by omega)).mpr (by omega))).1 (by decide) (by decide) ?_
        show Steps p.tables e below (T0.setTop (mkF m 64 #[.val (.ref a0), .val (.int p1), .val (.int p2), .val (.int i3), .val (.int (Int32.ofNat q))] [])) _
        exact kt
      exact ⟨_, _, _, X0, N0, by rw [e0]; exact Z0, by rw [e0]; exact K0, by rw [e0, own_fix, if_pos hq0]; exact V0, pre265⟩
    · skip
      have pre0 : ∀ t, Steps p.tables e below (T0.setTop (mkF m 19 #[.val (.ref a0), .val (.int p1), .val (.int p2), .val (.int i3), .val (.int (Int32.ofNat q))] [])) t → Steps p.tables e below (T0.setTop (mkF m 19 #[.val (.ref a0), .val (.int p1), .val (.int p2), .val (.int i3), .val (.int (Int32.ofNat q))] [])) t := fun _ k => k
      obtain ⟨T266, X266, e266, st266⟩ := getF X0 hx hZ hown (host := "") (Or.inl (hw _ (List.mem_of_getElem? (i := 16) rfl))) Via.refl e0 Fm0 (g := (mkF m 26 #[.val (.ref a0), .val (.int p1), .val (.int p2), .val (.int i3), .val (.int (Int32.ofNat q))] [(.ref a0)])) rfl rfl (hb hby d9_26)
      obtain ⟨T267, X267, e267, st267⟩ := getF X266 hx hZ hown (host := "") (Or.inl (hw _ (List.mem_of_getElem? (i := 16) rfl))) Via.refl e266 Fm0 (g := (mkF m 32 #[.val (.ref a0), .val (.int p1), .val (.int p2), .val (.int i3), .val (.int (Int32.ofNat q))] [(.ref a0), (.int (Int32.ofNat q)), (.ref ar)])) rfl rfl (hb hby d9_32)
      obtain ⟨T268, X268, e268, st268⟩ := getF X267 hx hZ hown (host := "") (Or.inl (hw _ (List.mem_of_getElem? (i := 16) rfl))) Via.refl e267 Fm0 (g := (mkF m 41 #[.val (.ref a0), .val (.int p1), .val (.int p2), .val (.int i3), .val (.int (Int32.ofNat q))] [(.ref a0), (.int (f (2 * q))), (.int (Int32.ofNat q)), (.ref ar)])) rfl rfl (hb hby d9_41)
      obtain ⟨_, _, ⟨T269, L269, k269, n269⟩, -, X269, ⟨Lc269, hQ269, l269, y269, z269⟩, st269⟩ := Jvm.LawKit.callS X268 hx (y := (⟨"java/lang/Math", "max", "(II)I"⟩ : MethodName)) hown (mvT hZ (hw _ (List.mem_of_getElem? (i := 42) rfl))) (mvT hZ (hw _ (List.mem_of_getElem? (i := 43) rfl))) (mvT hZ (hw _ (List.mem_of_getElem? (i := 44) rfl))) (mvT hZ (hw _ (List.mem_of_getElem? (i := 45) rfl))) (by decide) (backOf (W := 2) (rm10 l Z aq hw [] (f (2 * q)) (f (2 * q + 1)) hq n0 Z0 ) hZ (hw _ (List.mem_of_getElem? (i := 45) rfl)) (hw _ (List.mem_of_getElem? (i := 44) rfl)) (by decide) (by decide)) (g := (mkF m 51 #[.val (.ref a0), .val (.int p1), .val (.int p2), .val (.int i3), .val (.int (Int32.ofNat q))] [(.int (f (2 * q + 1))), (.int (f (2 * q))), (.int (Int32.ofNat q)), (.ref ar)])) rfl (by rw [hml]; rfl) (argsL := [(.int (f (2 * q))), (.int (f (2 * q + 1)))]) (rest := [(.int (Int32.ofNat q)), (.ref ar)]) (lenOf pd84293393 rfl) rfl (by show 2 * 0 + _ ≤ _; exact Nat.le_of_eq rfl) (hb hby d9_51) (fun _ _ => ⟨rfl, e268, (by decide : 0 + 0 ≤ _), (by decide : 0 + 0 ≤ _)⟩)
      dsimp only [Pt.U, Pt.locs, Pt.cells, Pt.slots] at X269 l269 y269 z269 st269 hQ269
      rw [l269, y269, z269] at X269
      obtain ⟨rfl, N269q, e269⟩ := hQ269
      have N270 := Fr.app N0 N269q
      obtain ⟨T271, h271, X271, e271, W271, V271, st271⟩ := own_stI X269 hx hZ e269 V0 (j := (Int32.ofNat q)) (i := q) (own_of (by omega)) (by omega) (g := (mkF m 54 #[.val (.ref a0), .val (.int p1), .val (.int p2), .val (.int i3), .val (.int (Int32.ofNat q))] [(.int (if (f (2 * q)) < (f (2 * q + 1)) then (f (2 * q + 1)) else (f (2 * q)))), (.int (Int32.ofNat q)), (.ref ar)])) rfl rfl (hb hby d9_54)
      have F272 := Fm0.other W271 (Or.inl ne_ar)
      have N273 := Fr.snoc X271 N270 g_ar
      have K274 : Keep h0 h271 [ar] := K0.wr W271 (Or.inl (List.mem_of_getElem? (i := 0) rfl))
      have Z275 : n0 ≤ h271.size := Nat.le_trans Z0 (Keep.of_wr W271).1
      have pre276 : ∀ t, Steps p.tables e below (T271.setTop (mkF m 19 #[.val (.ref a0), .val (.int p1), .val (.int p2), .val (.int i3), .val (.int ((Int32.ofNat q) / (2 : Int32)))] [])) t → Steps p.tables e below (T0.setTop (mkF m 19 #[.val (.ref a0), .val (.int p1), .val (.int p2), .val (.int i3), .val (.int (Int32.ofNat q))] [])) t := fun t kt => by
        refine pre0 _ ?_
        show Steps p.tables e below (T0.setTop (mkF m 19 #[.val (.ref a0), .val (.int p1), .val (.int p2), .val (.int i3), .val (.int (Int32.ofNat q))] [])) _
        refine XS.iload X0.here hx rfl (hb hby d9_19) rfl ?_
        show Steps p.tables e below (T0.setTop (mkF m 21 #[.val (.ref a0), .val (.int p1), .val (.int p2), .val (.int i3), .val (.int (Int32.ofNat q))] [(.int (Int32.ofNat q))])) _
        refine XS.iconst X0.here hx rfl (hb hby d9_21) ?_
        show Steps p.tables e below (T0.setTop (mkF m 22 #[.val (.ref a0), .val (.int p1), .val (.int p2), .val (.int i3), .val (.int (Int32.ofNat q))] [(.int (1 : Int32)), (.int (Int32.ofNat q))])) _
        refine XS.icmpNo X0.here hx rfl (hb hby d9_22) rfl (flt (fun z => absurd ((own_lt1 (by omega)).mp z) (by omega))).1 ?_
        show Steps p.tables e below (T0.setTop (mkF m 25 #[.val (.ref a0), .val (.int p1), .val (.int p2), .val (.int i3), .val (.int (Int32.ofNat q))] [])) _
        refine XS.aloadN X0.here hx rfl (hb hby d9_25) rfl rfl ?_
        show Steps p.tables e below (T0.setTop (mkF m 26 #[.val (.ref a0), .val (.int p1), .val (.int p2), .val (.int i3), .val (.int (Int32.ofNat q))] [(.ref a0)])) _
        refine st266 _ ?_
        show Steps p.tables e below (T266.setTop (mkF m 29 #[.val (.ref a0), .val (.int p1), .val (.int p2), .val (.int i3), .val (.int (Int32.ofNat q))] [(.ref ar)])) _
        refine XS.iload X266.here hx rfl (hb hby d9_29) rfl ?_
        show Steps p.tables e below (T266.setTop (mkF m 31 #[.val (.ref a0), .val (.int p1), .val (.int p2), .val (.int i3), .val (.int (Int32.ofNat q))] [(.int (Int32.ofNat q)), (.ref ar)])) _
        refine XS.aloadN X266.here hx rfl (hb hby d9_31) rfl rfl ?_
        show Steps p.tables e below (T266.setTop (mkF m 32 #[.val (.ref a0), .val (.int p1), .val (.int p2), .val (.int i3), .val (.int (Int32.ofNat q))] [(.ref a0), (.int (Int32.ofNat q)), (.ref ar)])) _
        refine st267 _ ?_
        show Steps p.tables e below (T267.setTop (mkF m 35 #[.val (.ref a0), .val (.int p1), .val (.int p2), .val (.int i3), .val (.int (Int32.ofNat q))] [(.ref ar), (.int (Int32.ofNat q)), (.ref ar)])) _
        refine XS.iconst X267.here hx rfl (hb hby d9_35) ?_
        show Steps p.tables e below (T267.setTop (mkF m 36 #[.val (.ref a0), .val (.int p1), .val (.int p2), .val (.int i3), .val (.int (Int32.ofNat q))] [(.int (2 : Int32)), (.ref ar), (.int (Int32.ofNat q)), (.ref ar)])) _
        refine XS.iload X267.here hx rfl (hb hby d9_36) rfl ?_
        show Steps p.tables e below (T267.setTop (mkF m 38 #[.val (.ref a0), .val (.int p1), .val (.int p2), .val (.int i3), .val (.int (Int32.ofNat q))] [(.int (Int32.ofNat q)), (.int (2 : Int32)), (.ref ar), (.int (Int32.ofNat q)), (.ref ar)])) _
        refine XS.imul X267.here hx rfl (hb hby d9_38) rfl ?_
        show Steps p.tables e below (T267.setTop (mkF m 39 #[.val (.ref a0), .val (.int p1), .val (.int p2), .val (.int i3), .val (.int (Int32.ofNat q))] [(.int ((2 : Int32) * (Int32.ofNat q))), (.ref ar), (.int (Int32.ofNat q)), (.ref ar)])) _
        refine own_rdI X267 hx hZ e267 V0 (j := ((2 : Int32) * (Int32.ofNat q))) (i := (2 * q)) (own_i2 (by omega)) (by omega) (g := (mkF m 39 #[.val (.ref a0), .val (.int p1), .val (.int p2), .val (.int i3), .val (.int (Int32.ofNat q))] [(.int ((2 : Int32) * (Int32.ofNat q))), (.ref ar), (.int (Int32.ofNat q)), (.ref ar)])) rfl rfl (hb hby d9_39) _ ?_
        show Steps p.tables e below (T267.setTop (mkF m 40 #[.val (.ref a0), .val (.int p1), .val (.int p2), .val (.int i3), .val (.int (Int32.ofNat q))] [(.int (f (2 * q))), (.int (Int32.ofNat q)), (.ref ar)])) _
        refine XS.aloadN X267.here hx rfl (hb hby d9_40) rfl rfl ?_
        show Steps p.tables e below (T267.setTop (mkF m 41 #[.val (.ref a0), .val (.int p1), .val (.int p2), .val (.int i3), .val (.int (Int32.ofNat q))] [(.ref a0), (.int (f (2 * q))), (.int (Int32.ofNat q)), (.ref ar)])) _
        refine st268 _ ?_
        show Steps p.tables e below (T268.setTop (mkF m 44 #[.val (.ref a0), .val (.int p1), .val (.int p2), .val (.int i3), .val (.int (Int32.ofNat q))] [(.ref ar), (.int (f (2 * q))), (.int (Int32.ofNat q)), (.ref ar)])) _
        refine XS.iconst X268.here hx rfl (hb hby d9_44) ?_
        show Steps p.tables e below (T268.setTop (mkF m 45 #[.val (.ref a0), .val (.int p1), .val (.int p2), .val (.int i3), .val (.int (Int32.ofNat q))] [(.int (2 : Int32)), (.ref ar), (.int (f (2 * q))), (.int (Int32.ofNat q)), (.ref ar)])) _
        refine XS.iload X268.here hx rfl (hb hby d9_45) rfl ?_
        show Steps p.tables e below (T268.setTop (mkF m 47 #[.val (.ref a0), .val (.int p1), .val (.int p2), .val (.int i3), .val (.int (Int32.ofNat q))] [(.int (Int32.ofNat q)), (.int (2 : Int32)), (.ref ar), (.int (f (2 * q))), (.int (Int32.ofNat q)), (.ref ar)])) _
        refine XS.imul X268.here hx rfl (hb hby d9_47) rfl ?_
        show Steps p.tables e below (T268.setTop (mkF m 48 #[.val (.ref a0), .val (.int p1), .val (.int p2), .val (.int i3), .val (.int (Int32.ofNat q))] [(.int ((2 : Int32) * (Int32.ofNat q))), (.ref ar), (.int (f (2 * q))), (.int (Int32.ofNat q)), (.ref ar)])) _
        refine XS.iconst X268.here hx rfl (hb hby d9_48) ?_
        show Steps p.tables e below (T268.setTop (mkF m 49 #[.val (.ref a0), .val (.int p1), .val (.int p2), .val (.int i3), .val (.int (Int32.ofNat q))] [(.int (1 : Int32)), (.int ((2 : Int32) * (Int32.ofNat q))), (.ref ar), (.int (f (2 * q))), (.int (Int32.ofNat q)), (.ref ar)])) _
        refine XS.iadd X268.here hx rfl (hb hby d9_49) rfl ?_
        show Steps p.tables e below (T268.setTop (mkF m 50 #[.val (.ref a0), .val (.int p1), .val (.int p2), .val (.int i3), .val (.int (Int32.ofNat q))] [(.int (((2 : Int32) * (Int32.ofNat q)) + (1 : Int32))), (.ref ar), (.int (f (2 * q))), (.int (Int32.ofNat q)), (.ref ar)])) _
        refine own_rdI X268 hx hZ e268 V0 (j := (((2 : Int32) * (Int32.ofNat q)) + (1 : Int32))) (i := (2 * q + 1)) (own_i21 (by omega)) (by omega) (g := (mkF m 50 #[.val (.ref a0), .val (.int p1), .val (.int p2), .val (.int i3), .val (.int (Int32.ofNat q))] [(.int (((2 : Int32) * (Int32.ofNat q)) + (1 : Int32))), (.ref ar), (.int (f (2 * q))), (.int (Int32.ofNat q)), (.ref ar)])) rfl rfl (hb hby d9_50) _ ?_
        show Steps p.tables e below (T268.setTop (mkF m 51 #[.val (.ref a0), .val (.int p1), .val (.int p2), .val (.int i3), .val (.int (Int32.ofNat q))] [(.int (f (2 * q + 1))), (.int (f (2 * q))), (.int (Int32.ofNat q)), (.ref ar)])) _
        refine st269 _ ?_
        show Steps p.tables e below (T269.setTop (mkF m 54 #[.val (.ref a0), .val (.int p1), .val (.int p2), .val (.int i3), .val (.int (Int32.ofNat q))] [(.int (if (f (2 * q)) < (f (2 * q + 1)) then (f (2 * q + 1)) else (f (2 * q)))), (.int (Int32.ofNat q)), (.ref ar)])) _
        refine st271 _ ?_
        show Steps p.tables e below (T271.setTop (mkF m 55 #[.val (.ref a0), .val (.int p1), .val (.int p2), .val (.int i3), .val (.int (Int32.ofNat q))] [])) _
        refine XS.iload X271.here hx rfl (hb hby d9_55) rfl ?_
        show Steps p.tables e below (T271.setTop (mkF m 57 #[.val (.ref a0), .val (.int p1), .val (.int p2), .val (.int i3), .val (.int (Int32.ofNat q))] [(.int (Int32.ofNat q))])) _
        refine XS.iconst X271.here hx rfl (hb hby d9_57) ?_
        show Steps p.tables e below (T271.setTop (mkF m 58 #[.val (.ref a0), .val (.int p1), .val (.int p2), .val (.int i3), .val (.int (Int32.ofNat q))] [(.int (2 : Int32)), (.int (Int32.ofNat q))])) _
        refine XS.idiv X271.here hx rfl (hb hby d9_58) rfl (by decide) ?_
        show Steps p.tables e below (T271.setTop (mkF m 59 #[.val (.ref a0), .val (.int p1), .val (.int p2), .val (.int i3), .val (.int (Int32.ofNat q))] [(.int ((Int32.ofNat q) / (2 : Int32)))])) _
        refine XS.istore X271.here hx rfl (hb hby d9_59) rfl (l' := #[.val (.ref a0), .val (.int p1), .val (.int p2), .val (.int i3), .val (.int ((Int32.ofNat q) / (2 : Int32)))]) rfl ?_
        show Steps p.tables e below (T271.setTop (mkF m 61 #[.val (.ref a0), .val (.int p1), .val (.int p2), .val (.int i3), .val (.int ((Int32.ofNat q) / (2 : Int32)))] [])) _
        refine XS.goto X271.here hx rfl (pc0 := 61) (pc' := 19) rfl (hb hby d9_61) (by decide) (by decide) ?_
        show Steps p.tables e below (T271.setTop (mkF m 19 #[.val (.ref a0), .val (.int p1), .val (.int p2), .val (.int i3), .val (.int ((Int32.ofNat q) / (2 : Int32)))] [])) _
        exact kt
      have ev : ((Int32.ofNat q) / (2 : Int32)) = Int32.ofNat (q / 2) := own_hlf (by omega)
      have hp2 : q / 2 < 2 ^ k := by rw [Nat.pow_succ] at hqk; omega
      obtain ⟨T', L', Ls, X', N', Z', K', V', st⟩ := ih T271 _ _ (q / 2) _ X271 e271 N273 Z275 K274 F272 V271 hp2 (by omega)
      rw [← ev] at st
      exact ⟨T', L', Ls, X', N', Z', K', by rw [own_fix, if_neg hq0]; exact V', fun t kt => pre276 t (st t kt)⟩
theorem ef_9 (m : MethodId) (a0 : Addr) (p2 : Int32) : entryFrame m #[(.ref a0), (.int (Int32.ofNat b)), (.int p2)] 5 = mkF m 0 #[.val (.ref a0), .val (.int (Int32.ofNat b)), .val (.int p2), .unset, .unset] [] := by first | (simp [entryFrame, mkF, argsToLocals, Value.category]; done) | rfl
def Q9 (Z : State) (a0 : Addr) (p2 : Int32) (M : Nat) (b : Nat) (ar : Addr) (f : Nat → Int32) (h0 : Heap) (n0 : Nat) (v : Option Value) (h : Heap) (L : List Loc) : Prop := v = none ∧ Fr n0 L ∧ Keep h0 h [ar] ∧ own_Ar Z h ar .int (2 * M) (own_st M f b p2)
set_option maxRecDepth 65536 in
set_option maxHeartbeats 40000000 in
theorem rm9 (l : Launch) (Z : State) (aq : Array Value) (hw : ∀ d ∈ tables_1, d.before aq Z = true) (ws : List Jvm.Cond) (a0 : Addr) (p2 : Int32) (M : Nat) (b : Nat) (ar : Addr) (f : Nat → Int32) (h0 : Heap) (n0 : Nat) (Z0 : n0 ≤ h0.size) (Fl_ : Fld Z h0 a0 "com/example/packwright/packwright/core/bins/FreeSpaceTree" "leaves" "I" (.int (Int32.ofNat M))) (Fm_ : Fld Z h0 a0 "com/example/packwright/packwright/core/bins/FreeSpaceTree" "maxFree" "[I" (.ref ar)) (V_ : own_Ar Z h0 ar .int (2 * M) f) (g_ar : n0 ≤ ar) (ne_ar : a0 ≠ ar) (hM : M = 1 ∨ M = 2 ∨ M = 4 ∨ M = 8) (hbM : b < M) :
    MetFree l (⟨"com/example/packwright/packwright/core/bins/FreeSpaceTree", "set", "(II)V"⟩ : MethodName) (head1 (Jvm.Cond.code (⟨"com/example/packwright/packwright/core/bins/FreeSpaceTree", "set", "(II)V"⟩ : MethodName) prog_58_method_3_code 5 none :: ws) ({ frames := 1, cells := 0, slots := 0, locals := 15 } : Room)) (fun a U => a = #[(.ref a0), (.int (Int32.ofNat b)), (.int p2)] ∧ Z.Warmed39 U.vm ∧ U.heap = h0) (fun _ _ _ _ _ => True) (fun _ U o U' => ∃ v L, o = .returned v ∧ Q9 Z a0 p2 M b ar f h0 n0 v U'.heap L ∧ FrameEnd U o U' L ({ frames := 1, cells := 0, slots := 0, locals := 15 } : Room).cells ({ frames := 1, cells := 0, slots := 0, locals := 15 } : Room).slots) := by
  refine MetFree.of_bodySF (plainFor_of_name pn1235653) hisR ?_
  intro p e s m args below meth c s₁ Bd hml0 hP hK
  obtain ⟨rfl, hZ, hh⟩ := hP
  have hx := Bd.exec
  have hby := Bd.bytes
  have hml : c.maxLocals = 5 := hml0
  have hown : s.vm.findClass "com/example/packwright/packwright/core/bins/FreeSpaceTree" = some m.cls := findClass_of_methodNamed Bd.named
  have hnm := (name_of_methodNamed Bd.named Bd.method).1
  have X0 : Stand p l e ({ frames := 1, cells := 0, slots := 0, locals := 15 } : Room) s m #[(.ref a0), (.int (Int32.ofNat b)), (.int p2)] below meth c s₁ [] 0 0 := Stand.of_body Bd
  have e0 : s₁.heap = h0 := by rw [← hh, Bd.state]; rfl
  have N0 := Fr.nil n0
  have K0 : Keep h0 h0 [ar] := Keep.refl _ _
  have pre0 : ∀ t, Steps p.tables e below (s₁.setTop (mkF m 0 #[.val (.ref a0), .val (.int (Int32.ofNat b)), .val (.int p2), .unset, .unset] [])) t → Steps p.tables e below (s₁.setTop (entryFrame m #[(.ref a0), (.int (Int32.ofNat b)), (.int p2)] 5)) t := fun t k => castTop (ef_9 m a0 p2) k
  obtain ⟨T277, X277, e277, st277⟩ := getF X0 hx hZ hown (host := "") (Or.inl (hw _ (List.mem_of_getElem? (i := 14) rfl))) Via.refl e0 Fl_ (g := (mkF m 1 #[.val (.ref a0), .val (.int (Int32.ofNat b)), .val (.int p2), .unset, .unset] [(.ref a0)])) rfl rfl (hb hby d9_1)
  obtain ⟨T278, X278, e278, st278⟩ := getF X277 hx hZ hown (host := "") (Or.inl (hw _ (List.mem_of_getElem? (i := 16) rfl))) Via.refl e277 Fm_ (g := (mkF m 8 #[.val (.ref a0), .val (.int (Int32.ofNat b)), .val (.int p2), .val (.int ((Int32.ofNat M) + (Int32.ofNat b))), .unset] [(.ref a0)])) rfl rfl (hb hby d9_8)
  obtain ⟨T279, h279, X279, e279, W279, V279, st279⟩ := own_stI X278 hx hZ e278 V_ (j := ((Int32.ofNat M) + (Int32.ofNat b))) (i := (M + b)) (own_ia (by omega)) (by omega) (g := (mkF m 13 #[.val (.ref a0), .val (.int (Int32.ofNat b)), .val (.int p2), .val (.int ((Int32.ofNat M) + (Int32.ofNat b))), .unset] [(.int p2), (.int ((Int32.ofNat M) + (Int32.ofNat b))), (.ref ar)])) rfl rfl (hb hby d9_13)
  have F280 := Fl_.other W279 (Or.inl ne_ar)
  have F281 := Fm_.other W279 (Or.inl ne_ar)
  have N282 := Fr.snoc X279 N0 g_ar
  have K283 : Keep h0 h279 [ar] := K0.wr W279 (Or.inl (List.mem_of_getElem? (i := 0) rfl))
  have Z284 : n0 ≤ h279.size := Nat.le_trans Z0 (Keep.of_wr W279).1
  have pre285 : ∀ t, Steps p.tables e below (T279.setTop (mkF m 19 #[.val (.ref a0), .val (.int (Int32.ofNat b)), .val (.int p2), .val (.int ((Int32.ofNat M) + (Int32.ofNat b))), .val (.int (((Int32.ofNat M) + (Int32.ofNat b)) / (2 : Int32)))] [])) t → Steps p.tables e below (s₁.setTop (entryFrame m #[(.ref a0), (.int (Int32.ofNat b)), (.int p2)] 5)) t := fun t kt => by
    refine pre0 _ ?_
    show Steps p.tables e below (s₁.setTop (mkF m 0 #[.val (.ref a0), .val (.int (Int32.ofNat b)), .val (.int p2), .unset, .unset] [])) _
    refine XS.aloadN X0.here hx rfl (hb hby d9_0) rfl rfl ?_
    show Steps p.tables e below (s₁.setTop (mkF m 1 #[.val (.ref a0), .val (.int (Int32.ofNat b)), .val (.int p2), .unset, .unset] [(.ref a0)])) _
    refine st277 _ ?_
    show Steps p.tables e below (T277.setTop (mkF m 4 #[.val (.ref a0), .val (.int (Int32.ofNat b)), .val (.int p2), .unset, .unset] [(.int (Int32.ofNat M))])) _
    refine XS.iloadN X277.here hx rfl (hb hby d9_4) rfl ?_
    show Steps p.tables e below (T277.setTop (mkF m 5 #[.val (.ref a0), .val (.int (Int32.ofNat b)), .val (.int p2), .unset, .unset] [(.int (Int32.ofNat b)), (.int (Int32.ofNat M))])) _
    refine XS.iadd X277.here hx rfl (hb hby d9_5) rfl ?_
    show Steps p.tables e below (T277.setTop (mkF m 6 #[.val (.ref a0), .val (.int (Int32.ofNat b)), .val (.int p2), .unset, .unset] [(.int ((Int32.ofNat M) + (Int32.ofNat b)))])) _
    refine XS.istoreN X277.here hx rfl (hb hby d9_6) rfl (l' := #[.val (.ref a0), .val (.int (Int32.ofNat b)), .val (.int p2), .val (.int ((Int32.ofNat M) + (Int32.ofNat b))), .unset]) rfl ?_
    show Steps p.tables e below (T277.setTop (mkF m 7 #[.val (.ref a0), .val (.int (Int32.ofNat b)), .val (.int p2), .val (.int ((Int32.ofNat M) + (Int32.ofNat b))), .unset] [])) _
    refine XS.aloadN X277.here hx rfl (hb hby d9_7) rfl rfl ?_
    show Steps p.tables e below (T277.setTop (mkF m 8 #[.val (.ref a0), .val (.int (Int32.ofNat b)), .val (.int p2), .val (.int ((Int32.ofNat M) + (Int32.ofNat b))), .unset] [(.ref a0)])) _
    refine st278 _ ?_
    show Steps p.tables e below (T278.setTop (mkF m 11 #[.val (.ref a0), .val (.int (Int32.ofNat b)), .val (.int p2), .val (.int ((Int32.ofNat M) + (Int32.ofNat b))), .unset] [(.ref ar)])) _
    refine XS.iloadN X278.here hx rfl (hb hby d9_11) rfl ?_
    show Steps p.tables e below (T278.setTop (mkF m 12 #[.val (.ref a0), .val (.int (Int32.ofNat b)), .val (.int p2), .val (.int ((Int32.ofNat M) + (Int32.ofNat b))), .unset] [(.int ((Int32.ofNat M) + (Int32.ofNat b))), (.ref ar)])) _
    refine XS.iloadN X278.here hx rfl (hb hby d9_12) rfl ?_
    show Steps p.tables e below (T278.setTop (mkF m 13 #[.val (.ref a0), .val (.int (Int32.ofNat b)), .val (.int p2), .val (.int ((Int32.ofNat M) + (Int32.ofNat b))), .unset] [(.int p2), (.int ((Int32.ofNat M) + (Int32.ofNat b))), (.ref ar)])) _
    refine st279 _ ?_
    show Steps p.tables e below (T279.setTop (mkF m 14 #[.val (.ref a0), .val (.int (Int32.ofNat b)), .val (.int p2), .val (.int ((Int32.ofNat M) + (Int32.ofNat b))), .unset] [])) _
    refine XS.iloadN X279.here hx rfl (hb hby d9_14) rfl ?_
    show Steps p.tables e below (T279.setTop (mkF m 15 #[.val (.ref a0), .val (.int (Int32.ofNat b)), .val (.int p2), .val (.int ((Int32.ofNat M) + (Int32.ofNat b))), .unset] [(.int ((Int32.ofNat M) + (Int32.ofNat b)))])) _
    refine XS.iconst X279.here hx rfl (hb hby d9_15) ?_
    show Steps p.tables e below (T279.setTop (mkF m 16 #[.val (.ref a0), .val (.int (Int32.ofNat b)), .val (.int p2), .val (.int ((Int32.ofNat M) + (Int32.ofNat b))), .unset] [(.int (2 : Int32)), (.int ((Int32.ofNat M) + (Int32.ofNat b)))])) _
    refine XS.idiv X279.here hx rfl (hb hby d9_16) rfl (by decide) ?_
    show Steps p.tables e below (T279.setTop (mkF m 17 #[.val (.ref a0), .val (.int (Int32.ofNat b)), .val (.int p2), .val (.int ((Int32.ofNat M) + (Int32.ofNat b))), .unset] [(.int (((Int32.ofNat M) + (Int32.ofNat b)) / (2 : Int32)))])) _
    refine XS.istore X279.here hx rfl (hb hby d9_17) rfl (l' := #[.val (.ref a0), .val (.int (Int32.ofNat b)), .val (.int p2), .val (.int ((Int32.ofNat M) + (Int32.ofNat b))), .val (.int (((Int32.ofNat M) + (Int32.ofNat b)) / (2 : Int32)))]) rfl ?_
    show Steps p.tables e below (T279.setTop (mkF m 19 #[.val (.ref a0), .val (.int (Int32.ofNat b)), .val (.int p2), .val (.int ((Int32.ofNat M) + (Int32.ofNat b))), .val (.int (((Int32.ofNat M) + (Int32.ofNat b)) / (2 : Int32)))] [])) _
    exact kt
  have ev : (((Int32.ofNat M) + (Int32.ofNat b)) / (2 : Int32)) = Int32.ofNat ((M + b) / 2) := by rw [own_addn, own_hlf (by omega)]
  obtain ⟨T', L', Ls, X', N', Z', K', V', st⟩ := lps hx hZ hw hby hml hown g_ar ne_ar (own_L16 hM) 4 T279 _ _ ((M + b) / 2) _ X279 e279 N282 Z284 K283 F281 V279 (by omega) (by omega)
  rw [← ev] at st
  have pre286 : ∀ t, Steps p.tables e below (T'.setTop (mkF m 64 Ls [])) t → Steps p.tables e below (s₁.setTop (entryFrame m #[(.ref a0), (.int (Int32.ofNat b)), (.int p2)] 5)) t := fun t kt => pre285 t (st t kt)
  obtain ⟨fs, hr, hrun, hended, hW, hsame⟩ := X'.leave (v := none) (fun _ => rfl)
  refine ⟨_, _, pre286 _ ?_, hrun, hended, _, _, rfl, ?_, ⟨_, rfl⟩, hW, hsame.mono (by decide) (by decide)⟩
  · exact X'.returnOut hx Bd.returns (hb hby d9_64) hr
  · show Q9 Z a0 p2 M b ar f h0 n0 _ T'.heap _
    exact ⟨rfl, N', K', V'⟩
theorem d5_0 : decode method_4_code 0 = .ok (.iload_n 3, 1) := by decide +kernel
theorem d5_1 : decode method_4_code 1 = .ok (.iload 4, 2) := by decide +kernel
theorem d5_3 : decode method_4_code 3 = .ok (.if_icmp .ge 19, 3) := by decide +kernel
theorem d5_6 : decode method_4_code 6 = .ok (.iload_n 2, 1) := by decide +kernel
theorem d5_7 : decode method_4_code 7 = .ok (.iload_n 3, 1) := by decide +kernel
theorem d5_8 : decode method_4_code 8 = .ok (.iushr, 1) := by decide +kernel
theorem d5_9 : decode method_4_code 9 = .ok (.iconst 1, 1) := by decide +kernel
theorem d5_10 : decode method_4_code 10 = .ok (.iand, 1) := by decide +kernel
theorem d5_11 : decode method_4_code 11 = .ok (.ifCond .eq 11, 3) := by decide +kernel
theorem d5_14 : decode method_4_code 14 = .ok (.aload_n 0, 1) := by decide +kernel
theorem d5_15 : decode method_4_code 15 = .ok (.iload_n 3, 1) := by decide +kernel
theorem d5_16 : decode method_4_code 16 = .ok (.aload_n 1, 1) := by decide +kernel
theorem d5_17 : decode method_4_code 17 = .ok (.iload_n 3, 1) := by decide +kernel
theorem d5_18 : decode method_4_code 18 = .ok (.iaload, 1) := by decide +kernel
theorem d5_19 : decode method_4_code 19 = .ok (.invokevirtual 32, 3) := by decide +kernel
theorem d5_22 : decode method_4_code 22 = .ok (.return_, 1) := by decide +kernel
theorem pd84293406 : parseMethodDescriptor "(II)V" = some ⟨[.int, .int], none⟩ := by decide +kernel
theorem ef_5 (m : MethodId) (a0 : Addr) (a1 : Addr) (p2 : Int32) : entryFrame m #[(.ref a0), (.ref a1), (.int p2), (.int (Int32.ofNat b)), (.int (Int32.ofNat M))] 5 = mkF m 0 #[.val (.ref a0), .val (.ref a1), .val (.int p2), .val (.int (Int32.ofNat b)), .val (.int (Int32.ofNat M))] [] := by first | (simp [entryFrame, mkF, argsToLocals, Value.category]; done) | rfl
def Q5 (Z : State) (a0 : Addr) (a1 : Addr) (p2 : Int32) (M : Nat) (b : Nat) (ar : Addr) (f : Nat → Int32) (fr : Nat → Int32) (h0 : Heap) (n0 : Nat) (v : Option Value) (h : Heap) (L : List Loc) : Prop := ∃ f' : Nat → Int32, f' = (if (Int32.ofNat b) < (Int32.ofNat M) then (if (((p2.toUInt32 >>> ((Int32.ofNat b) &&& 31).toUInt32).toInt32) &&& (1 : Int32)) = (0 : Int32) then f else own_st M f b (fr b)) else f) ∧ v = none ∧ Fr n0 L ∧ Keep h0 h [ar] ∧ own_Ar Z h ar .int (2 * M) f'
set_option maxRecDepth 65536 in
set_option maxHeartbeats 40000000 in
theorem rm5 (l : Launch) (Z : State) (aq : Array Value) (hw : ∀ d ∈ tables_1, d.before aq Z = true) (ws : List Jvm.Cond) (a0 : Addr) (a1 : Addr) (p2 : Int32) (M : Nat) (b : Nat) (ar : Addr) (f : Nat → Int32) (fr : Nat → Int32) (h0 : Heap) (n0 : Nat) (Z0 : n0 ≤ h0.size) (E_ : Exa Z h0 a0 "com/example/packwright/packwright/core/bins/FreeSpaceTree") (Fl_ : Fld Z h0 a0 "com/example/packwright/packwright/core/bins/FreeSpaceTree" "leaves" "I" (.int (Int32.ofNat M))) (Fm_ : Fld Z h0 a0 "com/example/packwright/packwright/core/bins/FreeSpaceTree" "maxFree" "[I" (.ref ar)) (V_ : own_Ar Z h0 ar .int (2 * M) f) (Va : own_Ar Z h0 a1 .int 8 fr) (g_ar : n0 ≤ ar) (ne_ar : a0 ≠ ar) (ne_a1 : a1 ≠ ar) (hM : M = 1 ∨ M = 2 ∨ M = 4 ∨ M = 8) (hb8 : b < 8) :
    MetFree l (⟨"com/example/packwright/packwright/core/bins/FreeSpaceTreeEarliestPinLaw", "apply", "(Lcom/example/packwright/packwright/core/bins/FreeSpaceTree;[IIII)V"⟩ : MethodName) (head1 (Jvm.Cond.code (⟨"com/example/packwright/packwright/core/bins/FreeSpaceTreeEarliestPinLaw", "apply", "(Lcom/example/packwright/packwright/core/bins/FreeSpaceTree;[IIII)V"⟩ : MethodName) method_4_code 5 none :: ws) ({ frames := 2, cells := 0, slots := 0, locals := 31 } : Room)) (fun a U => a = #[(.ref a0), (.ref a1), (.int p2), (.int (Int32.ofNat b)), (.int (Int32.ofNat M))] ∧ Z.Warmed39 U.vm ∧ U.heap = h0) (fun _ _ _ _ _ => True) (fun _ U o U' => ∃ v L, o = .returned v ∧ Q5 Z a0 a1 p2 M b ar f fr h0 n0 v U'.heap L ∧ FrameEnd U o U' L ({ frames := 2, cells := 0, slots := 0, locals := 31 } : Room).cells ({ frames := 2, cells := 0, slots := 0, locals := 31 } : Room).slots) := by
  refine MetFree.of_bodySF (plainFor_of_name pn7838729) hisR ?_
  intro p e s m args below meth c s₁ Bd hml0 hP hK
  obtain ⟨rfl, hZ, hh⟩ := hP
  have hx := Bd.exec
  have hby := Bd.bytes
  have hml : c.maxLocals = 5 := hml0
  have hown : s.vm.findClass "com/example/packwright/packwright/core/bins/FreeSpaceTreeEarliestPinLaw" = some m.cls := findClass_of_methodNamed Bd.named
  have hnm := (name_of_methodNamed Bd.named Bd.method).1
  have X0 : Stand p l e ({ frames := 2, cells := 0, slots := 0, locals := 31 } : Room) s m #[(.ref a0), (.ref a1), (.int p2), (.int (Int32.ofNat b)), (.int (Int32.ofNat M))] below meth c s₁ [] 0 0 := Stand.of_body Bd
  have e0 : s₁.heap = h0 := by rw [← hh, Bd.state]; rfl
  have N0 := Fr.nil n0
  have K0 : Keep h0 h0 [ar] := Keep.refl _ _
  have pre0 : ∀ t, Steps p.tables e below (s₁.setTop (mkF m 0 #[.val (.ref a0), .val (.ref a1), .val (.int p2), .val (.int (Int32.ofNat b)), .val (.int (Int32.ofNat M))] [])) t → Steps p.tables e below (s₁.setTop (entryFrame m #[(.ref a0), (.ref a1), (.int p2), (.int (Int32.ofNat b)), (.int (Int32.ofNat M))] 5)) t := fun t k => castTop (ef_5 m a0 a1 p2) k
  have pre287 : ∀ t, Steps p.tables e below (s₁.setTop (mkF m 3 #[.val (.ref a0), .val (.ref a1), .val (.int p2), .val (.int (Int32.ofNat b)), .val (.int (Int32.ofNat M))] [(.int (Int32.ofNat M)), (.int (Int32.ofNat b))])) t → Steps p.tables e below (s₁.setTop (entryFrame m #[(.ref a0), (.ref a1), (.int p2), (.int (Int32.ofNat b)), (.int (Int32.ofNat M))] 5)) t := fun t kt => by
    refine pre0 _ ?_
    show Steps p.tables e below (s₁.setTop (mkF m 0 #[.val (.ref a0), .val (.ref a1), .val (.int p2), .val (.int (Int32.ofNat b)), .val (.int (Int32.ofNat M))] [])) _
    refine XS.iloadN X0.here hx rfl (hb hby d5_0) rfl ?_
    show Steps p.tables e below (s₁.setTop (mkF m 1 #[.val (.ref a0), .val (.ref a1), .val (.int p2), .val (.int (Int32.ofNat b)), .val (.int (Int32.ofNat M))] [(.int (Int32.ofNat b))])) _
    refine XS.iload X0.here hx rfl (hb hby d5_1) rfl ?_
    show Steps p.tables e below (s₁.setTop (mkF m 3 #[.val (.ref a0), .val (.ref a1), .val (.int p2), .val (.int (Int32.ofNat b)), .val (.int (Int32.ofNat M))] [(.int (Int32.ofNat M)), (.int (Int32.ofNat b))])) _
    exact kt
  by_cases hc288 : (Int32.ofNat b) < (Int32.ofNat M)
  · skip
    have pre289 : ∀ t, Steps p.tables e below (s₁.setTop (mkF m 11 #[.val (.ref a0), .val (.ref a1), .val (.int p2), .val (.int (Int32.ofNat b)), .val (.int (Int32.ofNat M))] [(.int (((p2.toUInt32 >>> ((Int32.ofNat b) &&& 31).toUInt32).toInt32) &&& (1 : Int32)))])) t → Steps p.tables e below (s₁.setTop (entryFrame m #[(.ref a0), (.ref a1), (.int p2), (.int (Int32.ofNat b)), (.int (Int32.ofNat M))] 5)) t := fun t kt => by
      refine pre287 _ ?_
      show Steps p.tables e below (s₁.setTop (mkF m 3 #[.val (.ref a0), .val (.ref a1), .val (.int p2), .val (.int (Int32.ofNat b)), .val (.int (Int32.ofNat M))] [(.int (Int32.ofNat M)), (.int (Int32.ofNat b))])) _
      refine XS.icmpNo X0.here hx rfl (hb hby d5_3) rfl (tlt hc288).2.1 ?_
      show Steps p.tables e below (s₁.setTop (mkF m 6 #[.val (.ref a0), .val (.ref a1), .val (.int p2), .val (.int (Int32.ofNat b)), .val (.int (Int32.ofNat M))] [])) _
      refine XS.iloadN X0.here hx rfl (hb hby d5_6) rfl ?_
      show Steps p.tables e below (s₁.setTop (mkF m 7 #[.val (.ref a0), .val (.ref a1), .val (.int p2), .val (.int (Int32.ofNat b)), .val (.int (Int32.ofNat M))] [(.int p2)])) _
      refine XS.iloadN X0.here hx rfl (hb hby d5_7) rfl ?_
      show Steps p.tables e below (s₁.setTop (mkF m 8 #[.val (.ref a0), .val (.ref a1), .val (.int p2), .val (.int (Int32.ofNat b)), .val (.int (Int32.ofNat M))] [(.int (Int32.ofNat b)), (.int p2)])) _
      refine XS.iushr X0.here hx rfl (hb hby d5_8) rfl ?_
      show Steps p.tables e below (s₁.setTop (mkF m 9 #[.val (.ref a0), .val (.ref a1), .val (.int p2), .val (.int (Int32.ofNat b)), .val (.int (Int32.ofNat M))] [(.int ((p2.toUInt32 >>> ((Int32.ofNat b) &&& 31).toUInt32).toInt32))])) _
      refine XS.iconst X0.here hx rfl (hb hby d5_9) ?_
      show Steps p.tables e below (s₁.setTop (mkF m 10 #[.val (.ref a0), .val (.ref a1), .val (.int p2), .val (.int (Int32.ofNat b)), .val (.int (Int32.ofNat M))] [(.int (1 : Int32)), (.int ((p2.toUInt32 >>> ((Int32.ofNat b) &&& 31).toUInt32).toInt32))])) _
      refine XS.iand X0.here hx rfl (hb hby d5_10) rfl ?_
      show Steps p.tables e below (s₁.setTop (mkF m 11 #[.val (.ref a0), .val (.ref a1), .val (.int p2), .val (.int (Int32.ofNat b)), .val (.int (Int32.ofNat M))] [(.int (((p2.toUInt32 >>> ((Int32.ofNat b) &&& 31).toUInt32).toInt32) &&& (1 : Int32)))])) _
      exact kt
    by_cases hc290 : (((p2.toUInt32 >>> ((Int32.ofNat b) &&& 31).toUInt32).toInt32) &&& (1 : Int32)) = (0 : Int32)
    · skip
      have pre291 : ∀ t, Steps p.tables e below (s₁.setTop (mkF m 22 #[.val (.ref a0), .val (.ref a1), .val (.int p2), .val (.int (Int32.ofNat b)), .val (.int (Int32.ofNat M))] [])) t → Steps p.tables e below (s₁.setTop (entryFrame m #[(.ref a0), (.ref a1), (.int p2), (.int (Int32.ofNat b)), (.int (Int32.ofNat M))] 5)) t := fun t kt => by
        refine pre289 _ ?_
        show Steps p.tables e below (s₁.setTop (mkF m 11 #[.val (.ref a0), .val (.ref a1), .val (.int p2), .val (.int (Int32.ofNat b)), .val (.int (Int32.ofNat M))] [(.int (((p2.toUInt32 >>> ((Int32.ofNat b) &&& 31).toUInt32).toInt32) &&& (1 : Int32)))])) _
        refine XS.ifYes X0.here hx rfl (pc0 := 11) (pc' := 22) rfl (hb hby d5_11) rfl ((if0 _ _).trans (teq hc290).1) (by decide) (by decide) ?_
        show Steps p.tables e below (s₁.setTop (mkF m 22 #[.val (.ref a0), .val (.ref a1), .val (.int p2), .val (.int (Int32.ofNat b)), .val (.int (Int32.ofNat M))] [])) _
        exact kt
      obtain ⟨fs, hr, hrun, hended, hW, hsame⟩ := X0.leave (v := none) (fun _ => rfl)
      refine ⟨_, _, pre291 _ ?_, hrun, hended, _, _, rfl, ?_, ⟨_, rfl⟩, hW, hsame.mono (by decide) (by decide)⟩
      · exact X0.returnOut hx Bd.returns (hb hby d5_22) hr
      · show Q5 Z a0 a1 p2 M b ar f fr h0 n0 _ s₁.heap _
        rw [e0]
        exact ⟨_, (by rw [if_pos hc288, if_pos hc290]), rfl, N0, K0, V_⟩
    · skip
      have hc_bM : b < M := (own_ltn (by omega) (by have := own_L16 hM; omega)).mp hc288
      obtain ⟨cq292, kq292, q292a, q292b, q292c⟩ := isOf hZ e0 E_
      obtain ⟨_, _, ⟨T292, L292, k292, n292⟩, -, X292, ⟨Lc292, hQ292, l292, y292, z292⟩, st292⟩ := X0.virtualBack hx (y := (⟨"com/example/packwright/packwright/core/bins/FreeSpaceTree", "set", "(II)V"⟩ : MethodName)) (z := (⟨"com/example/packwright/packwright/core/bins/FreeSpaceTree", "set", "(II)V"⟩ : MethodName)) hown (mvT hZ (hw _ (List.mem_of_getElem? (i := 37) rfl))) (mvT hZ (hw _ (List.mem_of_getElem? (i := 38) rfl))) (notFace_of_selects (args := #[]) (mvT hZ (hw _ (List.mem_of_getElem? (i := 40) rfl)))) (mvT hZ (hw _ (List.mem_of_getElem? (i := 40) rfl))) (mvT hZ (hw _ (List.mem_of_getElem? (i := 39) rfl))) (by decide) (backOf (W := 0) (rm9 l Z aq hw [] a0 (fr b) M b ar f h0 n0 Z0 Fl_ Fm_ V_ g_ar ne_ar hM hc_bM) hZ (hw _ (List.mem_of_getElem? (i := 41) rfl)) (hw _ (List.mem_of_getElem? (i := 7) rfl)) (by decide) (by decide)) q292a q292c (g := (mkF m 19 #[.val (.ref a0), .val (.ref a1), .val (.int p2), .val (.int (Int32.ofNat b)), .val (.int (Int32.ofNat M))] [(.int (fr b)), (.int (Int32.ofNat b)), (.ref a0)])) rfl (by rw [hml]; rfl) (Steps.refl _) (argsL := [(.int (Int32.ofNat b)), (.int (fr b))]) (rest := []) (lenOf pd84293406 rfl) rfl (by show 2 * 0 + _ ≤ _; exact Nat.le_of_eq rfl) (hb hby d5_19) (fun _ _ => ⟨rfl, e0, (by decide : 0 + 0 ≤ _), (by decide : 0 + 0 ≤ _)⟩)
      dsimp only [Pt.U, Pt.locs, Pt.cells, Pt.slots] at X292 l292 y292 z292 st292 hQ292
      rw [l292, y292, z292] at X292
      obtain ⟨rfl, N292q, K292, V292⟩ := hQ292
      have F293 := Fl_.keep K292 (ninS ne_ar nin0)
      have F294 := Fm_.keep K292 (ninS ne_ar nin0)
      have E295 := E_.keep K292
      have V296 := Va.keep K292 (ninS ne_a1 nin0)
      have Z297 : n0 ≤ T292.heap.size := Nat.le_trans Z0 K292.1
      have K298 : Keep h0 T292.heap [ar] := K0.trans K292 (allS (Or.inl (List.mem_of_getElem? (i := 0) rfl)) all0)
      have N299 := Fr.app N0 N292q
      have pre300 : ∀ t, Steps p.tables e below (T292.setTop (mkF m 22 #[.val (.ref a0), .val (.ref a1), .val (.int p2), .val (.int (Int32.ofNat b)), .val (.int (Int32.ofNat M))] [])) t → Steps p.tables e below (s₁.setTop (entryFrame m #[(.ref a0), (.ref a1), (.int p2), (.int (Int32.ofNat b)), (.int (Int32.ofNat M))] 5)) t := fun t kt => by
        refine pre289 _ ?_
        show Steps p.tables e below (s₁.setTop (mkF m 11 #[.val (.ref a0), .val (.ref a1), .val (.int p2), .val (.int (Int32.ofNat b)), .val (.int (Int32.ofNat M))] [(.int (((p2.toUInt32 >>> ((Int32.ofNat b) &&& 31).toUInt32).toInt32) &&& (1 : Int32)))])) _
        refine XS.ifNo X0.here hx rfl (hb hby d5_11) rfl ((if0 _ _).trans (feq hc290).1) ?_
        show Steps p.tables e below (s₁.setTop (mkF m 14 #[.val (.ref a0), .val (.ref a1), .val (.int p2), .val (.int (Int32.ofNat b)), .val (.int (Int32.ofNat M))] [])) _
        refine XS.aloadN X0.here hx rfl (hb hby d5_14) rfl rfl ?_
        show Steps p.tables e below (s₁.setTop (mkF m 15 #[.val (.ref a0), .val (.ref a1), .val (.int p2), .val (.int (Int32.ofNat b)), .val (.int (Int32.ofNat M))] [(.ref a0)])) _
        refine XS.iloadN X0.here hx rfl (hb hby d5_15) rfl ?_
        show Steps p.tables e below (s₁.setTop (mkF m 16 #[.val (.ref a0), .val (.ref a1), .val (.int p2), .val (.int (Int32.ofNat b)), .val (.int (Int32.ofNat M))] [(.int (Int32.ofNat b)), (.ref a0)])) _
        refine XS.aloadN X0.here hx rfl (hb hby d5_16) rfl rfl ?_
        show Steps p.tables e below (s₁.setTop (mkF m 17 #[.val (.ref a0), .val (.ref a1), .val (.int p2), .val (.int (Int32.ofNat b)), .val (.int (Int32.ofNat M))] [(.ref a1), (.int (Int32.ofNat b)), (.ref a0)])) _
        refine XS.iloadN X0.here hx rfl (hb hby d5_17) rfl ?_
        show Steps p.tables e below (s₁.setTop (mkF m 18 #[.val (.ref a0), .val (.ref a1), .val (.int p2), .val (.int (Int32.ofNat b)), .val (.int (Int32.ofNat M))] [(.int (Int32.ofNat b)), (.ref a1), (.int (Int32.ofNat b)), (.ref a0)])) _
        refine own_rdI X0 hx hZ e0 Va (j := (Int32.ofNat b)) (i := b) (own_of (by omega)) hb8 (g := (mkF m 18 #[.val (.ref a0), .val (.ref a1), .val (.int p2), .val (.int (Int32.ofNat b)), .val (.int (Int32.ofNat M))] [(.int (Int32.ofNat b)), (.ref a1), (.int (Int32.ofNat b)), (.ref a0)])) rfl rfl (hb hby d5_18) _ ?_
        show Steps p.tables e below (s₁.setTop (mkF m 19 #[.val (.ref a0), .val (.ref a1), .val (.int p2), .val (.int (Int32.ofNat b)), .val (.int (Int32.ofNat M))] [(.int (fr b)), (.int (Int32.ofNat b)), (.ref a0)])) _
        refine st292.trans ?_
        show Steps p.tables e below (T292.setTop (mkF m 22 #[.val (.ref a0), .val (.ref a1), .val (.int p2), .val (.int (Int32.ofNat b)), .val (.int (Int32.ofNat M))] [])) _
        exact kt
      obtain ⟨fs, hr, hrun, hended, hW, hsame⟩ := X292.leave (v := none) (fun _ => rfl)
      refine ⟨_, _, pre300 _ ?_, hrun, hended, _, _, rfl, ?_, ⟨_, rfl⟩, hW, hsame.mono (by decide) (by decide)⟩
      · exact X292.returnOut hx Bd.returns (hb hby d5_22) hr
      · show Q5 Z a0 a1 p2 M b ar f fr h0 n0 _ T292.heap _
        exact ⟨_, (by rw [if_pos hc288, if_neg hc290]), rfl, N299, K298, V292⟩
  · skip
    have pre301 : ∀ t, Steps p.tables e below (s₁.setTop (mkF m 22 #[.val (.ref a0), .val (.ref a1), .val (.int p2), .val (.int (Int32.ofNat b)), .val (.int (Int32.ofNat M))] [])) t → Steps p.tables e below (s₁.setTop (entryFrame m #[(.ref a0), (.ref a1), (.int p2), (.int (Int32.ofNat b)), (.int (Int32.ofNat M))] 5)) t := fun t kt => by
      refine pre287 _ ?_
      show Steps p.tables e below (s₁.setTop (mkF m 3 #[.val (.ref a0), .val (.ref a1), .val (.int p2), .val (.int (Int32.ofNat b)), .val (.int (Int32.ofNat M))] [(.int (Int32.ofNat M)), (.int (Int32.ofNat b))])) _
      refine XS.icmpYes X0.here hx rfl (pc0 := 3) (pc' := 22) rfl (hb hby d5_3) rfl (flt hc288).2.1 (by decide) (by decide) ?_
      show Steps p.tables e below (s₁.setTop (mkF m 22 #[.val (.ref a0), .val (.ref a1), .val (.int p2), .val (.int (Int32.ofNat b)), .val (.int (Int32.ofNat M))] [])) _
      exact kt
    obtain ⟨fs, hr, hrun, hended, hW, hsame⟩ := X0.leave (v := none) (fun _ => rfl)
    refine ⟨_, _, pre301 _ ?_, hrun, hended, _, _, rfl, ?_, ⟨_, rfl⟩, hW, hsame.mono (by decide) (by decide)⟩
    · exact X0.returnOut hx Bd.returns (hb hby d5_22) hr
    · show Q5 Z a0 a1 p2 M b ar f fr h0 n0 _ s₁.heap _
      rw [e0]
      exact ⟨_, (by rw [if_neg hc288]), rfl, N0, K0, V_⟩
theorem d6_0 : decode prog_58_method_4_code 0 = .ok (.iload_n 1, 1) := by decide +kernel
theorem d6_1 : decode prog_58_method_4_code 1 = .ok (.aload_n 0, 1) := by decide +kernel
theorem d6_2 : decode prog_58_method_4_code 2 = .ok (.getfield 7, 3) := by decide +kernel
theorem d6_5 : decode prog_58_method_4_code 5 = .ok (.if_icmp .lt 5, 3) := by decide +kernel
theorem d6_8 : decode prog_58_method_4_code 8 = .ok (.iconst (-1), 1) := by decide +kernel
theorem d6_9 : decode prog_58_method_4_code 9 = .ok (.ireturn, 1) := by decide +kernel
theorem d6_10 : decode prog_58_method_4_code 10 = .ok (.iload_n 1, 1) := by decide +kernel
theorem d6_11 : decode prog_58_method_4_code 11 = .ok (.ifCond .ne 7, 3) := by decide +kernel
theorem d6_14 : decode prog_58_method_4_code 14 = .ok (.iconst 1, 1) := by decide +kernel
theorem d6_15 : decode prog_58_method_4_code 15 = .ok (.goto 9, 3) := by decide +kernel
theorem d6_18 : decode prog_58_method_4_code 18 = .ok (.aload_n 0, 1) := by decide +kernel
theorem d6_19 : decode prog_58_method_4_code 19 = .ok (.getfield 7, 3) := by decide +kernel
theorem d6_22 : decode prog_58_method_4_code 22 = .ok (.iload_n 1, 1) := by decide +kernel
theorem d6_23 : decode prog_58_method_4_code 23 = .ok (.iadd, 1) := by decide +kernel
theorem d6_24 : decode prog_58_method_4_code 24 = .ok (.istore_n 3, 1) := by decide +kernel
theorem d6_25 : decode prog_58_method_4_code 25 = .ok (.aload_n 0, 1) := by decide +kernel
theorem d6_26 : decode prog_58_method_4_code 26 = .ok (.getfield 13, 3) := by decide +kernel
theorem d6_29 : decode prog_58_method_4_code 29 = .ok (.iload_n 3, 1) := by decide +kernel
theorem d6_30 : decode prog_58_method_4_code 30 = .ok (.iaload, 1) := by decide +kernel
theorem d6_31 : decode prog_58_method_4_code 31 = .ok (.iload_n 2, 1) := by decide +kernel
theorem d6_32 : decode prog_58_method_4_code 32 = .ok (.if_icmp .ge 35, 3) := by decide +kernel
theorem d6_35 : decode prog_58_method_4_code 35 = .ok (.iload_n 3, 1) := by decide +kernel
theorem d6_36 : decode prog_58_method_4_code 36 = .ok (.iconst 1, 1) := by decide +kernel
theorem d6_37 : decode prog_58_method_4_code 37 = .ok (.if_icmp .le 17, 3) := by decide +kernel
theorem d6_40 : decode prog_58_method_4_code 40 = .ok (.iload_n 3, 1) := by decide +kernel
theorem d6_41 : decode prog_58_method_4_code 41 = .ok (.iconst 2, 1) := by decide +kernel
theorem d6_42 : decode prog_58_method_4_code 42 = .ok (.irem, 1) := by decide +kernel
theorem d6_43 : decode prog_58_method_4_code 43 = .ok (.iconst 1, 1) := by decide +kernel
theorem d6_44 : decode prog_58_method_4_code 44 = .ok (.if_icmp .ne 10, 3) := by decide +kernel
theorem d6_47 : decode prog_58_method_4_code 47 = .ok (.iload_n 3, 1) := by decide +kernel
theorem d6_48 : decode prog_58_method_4_code 48 = .ok (.iconst 2, 1) := by decide +kernel
theorem d6_49 : decode prog_58_method_4_code 49 = .ok (.idiv, 1) := by decide +kernel
theorem d6_50 : decode prog_58_method_4_code 50 = .ok (.istore_n 3, 1) := by decide +kernel
theorem d6_51 : decode prog_58_method_4_code 51 = .ok (.goto (-16), 3) := by decide +kernel
theorem d6_54 : decode prog_58_method_4_code 54 = .ok (.iload_n 3, 1) := by decide +kernel
theorem d6_55 : decode prog_58_method_4_code 55 = .ok (.iconst 1, 1) := by decide +kernel
theorem d6_56 : decode prog_58_method_4_code 56 = .ok (.if_icmp .ne 5, 3) := by decide +kernel
theorem d6_59 : decode prog_58_method_4_code 59 = .ok (.iconst (-1), 1) := by decide +kernel
theorem d6_60 : decode prog_58_method_4_code 60 = .ok (.ireturn, 1) := by decide +kernel
theorem d6_61 : decode prog_58_method_4_code 61 = .ok (.iinc 3 1, 3) := by decide +kernel
theorem d6_64 : decode prog_58_method_4_code 64 = .ok (.goto (-39), 3) := by decide +kernel
theorem d6_67 : decode prog_58_method_4_code 67 = .ok (.iload_n 3, 1) := by decide +kernel
theorem d6_68 : decode prog_58_method_4_code 68 = .ok (.aload_n 0, 1) := by decide +kernel
theorem d6_69 : decode prog_58_method_4_code 69 = .ok (.getfield 7, 3) := by decide +kernel
theorem d6_72 : decode prog_58_method_4_code 72 = .ok (.if_icmp .ge 32, 3) := by decide +kernel
theorem d6_75 : decode prog_58_method_4_code 75 = .ok (.iconst 2, 1) := by decide +kernel
theorem d6_76 : decode prog_58_method_4_code 76 = .ok (.iload_n 3, 1) := by decide +kernel
theorem d6_77 : decode prog_58_method_4_code 77 = .ok (.imul, 1) := by decide +kernel
theorem d6_78 : decode prog_58_method_4_code 78 = .ok (.istore 4, 2) := by decide +kernel
theorem d6_80 : decode prog_58_method_4_code 80 = .ok (.aload_n 0, 1) := by decide +kernel
theorem d6_81 : decode prog_58_method_4_code 81 = .ok (.getfield 13, 3) := by decide +kernel
theorem d6_84 : decode prog_58_method_4_code 84 = .ok (.iload 4, 2) := by decide +kernel
theorem d6_86 : decode prog_58_method_4_code 86 = .ok (.iaload, 1) := by decide +kernel
theorem d6_87 : decode prog_58_method_4_code 87 = .ok (.iload_n 2, 1) := by decide +kernel
theorem d6_88 : decode prog_58_method_4_code 88 = .ok (.if_icmp .lt 8, 3) := by decide +kernel
theorem d6_91 : decode prog_58_method_4_code 91 = .ok (.iload 4, 2) := by decide +kernel
theorem d6_93 : decode prog_58_method_4_code 93 = .ok (.goto 7, 3) := by decide +kernel
theorem d6_96 : decode prog_58_method_4_code 96 = .ok (.iload 4, 2) := by decide +kernel
theorem d6_98 : decode prog_58_method_4_code 98 = .ok (.iconst 1, 1) := by decide +kernel
theorem d6_99 : decode prog_58_method_4_code 99 = .ok (.iadd, 1) := by decide +kernel
theorem d6_100 : decode prog_58_method_4_code 100 = .ok (.istore_n 3, 1) := by decide +kernel
theorem d6_101 : decode prog_58_method_4_code 101 = .ok (.goto (-34), 3) := by decide +kernel
theorem d6_104 : decode prog_58_method_4_code 104 = .ok (.iload_n 3, 1) := by decide +kernel
theorem d6_105 : decode prog_58_method_4_code 105 = .ok (.aload_n 0, 1) := by decide +kernel
theorem d6_106 : decode prog_58_method_4_code 106 = .ok (.getfield 7, 3) := by decide +kernel
theorem d6_109 : decode prog_58_method_4_code 109 = .ok (.isub, 1) := by decide +kernel
theorem d6_110 : decode prog_58_method_4_code 110 = .ok (.ireturn, 1) := by decide +kernel
set_option maxRecDepth 65536 in
set_option maxHeartbeats 40000000 in
theorem lpi {p : Program} {l : Launch} {e : Env} {s : State} {m : MethodId} {args : Array Value} {below : List Frame} {meth : Method} {c : Code} {locs : List Loc} {a0 : Addr} {p1 p2 : Int32} {T0 : State} (X0 : Stand p l e ({ frames := 0, cells := 0, slots := 0, locals := 0 } : Room) s m args below meth c T0 locs 0 0) (hx : p.tables.exec = Jvm.exec) (hby : c.code = prog_58_method_4_code) (k : Nat) :
    ∀ q : Nat, q < 2 ^ k → q < 64 → ∀ t, Steps p.tables e below (T0.setTop (mkF m 54 #[.val (.ref a0), .val (.int p1), .val (.int p2), .val (.int (Int32.ofNat (own_cl k q))), .unset] [])) t → Steps p.tables e below (T0.setTop (mkF m 35 #[.val (.ref a0), .val (.int p1), .val (.int p2), .val (.int (Int32.ofNat q)), .unset] [])) t := by
  induction k with
  | zero =>
    intro q hq hq2 t kt
    have hn1 : ¬ 1 < q := by omega
    have pre0 : ∀ t, Steps p.tables e below (T0.setTop (mkF m 35 #[.val (.ref a0), .val (.int p1), .val (.int p2), .val (.int (Int32.ofNat q)), .unset] [])) t → Steps p.tables e below (T0.setTop (mkF m 35 #[.val (.ref a0), .val (.int p1), .val (.int p2), .val (.int (Int32.ofNat q)), .unset] [])) t := fun _ k => k
    have pre302 : ∀ t, Steps p.tables e below (T0.setTop (mkF m 54 #[.val (.ref a0), .val (.int p1), .val (.int p2), .val (.int (Int32.ofNat q)), .unset] [])) t → Steps p.tables e below (T0.setTop (mkF m 35 #[.val (.ref a0), .val (.int p1), .val (.int p2), .val (.int (Int32.ofNat q)), .unset] [])) t := fun t kt => by
      refine pre0 _ ?_
      show Steps p.tables e below (T0.setTop (mkF m 35 #[.val (.ref a0), .val (.int p1), .val (.int p2), .val (.int (Int32.ofNat q)), .unset] [])) _
      refine XS.iloadN X0.here hx rfl (hb hby d6_35) rfl ?_
      show Steps p.tables e below (T0.setTop (mkF m 36 #[.val (.ref a0), .val (.int p1), .val (.int p2), .val (.int (Int32.ofNat q)), .unset] [(.int (Int32.ofNat q))])) _
      refine XS.iconst X0.here hx rfl (hb hby d6_36) ?_
      show Steps p.tables e below (T0.setTop (mkF m 37 #[.val (.ref a0), .val (.int p1), .val (.int p2), .val (.int (Int32.ofNat q)), .unset] [(.int (1 : Int32)), (.int (Int32.ofNat q))])) _
      refine XS.icmpYes X0.here hx rfl (pc0 := 37) (pc' := 54) rfl (hb hby d6_37) rfl (flt (fun z => hn1 ((own_gt1 (by omega)).mp z))).2.2.2 (by decide) (by decide) ?_
      show Steps p.tables e below (T0.setTop (mkF m 54 #[.val (.ref a0), .val (.int p1), .val (.int p2), .val (.int (Int32.ofNat q)), .unset] [])) _
      exact kt
    exact pre302 t kt
  | succ k ih =>
    intro q hq hq2 t kt
    by_cases hn1 : 1 < q
    · by_cases hod : q % 2 = 1
      · rw [own_cl, if_pos ⟨hn1, hod⟩] at kt
        have pre0 : ∀ t, Steps p.tables e below (T0.setTop (mkF m 35 #[.val (.ref a0), .val (.int p1), .val (.int p2), .val (.int (Int32.ofNat q)), .unset] [])) t → Steps p.tables e below (T0.setTop (mkF m 35 #[.val (.ref a0), .val (.int p1), .val (.int p2), .val (.int (Int32.ofNat q)), .unset] [])) t := fun _ k => k
        have pre303 : ∀ t, Steps p.tables e below (T0.setTop (mkF m 35 #[.val (.ref a0), .val (.int p1), .val (.int p2), .val (.int ((Int32.ofNat q) / (2 : Int32))), .unset] [])) t → Steps p.tables e below (T0.setTop (mkF m 35 #[.val (.ref a0), .val (.int p1), .val (.int p2), .val (.int (Int32.ofNat q)), .unset] [])) t := fun t kt => by
          refine pre0 _ ?_
          show Steps p.tables e below (T0.setTop (mkF m 35 #[.val (.ref a0), .val (.int p1), .val (.int p2), .val (.int (Int32.ofNat q)), .unset] [])) _
          refine XS.iloadN X0.here hx rfl (hb hby d6_35) rfl ?_
          show Steps p.tables e below (T0.setTop (mkF m 36 #[.val (.ref a0), .val (.int p1), .val (.int p2), .val (.int (Int32.ofNat q)), .unset] [(.int (Int32.ofNat q))])) _
          refine XS.iconst X0.here hx rfl (hb hby d6_36) ?_
          show Steps p.tables e below (T0.setTop (mkF m 37 #[.val (.ref a0), .val (.int p1), .val (.int p2), .val (.int (Int32.ofNat q)), .unset] [(.int (1 : Int32)), (.int (Int32.ofNat q))])) _
          refine XS.icmpNo X0.here hx rfl (hb hby d6_37) rfl (tlt ((own_gt1 (by omega)).mpr hn1)).2.2.2 ?_
          show Steps p.tables e below (T0.setTop (mkF m 40 #[.val (.ref a0), .val (.int p1), .val (.int p2), .val (.int (Int32.ofNat q)), .unset] [])) _
          refine XS.iloadN X0.here hx rfl (hb hby d6_40) rfl ?_
          show Steps p.tables e below (T0.setTop (mkF m 41 #[.val (.ref a0), .val (.int p1), .val (.int p2), .val (.int (Int32.ofNat q)), .unset] [(.int (Int32.ofNat q))])) _
          refine XS.iconst X0.here hx rfl (hb hby d6_41) ?_
          show Steps p.tables e below (T0.setTop (mkF m 42 #[.val (.ref a0), .val (.int p1), .val (.int p2), .val (.int (Int32.ofNat q)), .unset] [(.int (2 : Int32)), (.int (Int32.ofNat q))])) _
          refine iremM X0 hx rfl (hb hby d6_42) rfl (by decide) ?_
          show Steps p.tables e below (T0.setTop (mkF m 43 #[.val (.ref a0), .val (.int p1), .val (.int p2), .val (.int (Int32.ofNat q)), .unset] [(.int ((Int32.ofNat q) % (2 : Int32)))])) _
          refine XS.iconst X0.here hx rfl (hb hby d6_43) ?_
          show Steps p.tables e below (T0.setTop (mkF m 44 #[.val (.ref a0), .val (.int p1), .val (.int p2), .val (.int (Int32.ofNat q)), .unset] [(.int (1 : Int32)), (.int ((Int32.ofNat q) % (2 : Int32)))])) _
          refine XS.icmpNo X0.here hx rfl (hb hby d6_44) rfl (teq (by rw [own_md hq2]; exact (own_eq1 (by omega)).mpr hod)).2 ?_
          show Steps p.tables e below (T0.setTop (mkF m 47 #[.val (.ref a0), .val (.int p1), .val (.int p2), .val (.int (Int32.ofNat q)), .unset] [])) _
          refine XS.iloadN X0.here hx rfl (hb hby d6_47) rfl ?_
          show Steps p.tables e below (T0.setTop (mkF m 48 #[.val (.ref a0), .val (.int p1), .val (.int p2), .val (.int (Int32.ofNat q)), .unset] [(.int (Int32.ofNat q))])) _
          refine XS.iconst X0.here hx rfl (hb hby d6_48) ?_
          show Steps p.tables e below (T0.setTop (mkF m 49 #[.val (.ref a0), .val (.int p1), .val (.int p2), .val (.int (Int32.ofNat q)), .unset] [(.int (2 : Int32)), (.int (Int32.ofNat q))])) _
          refine XS.idiv X0.here hx rfl (hb hby d6_49) rfl (by decide) ?_
          show Steps p.tables e below (T0.setTop (mkF m 50 #[.val (.ref a0), .val (.int p1), .val (.int p2), .val (.int (Int32.ofNat q)), .unset] [(.int ((Int32.ofNat q) / (2 : Int32)))])) _
          refine XS.istoreN X0.here hx rfl (hb hby d6_50) rfl (l' := #[.val (.ref a0), .val (.int p1), .val (.int p2), .val (.int ((Int32.ofNat q) / (2 : Int32))), .unset]) rfl ?_
          show Steps p.tables e below (T0.setTop (mkF m 51 #[.val (.ref a0), .val (.int p1), .val (.int p2), .val (.int ((Int32.ofNat q) / (2 : Int32))), .unset] [])) _
          refine XS.goto X0.here hx rfl (pc0 := 51) (pc' := 35) rfl (hb hby d6_51) (by decide) (by decide) ?_
          show Steps p.tables e below (T0.setTop (mkF m 35 #[.val (.ref a0), .val (.int p1), .val (.int p2), .val (.int ((Int32.ofNat q) / (2 : Int32))), .unset] [])) _
          exact kt
        have ev : ((Int32.ofNat q) / (2 : Int32)) = Int32.ofNat (q / 2) := own_hlf hq2
        have hp2 : q / 2 < 2 ^ k := by rw [Nat.pow_succ] at hq; omega
        exact pre303 t (by rw [ev]; exact ih (q / 2) hp2 (by omega) t kt)
      · rw [own_cl, if_neg (fun z => hod z.2)] at kt
        have pre0 : ∀ t, Steps p.tables e below (T0.setTop (mkF m 35 #[.val (.ref a0), .val (.int p1), .val (.int p2), .val (.int (Int32.ofNat q)), .unset] [])) t → Steps p.tables e below (T0.setTop (mkF m 35 #[.val (.ref a0), .val (.int p1), .val (.int p2), .val (.int (Int32.ofNat q)), .unset] [])) t := fun _ k => k
        have pre304 : ∀ t, Steps p.tables e below (T0.setTop (mkF m 54 #[.val (.ref a0), .val (.int p1), .val (.int p2), .val (.int (Int32.ofNat q)), .unset] [])) t → Steps p.tables e below (T0.setTop (mkF m 35 #[.val (.ref a0), .val (.int p1), .val (.int p2), .val (.int (Int32.ofNat q)), .unset] [])) t := fun t kt => by
          refine pre0 _ ?_
          show Steps p.tables e below (T0.setTop (mkF m 35 #[.val (.ref a0), .val (.int p1), .val (.int p2), .val (.int (Int32.ofNat q)), .unset] [])) _
          refine XS.iloadN X0.here hx rfl (hb hby d6_35) rfl ?_
          show Steps p.tables e below (T0.setTop (mkF m 36 #[.val (.ref a0), .val (.int p1), .val (.int p2), .val (.int (Int32.ofNat q)), .unset] [(.int (Int32.ofNat q))])) _
          refine XS.iconst X0.here hx rfl (hb hby d6_36) ?_
          show Steps p.tables e below (T0.setTop (mkF m 37 #[.val (.ref a0), .val (.int p1), .val (.int p2), .val (.int (Int32.ofNat q)), .unset] [(.int (1 : Int32)), (.int (Int32.ofNat q))])) _
          refine XS.icmpNo X0.here hx rfl (hb hby d6_37) rfl (tlt ((own_gt1 (by omega)).mpr hn1)).2.2.2 ?_
          show Steps p.tables e below (T0.setTop (mkF m 40 #[.val (.ref a0), .val (.int p1), .val (.int p2), .val (.int (Int32.ofNat q)), .unset] [])) _
          refine XS.iloadN X0.here hx rfl (hb hby d6_40) rfl ?_
          show Steps p.tables e below (T0.setTop (mkF m 41 #[.val (.ref a0), .val (.int p1), .val (.int p2), .val (.int (Int32.ofNat q)), .unset] [(.int (Int32.ofNat q))])) _
          refine XS.iconst X0.here hx rfl (hb hby d6_41) ?_
          show Steps p.tables e below (T0.setTop (mkF m 42 #[.val (.ref a0), .val (.int p1), .val (.int p2), .val (.int (Int32.ofNat q)), .unset] [(.int (2 : Int32)), (.int (Int32.ofNat q))])) _
          refine iremM X0 hx rfl (hb hby d6_42) rfl (by decide) ?_
          show Steps p.tables e below (T0.setTop (mkF m 43 #[.val (.ref a0), .val (.int p1), .val (.int p2), .val (.int (Int32.ofNat q)), .unset] [(.int ((Int32.ofNat q) % (2 : Int32)))])) _
          refine XS.iconst X0.here hx rfl (hb hby d6_43) ?_
          show Steps p.tables e below (T0.setTop (mkF m 44 #[.val (.ref a0), .val (.int p1), .val (.int p2), .val (.int (Int32.ofNat q)), .unset] [(.int (1 : Int32)), (.int ((Int32.ofNat q) % (2 : Int32)))])) _
          refine XS.icmpYes X0.here hx rfl (pc0 := 44) (pc' := 54) rfl (hb hby d6_44) rfl (feq (by rw [own_md hq2]; exact fun z => hod ((own_eq1 (by omega)).mp z))).2 (by decide) (by decide) ?_
          show Steps p.tables e below (T0.setTop (mkF m 54 #[.val (.ref a0), .val (.int p1), .val (.int p2), .val (.int (Int32.ofNat q)), .unset] [])) _
          exact kt
        exact pre304 t kt
    · rw [own_cl, if_neg (fun z => hn1 z.1)] at kt
      have pre0 : ∀ t, Steps p.tables e below (T0.setTop (mkF m 35 #[.val (.ref a0), .val (.int p1), .val (.int p2), .val (.int (Int32.ofNat q)), .unset] [])) t → Steps p.tables e below (T0.setTop (mkF m 35 #[.val (.ref a0), .val (.int p1), .val (.int p2), .val (.int (Int32.ofNat q)), .unset] [])) t := fun _ k => k
      have pre305 : ∀ t, Steps p.tables e below (T0.setTop (mkF m 54 #[.val (.ref a0), .val (.int p1), .val (.int p2), .val (.int (Int32.ofNat q)), .unset] [])) t → Steps p.tables e below (T0.setTop (mkF m 35 #[.val (.ref a0), .val (.int p1), .val (.int p2), .val (.int (Int32.ofNat q)), .unset] [])) t := fun t kt => by
        refine pre0 _ ?_
        show Steps p.tables e below (T0.setTop (mkF m 35 #[.val (.ref a0), .val (.int p1), .val (.int p2), .val (.int (Int32.ofNat q)), .unset] [])) _
        refine XS.iloadN X0.here hx rfl (hb hby d6_35) rfl ?_
        show Steps p.tables e below (T0.setTop (mkF m 36 #[.val (.ref a0), .val (.int p1), .val (.int p2), .val (.int (Int32.ofNat q)), .unset] [(.int (Int32.ofNat q))])) _
        refine XS.iconst X0.here hx rfl (hb hby d6_36) ?_
        show Steps p.tables e below (T0.setTop (mkF m 37 #[.val (.ref a0), .val (.int p1), .val (.int p2), .val (.int (Int32.ofNat q)), .unset] [(.int (1 : Int32)), (.int (Int32.ofNat q))])) _
        refine XS.icmpYes X0.here hx rfl (pc0 := 37) (pc' := 54) rfl (hb hby d6_37) rfl (flt (fun z => hn1 ((own_gt1 (by omega)).mp z))).2.2.2 (by decide) (by decide) ?_
        show Steps p.tables e below (T0.setTop (mkF m 54 #[.val (.ref a0), .val (.int p1), .val (.int p2), .val (.int (Int32.ofNat q)), .unset] [])) _
        exact kt
      exact pre305 t kt
set_option maxRecDepth 65536 in
set_option maxHeartbeats 40000000 in
theorem lpj1 {p : Program} {l : Launch} {e : Env} {s : State} {m : MethodId} {args : Array Value} {below : List Frame} {meth : Method} {c : Code} {locs : List Loc} {a0 : Addr} {p1 p2 : Int32} {T0 : State} (X0 : Stand p l e ({ frames := 0, cells := 0, slots := 0, locals := 0 } : Room) s m args below meth c T0 locs 0 0) (hx : p.tables.exec = Jvm.exec) (hby : c.code = prog_58_method_4_code) {q : Nat} (hq2 : q ≤ 64) (hq1 : q = 1) : ∀ t, Steps p.tables e below (T0.setTop (mkF m 60 #[.val (.ref a0), .val (.int p1), .val (.int p2), .val (.int (Int32.ofNat q)), .unset] [.int (-1 : Int32)])) t → Steps p.tables e below (T0.setTop (mkF m 54 #[.val (.ref a0), .val (.int p1), .val (.int p2), .val (.int (Int32.ofNat q)), .unset] [])) t := by
  have pre0 : ∀ t, Steps p.tables e below (T0.setTop (mkF m 54 #[.val (.ref a0), .val (.int p1), .val (.int p2), .val (.int (Int32.ofNat q)), .unset] [])) t → Steps p.tables e below (T0.setTop (mkF m 54 #[.val (.ref a0), .val (.int p1), .val (.int p2), .val (.int (Int32.ofNat q)), .unset] [])) t := fun _ k => k
  have pre306 : ∀ t, Steps p.tables e below (T0.setTop (mkF m 60 #[.val (.ref a0), .val (.int p1), .val (.int p2), .val (.int (Int32.ofNat q)), .unset] [(.int (-1 : Int32))])) t → Steps p.tables e below (T0.setTop (mkF m 54 #[.val (.ref a0), .val (.int p1), .val (.int p2), .val (.int (Int32.ofNat q)), .unset] [])) t := fun t kt => by
    refine pre0 _ ?_
    show Steps p.tables e below (T0.setTop (mkF m 54 #[.val (.ref a0), .val (.int p1), .val (.int p2), .val (.int (Int32.ofNat q)), .unset] [])) _
    refine XS.iloadN X0.here hx rfl (hb hby d6_54) rfl ?_
    show Steps p.tables e below (T0.setTop (mkF m 55 #[.val (.ref a0), .val (.int p1), .val (.int p2), .val (.int (Int32.ofNat q)), .unset] [(.int (Int32.ofNat q))])) _
    refine XS.iconst X0.here hx rfl (hb hby d6_55) ?_
    show Steps p.tables e below (T0.setTop (mkF m 56 #[.val (.ref a0), .val (.int p1), .val (.int p2), .val (.int (Int32.ofNat q)), .unset] [(.int (1 : Int32)), (.int (Int32.ofNat q))])) _
    refine XS.icmpNo X0.here hx rfl (hb hby d6_56) rfl (teq ((own_eq1 hq2).mpr hq1)).2 ?_
    show Steps p.tables e below (T0.setTop (mkF m 59 #[.val (.ref a0), .val (.int p1), .val (.int p2), .val (.int (Int32.ofNat q)), .unset] [])) _
    refine XS.iconst X0.here hx rfl (hb hby d6_59) ?_
    show Steps p.tables e below (T0.setTop (mkF m 60 #[.val (.ref a0), .val (.int p1), .val (.int p2), .val (.int (Int32.ofNat q)), .unset] [(.int (-1 : Int32))])) _
    exact kt
  intro t kt
  exact pre306 t kt
set_option maxRecDepth 65536 in
set_option maxHeartbeats 40000000 in
theorem lpj2 {p : Program} {l : Launch} {e : Env} {s : State} {m : MethodId} {args : Array Value} {below : List Frame} {meth : Method} {c : Code} {locs : List Loc} {a0 : Addr} {p1 p2 : Int32} {T0 : State} (X0 : Stand p l e ({ frames := 0, cells := 0, slots := 0, locals := 0 } : Room) s m args below meth c T0 locs 0 0) (hx : p.tables.exec = Jvm.exec) (hby : c.code = prog_58_method_4_code) {q : Nat} (hq2 : q ≤ 64) (hq1 : ¬ q = 1) : ∀ t, Steps p.tables e below (T0.setTop (mkF m 25 #[.val (.ref a0), .val (.int p1), .val (.int p2), .val (.int (Int32.ofNat (q + 1))), .unset] [])) t → Steps p.tables e below (T0.setTop (mkF m 54 #[.val (.ref a0), .val (.int p1), .val (.int p2), .val (.int (Int32.ofNat q)), .unset] [])) t := by
  have pre0 : ∀ t, Steps p.tables e below (T0.setTop (mkF m 54 #[.val (.ref a0), .val (.int p1), .val (.int p2), .val (.int (Int32.ofNat q)), .unset] [])) t → Steps p.tables e below (T0.setTop (mkF m 54 #[.val (.ref a0), .val (.int p1), .val (.int p2), .val (.int (Int32.ofNat q)), .unset] [])) t := fun _ k => k
  have pre307 : ∀ t, Steps p.tables e below (T0.setTop (mkF m 25 #[.val (.ref a0), .val (.int p1), .val (.int p2), .val (.int ((Int32.ofNat q) + (1 : Int32))), .unset] [])) t → Steps p.tables e below (T0.setTop (mkF m 54 #[.val (.ref a0), .val (.int p1), .val (.int p2), .val (.int (Int32.ofNat q)), .unset] [])) t := fun t kt => by
    refine pre0 _ ?_
    show Steps p.tables e below (T0.setTop (mkF m 54 #[.val (.ref a0), .val (.int p1), .val (.int p2), .val (.int (Int32.ofNat q)), .unset] [])) _
    refine XS.iloadN X0.here hx rfl (hb hby d6_54) rfl ?_
    show Steps p.tables e below (T0.setTop (mkF m 55 #[.val (.ref a0), .val (.int p1), .val (.int p2), .val (.int (Int32.ofNat q)), .unset] [(.int (Int32.ofNat q))])) _
    refine XS.iconst X0.here hx rfl (hb hby d6_55) ?_
    show Steps p.tables e below (T0.setTop (mkF m 56 #[.val (.ref a0), .val (.int p1), .val (.int p2), .val (.int (Int32.ofNat q)), .unset] [(.int (1 : Int32)), (.int (Int32.ofNat q))])) _
    refine XS.icmpYes X0.here hx rfl (pc0 := 56) (pc' := 61) rfl (hb hby d6_56) rfl (feq (fun z => hq1 ((own_eq1 hq2).mp z))).2 (by decide) (by decide) ?_
    show Steps p.tables e below (T0.setTop (mkF m 61 #[.val (.ref a0), .val (.int p1), .val (.int p2), .val (.int (Int32.ofNat q)), .unset] [])) _
    refine XS.iinc X0.here hx rfl (hb hby d6_61) rfl (l' := #[.val (.ref a0), .val (.int p1), .val (.int p2), .val (.int ((Int32.ofNat q) + (1 : Int32))), .unset]) rfl ?_
    show Steps p.tables e below (T0.setTop (mkF m 64 #[.val (.ref a0), .val (.int p1), .val (.int p2), .val (.int ((Int32.ofNat q) + (1 : Int32))), .unset] [])) _
    refine XS.goto X0.here hx rfl (pc0 := 64) (pc' := 25) rfl (hb hby d6_64) (by decide) (by decide) ?_
    show Steps p.tables e below (T0.setTop (mkF m 25 #[.val (.ref a0), .val (.int p1), .val (.int p2), .val (.int ((Int32.ofNat q) + (1 : Int32))), .unset] [])) _
    exact kt
  intro t kt
  exact pre307 t (by rw [own_add1]; exact kt)
set_option maxRecDepth 65536 in
set_option maxHeartbeats 40000000 in
theorem lpo {p : Program} {l : Launch} {e : Env} {s : State} {m : MethodId} {args : Array Value} {below : List Frame} {meth : Method} {c : Code} {locs : List Loc} {a0 : Addr} {p1 p2 : Int32} {Z : State} {aq : Array Value} {hq : Heap} {ar : Addr} {M : Nat} {f : Nat → Int32} (hx : p.tables.exec = Jvm.exec) (hZ : Z.Warmed39 s.vm) (hw : ∀ d ∈ tables_1, d.before aq Z = true) (hby : c.code = prog_58_method_4_code) (hml : c.maxLocals = 5) (hown : s.vm.findClass "com/example/packwright/packwright/core/bins/FreeSpaceTree" = some m.cls) (hM : M ≤ 8) (Fl0 : Fld Z hq a0 "com/example/packwright/packwright/core/bins/FreeSpaceTree" "leaves" "I" (.int (Int32.ofNat M))) (Fm0 : Fld Z hq a0 "com/example/packwright/packwright/core/bins/FreeSpaceTree" "maxFree" "[I" (.ref ar)) (V0 : own_Ar Z hq ar .int (2 * M) f) (k : Nat) :
    ∀ (T0 : State) (q : Nat) (r : Option Nat), Stand p l e ({ frames := 0, cells := 0, slots := 0, locals := 0 } : Room) s m args below meth c T0 locs 0 0 → T0.heap = hq → own_seek (own_cc f p2) (2 * M) k q = some r → ∃ (T' : State) (Ls : Array Slot), Stand p l e ({ frames := 0, cells := 0, slots := 0, locals := 0 } : Room) s m args below meth c T' locs 0 0 ∧ T'.heap = hq ∧ ((r = none ∧ ∀ t, Steps p.tables e below (T'.setTop (mkF m 60 Ls [.int (-1 : Int32)])) t → Steps p.tables e below (T0.setTop (mkF m 25 #[.val (.ref a0), .val (.int p1), .val (.int p2), .val (.int (Int32.ofNat q)), .unset] [])) t) ∨ ∃ q2, r = some q2 ∧ q2 < 2 * M ∧ ∀ t, Steps p.tables e below (T'.setTop (mkF m 67 #[.val (.ref a0), .val (.int p1), .val (.int p2), .val (.int (Int32.ofNat q2)), .unset] [])) t → Steps p.tables e below (T0.setTop (mkF m 25 #[.val (.ref a0), .val (.int p1), .val (.int p2), .val (.int (Int32.ofNat q)), .unset] [])) t) := by
  induction k with
  | zero =>
    intro T0 q r X0 e0 hs
    rw [own_seek] at hs; cases hs
  | succ k ih =>
    intro T0 q r X0 e0 hs
    rw [own_seek] at hs
    by_cases hin : 1 ≤ q ∧ q < 2 * M
    · obtain ⟨hi1, hi2⟩ := hin
      rw [if_pos ⟨hi1, hi2⟩] at hs
      by_cases hcq : own_cc f p2 q = true
      · rw [if_pos hcq] at hs
        have er := (Option.some.inj hs).symm
        have pre0 : ∀ t, Steps p.tables e below (T0.setTop (mkF m 25 #[.val (.ref a0), .val (.int p1), .val (.int p2), .val (.int (Int32.ofNat q)), .unset] [])) t → Steps p.tables e below (T0.setTop (mkF m 25 #[.val (.ref a0), .val (.int p1), .val (.int p2), .val (.int (Int32.ofNat q)), .unset] [])) t := fun _ k => k
        obtain ⟨T308, X308, e308, st308⟩ := getF X0 hx hZ hown (host := "") (Or.inl (hw _ (List.mem_of_getElem? (i := 16) rfl))) Via.refl e0 Fm0 (g := (mkF m 26 #[.val (.ref a0), .val (.int p1), .val (.int p2), .val (.int (Int32.ofNat q)), .unset] [(.ref a0)])) rfl rfl (hb hby d6_26)
        have pre309 : ∀ t, Steps p.tables e below (T308.setTop (mkF m 67 #[.val (.ref a0), .val (.int p1), .val (.int p2), .val (.int (Int32.ofNat q)), .unset] [])) t → Steps p.tables e below (T0.setTop (mkF m 25 #[.val (.ref a0), .val (.int p1), .val (.int p2), .val (.int (Int32.ofNat q)), .unset] [])) t := fun t kt => by
          refine pre0 _ ?_
          show Steps p.tables e below (T0.setTop (mkF m 25 #[.val (.ref a0), .val (.int p1), .val (.int p2), .val (.int (Int32.ofNat q)), .unset] [])) _
          refine XS.aloadN X0.here hx rfl (hb hby d6_25) rfl rfl ?_
          show Steps p.tables e below (T0.setTop (mkF m 26 #[.val (.ref a0), .val (.int p1), .val (.int p2), .val (.int (Int32.ofNat q)), .unset] [(.ref a0)])) _
          refine st308 _ ?_
          show Steps p.tables e below (T308.setTop (mkF m 29 #[.val (.ref a0), .val (.int p1), .val (.int p2), .val (.int (Int32.ofNat q)), .unset] [(.ref ar)])) _
          refine XS.iloadN X308.here hx rfl (hb hby d6_29) rfl ?_
          show Steps p.tables e below (T308.setTop (mkF m 30 #[.val (.ref a0), .val (.int p1), .val (.int p2), .val (.int (Int32.ofNat q)), .unset] [(.int (Int32.ofNat q)), (.ref ar)])) _
          refine own_rdI X308 hx hZ e308 V0 (j := (Int32.ofNat q)) (i := q) (own_of (by omega)) (by omega) (g := (mkF m 30 #[.val (.ref a0), .val (.int p1), .val (.int p2), .val (.int (Int32.ofNat q)), .unset] [(.int (Int32.ofNat q)), (.ref ar)])) rfl rfl (hb hby d6_30) _ ?_
          show Steps p.tables e below (T308.setTop (mkF m 31 #[.val (.ref a0), .val (.int p1), .val (.int p2), .val (.int (Int32.ofNat q)), .unset] [(.int (f q))])) _
          refine XS.iloadN X308.here hx rfl (hb hby d6_31) rfl ?_
          show Steps p.tables e below (T308.setTop (mkF m 32 #[.val (.ref a0), .val (.int p1), .val (.int p2), .val (.int (Int32.ofNat q)), .unset] [(.int p2), (.int (f q))])) _
          refine XS.icmpYes X308.here hx rfl (pc0 := 32) (pc' := 67) rfl (hb hby d6_32) rfl (flt (own_ccF hcq)).2.1 (by decide) (by decide) ?_
          show Steps p.tables e below (T308.setTop (mkF m 67 #[.val (.ref a0), .val (.int p1), .val (.int p2), .val (.int (Int32.ofNat q)), .unset] [])) _
          exact kt
        exact ⟨T308, #[], X308, e308, Or.inr ⟨q, er, hi2, pre309⟩⟩
      · rw [if_neg hcq] at hs
        have pre0 : ∀ t, Steps p.tables e below (T0.setTop (mkF m 25 #[.val (.ref a0), .val (.int p1), .val (.int p2), .val (.int (Int32.ofNat q)), .unset] [])) t → Steps p.tables e below (T0.setTop (mkF m 25 #[.val (.ref a0), .val (.int p1), .val (.int p2), .val (.int (Int32.ofNat q)), .unset] [])) t := fun _ k => k
        obtain ⟨T310, X310, e310, st310⟩ := getF X0 hx hZ hown (host := "") (Or.inl (hw _ (List.mem_of_getElem? (i := 16) rfl))) Via.refl e0 Fm0 (g := (mkF m 26 #[.val (.ref a0), .val (.int p1), .val (.int p2), .val (.int (Int32.ofNat q)), .unset] [(.ref a0)])) rfl rfl (hb hby d6_26)
        have pre311 : ∀ t, Steps p.tables e below (T310.setTop (mkF m 35 #[.val (.ref a0), .val (.int p1), .val (.int p2), .val (.int (Int32.ofNat q)), .unset] [])) t → Steps p.tables e below (T0.setTop (mkF m 25 #[.val (.ref a0), .val (.int p1), .val (.int p2), .val (.int (Int32.ofNat q)), .unset] [])) t := fun t kt => by
          refine pre0 _ ?_
          show Steps p.tables e below (T0.setTop (mkF m 25 #[.val (.ref a0), .val (.int p1), .val (.int p2), .val (.int (Int32.ofNat q)), .unset] [])) _
          refine XS.aloadN X0.here hx rfl (hb hby d6_25) rfl rfl ?_
          show Steps p.tables e below (T0.setTop (mkF m 26 #[.val (.ref a0), .val (.int p1), .val (.int p2), .val (.int (Int32.ofNat q)), .unset] [(.ref a0)])) _
          refine st310 _ ?_
          show Steps p.tables e below (T310.setTop (mkF m 29 #[.val (.ref a0), .val (.int p1), .val (.int p2), .val (.int (Int32.ofNat q)), .unset] [(.ref ar)])) _
          refine XS.iloadN X310.here hx rfl (hb hby d6_29) rfl ?_
          show Steps p.tables e below (T310.setTop (mkF m 30 #[.val (.ref a0), .val (.int p1), .val (.int p2), .val (.int (Int32.ofNat q)), .unset] [(.int (Int32.ofNat q)), (.ref ar)])) _
          refine own_rdI X310 hx hZ e310 V0 (j := (Int32.ofNat q)) (i := q) (own_of (by omega)) (by omega) (g := (mkF m 30 #[.val (.ref a0), .val (.int p1), .val (.int p2), .val (.int (Int32.ofNat q)), .unset] [(.int (Int32.ofNat q)), (.ref ar)])) rfl rfl (hb hby d6_30) _ ?_
          show Steps p.tables e below (T310.setTop (mkF m 31 #[.val (.ref a0), .val (.int p1), .val (.int p2), .val (.int (Int32.ofNat q)), .unset] [(.int (f q))])) _
          refine XS.iloadN X310.here hx rfl (hb hby d6_31) rfl ?_
          show Steps p.tables e below (T310.setTop (mkF m 32 #[.val (.ref a0), .val (.int p1), .val (.int p2), .val (.int (Int32.ofNat q)), .unset] [(.int p2), (.int (f q))])) _
          refine XS.icmpNo X310.here hx rfl (hb hby d6_32) rfl (tlt (own_ccT hcq)).2.1 ?_
          show Steps p.tables e below (T310.setTop (mkF m 35 #[.val (.ref a0), .val (.int p1), .val (.int p2), .val (.int (Int32.ofNat q)), .unset] [])) _
          exact kt
        have hcl := own_cl_le 4 q
        have pc1 : ∀ t, Steps p.tables e below (T310.setTop (mkF m 54 #[.val (.ref a0), .val (.int p1), .val (.int p2), .val (.int (Int32.ofNat (own_cl 4 q))), .unset] [])) t → Steps p.tables e below (T0.setTop (mkF m 25 #[.val (.ref a0), .val (.int p1), .val (.int p2), .val (.int (Int32.ofNat q)), .unset] [])) t := fun t kt => pre311 t (lpi X310 hx hby 4 q (by omega) (by omega) t kt)
        by_cases h1 : own_cl 4 q = 1
        · rw [if_pos h1] at hs
          exact ⟨T310, _, X310, e310, Or.inl ⟨(Option.some.inj hs).symm, fun t kt => pc1 t (lpj1 X310 hx hby (by omega) h1 t kt)⟩⟩
        · rw [if_neg h1] at hs
          obtain ⟨T', Ls, X', e', hor⟩ := ih T310 (own_cl 4 q + 1) r X310 e310 hs
          refine ⟨T', Ls, X', e', ?_⟩
          rcases hor with ⟨a, st⟩ | ⟨q2, a, b, st⟩
          · exact Or.inl ⟨a, fun t kt => pc1 t (lpj2 X310 hx hby (by omega) h1 t (st t kt))⟩
          · exact Or.inr ⟨q2, a, b, fun t kt => pc1 t (lpj2 X310 hx hby (by omega) h1 t (st t kt))⟩
    · rw [if_neg hin] at hs; cases hs
set_option maxRecDepth 65536 in
set_option maxHeartbeats 40000000 in
theorem lpd {p : Program} {l : Launch} {e : Env} {s : State} {m : MethodId} {args : Array Value} {below : List Frame} {meth : Method} {c : Code} {locs : List Loc} {a0 : Addr} {p1 p2 : Int32} {Z : State} {aq : Array Value} {hq : Heap} {ar : Addr} {M : Nat} {f : Nat → Int32} (hx : p.tables.exec = Jvm.exec) (hZ : Z.Warmed39 s.vm) (hw : ∀ d ∈ tables_1, d.before aq Z = true) (hby : c.code = prog_58_method_4_code) (hml : c.maxLocals = 5) (hown : s.vm.findClass "com/example/packwright/packwright/core/bins/FreeSpaceTree" = some m.cls) (hM : M ≤ 8) (Fl0 : Fld Z hq a0 "com/example/packwright/packwright/core/bins/FreeSpaceTree" "leaves" "I" (.int (Int32.ofNat M))) (Fm0 : Fld Z hq a0 "com/example/packwright/packwright/core/bins/FreeSpaceTree" "maxFree" "[I" (.ref ar)) (V0 : own_Ar Z hq ar .int (2 * M) f) (k : Nat) :
    ∀ (T0 : State) (q r : Nat) (s4 : Slot), Stand p l e ({ frames := 0, cells := 0, slots := 0, locals := 0 } : Room) s m args below meth c T0 locs 0 0 → T0.heap = hq → One s4 → own_ds (own_cc f p2) M k q = some r → ∃ (T' : State) (s5 : Slot), Stand p l e ({ frames := 0, cells := 0, slots := 0, locals := 0 } : Room) s m args below meth c T' locs 0 0 ∧ T'.heap = hq ∧ ∀ t, Steps p.tables e below (T'.setTop (mkF m 104 #[.val (.ref a0), .val (.int p1), .val (.int p2), .val (.int (Int32.ofNat r)), s5] [])) t → Steps p.tables e below (T0.setTop (mkF m 67 #[.val (.ref a0), .val (.int p1), .val (.int p2), .val (.int (Int32.ofNat q)), s4] [])) t := by
  induction k with
  | zero =>
    intro T0 q r s4 X0 e0 h4 hs
    rw [own_ds] at hs; cases hs
  | succ k ih =>
    intro T0 q r s4 X0 e0 h4 hs
    rw [own_ds] at hs
    by_cases h2 : q < 2 * M
    · rw [if_pos h2] at hs
      by_cases hl : q < M
      · rw [if_pos hl] at hs
        by_cases hcq : own_cc f p2 (2 * q) = true
        · rw [if_pos hcq] at hs
          have pre0 : ∀ t, Steps p.tables e below (T0.setTop (mkF m 67 #[.val (.ref a0), .val (.int p1), .val (.int p2), .val (.int (Int32.ofNat q)), s4] [])) t → Steps p.tables e below (T0.setTop (mkF m 67 #[.val (.ref a0), .val (.int p1), .val (.int p2), .val (.int (Int32.ofNat q)), s4] [])) t := fun _ k => k
          obtain ⟨T312, X312, e312, st312⟩ := getF X0 hx hZ hown (host := "") (Or.inl (hw _ (List.mem_of_getElem? (i := 14) rfl))) Via.refl e0 Fl0 (g := (mkF m 69 #[.val (.ref a0), .val (.int p1), .val (.int p2), .val (.int (Int32.ofNat q)), s4] [(.ref a0), (.int (Int32.ofNat q))])) rfl rfl (hb hby d6_69)
          obtain ⟨T313, X313, e313, st313⟩ := getF X312 hx hZ hown (host := "") (Or.inl (hw _ (List.mem_of_getElem? (i := 16) rfl))) Via.refl e312 Fm0 (g := (mkF m 81 #[.val (.ref a0), .val (.int p1), .val (.int p2), .val (.int (Int32.ofNat q)), .val (.int ((2 : Int32) * (Int32.ofNat q)))] [(.ref a0)])) rfl rfl (hb hby d6_81)
          have pre314 : ∀ t, Steps p.tables e below (T313.setTop (mkF m 67 #[.val (.ref a0), .val (.int p1), .val (.int p2), .val (.int ((2 : Int32) * (Int32.ofNat q))), .val (.int ((2 : Int32) * (Int32.ofNat q)))] [])) t → Steps p.tables e below (T0.setTop (mkF m 67 #[.val (.ref a0), .val (.int p1), .val (.int p2), .val (.int (Int32.ofNat q)), s4] [])) t := fun t kt => by
            refine pre0 _ ?_
            show Steps p.tables e below (T0.setTop (mkF m 67 #[.val (.ref a0), .val (.int p1), .val (.int p2), .val (.int (Int32.ofNat q)), s4] [])) _
            refine XS.iloadN X0.here hx rfl (hb hby d6_67) rfl ?_
            show Steps p.tables e below (T0.setTop (mkF m 68 #[.val (.ref a0), .val (.int p1), .val (.int p2), .val (.int (Int32.ofNat q)), s4] [(.int (Int32.ofNat q))])) _
            refine XS.aloadN X0.here hx rfl (hb hby d6_68) rfl rfl ?_
            show Steps p.tables e below (T0.setTop (mkF m 69 #[.val (.ref a0), .val (.int p1), .val (.int p2), .val (.int (Int32.ofNat q)), s4] [(.ref a0), (.int (Int32.ofNat q))])) _
            refine st312 _ ?_
            show Steps p.tables e below (T312.setTop (mkF m 72 #[.val (.ref a0), .val (.int p1), .val (.int p2), .val (.int (Int32.ofNat q)), s4] [(.int (Int32.ofNat M)), (.int (Int32.ofNat q))])) _
            refine XS.icmpNo X312.here hx rfl (hb hby d6_72) rfl (tlt ((own_ltn (by omega) (by omega)).mpr hl)).2.1 ?_
            show Steps p.tables e below (T312.setTop (mkF m 75 #[.val (.ref a0), .val (.int p1), .val (.int p2), .val (.int (Int32.ofNat q)), s4] [])) _
            refine XS.iconst X312.here hx rfl (hb hby d6_75) ?_
            show Steps p.tables e below (T312.setTop (mkF m 76 #[.val (.ref a0), .val (.int p1), .val (.int p2), .val (.int (Int32.ofNat q)), s4] [(.int (2 : Int32))])) _
            refine XS.iloadN X312.here hx rfl (hb hby d6_76) rfl ?_
            show Steps p.tables e below (T312.setTop (mkF m 77 #[.val (.ref a0), .val (.int p1), .val (.int p2), .val (.int (Int32.ofNat q)), s4] [(.int (Int32.ofNat q)), (.int (2 : Int32))])) _
            refine XS.imul X312.here hx rfl (hb hby d6_77) rfl ?_
            show Steps p.tables e below (T312.setTop (mkF m 78 #[.val (.ref a0), .val (.int p1), .val (.int p2), .val (.int (Int32.ofNat q)), s4] [(.int ((2 : Int32) * (Int32.ofNat q)))])) _
            refine XS.istore X312.here hx rfl (hb hby d6_78) rfl (l' := #[.val (.ref a0), .val (.int p1), .val (.int p2), .val (.int (Int32.ofNat q)), .val (.int ((2 : Int32) * (Int32.ofNat q)))]) (own_os h4) ?_
            show Steps p.tables e below (T312.setTop (mkF m 80 #[.val (.ref a0), .val (.int p1), .val (.int p2), .val (.int (Int32.ofNat q)), .val (.int ((2 : Int32) * (Int32.ofNat q)))] [])) _
            refine XS.aloadN X312.here hx rfl (hb hby d6_80) rfl rfl ?_
            show Steps p.tables e below (T312.setTop (mkF m 81 #[.val (.ref a0), .val (.int p1), .val (.int p2), .val (.int (Int32.ofNat q)), .val (.int ((2 : Int32) * (Int32.ofNat q)))] [(.ref a0)])) _
            refine st313 _ ?_
            show Steps p.tables e below (T313.setTop (mkF m 84 #[.val (.ref a0), .val (.int p1), .val (.int p2), .val (.int (Int32.ofNat q)), .val (.int ((2 : Int32) * (Int32.ofNat q)))] [(.ref ar)])) _
            refine XS.iload X313.here hx rfl (hb hby d6_84) rfl ?_
            show Steps p.tables e below (T313.setTop (mkF m 86 #[.val (.ref a0), .val (.int p1), .val (.int p2), .val (.int (Int32.ofNat q)), .val (.int ((2 : Int32) * (Int32.ofNat q)))] [(.int ((2 : Int32) * (Int32.ofNat q))), (.ref ar)])) _
            refine own_rdI X313 hx hZ e313 V0 (j := ((2 : Int32) * (Int32.ofNat q))) (i := (2 * q)) (own_i2 (by omega)) (by omega) (g := (mkF m 86 #[.val (.ref a0), .val (.int p1), .val (.int p2), .val (.int (Int32.ofNat q)), .val (.int ((2 : Int32) * (Int32.ofNat q)))] [(.int ((2 : Int32) * (Int32.ofNat q))), (.ref ar)])) rfl rfl (hb hby d6_86) _ ?_
            show Steps p.tables e below (T313.setTop (mkF m 87 #[.val (.ref a0), .val (.int p1), .val (.int p2), .val (.int (Int32.ofNat q)), .val (.int ((2 : Int32) * (Int32.ofNat q)))] [(.int (f (2 * q)))])) _
            refine XS.iloadN X313.here hx rfl (hb hby d6_87) rfl ?_
            show Steps p.tables e below (T313.setTop (mkF m 88 #[.val (.ref a0), .val (.int p1), .val (.int p2), .val (.int (Int32.ofNat q)), .val (.int ((2 : Int32) * (Int32.ofNat q)))] [(.int p2), (.int (f (2 * q)))])) _
            refine XS.icmpNo X313.here hx rfl (hb hby d6_88) rfl (flt (own_ccF hcq)).1 ?_
            show Steps p.tables e below (T313.setTop (mkF m 91 #[.val (.ref a0), .val (.int p1), .val (.int p2), .val (.int (Int32.ofNat q)), .val (.int ((2 : Int32) * (Int32.ofNat q)))] [])) _
            refine XS.iload X313.here hx rfl (hb hby d6_91) rfl ?_
            show Steps p.tables e below (T313.setTop (mkF m 93 #[.val (.ref a0), .val (.int p1), .val (.int p2), .val (.int (Int32.ofNat q)), .val (.int ((2 : Int32) * (Int32.ofNat q)))] [(.int ((2 : Int32) * (Int32.ofNat q)))])) _
            refine XS.goto X313.here hx rfl (pc0 := 93) (pc' := 100) rfl (hb hby d6_93) (by decide) (by decide) ?_
            show Steps p.tables e below (T313.setTop (mkF m 100 #[.val (.ref a0), .val (.int p1), .val (.int p2), .val (.int (Int32.ofNat q)), .val (.int ((2 : Int32) * (Int32.ofNat q)))] [(.int ((2 : Int32) * (Int32.ofNat q)))])) _
            refine XS.istoreN X313.here hx rfl (hb hby d6_100) rfl (l' := #[.val (.ref a0), .val (.int p1), .val (.int p2), .val (.int ((2 : Int32) * (Int32.ofNat q))), .val (.int ((2 : Int32) * (Int32.ofNat q)))]) rfl ?_
            show Steps p.tables e below (T313.setTop (mkF m 101 #[.val (.ref a0), .val (.int p1), .val (.int p2), .val (.int ((2 : Int32) * (Int32.ofNat q))), .val (.int ((2 : Int32) * (Int32.ofNat q)))] [])) _
            refine XS.goto X313.here hx rfl (pc0 := 101) (pc' := 67) rfl (hb hby d6_101) (by decide) (by decide) ?_
            show Steps p.tables e below (T313.setTop (mkF m 67 #[.val (.ref a0), .val (.int p1), .val (.int p2), .val (.int ((2 : Int32) * (Int32.ofNat q))), .val (.int ((2 : Int32) * (Int32.ofNat q)))] [])) _
            exact kt
          have ev : ((2 : Int32) * (Int32.ofNat q)) = Int32.ofNat (2 * q) := by rw [own_dbl]
          obtain ⟨T', s5, X', e', st⟩ := ih T313 (2 * q) r _ X313 e313 (One.val (w := (.int ((2 : Int32) * (Int32.ofNat q)))) rfl) hs
          rw [← ev] at st
          exact ⟨T', s5, X', e', fun t kt => pre314 t (st t kt)⟩
        · rw [if_neg hcq] at hs
          have pre0 : ∀ t, Steps p.tables e below (T0.setTop (mkF m 67 #[.val (.ref a0), .val (.int p1), .val (.int p2), .val (.int (Int32.ofNat q)), s4] [])) t → Steps p.tables e below (T0.setTop (mkF m 67 #[.val (.ref a0), .val (.int p1), .val (.int p2), .val (.int (Int32.ofNat q)), s4] [])) t := fun _ k => k
          obtain ⟨T315, X315, e315, st315⟩ := getF X0 hx hZ hown (host := "") (Or.inl (hw _ (List.mem_of_getElem? (i := 14) rfl))) Via.refl e0 Fl0 (g := (mkF m 69 #[.val (.ref a0), .val (.int p1), .val (.int p2), .val (.int (Int32.ofNat q)), s4] [(.ref a0), (.int (Int32.ofNat q))])) rfl rfl (hb hby d6_69)
          obtain ⟨T316, X316, e316, st316⟩ := getF X315 hx hZ hown (host := "") (Or.inl (hw _ (List.mem_of_getElem? (i := 16) rfl))) Via.refl e315 Fm0 (g := (mkF m 81 #[.val (.ref a0), .val (.int p1), .val (.int p2), .val (.int (Int32.ofNat q)), .val (.int ((2 : Int32) * (Int32.ofNat q)))] [(.ref a0)])) rfl rfl (hb hby d6_81)
          have pre317 : ∀ t, Steps p.tables e below (T316.setTop (mkF m 67 #[.val (.ref a0), .val (.int p1), .val (.int p2), .val (.int (((2 : Int32) * (Int32.ofNat q)) + (1 : Int32))), .val (.int ((2 : Int32) * (Int32.ofNat q)))] [])) t → Steps p.tables e below (T0.setTop (mkF m 67 #[.val (.ref a0), .val (.int p1), .val (.int p2), .val (.int (Int32.ofNat q)), s4] [])) t := fun t kt => by
            refine pre0 _ ?_
            show Steps p.tables e below (T0.setTop (mkF m 67 #[.val (.ref a0), .val (.int p1), .val (.int p2), .val (.int (Int32.ofNat q)), s4] [])) _
            refine XS.iloadN X0.here hx rfl (hb hby d6_67) rfl ?_
            show Steps p.tables e below (T0.setTop (mkF m 68 #[.val (.ref a0), .val (.int p1), .val (.int p2), .val (.int (Int32.ofNat q)), s4] [(.int (Int32.ofNat q))])) _
            refine XS.aloadN X0.here hx rfl (hb hby d6_68) rfl rfl ?_
            show Steps p.tables e below (T0.setTop (mkF m 69 #[.val (.ref a0), .val (.int p1), .val (.int p2), .val (.int (Int32.ofNat q)), s4] [(.ref a0), (.int (Int32.ofNat q))])) _
            refine st315 _ ?_
            show Steps p.tables e below (T315.setTop (mkF m 72 #[.val (.ref a0), .val (.int p1), .val (.int p2), .val (.int (Int32.ofNat q)), s4] [(.int (Int32.ofNat M)), (.int (Int32.ofNat q))])) _
            refine XS.icmpNo X315.here hx rfl (hb hby d6_72) rfl (tlt ((own_ltn (by omega) (by omega)).mpr hl)).2.1 ?_
            show Steps p.tables e below (T315.setTop (mkF m 75 #[.val (.ref a0), .val (.int p1), .val (.int p2), .val (.int (Int32.ofNat q)), s4] [])) _
            refine XS.iconst X315.here hx rfl (hb hby d6_75) ?_
            show Steps p.tables e below (T315.setTop (mkF m 76 #[.val (.ref a0), .val (.int p1), .val (.int p2), .val (.int (Int32.ofNat q)), s4] [(.int (2 : Int32))])) _
            refine XS.iloadN X315.here hx rfl (hb hby d6_76) rfl ?_
            show Steps p.tables e below (T315.setTop (mkF m 77 #[.val (.ref a0), .val (.int p1), .val (.int p2), .val (.int (Int32.ofNat q)), s4] [(.int (Int32.ofNat q)), (.int (2 : Int32))])) _
            refine XS.imul X315.here hx rfl (hb hby d6_77) rfl ?_
            show Steps p.tables e below (T315.setTop (mkF m 78 #[.val (.ref a0), .val (.int p1), .val (.int p2), .val (.int (Int32.ofNat q)), s4] [(.int ((2 : Int32) * (Int32.ofNat q)))])) _
            refine XS.istore X315.here hx rfl (hb hby d6_78) rfl (l' := #[.val (.ref a0), .val (.int p1), .val (.int p2), .val (.int (Int32.ofNat q)), .val (.int ((2 : Int32) * (Int32.ofNat q)))]) (own_os h4) ?_
            show Steps p.tables e below (T315.setTop (mkF m 80 #[.val (.ref a0), .val (.int p1), .val (.int p2), .val (.int (Int32.ofNat q)), .val (.int ((2 : Int32) * (Int32.ofNat q)))] [])) _
            refine XS.aloadN X315.here hx rfl (hb hby d6_80) rfl rfl ?_
            show Steps p.tables e below (T315.setTop (mkF m 81 #[.val (.ref a0), .val (.int p1), .val (.int p2), .val (.int (Int32.ofNat q)), .val (.int ((2 : Int32) * (Int32.ofNat q)))] [(.ref a0)])) _
            refine st316 _ ?_
            show Steps p.tables e below (T316.setTop (mkF m 84 #[.val (.ref a0), .val (.int p1), .val (.int p2), .val (.int (Int32.ofNat q)), .val (.int ((2 : Int32) * (Int32.ofNat q)))] [(.ref ar)])) _
            refine XS.iload X316.here hx rfl (hb hby d6_84) rfl ?_
            show Steps p.tables e below (T316.setTop (mkF m 86 #[.val (.ref a0), .val (.int p1), .val (.int p2), .val (.int (Int32.ofNat q)), .val (.int ((2 : Int32) * (Int32.ofNat q)))] [(.int ((2 : Int32) * (Int32.ofNat q))), (.ref ar)])) _
            refine own_rdI X316 hx hZ e316 V0 (j := ((2 : Int32) * (Int32.ofNat q))) (i := (2 * q)) (own_i2 (by omega)) (by omega) (g := (mkF m 86 #[.val (.ref a0), .val (.int p1), .val (.int p2), .val (.int (Int32.ofNat q)), .val (.int ((2 : Int32) * (Int32.ofNat q)))] [(.int ((2 : Int32) * (Int32.ofNat q))), (.ref ar)])) rfl rfl (hb hby d6_86) _ ?_
            show Steps p.tables e below (T316.setTop (mkF m 87 #[.val (.ref a0), .val (.int p1), .val (.int p2), .val (.int (Int32.ofNat q)), .val (.int ((2 : Int32) * (Int32.ofNat q)))] [(.int (f (2 * q)))])) _
            refine XS.iloadN X316.here hx rfl (hb hby d6_87) rfl ?_
            show Steps p.tables e below (T316.setTop (mkF m 88 #[.val (.ref a0), .val (.int p1), .val (.int p2), .val (.int (Int32.ofNat q)), .val (.int ((2 : Int32) * (Int32.ofNat q)))] [(.int p2), (.int (f (2 * q)))])) _
            refine XS.icmpYes X316.here hx rfl (pc0 := 88) (pc' := 96) rfl (hb hby d6_88) rfl (tlt (own_ccT hcq)).1 (by decide) (by decide) ?_
            show Steps p.tables e below (T316.setTop (mkF m 96 #[.val (.ref a0), .val (.int p1), .val (.int p2), .val (.int (Int32.ofNat q)), .val (.int ((2 : Int32) * (Int32.ofNat q)))] [])) _
            refine XS.iload X316.here hx rfl (hb hby d6_96) rfl ?_
            show Steps p.tables e below (T316.setTop (mkF m 98 #[.val (.ref a0), .val (.int p1), .val (.int p2), .val (.int (Int32.ofNat q)), .val (.int ((2 : Int32) * (Int32.ofNat q)))] [(.int ((2 : Int32) * (Int32.ofNat q)))])) _
            refine XS.iconst X316.here hx rfl (hb hby d6_98) ?_
            show Steps p.tables e below (T316.setTop (mkF m 99 #[.val (.ref a0), .val (.int p1), .val (.int p2), .val (.int (Int32.ofNat q)), .val (.int ((2 : Int32) * (Int32.ofNat q)))] [(.int (1 : Int32)), (.int ((2 : Int32) * (Int32.ofNat q)))])) _
            refine XS.iadd X316.here hx rfl (hb hby d6_99) rfl ?_
            show Steps p.tables e below (T316.setTop (mkF m 100 #[.val (.ref a0), .val (.int p1), .val (.int p2), .val (.int (Int32.ofNat q)), .val (.int ((2 : Int32) * (Int32.ofNat q)))] [(.int (((2 : Int32) * (Int32.ofNat q)) + (1 : Int32)))])) _
            refine XS.istoreN X316.here hx rfl (hb hby d6_100) rfl (l' := #[.val (.ref a0), .val (.int p1), .val (.int p2), .val (.int (((2 : Int32) * (Int32.ofNat q)) + (1 : Int32))), .val (.int ((2 : Int32) * (Int32.ofNat q)))]) rfl ?_
            show Steps p.tables e below (T316.setTop (mkF m 101 #[.val (.ref a0), .val (.int p1), .val (.int p2), .val (.int (((2 : Int32) * (Int32.ofNat q)) + (1 : Int32))), .val (.int ((2 : Int32) * (Int32.ofNat q)))] [])) _
            refine XS.goto X316.here hx rfl (pc0 := 101) (pc' := 67) rfl (hb hby d6_101) (by decide) (by decide) ?_
            show Steps p.tables e below (T316.setTop (mkF m 67 #[.val (.ref a0), .val (.int p1), .val (.int p2), .val (.int (((2 : Int32) * (Int32.ofNat q)) + (1 : Int32))), .val (.int ((2 : Int32) * (Int32.ofNat q)))] [])) _
            exact kt
          have ev : (((2 : Int32) * (Int32.ofNat q)) + (1 : Int32)) = Int32.ofNat (2 * q + 1) := by rw [own_dbl, own_add1]
          obtain ⟨T', s5, X', e', st⟩ := ih T316 (2 * q + 1) r _ X316 e316 (One.val (w := (.int ((2 : Int32) * (Int32.ofNat q)))) rfl) hs
          rw [← ev] at st
          exact ⟨T', s5, X', e', fun t kt => pre317 t (st t kt)⟩
      · rw [if_neg hl] at hs
        have er := Option.some.inj hs
        subst er
        have pre0 : ∀ t, Steps p.tables e below (T0.setTop (mkF m 67 #[.val (.ref a0), .val (.int p1), .val (.int p2), .val (.int (Int32.ofNat q)), s4] [])) t → Steps p.tables e below (T0.setTop (mkF m 67 #[.val (.ref a0), .val (.int p1), .val (.int p2), .val (.int (Int32.ofNat q)), s4] [])) t := fun _ k => k
        obtain ⟨T318, X318, e318, st318⟩ := getF X0 hx hZ hown (host := "") (Or.inl (hw _ (List.mem_of_getElem? (i := 14) rfl))) Via.refl e0 Fl0 (g := (mkF m 69 #[.val (.ref a0), .val (.int p1), .val (.int p2), .val (.int (Int32.ofNat q)), s4] [(.ref a0), (.int (Int32.ofNat q))])) rfl rfl (hb hby d6_69)
        have pre319 : ∀ t, Steps p.tables e below (T318.setTop (mkF m 104 #[.val (.ref a0), .val (.int p1), .val (.int p2), .val (.int (Int32.ofNat q)), s4] [])) t → Steps p.tables e below (T0.setTop (mkF m 67 #[.val (.ref a0), .val (.int p1), .val (.int p2), .val (.int (Int32.ofNat q)), s4] [])) t := fun t kt => by
          refine pre0 _ ?_
          show Steps p.tables e below (T0.setTop (mkF m 67 #[.val (.ref a0), .val (.int p1), .val (.int p2), .val (.int (Int32.ofNat q)), s4] [])) _
          refine XS.iloadN X0.here hx rfl (hb hby d6_67) rfl ?_
          show Steps p.tables e below (T0.setTop (mkF m 68 #[.val (.ref a0), .val (.int p1), .val (.int p2), .val (.int (Int32.ofNat q)), s4] [(.int (Int32.ofNat q))])) _
          refine XS.aloadN X0.here hx rfl (hb hby d6_68) rfl rfl ?_
          show Steps p.tables e below (T0.setTop (mkF m 69 #[.val (.ref a0), .val (.int p1), .val (.int p2), .val (.int (Int32.ofNat q)), s4] [(.ref a0), (.int (Int32.ofNat q))])) _
          refine st318 _ ?_
          show Steps p.tables e below (T318.setTop (mkF m 72 #[.val (.ref a0), .val (.int p1), .val (.int p2), .val (.int (Int32.ofNat q)), s4] [(.int (Int32.ofNat M)), (.int (Int32.ofNat q))])) _
          refine XS.icmpYes X318.here hx rfl (pc0 := 72) (pc' := 104) rfl (hb hby d6_72) rfl (flt (fun z => hl ((own_ltn (by omega) (by omega)).mp z))).2.1 (by decide) (by decide) ?_
          show Steps p.tables e below (T318.setTop (mkF m 104 #[.val (.ref a0), .val (.int p1), .val (.int p2), .val (.int (Int32.ofNat q)), s4] [])) _
          exact kt
        exact ⟨T318, s4, X318, e318, pre319⟩
    · rw [if_neg h2] at hs; cases hs
theorem ef_6 (m : MethodId) (a0 : Addr) (p2 : Int32) : entryFrame m #[(.ref a0), (.int (Int32.ofNat fm)), (.int p2)] 5 = mkF m 0 #[.val (.ref a0), .val (.int (Int32.ofNat fm)), .val (.int p2), .unset, .unset] [] := by first | (simp [entryFrame, mkF, argsToLocals, Value.category]; done) | rfl
def Q6 (Z : State) (a0 : Addr) (p2 : Int32) (M : Nat) (fm : Nat) (ar : Addr) (f : Nat → Int32) (R : Option Nat) (h0 : Heap) (n0 : Nat) (v : Option Value) (h : Heap) (L : List Loc) : Prop := v = some (.int (own_val R)) ∧ Fr n0 L ∧ h = h0
set_option maxRecDepth 65536 in
set_option maxHeartbeats 40000000 in
theorem rm6 (l : Launch) (Z : State) (aq : Array Value) (hw : ∀ d ∈ tables_1, d.before aq Z = true) (ws : List Jvm.Cond) (a0 : Addr) (p2 : Int32) (M : Nat) (fm : Nat) (ar : Addr) (f : Nat → Int32) (R : Option Nat) (h0 : Heap) (n0 : Nat) (Z0 : n0 ≤ h0.size) (Fl_ : Fld Z h0 a0 "com/example/packwright/packwright/core/bins/FreeSpaceTree" "leaves" "I" (.int (Int32.ofNat M))) (Fm_ : Fld Z h0 a0 "com/example/packwright/packwright/core/bins/FreeSpaceTree" "maxFree" "[I" (.ref ar)) (V_ : own_Ar Z h0 ar .int (2 * M) f) (hM : M = 1 ∨ M = 2 ∨ M = 4 ∨ M = 8) (hfm : fm < 16) (hres : own_res (own_cc f p2) M fm = some R) :
    MetFree l (⟨"com/example/packwright/packwright/core/bins/FreeSpaceTree", "earliest", "(II)I"⟩ : MethodName) (head1 (Jvm.Cond.code (⟨"com/example/packwright/packwright/core/bins/FreeSpaceTree", "earliest", "(II)I"⟩ : MethodName) prog_58_method_4_code 5 (some .int) :: ws) ({ frames := 0, cells := 0, slots := 0, locals := 0 } : Room)) (fun a U => a = #[(.ref a0), (.int (Int32.ofNat fm)), (.int p2)] ∧ Z.Warmed39 U.vm ∧ U.heap = h0) (fun _ _ _ _ _ => True) (fun _ U o U' => ∃ v L, o = .returned v ∧ Q6 Z a0 p2 M fm ar f R h0 n0 v U'.heap L ∧ FrameEnd U o U' L ({ frames := 0, cells := 0, slots := 0, locals := 0 } : Room).cells ({ frames := 0, cells := 0, slots := 0, locals := 0 } : Room).slots) := by
  refine MetFree.of_bodySF (plainFor_of_name pn1235653) hisR ?_
  intro p e s m args below meth c s₁ Bd hml0 hP hK
  obtain ⟨rfl, hZ, hh⟩ := hP
  have hx := Bd.exec
  have hby := Bd.bytes
  have hml : c.maxLocals = 5 := hml0
  have hown : s.vm.findClass "com/example/packwright/packwright/core/bins/FreeSpaceTree" = some m.cls := findClass_of_methodNamed Bd.named
  have hnm := (name_of_methodNamed Bd.named Bd.method).1
  have X0 : Stand p l e ({ frames := 0, cells := 0, slots := 0, locals := 0 } : Room) s m #[(.ref a0), (.int (Int32.ofNat fm)), (.int p2)] below meth c s₁ [] 0 0 := Stand.of_body Bd
  have e0 : s₁.heap = h0 := by rw [← hh, Bd.state]; rfl
  have N0 := Fr.nil n0
  have pre0 : ∀ t, Steps p.tables e below (s₁.setTop (mkF m 0 #[.val (.ref a0), .val (.int (Int32.ofNat fm)), .val (.int p2), .unset, .unset] [])) t → Steps p.tables e below (s₁.setTop (entryFrame m #[(.ref a0), (.int (Int32.ofNat fm)), (.int p2)] 5)) t := fun t k => castTop (ef_6 m a0 p2) k
  obtain ⟨T320, X320, e320, st320⟩ := getF X0 hx hZ hown (host := "") (Or.inl (hw _ (List.mem_of_getElem? (i := 14) rfl))) Via.refl e0 Fl_ (g := (mkF m 2 #[.val (.ref a0), .val (.int (Int32.ofNat fm)), .val (.int p2), .unset, .unset] [(.ref a0), (.int (Int32.ofNat fm))])) rfl rfl (hb hby d6_2)
  have pre321 : ∀ t, Steps p.tables e below (T320.setTop (mkF m 5 #[.val (.ref a0), .val (.int (Int32.ofNat fm)), .val (.int p2), .unset, .unset] [(.int (Int32.ofNat M)), (.int (Int32.ofNat fm))])) t → Steps p.tables e below (s₁.setTop (entryFrame m #[(.ref a0), (.int (Int32.ofNat fm)), (.int p2)] 5)) t := fun t kt => by
    refine pre0 _ ?_
    show Steps p.tables e below (s₁.setTop (mkF m 0 #[.val (.ref a0), .val (.int (Int32.ofNat fm)), .val (.int p2), .unset, .unset] [])) _
    refine XS.iloadN X0.here hx rfl (hb hby d6_0) rfl ?_
    show Steps p.tables e below (s₁.setTop (mkF m 1 #[.val (.ref a0), .val (.int (Int32.ofNat fm)), .val (.int p2), .unset, .unset] [(.int (Int32.ofNat fm))])) _
    refine XS.aloadN X0.here hx rfl (hb hby d6_1) rfl rfl ?_
    show Steps p.tables e below (s₁.setTop (mkF m 2 #[.val (.ref a0), .val (.int (Int32.ofNat fm)), .val (.int p2), .unset, .unset] [(.ref a0), (.int (Int32.ofNat fm))])) _
    refine st320 _ ?_
    show Steps p.tables e below (T320.setTop (mkF m 5 #[.val (.ref a0), .val (.int (Int32.ofNat fm)), .val (.int p2), .unset, .unset] [(.int (Int32.ofNat M)), (.int (Int32.ofNat fm))])) _
    exact kt
  by_cases hc322 : (Int32.ofNat fm) < (Int32.ofNat M)
  · skip
    have pre323 : ∀ t, Steps p.tables e below (T320.setTop (mkF m 11 #[.val (.ref a0), .val (.int (Int32.ofNat fm)), .val (.int p2), .unset, .unset] [(.int (Int32.ofNat fm))])) t → Steps p.tables e below (s₁.setTop (entryFrame m #[(.ref a0), (.int (Int32.ofNat fm)), (.int p2)] 5)) t := fun t kt => by
      refine pre321 _ ?_
      show Steps p.tables e below (T320.setTop (mkF m 5 #[.val (.ref a0), .val (.int (Int32.ofNat fm)), .val (.int p2), .unset, .unset] [(.int (Int32.ofNat M)), (.int (Int32.ofNat fm))])) _
      refine XS.icmpYes X320.here hx rfl (pc0 := 5) (pc' := 10) rfl (hb hby d6_5) rfl (tlt hc322).1 (by decide) (by decide) ?_
      show Steps p.tables e below (T320.setTop (mkF m 10 #[.val (.ref a0), .val (.int (Int32.ofNat fm)), .val (.int p2), .unset, .unset] [])) _
      refine XS.iloadN X320.here hx rfl (hb hby d6_10) rfl ?_
      show Steps p.tables e below (T320.setTop (mkF m 11 #[.val (.ref a0), .val (.int (Int32.ofNat fm)), .val (.int p2), .unset, .unset] [(.int (Int32.ofNat fm))])) _
      exact kt
    by_cases hc324 : (Int32.ofNat fm) = (0 : Int32)
    · skip
      have pre325 : ∀ t, Steps p.tables e below (T320.setTop (mkF m 25 #[.val (.ref a0), .val (.int (Int32.ofNat fm)), .val (.int p2), .val (.int (1 : Int32)), .unset] [])) t → Steps p.tables e below (s₁.setTop (entryFrame m #[(.ref a0), (.int (Int32.ofNat fm)), (.int p2)] 5)) t := fun t kt => by
        refine pre323 _ ?_
        show Steps p.tables e below (T320.setTop (mkF m 11 #[.val (.ref a0), .val (.int (Int32.ofNat fm)), .val (.int p2), .unset, .unset] [(.int (Int32.ofNat fm))])) _
        refine XS.ifNo X320.here hx rfl (hb hby d6_11) rfl ((if0 _ _).trans (teq hc324).2) ?_
        show Steps p.tables e below (T320.setTop (mkF m 14 #[.val (.ref a0), .val (.int (Int32.ofNat fm)), .val (.int p2), .unset, .unset] [])) _
        refine XS.iconst X320.here hx rfl (hb hby d6_14) ?_
        show Steps p.tables e below (T320.setTop (mkF m 15 #[.val (.ref a0), .val (.int (Int32.ofNat fm)), .val (.int p2), .unset, .unset] [(.int (1 : Int32))])) _
        refine XS.goto X320.here hx rfl (pc0 := 15) (pc' := 24) rfl (hb hby d6_15) (by decide) (by decide) ?_
        show Steps p.tables e below (T320.setTop (mkF m 24 #[.val (.ref a0), .val (.int (Int32.ofNat fm)), .val (.int p2), .unset, .unset] [(.int (1 : Int32))])) _
        refine XS.istoreN X320.here hx rfl (hb hby d6_24) rfl (l' := #[.val (.ref a0), .val (.int (Int32.ofNat fm)), .val (.int p2), .val (.int (1 : Int32)), .unset]) rfl ?_
        show Steps p.tables e below (T320.setTop (mkF m 25 #[.val (.ref a0), .val (.int (Int32.ofNat fm)), .val (.int p2), .val (.int (1 : Int32)), .unset] [])) _
        exact kt
      have hlt : fm < M := (own_ltn (by omega) (by omega)).mp hc322
      have hq0 : (if fm = 0 then 1 else M + fm) = 1 := if_pos ((own_eq0 (by omega)).mp hc324)
      have pre326 : ∀ t, Steps p.tables e below (T320.setTop (mkF m 25 #[.val (.ref a0), .val (.int (Int32.ofNat fm)), .val (.int p2), .val (.int (Int32.ofNat 1)), .unset] [])) t → Steps p.tables e below (s₁.setTop (entryFrame m #[(.ref a0), (.int (Int32.ofNat fm)), (.int p2)] 5)) t := fun t kt => pre325 t (by exact kt)
      rcases own_res1 hres hlt hq0 with ⟨hsk, hR⟩ | ⟨q2, r, hsk, hds, hR⟩
      · skip
        obtain ⟨T', Ls, X', e', hor⟩ := lpo hx hZ hw hby hml hown (own_L16 hM) Fl_ Fm_ V_ 20 T320 1 none X320 e320 hsk
        rcases hor with ⟨a, st⟩ | ⟨q3, a, hq3, st⟩
        · skip
          have pre327 : ∀ t, Steps p.tables e below (T'.setTop (mkF m 60 Ls [(.int (-1 : Int32))])) t → Steps p.tables e below (s₁.setTop (entryFrame m #[(.ref a0), (.int (Int32.ofNat fm)), (.int p2)] 5)) t := fun t kt => pre326 t (st t kt)
          obtain ⟨fs, hr, hrun, hended, hW, hsame⟩ := X'.leave (v := some (.int (-1 : Int32))) (fun h => by rw [Bd.returns] at h; cases h)
          refine ⟨_, _, pre327 _ ?_, hrun, hended, _, _, rfl, ?_, ⟨_, rfl⟩, hW, hsame.mono (by decide) (by decide)⟩
          · exact retI X' hx Bd.returns (hb hby d6_60) hr
          · show Q6 Z a0 p2 M fm ar f R h0 n0 _ T'.heap _
            rw [e']
            exact ⟨(own_rI ((by rw [hR]; rfl) : (-1 : Int32) = own_val R)), N0, rfl⟩
        · cases a
      · skip
        obtain ⟨T', Ls, X', e', hor⟩ := lpo hx hZ hw hby hml hown (own_L16 hM) Fl_ Fm_ V_ 20 T320 1 (some q2) X320 e320 hsk
        rcases hor with ⟨a, st⟩ | ⟨q3, a, hq3, st⟩
        · cases a
        · skip
          have eq3 := Option.some.inj a
          subst eq3
          obtain ⟨T2, s5, X2, e2, st2⟩ := lpd hx hZ hw hby hml hown (own_L16 hM) Fl_ Fm_ V_ 5 T' q2 r .unset X' e' One.u hds
          have hge := own_ds_ge _ _ _ _ _ hds
          have pre328 : ∀ t, Steps p.tables e below (T2.setTop (mkF m 104 #[.val (.ref a0), .val (.int (Int32.ofNat fm)), .val (.int p2), .val (.int (Int32.ofNat r)), s5] [])) t → Steps p.tables e below (s₁.setTop (entryFrame m #[(.ref a0), (.int (Int32.ofNat fm)), (.int p2)] 5)) t := fun t kt => pre326 t (st t (st2 t kt))
          obtain ⟨T329, X329, e329, st329⟩ := getF X2 hx hZ hown (host := "") (Or.inl (hw _ (List.mem_of_getElem? (i := 14) rfl))) Via.refl e2 Fl_ (g := (mkF m 106 #[.val (.ref a0), .val (.int (Int32.ofNat fm)), .val (.int p2), .val (.int (Int32.ofNat r)), s5] [(.ref a0), (.int (Int32.ofNat r))])) rfl rfl (hb hby d6_106)
          have pre330 : ∀ t, Steps p.tables e below (T329.setTop (mkF m 110 #[.val (.ref a0), .val (.int (Int32.ofNat fm)), .val (.int p2), .val (.int (Int32.ofNat r)), s5] [(.int ((Int32.ofNat r) - (Int32.ofNat M)))])) t → Steps p.tables e below (s₁.setTop (entryFrame m #[(.ref a0), (.int (Int32.ofNat fm)), (.int p2)] 5)) t := fun t kt => by
            refine pre328 _ ?_
            show Steps p.tables e below (T2.setTop (mkF m 104 #[.val (.ref a0), .val (.int (Int32.ofNat fm)), .val (.int p2), .val (.int (Int32.ofNat r)), s5] [])) _
            refine XS.iloadN X2.here hx rfl (hb hby d6_104) rfl ?_
            show Steps p.tables e below (T2.setTop (mkF m 105 #[.val (.ref a0), .val (.int (Int32.ofNat fm)), .val (.int p2), .val (.int (Int32.ofNat r)), s5] [(.int (Int32.ofNat r))])) _
            refine XS.aloadN X2.here hx rfl (hb hby d6_105) rfl rfl ?_
            show Steps p.tables e below (T2.setTop (mkF m 106 #[.val (.ref a0), .val (.int (Int32.ofNat fm)), .val (.int p2), .val (.int (Int32.ofNat r)), s5] [(.ref a0), (.int (Int32.ofNat r))])) _
            refine st329 _ ?_
            show Steps p.tables e below (T329.setTop (mkF m 109 #[.val (.ref a0), .val (.int (Int32.ofNat fm)), .val (.int p2), .val (.int (Int32.ofNat r)), s5] [(.int (Int32.ofNat M)), (.int (Int32.ofNat r))])) _
            refine XS.isub X329.here hx rfl (hb hby d6_109) rfl ?_
            show Steps p.tables e below (T329.setTop (mkF m 110 #[.val (.ref a0), .val (.int (Int32.ofNat fm)), .val (.int p2), .val (.int (Int32.ofNat r)), s5] [(.int ((Int32.ofNat r) - (Int32.ofNat M)))])) _
            exact kt
          obtain ⟨fs, hr, hrun, hended, hW, hsame⟩ := X329.leave (v := some (.int ((Int32.ofNat r) - (Int32.ofNat M)))) (fun h => by rw [Bd.returns] at h; cases h)
          refine ⟨_, _, pre330 _ ?_, hrun, hended, _, _, rfl, ?_, ⟨_, rfl⟩, hW, hsame.mono (by decide) (by decide)⟩
          · exact retI X329 hx Bd.returns (hb hby d6_110) hr
          · show Q6 Z a0 p2 M fm ar f R h0 n0 _ T329.heap _
            rw [e329]
            exact ⟨(own_rI ((by rw [hR]; exact own_subn hge.1) : ((Int32.ofNat r) - (Int32.ofNat M)) = own_val R)), N0, rfl⟩
    · skip
      obtain ⟨T331, X331, e331, st331⟩ := getF X320 hx hZ hown (host := "") (Or.inl (hw _ (List.mem_of_getElem? (i := 14) rfl))) Via.refl e320 Fl_ (g := (mkF m 19 #[.val (.ref a0), .val (.int (Int32.ofNat fm)), .val (.int p2), .unset, .unset] [(.ref a0)])) rfl rfl (hb hby d6_19)
      have pre332 : ∀ t, Steps p.tables e below (T331.setTop (mkF m 25 #[.val (.ref a0), .val (.int (Int32.ofNat fm)), .val (.int p2), .val (.int ((Int32.ofNat M) + (Int32.ofNat fm))), .unset] [])) t → Steps p.tables e below (s₁.setTop (entryFrame m #[(.ref a0), (.int (Int32.ofNat fm)), (.int p2)] 5)) t := fun t kt => by
        refine pre323 _ ?_
        show Steps p.tables e below (T320.setTop (mkF m 11 #[.val (.ref a0), .val (.int (Int32.ofNat fm)), .val (.int p2), .unset, .unset] [(.int (Int32.ofNat fm))])) _
        refine XS.ifYes X320.here hx rfl (pc0 := 11) (pc' := 18) rfl (hb hby d6_11) rfl ((if0 _ _).trans (feq hc324).2) (by decide) (by decide) ?_
        show Steps p.tables e below (T320.setTop (mkF m 18 #[.val (.ref a0), .val (.int (Int32.ofNat fm)), .val (.int p2), .unset, .unset] [])) _
        refine XS.aloadN X320.here hx rfl (hb hby d6_18) rfl rfl ?_
        show Steps p.tables e below (T320.setTop (mkF m 19 #[.val (.ref a0), .val (.int (Int32.ofNat fm)), .val (.int p2), .unset, .unset] [(.ref a0)])) _
        refine st331 _ ?_
        show Steps p.tables e below (T331.setTop (mkF m 22 #[.val (.ref a0), .val (.int (Int32.ofNat fm)), .val (.int p2), .unset, .unset] [(.int (Int32.ofNat M))])) _
        refine XS.iloadN X331.here hx rfl (hb hby d6_22) rfl ?_
        show Steps p.tables e below (T331.setTop (mkF m 23 #[.val (.ref a0), .val (.int (Int32.ofNat fm)), .val (.int p2), .unset, .unset] [(.int (Int32.ofNat fm)), (.int (Int32.ofNat M))])) _
        refine XS.iadd X331.here hx rfl (hb hby d6_23) rfl ?_
        show Steps p.tables e below (T331.setTop (mkF m 24 #[.val (.ref a0), .val (.int (Int32.ofNat fm)), .val (.int p2), .unset, .unset] [(.int ((Int32.ofNat M) + (Int32.ofNat fm)))])) _
        refine XS.istoreN X331.here hx rfl (hb hby d6_24) rfl (l' := #[.val (.ref a0), .val (.int (Int32.ofNat fm)), .val (.int p2), .val (.int ((Int32.ofNat M) + (Int32.ofNat fm))), .unset]) rfl ?_
        show Steps p.tables e below (T331.setTop (mkF m 25 #[.val (.ref a0), .val (.int (Int32.ofNat fm)), .val (.int p2), .val (.int ((Int32.ofNat M) + (Int32.ofNat fm))), .unset] [])) _
        exact kt
      have hlt : fm < M := (own_ltn (by omega) (by omega)).mp hc322
      have hq0 : (if fm = 0 then 1 else M + fm) = (M + fm) := if_neg (fun z => hc324 ((own_eq0 (by omega)).mpr z))
      have pre333 : ∀ t, Steps p.tables e below (T331.setTop (mkF m 25 #[.val (.ref a0), .val (.int (Int32.ofNat fm)), .val (.int p2), .val (.int (Int32.ofNat (M + fm))), .unset] [])) t → Steps p.tables e below (s₁.setTop (entryFrame m #[(.ref a0), (.int (Int32.ofNat fm)), (.int p2)] 5)) t := fun t kt => pre332 t (by rw [own_addn]; exact kt)
      rcases own_res1 hres hlt hq0 with ⟨hsk, hR⟩ | ⟨q2, r, hsk, hds, hR⟩
      · skip
        obtain ⟨T', Ls, X', e', hor⟩ := lpo hx hZ hw hby hml hown (own_L16 hM) Fl_ Fm_ V_ 20 T331 (M + fm) none X331 e331 hsk
        rcases hor with ⟨a, st⟩ | ⟨q3, a, hq3, st⟩
        · skip
          have pre334 : ∀ t, Steps p.tables e below (T'.setTop (mkF m 60 Ls [(.int (-1 : Int32))])) t → Steps p.tables e below (s₁.setTop (entryFrame m #[(.ref a0), (.int (Int32.ofNat fm)), (.int p2)] 5)) t := fun t kt => pre333 t (st t kt)
          obtain ⟨fs, hr, hrun, hended, hW, hsame⟩ := X'.leave (v := some (.int (-1 : Int32))) (fun h => by rw [Bd.returns] at h; cases h)
          refine ⟨_, _, pre334 _ ?_, hrun, hended, _, _, rfl, ?_, ⟨_, rfl⟩, hW, hsame.mono (by decide) (by decide)⟩
          · exact retI X' hx Bd.returns (hb hby d6_60) hr
          · show Q6 Z a0 p2 M fm ar f R h0 n0 _ T'.heap _
            rw [e']
            exact ⟨(own_rI ((by rw [hR]; rfl) : (-1 : Int32) = own_val R)), N0, rfl⟩
        · cases a
      · skip
        obtain ⟨T', Ls, X', e', hor⟩ := lpo hx hZ hw hby hml hown (own_L16 hM) Fl_ Fm_ V_ 20 T331 (M + fm) (some q2) X331 e331 hsk
        rcases hor with ⟨a, st⟩ | ⟨q3, a, hq3, st⟩
        · cases a
        · skip
          have eq3 := Option.some.inj a
          subst eq3
          obtain ⟨T2, s5, X2, e2, st2⟩ := lpd hx hZ hw hby hml hown (own_L16 hM) Fl_ Fm_ V_ 5 T' q2 r .unset X' e' One.u hds
          have hge := own_ds_ge _ _ _ _ _ hds
          have pre335 : ∀ t, Steps p.tables e below (T2.setTop (mkF m 104 #[.val (.ref a0), .val (.int (Int32.ofNat fm)), .val (.int p2), .val (.int (Int32.ofNat r)), s5] [])) t → Steps p.tables e below (s₁.setTop (entryFrame m #[(.ref a0), (.int (Int32.ofNat fm)), (.int p2)] 5)) t := fun t kt => pre333 t (st t (st2 t kt))
          obtain ⟨T336, X336, e336, st336⟩ := getF X2 hx hZ hown (host := "") (Or.inl (hw _ (List.mem_of_getElem? (i := 14) rfl))) Via.refl e2 Fl_ (g := (mkF m 106 #[.val (.ref a0), .val (.int (Int32.ofNat fm)), .val (.int p2), .val (.int (Int32.ofNat r)), s5] [(.ref a0), (.int (Int32.ofNat r))])) rfl rfl (hb hby d6_106)
          have pre337 : ∀ t, Steps p.tables e below (T336.setTop (mkF m 110 #[.val (.ref a0), .val (.int (Int32.ofNat fm)), .val (.int p2), .val (.int (Int32.ofNat r)), s5] [(.int ((Int32.ofNat r) - (Int32.ofNat M)))])) t → Steps p.tables e below (s₁.setTop (entryFrame m #[(.ref a0), (.int (Int32.ofNat fm)), (.int p2)] 5)) t := fun t kt => by
            refine pre335 _ ?_
            show Steps p.tables e below (T2.setTop (mkF m 104 #[.val (.ref a0), .val (.int (Int32.ofNat fm)), .val (.int p2), .val (.int (Int32.ofNat r)), s5] [])) _
            refine XS.iloadN X2.here hx rfl (hb hby d6_104) rfl ?_
            show Steps p.tables e below (T2.setTop (mkF m 105 #[.val (.ref a0), .val (.int (Int32.ofNat fm)), .val (.int p2), .val (.int (Int32.ofNat r)), s5] [(.int (Int32.ofNat r))])) _
            refine XS.aloadN X2.here hx rfl (hb hby d6_105) rfl rfl ?_
            show Steps p.tables e below (T2.setTop (mkF m 106 #[.val (.ref a0), .val (.int (Int32.ofNat fm)), .val (.int p2), .val (.int (Int32.ofNat r)), s5] [(.ref a0), (.int (Int32.ofNat r))])) _
            refine st336 _ ?_
            show Steps p.tables e below (T336.setTop (mkF m 109 #[.val (.ref a0), .val (.int (Int32.ofNat fm)), .val (.int p2), .val (.int (Int32.ofNat r)), s5] [(.int (Int32.ofNat M)), (.int (Int32.ofNat r))])) _
            refine XS.isub X336.here hx rfl (hb hby d6_109) rfl ?_
            show Steps p.tables e below (T336.setTop (mkF m 110 #[.val (.ref a0), .val (.int (Int32.ofNat fm)), .val (.int p2), .val (.int (Int32.ofNat r)), s5] [(.int ((Int32.ofNat r) - (Int32.ofNat M)))])) _
            exact kt
          obtain ⟨fs, hr, hrun, hended, hW, hsame⟩ := X336.leave (v := some (.int ((Int32.ofNat r) - (Int32.ofNat M)))) (fun h => by rw [Bd.returns] at h; cases h)
          refine ⟨_, _, pre337 _ ?_, hrun, hended, _, _, rfl, ?_, ⟨_, rfl⟩, hW, hsame.mono (by decide) (by decide)⟩
          · exact retI X336 hx Bd.returns (hb hby d6_110) hr
          · show Q6 Z a0 p2 M fm ar f R h0 n0 _ T336.heap _
            rw [e336]
            exact ⟨(own_rI ((by rw [hR]; exact own_subn hge.1) : ((Int32.ofNat r) - (Int32.ofNat M)) = own_val R)), N0, rfl⟩
  · skip
    have pre338 : ∀ t, Steps p.tables e below (T320.setTop (mkF m 9 #[.val (.ref a0), .val (.int (Int32.ofNat fm)), .val (.int p2), .unset, .unset] [(.int (-1 : Int32))])) t → Steps p.tables e below (s₁.setTop (entryFrame m #[(.ref a0), (.int (Int32.ofNat fm)), (.int p2)] 5)) t := fun t kt => by
      refine pre321 _ ?_
      show Steps p.tables e below (T320.setTop (mkF m 5 #[.val (.ref a0), .val (.int (Int32.ofNat fm)), .val (.int p2), .unset, .unset] [(.int (Int32.ofNat M)), (.int (Int32.ofNat fm))])) _
      refine XS.icmpNo X320.here hx rfl (hb hby d6_5) rfl (flt hc322).1 ?_
      show Steps p.tables e below (T320.setTop (mkF m 8 #[.val (.ref a0), .val (.int (Int32.ofNat fm)), .val (.int p2), .unset, .unset] [])) _
      refine XS.iconst X320.here hx rfl (hb hby d6_8) ?_
      show Steps p.tables e below (T320.setTop (mkF m 9 #[.val (.ref a0), .val (.int (Int32.ofNat fm)), .val (.int p2), .unset, .unset] [(.int (-1 : Int32))])) _
      exact kt
    obtain ⟨fs, hr, hrun, hended, hW, hsame⟩ := X320.leave (v := some (.int (-1 : Int32))) (fun h => by rw [Bd.returns] at h; cases h)
    refine ⟨_, _, pre338 _ ?_, hrun, hended, _, _, rfl, ?_, ⟨_, rfl⟩, hW, hsame.mono (by decide) (by decide)⟩
    · exact retI X320 hx Bd.returns (hb hby d6_9) hr
    · show Q6 Z a0 p2 M fm ar f R h0 n0 _ T320.heap _
      rw [e320]
      exact ⟨(own_rI ((by rw [own_res, if_neg (fun z => hc322 ((own_ltn (by omega) (by omega)).mpr z))] at hres; rw [← Option.some.inj hres]; rfl) : (-1 : Int32) = own_val R)), N0, rfl⟩
theorem pd89259597 : parseMethodDescriptor "(IJIII)I" = some ⟨[.int, .long, .int, .int, .int], some .int⟩ := by decide +kernel
theorem pd9700594 : parseMethodDescriptor "(Lcom/example/packwright/packwright/core/bins/FreeSpaceTree;[IIII)V" = some ⟨[(.object "com/example/packwright/packwright/core/bins/FreeSpaceTree"), (.array .int), .int, .int, .int], none⟩ := by decide +kernel
theorem pd21711166 : parseMethodDescriptor "([IIII)I" = some ⟨[(.array .int), .int, .int, .int], some .int⟩ := by decide +kernel
theorem own_binsF : ∀ k : Fin 4, ((1 : Int32) <<< ((Int32.ofNat k.val) &&& 31)) = Int32.ofNat (2 ^ k.val) := by decide +kernel
theorem own_bins (x : Int32) : ∃ M : Nat, (M = 1 ∨ M = 2 ∨ M = 4 ∨ M = 8) ∧ ((1 : Int32) <<< ((x &&& (3 : Int32)) &&& 31)) = Int32.ofNat M := by
  have h := Jvm.Kit.i32_mask x 3 (k := 2) (by decide) (by decide)
  have e : x &&& (3 : Int32) = Int32.ofNat (x.toInt % 4).toNat := by
    apply Int32.toInt_inj.mp
    rw [h, own_n32 (by omega)]
    show x.toInt % 2 ^ 2 = ((x.toInt % 4).toNat : Int)
    omega
  have hk : (x.toInt % 4).toNat < 4 := by omega
  refine ⟨2 ^ (x.toInt % 4).toNat, ?_, ?_⟩
  · have q : (x.toInt % 4).toNat = 0 ∨ (x.toInt % 4).toNat = 1 ∨ (x.toInt % 4).toNat = 2 ∨ (x.toInt % 4).toNat = 3 := by omega
    rcases q with q | q | q | q <;> rw [q] <;> decide
  · rw [e]; exact own_binsF ⟨_, hk⟩
theorem own_from (x : Int32) : ∃ k : Nat, k < 16 ∧ (x &&& (15 : Int32)) = Int32.ofNat k := by
  have h := Jvm.Kit.i32_mask x 15 (k := 4) (by decide) (by decide)
  refine ⟨(x.toInt % 16).toNat, by omega, ?_⟩
  apply Int32.toInt_inj.mp
  rw [h, own_n32 (by omega)]
  show x.toInt % 2 ^ 4 = ((x.toInt % 16).toNat : Int)
  omega
def own_T (M : Nat) (f : Nat → Int32) : Prop := ∀ p, 1 ≤ p → p < M → f p = own_mx (f (2 * p)) (f (2 * p + 1))
theorem own_fixT (M : Nat) : ∀ (k : Nat) (f : Nat → Int32) (q : Nat), q < 2 ^ k → q < M → (∀ p, 1 ≤ p → p < M → (∀ i, p ≠ q / 2 ^ i) → f p = own_mx (f (2 * p)) (f (2 * p + 1))) →
    own_T M (own_fix k f q) ∧ ∀ p, M ≤ p → own_fix k f q p = f p
  | 0, f, q, hq, hqM, hT => by
    have e : q = 0 := by omega
    subst e
    refine ⟨fun p h1 h2 => ?_, fun p _ => rfl⟩
    exact hT p h1 h2 (fun i => by rw [Nat.zero_div]; omega)
  | k + 1, f, q, hq, hqM, hT => by
    by_cases h0 : q = 0
    · rw [own_fix, if_pos h0]
      refine ⟨fun p h1 h2 => hT p h1 h2 (fun i => by rw [h0, Nat.zero_div]; omega), fun p _ => rfl⟩
    · rw [own_fix, if_neg h0]
      have hp2 : q / 2 < 2 ^ k := by rw [Nat.pow_succ] at hq; omega
      obtain ⟨a, b⟩ := own_fixT M k (own_up f q (own_mx (f (2 * q)) (f (2 * q + 1)))) (q / 2) hp2 (by omega) (by
        intro p h1 h2 hne
        have hp0 : p ≠ q / 2 := by have z := hne 0; rwa [Nat.pow_zero, Nat.div_one] at z
        by_cases e : p = q
        · subst e
          rw [own_up_self, own_up_ne f _ (by omega), own_up_ne f _ (by omega)]
        · rw [own_up_ne f _ e, own_up_ne f _ (by omega), own_up_ne f _ (by omega)]
          refine hT p h1 h2 (fun i => ?_)
          cases i with
          | zero => rw [Nat.pow_zero, Nat.div_one]; exact e
          | succ i => rw [Nat.pow_succ, Nat.mul_comm, ← Nat.div_div_eq_div_mul]; exact hne i)
      refine ⟨a, fun p hp => ?_⟩
      rw [b p hp]
      exact own_up_ne f _ (by omega)
theorem own_stT {M : Nat} {f : Nat → Int32} {b : Nat} {v : Int32} (hM : M ≤ 8) (hb : b < M) (hT : own_T M f) : own_T M (own_st M f b v) ∧ ∀ j, j < M → own_st M f b v (M + j) = if j = b then v else f (M + j) := by
  obtain ⟨a, c⟩ := own_fixT M 4 (own_up f (M + b) v) ((M + b) / 2) (by omega) (by omega) (by
    intro p h1 h2 hne
    have hp0 : p ≠ (M + b) / 2 := by have z := hne 0; rwa [Nat.pow_zero, Nat.div_one] at z
    rw [own_up_ne f _ (by omega), own_up_ne f _ (by omega), own_up_ne f _ (by omega)]
    exact hT p h1 h2)
  refine ⟨a, fun j hj => ?_⟩
  have e : own_st M f b v (M + j) = own_up f (M + b) v (M + j) := c (M + j) (by omega)
  rw [e]
  by_cases q : j = b
  · rw [if_pos q, q]; exact own_up_self f _ v
  · rw [if_neg q]; exact own_up_ne f v (by omega)
def own_Inv (M : Nat) (fr : Nat → Int32) (base : Int32) (i : Nat) (f : Nat → Int32) : Prop := own_T M f ∧ ∀ j, j < M → f (M + j) = if j < i then fr j else base
theorem own_inv {M i : Nat} {fr f f' : Nat → Int32} {base : Int32} {B : Prop} [Decidable B] (hM : M ≤ 8) (hi : i ≤ 8) (h : own_Inv M fr base i f) (hf : f' = (if (Int32.ofNat i) < (Int32.ofNat M) then (if B then f else own_st M f i (fr i)) else f)) (hB : B → fr i = base) : own_Inv M fr base (i + 1) f' := by
  obtain ⟨hT, hl⟩ := h
  by_cases c : i < M
  · rw [if_pos ((own_ltn (by omega) (by omega)).mpr c)] at hf
    by_cases b : B
    · rw [if_pos b] at hf
      subst hf
      refine ⟨hT, fun j hj => ?_⟩
      rw [hl j hj]
      by_cases e : j < i
      · rw [if_pos e, if_pos (by omega)]
      · rw [if_neg e]
        by_cases e2 : j < i + 1
        · have e3 : j = i := by omega
          rw [if_pos e2, e3, hB b]
        · rw [if_neg e2]
    · rw [if_neg b] at hf
      subst hf
      obtain ⟨hT', hl'⟩ := own_stT (v := fr i) hM c hT
      refine ⟨hT', fun j hj => ?_⟩
      rw [hl' j hj]
      by_cases e : j = i
      · rw [if_pos e, if_pos (by omega), e]
      · rw [if_neg e, hl j hj]
        by_cases e2 : j < i
        · rw [if_pos e2, if_pos (by omega)]
        · rw [if_neg e2, if_neg (by omega)]
  · rw [if_neg (fun z => c ((own_ltn (by omega) (by omega)).mp z))] at hf
    subst hf
    refine ⟨hT, fun j hj => ?_⟩
    rw [hl j hj, if_pos (by omega), if_pos (by omega)]
theorem own_inv0 {M : Nat} {fr f : Nat → Int32} {base : Int32} (h : ∀ j, j < 2 * M → f j = base) : own_Inv M fr base 0 f := by
  refine ⟨fun p h1 h2 => ?_, fun j hj => ?_⟩
  · rw [h p (by omega), h (2 * p) (by omega), h (2 * p + 1) (by omega), own_mx]
    split <;> rfl
  · rw [h (M + j) (by omega), if_neg (by omega)]
theorem own_pk {P B : Prop} [Decidable P] [Decidable B] {v base x : Int32} (hv : v = (if P then (if B then base else x) else base)) (h : B) : v = base := by
  subst hv
  by_cases p : P
  · rw [if_pos p, if_pos h]
  · rw [if_neg p]
theorem own_mxz {a b z : Int32} : (!decide (own_mx a b < z)) = ((!decide (a < z)) || (!decide (b < z))) := by
  have e : own_mx a b < z ↔ a < z ∧ b < z := by
    rw [own_mx]
    split
    · rename_i h
      rw [Int32.lt_iff_toInt_lt] at h
      rw [Int32.lt_iff_toInt_lt, Int32.lt_iff_toInt_lt]; omega
    · rename_i h
      rw [Int32.lt_iff_toInt_lt] at h
      rw [Int32.lt_iff_toInt_lt, Int32.lt_iff_toInt_lt]; omega
  by_cases p : a < z <;> by_cases q : b < z <;> simp [e, p, q]
def own_bt (M : Nat) (h : Nat → Bool) : Nat → Nat → Bool
  | 0, _ => false
  | k + 1, p => if p < M then (own_bt M h k (2 * p) || own_bt M h k (2 * p + 1)) else h (p - M)
theorem own_btE {M : Nat} {c h : Nat → Bool} (hc : ∀ p, 1 ≤ p → p < M → c p = (c (2 * p) || c (2 * p + 1))) (hl : ∀ j, j < M → c (M + j) = h j) : ∀ (k p : Nat), 1 ≤ p → p < 2 * M → M ≤ p * 2 ^ k → own_bt M h (k + 1) p = c p
  | 0, p, h1, h2, h3 => by
    have q : ¬ p < M := by omega
    rw [own_bt, if_neg q]
    have e := hl (p - M) (by omega)
    rw [show M + (p - M) = p from by omega] at e
    exact e.symm
  | k + 1, p, h1, h2, h3 => by
    rw [own_bt]
    by_cases q : p < M
    · have e2 : (2 * p) * 2 ^ k = p * 2 ^ (k + 1) := by rw [Nat.pow_succ, Nat.mul_comm 2 p, Nat.mul_assoc, Nat.mul_comm 2 (2 ^ k)]
      have e3 : (2 * p) * 2 ^ k ≤ (2 * p + 1) * 2 ^ k := Nat.mul_le_mul_right _ (by omega)
      rw [if_pos q, own_btE hc hl k (2 * p) (by omega) (by omega) (by omega), own_btE hc hl k (2 * p + 1) (by omega) (by omega) (by omega), ← hc p h1 q]
    · rw [if_neg q]
      have e := hl (p - M) (by omega)
      rw [show M + (p - M) = p from by omega] at e
      exact e.symm
theorem own_seekE {c c' : Nat → Bool} {N : Nat} (h : ∀ p, 1 ≤ p → p < N → c p = c' p) : ∀ (k p : Nat), own_seek c N k p = own_seek c' N k p
  | 0, p => rfl
  | k + 1, p => by
    rw [own_seek, own_seek]
    by_cases q : 1 ≤ p ∧ p < N
    · rw [if_pos q, if_pos q, h p q.1 q.2, own_seekE h k]
    · rw [if_neg q, if_neg q]
theorem own_seek1 {c : Nat → Bool} {N : Nat} : ∀ (k p q : Nat), own_seek c N k p = some (some q) → 1 ≤ q
  | 0, p, q, h => by rw [own_seek] at h; cases h
  | k + 1, p, q, h => by
    rw [own_seek] at h
    split at h
    · rename_i h1
      split at h
      · have e := Option.some.inj (Option.some.inj h)
        omega
      · split at h
        · cases h
        · exact own_seek1 k _ q h
    · cases h
theorem own_dsE {c c' : Nat → Bool} {M : Nat} (h : ∀ p, 1 ≤ p → p < 2 * M → c p = c' p) : ∀ (k p : Nat), 1 ≤ p → own_ds c M k p = own_ds c' M k p
  | 0, p, _ => rfl
  | k + 1, p, hp => by
    rw [own_ds, own_ds]
    by_cases q : p < 2 * M
    · rw [if_pos q, if_pos q]
      by_cases q2 : p < M
      · rw [if_pos q2, if_pos q2, h (2 * p) (by omega) (by omega), own_dsE h k (2 * p) (by omega), own_dsE h k (2 * p + 1) (by omega)]
      · rw [if_neg q2, if_neg q2]
    · rw [if_neg q, if_neg q]
theorem own_resE {c c' : Nat → Bool} {M fm : Nat} (h : ∀ p, 1 ≤ p → p < 2 * M → c p = c' p) : own_res c M fm = own_res c' M fm := by
  rw [own_res, own_res, own_seekE h]
  by_cases q : fm < M
  · rw [if_pos q, if_pos q]
    cases hs : own_seek c' (2 * M) 20 (if fm = 0 then 1 else M + fm) with
    | none => rfl
    | some o =>
      cases o with
      | none => rfl
      | some q2 =>
        have e := own_dsE h 5 q2 (own_seek1 _ _ _ hs)
        simp only [e]
  · rw [if_neg q, if_neg q]
def own_t (M fm : Nat) (h : Nat → Bool) (j : Nat) : Bool := decide (fm ≤ j) && decide (j < M) && h j
def own_first (M fm : Nat) (h : Nat → Bool) : Option Nat := (List.range 8).find? (own_t M fm h)
def own_v8 (b0 b1 b2 b3 b4 b5 b6 b7 : Bool) : Nat → Bool
  | 0 => b0 | 1 => b1 | 2 => b2 | 3 => b3 | 4 => b4 | 5 => b5 | 6 => b6 | 7 => b7 | _ => false
theorem own_k1 : ∀ b0 : Bool, ∀ fm : Fin 16, own_res (own_bt 1 (own_v8 b0 false false false false false false false) 4) 1 fm.val = some (own_first 1 fm.val (own_v8 b0 false false false false false false false)) := by decide +kernel
theorem own_k2 : ∀ b0 b1 : Bool, ∀ fm : Fin 16, own_res (own_bt 2 (own_v8 b0 b1 false false false false false false) 4) 2 fm.val = some (own_first 2 fm.val (own_v8 b0 b1 false false false false false false)) := by decide +kernel
theorem own_k4 : ∀ b0 b1 b2 b3 : Bool, ∀ fm : Fin 16, own_res (own_bt 4 (own_v8 b0 b1 b2 b3 false false false false) 4) 4 fm.val = some (own_first 4 fm.val (own_v8 b0 b1 b2 b3 false false false false)) := by decide +kernel
theorem own_k8 : ∀ b0 b1 b2 b3 b4 b5 b6 b7 : Bool, ∀ fm : Fin 16, own_res (own_bt 8 (own_v8 b0 b1 b2 b3 b4 b5 b6 b7) 4) 8 fm.val = some (own_first 8 fm.val (own_v8 b0 b1 b2 b3 b4 b5 b6 b7)) := by decide +kernel
theorem own_firstE {M fm : Nat} {h h' : Nat → Bool} (e : ∀ j, j < M → h j = h' j) : own_first M fm h = own_first M fm h' := by
  have q : own_t M fm h = own_t M fm h' := by
    funext j
    by_cases c : j < M
    · rw [own_t, own_t, e j c]
    · simp [own_t, c]
  rw [own_first, own_first, q]
theorem own_key {M fm : Nat} (hL : M = 1 ∨ M = 2 ∨ M = 4 ∨ M = 8) (hfm : fm < 16) {fr f : Nat → Int32} {z base : Int32} (h : own_Inv M fr base 8 f) : own_res (own_cc f z) M fm = some (own_first M fm (own_cc fr z)) := by
  obtain ⟨hT, hl⟩ := h
  have hM : M ≤ 8 := own_L16 hL
  have hc : ∀ p, 1 ≤ p → p < M → own_cc f z p = (own_cc f z (2 * p) || own_cc f z (2 * p + 1)) := fun p h1 h2 => by
    show (!decide (f p < z)) = _
    rw [hT p h1 h2]
    exact own_mxz
  have hlf : ∀ j, j < M → own_cc f z (M + j) = own_cc fr z j := fun j hj => by
    show (!decide (f (M + j) < z)) = _
    rw [hl j hj, if_pos (by omega)]
    rfl
  have key : ∀ h' : Nat → Bool, (∀ j, j < M → own_cc fr z j = h' j) → own_res (own_cc f z) M fm = own_res (own_bt M h' 4) M fm := fun h' e => by
    refine own_resE (fun p h1 h2 => ?_)
    exact (own_btE hc (fun j hj => (hlf j hj).trans (e j hj)) 3 p h1 h2 (by omega)).symm
  rcases hL with rfl | rfl | rfl | rfl
  · have e : ∀ j, j < 1 → own_cc fr z j = (own_v8 (own_cc fr z 0) false false false false false false false) j := fun j hj => by
      obtain rfl : j = 0 := by omega
      rfl
    rw [key _ e, own_firstE e]
    exact own_k1 _ ⟨fm, hfm⟩
  · have e : ∀ j, j < 2 → own_cc fr z j = (own_v8 (own_cc fr z 0) (own_cc fr z 1) false false false false false false) j := fun j hj => by
      rcases (show j = 0 ∨ j = 1 by omega) with rfl | rfl <;> rfl
    rw [key _ e, own_firstE e]
    exact own_k2 _ _ ⟨fm, hfm⟩
  · have e : ∀ j, j < 4 → own_cc fr z j = (own_v8 (own_cc fr z 0) (own_cc fr z 1) (own_cc fr z 2) (own_cc fr z 3) false false false false) j := fun j hj => by
      rcases (show j = 0 ∨ j = 1 ∨ j = 2 ∨ j = 3 by omega) with rfl | rfl | rfl | rfl <;> rfl
    rw [key _ e, own_firstE e]
    exact own_k4 _ _ _ _ ⟨fm, hfm⟩
  · have e : ∀ j, j < 8 → own_cc fr z j = (own_v8 (own_cc fr z 0) (own_cc fr z 1) (own_cc fr z 2) (own_cc fr z 3) (own_cc fr z 4) (own_cc fr z 5) (own_cc fr z 6) (own_cc fr z 7)) j := fun j hj => by
      rcases (show j = 0 ∨ j = 1 ∨ j = 2 ∨ j = 3 ∨ j = 4 ∨ j = 5 ∨ j = 6 ∨ j = 7 by omega) with rfl | rfl | rfl | rfl | rfl | rfl | rfl | rfl <;> rfl
    rw [key _ e, own_firstE e]
    exact own_k8 _ _ _ _ _ _ _ _ ⟨fm, hfm⟩
theorem own_hit {M fm j : Nat} {fr : Nat → Int32} {z : Int32} (hM : M ≤ 8) (hfm : fm < 16) (hj : j < 8) : ((if (Int32.ofNat j) < (Int32.ofNat fm) then (0 : Int32) else (if (Int32.ofNat j) < (Int32.ofNat M) then (if (fr j) < z then (0 : Int32) else (1 : Int32)) else (0 : Int32))) = (0 : Int32)) ↔ own_t M fm (own_cc fr z) j = false := by
  have e1 := own_ltn (i := j) (k := fm) (by omega) (by omega)
  have e2 := own_ltn (i := j) (k := M) (by omega) (by omega)
  simp only [e1, e2, own_t, own_cc]
  by_cases a : j < fm
  · simp [a, Nat.not_le.mpr a]
  · by_cases b : j < M
    · by_cases c : fr j < z
      · simp [a, b, c]
      · simp [a, b, c, Nat.not_lt.mp a]
    · simp [a, b]
theorem own_expE (t : Nat → Bool) : (if t 0 = false then (if t 1 = false then (if t 2 = false then (if t 3 = false then (if t 4 = false then (if t 5 = false then (if t 6 = false then (if t 7 = false then (-1 : Int32) else (7 : Int32)) else (6 : Int32)) else (5 : Int32)) else (4 : Int32)) else (3 : Int32)) else (2 : Int32)) else (1 : Int32)) else (0 : Int32)) = own_val ((List.range 8).find? t) := by
  have e : List.range 8 = [0, 1, 2, 3, 4, 5, 6, 7] := rfl
  rw [e]
  simp only [List.find?_cons, List.find?_nil]
  generalize t 0 = b0
  generalize t 1 = b1
  generalize t 2 = b2
  generalize t 3 = b3
  generalize t 4 = b4
  generalize t 5 = b5
  generalize t 6 = b6
  generalize t 7 = b7
  revert b0 b1 b2 b3 b4 b5 b6 b7
  decide +kernel

theorem own_plain0 (p0 : Int32) (p1 : Int32) (q2 : Int64) (p3 : Int32) (p4 : Int32) (p5 : Int32) (M : Nat) (fm : Nat) (fr : Nat → Int32) (f0 : Nat → Int32) (f1 : Nat → Int32) (f2 : Nat → Int32) (f3 : Nat → Int32) (f4 : Nat → Int32) (f5 : Nat → Int32) (f6 : Nat → Int32) (f7 : Nat → Int32) (f8 : Nat → Int32)
    (v1 : Int32) (hv1 : v1 = (if (p0 &&& (4 : Int32)) = (0 : Int32) then (p5 % (10 : Int32)) else p5))
    (v2 : Int32) (hv2 : v2 = (if (0 : Int32) < (Int32.ofNat M) then (if (((p3.toUInt32 >>> ((0 : Int32) &&& 31).toUInt32).toInt32) &&& (1 : Int32)) = (0 : Int32) then p1 else (((((q2.toUInt64 >>> (((4 : Int32) * (0 : Int32)) &&& 0x3f).toInt64.toUInt64).toInt64) &&& (15 : Int64)).toInt32) - (8 : Int32))) else p1))
    (v3 : Int32) (hv3 : v3 = (if (1 : Int32) < (Int32.ofNat M) then (if (((p3.toUInt32 >>> ((1 : Int32) &&& 31).toUInt32).toInt32) &&& (1 : Int32)) = (0 : Int32) then p1 else (((((q2.toUInt64 >>> (((4 : Int32) * (1 : Int32)) &&& 0x3f).toInt64.toUInt64).toInt64) &&& (15 : Int64)).toInt32) - (8 : Int32))) else p1))
    (v4 : Int32) (hv4 : v4 = (if (2 : Int32) < (Int32.ofNat M) then (if (((p3.toUInt32 >>> ((2 : Int32) &&& 31).toUInt32).toInt32) &&& (1 : Int32)) = (0 : Int32) then p1 else (((((q2.toUInt64 >>> (((4 : Int32) * (2 : Int32)) &&& 0x3f).toInt64.toUInt64).toInt64) &&& (15 : Int64)).toInt32) - (8 : Int32))) else p1))
    (v5 : Int32) (hv5 : v5 = (if (3 : Int32) < (Int32.ofNat M) then (if (((p3.toUInt32 >>> ((3 : Int32) &&& 31).toUInt32).toInt32) &&& (1 : Int32)) = (0 : Int32) then p1 else (((((q2.toUInt64 >>> (((4 : Int32) * (3 : Int32)) &&& 0x3f).toInt64.toUInt64).toInt64) &&& (15 : Int64)).toInt32) - (8 : Int32))) else p1))
    (v6 : Int32) (hv6 : v6 = (if (4 : Int32) < (Int32.ofNat M) then (if (((p3.toUInt32 >>> ((4 : Int32) &&& 31).toUInt32).toInt32) &&& (1 : Int32)) = (0 : Int32) then p1 else (((((q2.toUInt64 >>> (((4 : Int32) * (4 : Int32)) &&& 0x3f).toInt64.toUInt64).toInt64) &&& (15 : Int64)).toInt32) - (8 : Int32))) else p1))
    (v7 : Int32) (hv7 : v7 = (if (5 : Int32) < (Int32.ofNat M) then (if (((p3.toUInt32 >>> ((5 : Int32) &&& 31).toUInt32).toInt32) &&& (1 : Int32)) = (0 : Int32) then p1 else (((((q2.toUInt64 >>> (((4 : Int32) * (5 : Int32)) &&& 0x3f).toInt64.toUInt64).toInt64) &&& (15 : Int64)).toInt32) - (8 : Int32))) else p1))
    (v8 : Int32) (hv8 : v8 = (if (6 : Int32) < (Int32.ofNat M) then (if (((p3.toUInt32 >>> ((6 : Int32) &&& 31).toUInt32).toInt32) &&& (1 : Int32)) = (0 : Int32) then p1 else (((((q2.toUInt64 >>> (((4 : Int32) * (6 : Int32)) &&& 0x3f).toInt64.toUInt64).toInt64) &&& (15 : Int64)).toInt32) - (8 : Int32))) else p1))
    (v9 : Int32) (hv9 : v9 = (if (7 : Int32) < (Int32.ofNat M) then (if (((p3.toUInt32 >>> ((7 : Int32) &&& 31).toUInt32).toInt32) &&& (1 : Int32)) = (0 : Int32) then p1 else (((((q2.toUInt64 >>> (((4 : Int32) * (7 : Int32)) &&& 0x3f).toInt64.toUInt64).toInt64) &&& (15 : Int64)).toInt32) - (8 : Int32))) else p1))
    (hL : M = 1 ∨ M = 2 ∨ M = 4 ∨ M = 8)
    (hfm : fm < 16)
    (hfr0 : fr 0 = v2)
    (hfr1 : fr 1 = v3)
    (hfr2 : fr 2 = v4)
    (hfr3 : fr 3 = v5)
    (hfr4 : fr 4 = v6)
    (hfr5 : fr 5 = v7)
    (hfr6 : fr 6 = v8)
    (hfr7 : fr 7 = v9)
    (hf0 : ∀ j, j < 2 * M → f0 j = p1)
    (hf1 : f1 = (if (Int32.ofNat 0) < (Int32.ofNat M) then (if (((p3.toUInt32 >>> ((Int32.ofNat 0) &&& 31).toUInt32).toInt32) &&& (1 : Int32)) = (0 : Int32) then f0 else own_st M f0 0 (fr 0)) else f0))
    (hf2 : f2 = (if (Int32.ofNat 1) < (Int32.ofNat M) then (if (((p3.toUInt32 >>> ((Int32.ofNat 1) &&& 31).toUInt32).toInt32) &&& (1 : Int32)) = (0 : Int32) then f1 else own_st M f1 1 (fr 1)) else f1))
    (hf3 : f3 = (if (Int32.ofNat 2) < (Int32.ofNat M) then (if (((p3.toUInt32 >>> ((Int32.ofNat 2) &&& 31).toUInt32).toInt32) &&& (1 : Int32)) = (0 : Int32) then f2 else own_st M f2 2 (fr 2)) else f2))
    (hf4 : f4 = (if (Int32.ofNat 3) < (Int32.ofNat M) then (if (((p3.toUInt32 >>> ((Int32.ofNat 3) &&& 31).toUInt32).toInt32) &&& (1 : Int32)) = (0 : Int32) then f3 else own_st M f3 3 (fr 3)) else f3))
    (hf5 : f5 = (if (Int32.ofNat 4) < (Int32.ofNat M) then (if (((p3.toUInt32 >>> ((Int32.ofNat 4) &&& 31).toUInt32).toInt32) &&& (1 : Int32)) = (0 : Int32) then f4 else own_st M f4 4 (fr 4)) else f4))
    (hf6 : f6 = (if (Int32.ofNat 5) < (Int32.ofNat M) then (if (((p3.toUInt32 >>> ((Int32.ofNat 5) &&& 31).toUInt32).toInt32) &&& (1 : Int32)) = (0 : Int32) then f5 else own_st M f5 5 (fr 5)) else f5))
    (hf7 : f7 = (if (Int32.ofNat 6) < (Int32.ofNat M) then (if (((p3.toUInt32 >>> ((Int32.ofNat 6) &&& 31).toUInt32).toInt32) &&& (1 : Int32)) = (0 : Int32) then f6 else own_st M f6 6 (fr 6)) else f6))
    (hf8 : f8 = (if (Int32.ofNat 7) < (Int32.ofNat M) then (if (((p3.toUInt32 >>> ((Int32.ofNat 7) &&& 31).toUInt32).toInt32) &&& (1 : Int32)) = (0 : Int32) then f7 else own_st M f7 7 (fr 7)) else f7)) : ∃ R, own_res (own_cc f8 v1) M fm = some R := by
  have hM := own_L16 hL
  have i0 := own_inv0 (fr := fr) hf0
  have i1 := own_inv hM (by omega) i0 hf1 (fun q => (hfr0.trans (own_pk hv2 q)))
  have i2 := own_inv hM (by omega) i1 hf2 (fun q => (hfr1.trans (own_pk hv3 q)))
  have i3 := own_inv hM (by omega) i2 hf3 (fun q => (hfr2.trans (own_pk hv4 q)))
  have i4 := own_inv hM (by omega) i3 hf4 (fun q => (hfr3.trans (own_pk hv5 q)))
  have i5 := own_inv hM (by omega) i4 hf5 (fun q => (hfr4.trans (own_pk hv6 q)))
  have i6 := own_inv hM (by omega) i5 hf6 (fun q => (hfr5.trans (own_pk hv7 q)))
  have i7 := own_inv hM (by omega) i6 hf7 (fun q => (hfr6.trans (own_pk hv8 q)))
  have i8 := own_inv hM (by omega) i7 hf8 (fun q => (hfr7.trans (own_pk hv9 q)))
  exact ⟨_, own_key hL hfm i8⟩
theorem own_plain1 (p0 : Int32) (p1 : Int32) (q2 : Int64) (p3 : Int32) (p4 : Int32) (p5 : Int32) (M : Nat) (fm : Nat) (fr : Nat → Int32) (f0 : Nat → Int32) (f1 : Nat → Int32) (f2 : Nat → Int32) (f3 : Nat → Int32) (f4 : Nat → Int32) (f5 : Nat → Int32) (f6 : Nat → Int32) (f7 : Nat → Int32) (f8 : Nat → Int32) (R : Option Nat)
    (v1 : Int32) (hv1 : v1 = (if (p0 &&& (4 : Int32)) = (0 : Int32) then (p5 % (10 : Int32)) else p5))
    (v2 : Int32) (hv2 : v2 = (if (0 : Int32) < (Int32.ofNat M) then (if (((p3.toUInt32 >>> ((0 : Int32) &&& 31).toUInt32).toInt32) &&& (1 : Int32)) = (0 : Int32) then p1 else (((((q2.toUInt64 >>> (((4 : Int32) * (0 : Int32)) &&& 0x3f).toInt64.toUInt64).toInt64) &&& (15 : Int64)).toInt32) - (8 : Int32))) else p1))
    (v3 : Int32) (hv3 : v3 = (if (1 : Int32) < (Int32.ofNat M) then (if (((p3.toUInt32 >>> ((1 : Int32) &&& 31).toUInt32).toInt32) &&& (1 : Int32)) = (0 : Int32) then p1 else (((((q2.toUInt64 >>> (((4 : Int32) * (1 : Int32)) &&& 0x3f).toInt64.toUInt64).toInt64) &&& (15 : Int64)).toInt32) - (8 : Int32))) else p1))
    (v4 : Int32) (hv4 : v4 = (if (2 : Int32) < (Int32.ofNat M) then (if (((p3.toUInt32 >>> ((2 : Int32) &&& 31).toUInt32).toInt32) &&& (1 : Int32)) = (0 : Int32) then p1 else (((((q2.toUInt64 >>> (((4 : Int32) * (2 : Int32)) &&& 0x3f).toInt64.toUInt64).toInt64) &&& (15 : Int64)).toInt32) - (8 : Int32))) else p1))
    (v5 : Int32) (hv5 : v5 = (if (3 : Int32) < (Int32.ofNat M) then (if (((p3.toUInt32 >>> ((3 : Int32) &&& 31).toUInt32).toInt32) &&& (1 : Int32)) = (0 : Int32) then p1 else (((((q2.toUInt64 >>> (((4 : Int32) * (3 : Int32)) &&& 0x3f).toInt64.toUInt64).toInt64) &&& (15 : Int64)).toInt32) - (8 : Int32))) else p1))
    (v6 : Int32) (hv6 : v6 = (if (4 : Int32) < (Int32.ofNat M) then (if (((p3.toUInt32 >>> ((4 : Int32) &&& 31).toUInt32).toInt32) &&& (1 : Int32)) = (0 : Int32) then p1 else (((((q2.toUInt64 >>> (((4 : Int32) * (4 : Int32)) &&& 0x3f).toInt64.toUInt64).toInt64) &&& (15 : Int64)).toInt32) - (8 : Int32))) else p1))
    (v7 : Int32) (hv7 : v7 = (if (5 : Int32) < (Int32.ofNat M) then (if (((p3.toUInt32 >>> ((5 : Int32) &&& 31).toUInt32).toInt32) &&& (1 : Int32)) = (0 : Int32) then p1 else (((((q2.toUInt64 >>> (((4 : Int32) * (5 : Int32)) &&& 0x3f).toInt64.toUInt64).toInt64) &&& (15 : Int64)).toInt32) - (8 : Int32))) else p1))
    (v8 : Int32) (hv8 : v8 = (if (6 : Int32) < (Int32.ofNat M) then (if (((p3.toUInt32 >>> ((6 : Int32) &&& 31).toUInt32).toInt32) &&& (1 : Int32)) = (0 : Int32) then p1 else (((((q2.toUInt64 >>> (((4 : Int32) * (6 : Int32)) &&& 0x3f).toInt64.toUInt64).toInt64) &&& (15 : Int64)).toInt32) - (8 : Int32))) else p1))
    (v9 : Int32) (hv9 : v9 = (if (7 : Int32) < (Int32.ofNat M) then (if (((p3.toUInt32 >>> ((7 : Int32) &&& 31).toUInt32).toInt32) &&& (1 : Int32)) = (0 : Int32) then p1 else (((((q2.toUInt64 >>> (((4 : Int32) * (7 : Int32)) &&& 0x3f).toInt64.toUInt64).toInt64) &&& (15 : Int64)).toInt32) - (8 : Int32))) else p1))
    (v10 : Int32) (hv10 : v10 = (if (own_val R) = (if (if (Int32.ofNat 0) < (Int32.ofNat fm) then (0 : Int32) else (if (Int32.ofNat 0) < (Int32.ofNat M) then (if (fr 0) < v1 then (0 : Int32) else (1 : Int32)) else (0 : Int32))) = (0 : Int32) then (if (if (Int32.ofNat 1) < (Int32.ofNat fm) then (0 : Int32) else (if (Int32.ofNat 1) < (Int32.ofNat M) then (if (fr 1) < v1 then (0 : Int32) else (1 : Int32)) else (0 : Int32))) = (0 : Int32) then (if (if (Int32.ofNat 2) < (Int32.ofNat fm) then (0 : Int32) else (if (Int32.ofNat 2) < (Int32.ofNat M) then (if (fr 2) < v1 then (0 : Int32) else (1 : Int32)) else (0 : Int32))) = (0 : Int32) then (if (if (Int32.ofNat 3) < (Int32.ofNat fm) then (0 : Int32) else (if (Int32.ofNat 3) < (Int32.ofNat M) then (if (fr 3) < v1 then (0 : Int32) else (1 : Int32)) else (0 : Int32))) = (0 : Int32) then (if (if (Int32.ofNat 4) < (Int32.ofNat fm) then (0 : Int32) else (if (Int32.ofNat 4) < (Int32.ofNat M) then (if (fr 4) < v1 then (0 : Int32) else (1 : Int32)) else (0 : Int32))) = (0 : Int32) then (if (if (Int32.ofNat 5) < (Int32.ofNat fm) then (0 : Int32) else (if (Int32.ofNat 5) < (Int32.ofNat M) then (if (fr 5) < v1 then (0 : Int32) else (1 : Int32)) else (0 : Int32))) = (0 : Int32) then (if (if (Int32.ofNat 6) < (Int32.ofNat fm) then (0 : Int32) else (if (Int32.ofNat 6) < (Int32.ofNat M) then (if (fr 6) < v1 then (0 : Int32) else (1 : Int32)) else (0 : Int32))) = (0 : Int32) then (if (if (Int32.ofNat 7) < (Int32.ofNat fm) then (0 : Int32) else (if (Int32.ofNat 7) < (Int32.ofNat M) then (if (fr 7) < v1 then (0 : Int32) else (1 : Int32)) else (0 : Int32))) = (0 : Int32) then (-1 : Int32) else (7 : Int32)) else (6 : Int32)) else (5 : Int32)) else (4 : Int32)) else (3 : Int32)) else (2 : Int32)) else (1 : Int32)) else (0 : Int32)) then (1 : Int32) else (0 : Int32)))
    (hL : M = 1 ∨ M = 2 ∨ M = 4 ∨ M = 8)
    (hfm : fm < 16)
    (hfr0 : fr 0 = v2)
    (hfr1 : fr 1 = v3)
    (hfr2 : fr 2 = v4)
    (hfr3 : fr 3 = v5)
    (hfr4 : fr 4 = v6)
    (hfr5 : fr 5 = v7)
    (hfr6 : fr 6 = v8)
    (hfr7 : fr 7 = v9)
    (hf0 : ∀ j, j < 2 * M → f0 j = p1)
    (hf1 : f1 = (if (Int32.ofNat 0) < (Int32.ofNat M) then (if (((p3.toUInt32 >>> ((Int32.ofNat 0) &&& 31).toUInt32).toInt32) &&& (1 : Int32)) = (0 : Int32) then f0 else own_st M f0 0 (fr 0)) else f0))
    (hf2 : f2 = (if (Int32.ofNat 1) < (Int32.ofNat M) then (if (((p3.toUInt32 >>> ((Int32.ofNat 1) &&& 31).toUInt32).toInt32) &&& (1 : Int32)) = (0 : Int32) then f1 else own_st M f1 1 (fr 1)) else f1))
    (hf3 : f3 = (if (Int32.ofNat 2) < (Int32.ofNat M) then (if (((p3.toUInt32 >>> ((Int32.ofNat 2) &&& 31).toUInt32).toInt32) &&& (1 : Int32)) = (0 : Int32) then f2 else own_st M f2 2 (fr 2)) else f2))
    (hf4 : f4 = (if (Int32.ofNat 3) < (Int32.ofNat M) then (if (((p3.toUInt32 >>> ((Int32.ofNat 3) &&& 31).toUInt32).toInt32) &&& (1 : Int32)) = (0 : Int32) then f3 else own_st M f3 3 (fr 3)) else f3))
    (hf5 : f5 = (if (Int32.ofNat 4) < (Int32.ofNat M) then (if (((p3.toUInt32 >>> ((Int32.ofNat 4) &&& 31).toUInt32).toInt32) &&& (1 : Int32)) = (0 : Int32) then f4 else own_st M f4 4 (fr 4)) else f4))
    (hf6 : f6 = (if (Int32.ofNat 5) < (Int32.ofNat M) then (if (((p3.toUInt32 >>> ((Int32.ofNat 5) &&& 31).toUInt32).toInt32) &&& (1 : Int32)) = (0 : Int32) then f5 else own_st M f5 5 (fr 5)) else f5))
    (hf7 : f7 = (if (Int32.ofNat 6) < (Int32.ofNat M) then (if (((p3.toUInt32 >>> ((Int32.ofNat 6) &&& 31).toUInt32).toInt32) &&& (1 : Int32)) = (0 : Int32) then f6 else own_st M f6 6 (fr 6)) else f6))
    (hf8 : f8 = (if (Int32.ofNat 7) < (Int32.ofNat M) then (if (((p3.toUInt32 >>> ((Int32.ofNat 7) &&& 31).toUInt32).toInt32) &&& (1 : Int32)) = (0 : Int32) then f7 else own_st M f7 7 (fr 7)) else f7))
    (hR : own_res (own_cc f8 v1) M fm = some R) : v10 = 1 := by
  have hM := own_L16 hL
  have i0 := own_inv0 (fr := fr) hf0
  have i1 := own_inv hM (by omega) i0 hf1 (fun q => (hfr0.trans (own_pk hv2 q)))
  have i2 := own_inv hM (by omega) i1 hf2 (fun q => (hfr1.trans (own_pk hv3 q)))
  have i3 := own_inv hM (by omega) i2 hf3 (fun q => (hfr2.trans (own_pk hv4 q)))
  have i4 := own_inv hM (by omega) i3 hf4 (fun q => (hfr3.trans (own_pk hv5 q)))
  have i5 := own_inv hM (by omega) i4 hf5 (fun q => (hfr4.trans (own_pk hv6 q)))
  have i6 := own_inv hM (by omega) i5 hf6 (fun q => (hfr5.trans (own_pk hv7 q)))
  have i7 := own_inv hM (by omega) i6 hf7 (fun q => (hfr6.trans (own_pk hv8 q)))
  have i8 := own_inv hM (by omega) i7 hf8 (fun q => (hfr7.trans (own_pk hv9 q)))
  have eR := Option.some.inj (hR.symm.trans (own_key hL hfm i8))
  have H0 := own_hit (j := 0) (fr := fr) (z := v1) hM hfm (by decide)
  have H1 := own_hit (j := 1) (fr := fr) (z := v1) hM hfm (by decide)
  have H2 := own_hit (j := 2) (fr := fr) (z := v1) hM hfm (by decide)
  have H3 := own_hit (j := 3) (fr := fr) (z := v1) hM hfm (by decide)
  have H4 := own_hit (j := 4) (fr := fr) (z := v1) hM hfm (by decide)
  have H5 := own_hit (j := 5) (fr := fr) (z := v1) hM hfm (by decide)
  have H6 := own_hit (j := 6) (fr := fr) (z := v1) hM hfm (by decide)
  have H7 := own_hit (j := 7) (fr := fr) (z := v1) hM hfm (by decide)
  have eE := own_expE (own_t M fm (own_cc fr v1))
  simp only [H0, H1, H2, H3, H4, H5, H6, H7] at hv10
  rw [eE] at hv10
  rw [hv10, eR]
  exact if_pos (show own_val (own_first M fm (own_cc fr v1)) = own_val ((List.range 8).find? (own_t M fm (own_cc fr v1))) from rfl)
theorem ef_0 (m : MethodId) (p0 : Int32) (p1 : Int32) (q2 : Int64) (p3 : Int32) (p4 : Int32) (p5 : Int32) : entryFrame m #[(.int p0), (.int p1), (.long q2), (.int p3), (.int p4), (.int p5)] maxLocals = mkF m 0 #[.val (.int p0), .val (.int p1), .val (.long q2), .second, .val (.int p3), .val (.int p4), .val (.int p5), .unset, .unset, .unset, .unset, .unset, .unset] [] := by first | (simp [entryFrame, mkF, argsToLocals, Value.category, maxLocals]; done) | rfl
def Q0 (n0 : Nat) (v : Option Value) (L : List Loc) : Prop := v = some (.int (1 : Int32)) ∧ Fr n0 L
set_option maxRecDepth 65536 in
set_option maxHeartbeats 40000000 in
theorem rm0 (l : Launch) (Z : State) (aq : Array Value) (hw : ∀ d ∈ tables_1, d.before aq Z = true) (ws : List Jvm.Cond) (p0 : Int32) (p1 : Int32) (q2 : Int64) (p3 : Int32) (p4 : Int32) (p5 : Int32) (h0 : Heap) (n0 : Nat) (Z0 : n0 ≤ h0.size) :
    MetFree l x (head1 (Jvm.Cond.code x code maxLocals ret :: ws) room_1) (fun a U => a = #[(.int p0), (.int p1), (.long q2), (.int p3), (.int p4), (.int p5)] ∧ Z.Warmed39 U.vm ∧ U.heap = h0) (fun _ _ _ _ _ => True) (fun _ U o U' => ∃ v L, o = .returned v ∧ Q0 n0 v L ∧ FrameEnd U o U' L room_1.cells room_1.slots) := by
  refine MetFree.of_bodySF (plainFor_of_name pn7838729) hisR ?_
  intro p e s m args below meth c s₁ Bd hml0 hP hK
  obtain ⟨rfl, hZ, hh⟩ := hP
  have hx := Bd.exec
  have hby := Bd.bytes
  have hml : c.maxLocals = 13 := hml0
  have hown : s.vm.findClass "com/example/packwright/packwright/core/bins/FreeSpaceTreeEarliestPinLaw" = some m.cls := findClass_of_methodNamed Bd.named
  have X0 : Stand p l e room_1 s m #[(.int p0), (.int p1), (.long q2), (.int p3), (.int p4), (.int p5)] below meth c s₁ [] 0 0 := Stand.of_body Bd
  have e0 : s₁.heap = h0 := by rw [← hh, Bd.state]; rfl
  have N0 := Fr.nil n0
  have pre0 : ∀ t, Steps p.tables e below (s₁.setTop (mkF m 0 #[.val (.int p0), .val (.int p1), .val (.long q2), .second, .val (.int p3), .val (.int p4), .val (.int p5), .unset, .unset, .unset, .unset, .unset, .unset] [])) t → Steps p.tables e below (s₁.setTop (entryFrame m #[(.int p0), (.int p1), (.long q2), (.int p3), (.int p4), (.int p5)] maxLocals)) t := fun t k => castTop (ef_0 m p0 p1 q2 p3 p4 p5) k
  have pre339 : ∀ t, Steps p.tables e below (s₁.setTop (mkF m 7 #[.val (.int p0), .val (.int p1), .val (.long q2), .second, .val (.int p3), .val (.int p4), .val (.int p5), .val (.int ((1 : Int32) <<< ((p0 &&& (3 : Int32)) &&& 31))), .unset, .unset, .unset, .unset, .unset] [])) t → Steps p.tables e below (s₁.setTop (entryFrame m #[(.int p0), (.int p1), (.long q2), (.int p3), (.int p4), (.int p5)] maxLocals)) t := fun t kt => by
    refine pre0 _ ?_
    show Steps p.tables e below (s₁.setTop (mkF m 0 #[.val (.int p0), .val (.int p1), .val (.long q2), .second, .val (.int p3), .val (.int p4), .val (.int p5), .unset, .unset, .unset, .unset, .unset, .unset] [])) _
    refine XS.iconst X0.here hx rfl (hb hby at_0) ?_
    show Steps p.tables e below (s₁.setTop (mkF m 1 #[.val (.int p0), .val (.int p1), .val (.long q2), .second, .val (.int p3), .val (.int p4), .val (.int p5), .unset, .unset, .unset, .unset, .unset, .unset] [(.int (1 : Int32))])) _
    refine XS.iloadN X0.here hx rfl (hb hby at_1) rfl ?_
    show Steps p.tables e below (s₁.setTop (mkF m 2 #[.val (.int p0), .val (.int p1), .val (.long q2), .second, .val (.int p3), .val (.int p4), .val (.int p5), .unset, .unset, .unset, .unset, .unset, .unset] [(.int p0), (.int (1 : Int32))])) _
    refine XS.iconst X0.here hx rfl (hb hby at_2) ?_
    show Steps p.tables e below (s₁.setTop (mkF m 3 #[.val (.int p0), .val (.int p1), .val (.long q2), .second, .val (.int p3), .val (.int p4), .val (.int p5), .unset, .unset, .unset, .unset, .unset, .unset] [(.int (3 : Int32)), (.int p0), (.int (1 : Int32))])) _
    refine XS.iand X0.here hx rfl (hb hby at_3) rfl ?_
    show Steps p.tables e below (s₁.setTop (mkF m 4 #[.val (.int p0), .val (.int p1), .val (.long q2), .second, .val (.int p3), .val (.int p4), .val (.int p5), .unset, .unset, .unset, .unset, .unset, .unset] [(.int (p0 &&& (3 : Int32))), (.int (1 : Int32))])) _
    refine XS.ishl X0.here hx rfl (hb hby at_4) rfl ?_
    show Steps p.tables e below (s₁.setTop (mkF m 5 #[.val (.int p0), .val (.int p1), .val (.long q2), .second, .val (.int p3), .val (.int p4), .val (.int p5), .unset, .unset, .unset, .unset, .unset, .unset] [(.int ((1 : Int32) <<< ((p0 &&& (3 : Int32)) &&& 31)))])) _
    refine XS.istore X0.here hx rfl (hb hby at_5) rfl (l' := #[.val (.int p0), .val (.int p1), .val (.long q2), .second, .val (.int p3), .val (.int p4), .val (.int p5), .val (.int ((1 : Int32) <<< ((p0 &&& (3 : Int32)) &&& 31))), .unset, .unset, .unset, .unset, .unset]) rfl ?_
    show Steps p.tables e below (s₁.setTop (mkF m 7 #[.val (.int p0), .val (.int p1), .val (.long q2), .second, .val (.int p3), .val (.int p4), .val (.int p5), .val (.int ((1 : Int32) <<< ((p0 &&& (3 : Int32)) &&& 31))), .unset, .unset, .unset, .unset, .unset] [])) _
    exact kt
  obtain ⟨M, hL, eM⟩ : ∃ M : Nat, (M = 1 ∨ M = 2 ∨ M = 4 ∨ M = 8) ∧ ((1 : Int32) <<< ((p0 &&& (3 : Int32)) &&& 31)) = Int32.ofNat M := own_bins p0
  have pre340 : ∀ t, Steps p.tables e below (s₁.setTop (mkF m 7 #[.val (.int p0), .val (.int p1), .val (.long q2), .second, .val (.int p3), .val (.int p4), .val (.int p5), .val (.int (Int32.ofNat M)), .unset, .unset, .unset, .unset, .unset] [])) t → Steps p.tables e below (s₁.setTop (entryFrame m #[(.int p0), (.int p1), (.long q2), (.int p3), (.int p4), (.int p5)] maxLocals)) t := fun t kt => pre339 t (by rw [eM]; exact kt)
  have pre341 : ∀ t, Steps p.tables e below (s₁.setTop (mkF m 14 #[.val (.int p0), .val (.int p1), .val (.long q2), .second, .val (.int p3), .val (.int p4), .val (.int p5), .val (.int (Int32.ofNat M)), .val (.int (p4 &&& (15 : Int32))), .unset, .unset, .unset, .unset] [])) t → Steps p.tables e below (s₁.setTop (entryFrame m #[(.int p0), (.int p1), (.long q2), (.int p3), (.int p4), (.int p5)] maxLocals)) t := fun t kt => by
    refine pre340 _ ?_
    show Steps p.tables e below (s₁.setTop (mkF m 7 #[.val (.int p0), .val (.int p1), .val (.long q2), .second, .val (.int p3), .val (.int p4), .val (.int p5), .val (.int (Int32.ofNat M)), .unset, .unset, .unset, .unset, .unset] [])) _
    refine XS.iload X0.here hx rfl (hb hby at_7) rfl ?_
    show Steps p.tables e below (s₁.setTop (mkF m 9 #[.val (.int p0), .val (.int p1), .val (.long q2), .second, .val (.int p3), .val (.int p4), .val (.int p5), .val (.int (Int32.ofNat M)), .unset, .unset, .unset, .unset, .unset] [(.int p4)])) _
    refine XS.bipush X0.here hx rfl (hb hby at_9) ?_
    show Steps p.tables e below (s₁.setTop (mkF m 11 #[.val (.int p0), .val (.int p1), .val (.long q2), .second, .val (.int p3), .val (.int p4), .val (.int p5), .val (.int (Int32.ofNat M)), .unset, .unset, .unset, .unset, .unset] [(.int (15 : Int32)), (.int p4)])) _
    refine XS.iand X0.here hx rfl (hb hby at_11) rfl ?_
    show Steps p.tables e below (s₁.setTop (mkF m 12 #[.val (.int p0), .val (.int p1), .val (.long q2), .second, .val (.int p3), .val (.int p4), .val (.int p5), .val (.int (Int32.ofNat M)), .unset, .unset, .unset, .unset, .unset] [(.int (p4 &&& (15 : Int32)))])) _
    refine XS.istore X0.here hx rfl (hb hby at_12) rfl (l' := #[.val (.int p0), .val (.int p1), .val (.long q2), .second, .val (.int p3), .val (.int p4), .val (.int p5), .val (.int (Int32.ofNat M)), .val (.int (p4 &&& (15 : Int32))), .unset, .unset, .unset, .unset]) rfl ?_
    show Steps p.tables e below (s₁.setTop (mkF m 14 #[.val (.int p0), .val (.int p1), .val (.long q2), .second, .val (.int p3), .val (.int p4), .val (.int p5), .val (.int (Int32.ofNat M)), .val (.int (p4 &&& (15 : Int32))), .unset, .unset, .unset, .unset] [])) _
    exact kt
  obtain ⟨fm, hfm, efm⟩ : ∃ fm : Nat, fm < 16 ∧ (p4 &&& (15 : Int32)) = Int32.ofNat fm := own_from _
  have pre342 : ∀ t, Steps p.tables e below (s₁.setTop (mkF m 14 #[.val (.int p0), .val (.int p1), .val (.long q2), .second, .val (.int p3), .val (.int p4), .val (.int p5), .val (.int (Int32.ofNat M)), .val (.int (Int32.ofNat fm)), .unset, .unset, .unset, .unset] [])) t → Steps p.tables e below (s₁.setTop (entryFrame m #[(.int p0), (.int p1), (.long q2), (.int p3), (.int p4), (.int p5)] maxLocals)) t := fun t kt => pre341 t (by rw [efm]; exact kt)
  have pre343 : ∀ t, Steps p.tables e below (s₁.setTop (mkF m 17 #[.val (.int p0), .val (.int p1), .val (.long q2), .second, .val (.int p3), .val (.int p4), .val (.int p5), .val (.int (Int32.ofNat M)), .val (.int (Int32.ofNat fm)), .unset, .unset, .unset, .unset] [(.int (p0 &&& (4 : Int32)))])) t → Steps p.tables e below (s₁.setTop (entryFrame m #[(.int p0), (.int p1), (.long q2), (.int p3), (.int p4), (.int p5)] maxLocals)) t := fun t kt => by
    refine pre342 _ ?_
    show Steps p.tables e below (s₁.setTop (mkF m 14 #[.val (.int p0), .val (.int p1), .val (.long q2), .second, .val (.int p3), .val (.int p4), .val (.int p5), .val (.int (Int32.ofNat M)), .val (.int (Int32.ofNat fm)), .unset, .unset, .unset, .unset] [])) _
    refine XS.iloadN X0.here hx rfl (hb hby at_14) rfl ?_
    show Steps p.tables e below (s₁.setTop (mkF m 15 #[.val (.int p0), .val (.int p1), .val (.long q2), .second, .val (.int p3), .val (.int p4), .val (.int p5), .val (.int (Int32.ofNat M)), .val (.int (Int32.ofNat fm)), .unset, .unset, .unset, .unset] [(.int p0)])) _
    refine XS.iconst X0.here hx rfl (hb hby at_15) ?_
    show Steps p.tables e below (s₁.setTop (mkF m 16 #[.val (.int p0), .val (.int p1), .val (.long q2), .second, .val (.int p3), .val (.int p4), .val (.int p5), .val (.int (Int32.ofNat M)), .val (.int (Int32.ofNat fm)), .unset, .unset, .unset, .unset] [(.int (4 : Int32)), (.int p0)])) _
    refine XS.iand X0.here hx rfl (hb hby at_16) rfl ?_
    show Steps p.tables e below (s₁.setTop (mkF m 17 #[.val (.int p0), .val (.int p1), .val (.long q2), .second, .val (.int p3), .val (.int p4), .val (.int p5), .val (.int (Int32.ofNat M)), .val (.int (Int32.ofNat fm)), .unset, .unset, .unset, .unset] [(.int (p0 &&& (4 : Int32)))])) _
    exact kt
  obtain ⟨v1, hv1⟩ : ∃ z : Int32, z = (if (p0 &&& (4 : Int32)) = (0 : Int32) then (p5 % (10 : Int32)) else p5) := ⟨_, rfl⟩
  have pre345 : ∀ t, Steps p.tables e below (s₁.setTop (mkF m 30 #[.val (.int p0), .val (.int p1), .val (.long q2), .second, .val (.int p3), .val (.int p4), .val (.int p5), .val (.int (Int32.ofNat M)), .val (.int (Int32.ofNat fm)), .unset, .unset, .unset, .unset] [(.int v1)])) t → Steps p.tables e below (s₁.setTop (entryFrame m #[(.int p0), (.int p1), (.long q2), (.int p3), (.int p4), (.int p5)] maxLocals)) t := fun t kt => by
    refine pre343 _ ?_
    show Steps p.tables e below (s₁.setTop (mkF m 17 #[.val (.int p0), .val (.int p1), .val (.long q2), .second, .val (.int p3), .val (.int p4), .val (.int p5), .val (.int (Int32.ofNat M)), .val (.int (Int32.ofNat fm)), .unset, .unset, .unset, .unset] [(.int (p0 &&& (4 : Int32)))])) _
    by_cases hc344 : (p0 &&& (4 : Int32)) = (0 : Int32)
    · rw [if_pos hc344] at hv1
      refine XS.ifYes X0.here hx rfl (pc0 := 17) (pc' := 25) rfl (hb hby at_17) rfl ((if0 _ _).trans (teq hc344).1) (by decide) (by decide) ?_
      show Steps p.tables e below (s₁.setTop (mkF m 25 #[.val (.int p0), .val (.int p1), .val (.long q2), .second, .val (.int p3), .val (.int p4), .val (.int p5), .val (.int (Int32.ofNat M)), .val (.int (Int32.ofNat fm)), .unset, .unset, .unset, .unset] [])) _
      refine XS.iload X0.here hx rfl (hb hby at_25) rfl ?_
      show Steps p.tables e below (s₁.setTop (mkF m 27 #[.val (.int p0), .val (.int p1), .val (.long q2), .second, .val (.int p3), .val (.int p4), .val (.int p5), .val (.int (Int32.ofNat M)), .val (.int (Int32.ofNat fm)), .unset, .unset, .unset, .unset] [(.int p5)])) _
      refine XS.bipush X0.here hx rfl (hb hby at_27) ?_
      show Steps p.tables e below (s₁.setTop (mkF m 29 #[.val (.int p0), .val (.int p1), .val (.long q2), .second, .val (.int p3), .val (.int p4), .val (.int p5), .val (.int (Int32.ofNat M)), .val (.int (Int32.ofNat fm)), .unset, .unset, .unset, .unset] [(.int (10 : Int32)), (.int p5)])) _
      refine iremM X0 hx rfl (hb hby at_29) rfl (by decide) ?_
      subst hv1
      exact kt
    · rw [if_neg hc344] at hv1
      refine XS.ifNo X0.here hx rfl (hb hby at_17) rfl ((if0 _ _).trans (feq hc344).1) ?_
      show Steps p.tables e below (s₁.setTop (mkF m 20 #[.val (.int p0), .val (.int p1), .val (.long q2), .second, .val (.int p3), .val (.int p4), .val (.int p5), .val (.int (Int32.ofNat M)), .val (.int (Int32.ofNat fm)), .unset, .unset, .unset, .unset] [])) _
      refine XS.iload X0.here hx rfl (hb hby at_20) rfl ?_
      show Steps p.tables e below (s₁.setTop (mkF m 22 #[.val (.int p0), .val (.int p1), .val (.long q2), .second, .val (.int p3), .val (.int p4), .val (.int p5), .val (.int (Int32.ofNat M)), .val (.int (Int32.ofNat fm)), .unset, .unset, .unset, .unset] [(.int p5)])) _
      refine XS.goto X0.here hx rfl (pc0 := 22) (pc' := 30) rfl (hb hby at_22) (by decide) (by decide) ?_
      subst hv1
      exact kt
  obtain ⟨T346, h346, k346, X346, e346, E346, A346, EE346, st346⟩ := newPE X0 hx hZ (hw _ (List.mem_of_getElem? (i := 0) rfl)) e0 (g := (mkF m 34 #[.val (.int p0), .val (.int p1), .val (.long q2), .second, .val (.int p3), .val (.int p4), .val (.int p5), .val (.int (Int32.ofNat M)), .val (.int (Int32.ofNat fm)), .val (.int v1), .unset, .unset, .unset] [(.int (8 : Int32))])) rfl (hb hby at_34) rfl (by decide) (cap := 8) (by decide) (by decide) (by decide) (by decide) (ad := "[I") (by decide)
  obtain ⟨b346, g346⟩ : ∃ z, z = h0.size := ⟨_, rfl⟩
  rw [← g346] at A346 EE346 st346
  have g_b346 : n0 ≤ b346 := Nat.le_trans Z0 (Nat.le_of_eq g346.symm)
  have Z347 : n0 ≤ h346.size := Nat.le_trans Z0 E346.1
  have V346 : own_Ar Z h346 b346 .int 8 (fun _ => (0 : Int32)) := own_Ar.of (Arv.new A346 (by decide)) (by decide) (fun i hi => rfl)
  obtain ⟨_, _, ⟨T348, L348, k348, n348⟩, -, X348, ⟨Lc348, hQ348, l348, y348, z348⟩, st348⟩ := Jvm.LawKit.callS X346 hx (y := (⟨"com/example/packwright/packwright/core/bins/FreeSpaceTreeEarliestPinLaw", "pick", "(IJIII)I"⟩ : MethodName)) hown (mvT hZ (hw _ (List.mem_of_getElem? (i := 1) rfl))) (mvT hZ (hw _ (List.mem_of_getElem? (i := 2) rfl))) (mvT hZ (hw _ (List.mem_of_getElem? (i := 3) rfl))) (mvT hZ (hw _ (List.mem_of_getElem? (i := 4) rfl))) (by decide) (backOf (W := 2) (rm1 l Z aq hw [] p1 q2 p3 (0 : Int32) (Int32.ofNat M) h346 n0 Z347 ) hZ (hw _ (List.mem_of_getElem? (i := 4) rfl)) (hw _ (List.mem_of_getElem? (i := 3) rfl)) (by decide) (by decide)) (g := (mkF m 48 #[.val (.int p0), .val (.int p1), .val (.long q2), .second, .val (.int p3), .val (.int p4), .val (.int p5), .val (.int (Int32.ofNat M)), .val (.int (Int32.ofNat fm)), .val (.int v1), .val (.ref b346), .unset, .unset] [(.int (Int32.ofNat M)), (.int (0 : Int32)), (.int p3), (.long q2), (.int p1), (.int (0 : Int32)), (.ref b346)])) rfl (by rw [hml]; rfl) (argsL := [(.int p1), (.long q2), (.int p3), (.int (0 : Int32)), (.int (Int32.ofNat M))]) (rest := [(.int (0 : Int32)), (.ref b346)]) (lenOf pd89259597 rfl) rfl (by show 2 * 0 + _ ≤ _; exact Nat.le_of_eq rfl) (hb hby at_48) (fun _ _ => ⟨rfl, e346, (by decide : 1 + 0 ≤ _), (by decide : 8 + 0 ≤ _)⟩)
  dsimp only [Pt.U, Pt.locs, Pt.cells, Pt.slots] at X348 l348 y348 z348 st348 hQ348
  rw [l348, y348, z348] at X348
  obtain ⟨rfl, N348q, e348⟩ := hQ348
  have N349 := Fr.app N0 N348q
  have pre350 : ∀ t, Steps p.tables e below (T348.setTop (mkF m 51 #[.val (.int p0), .val (.int p1), .val (.long q2), .second, .val (.int p3), .val (.int p4), .val (.int p5), .val (.int (Int32.ofNat M)), .val (.int (Int32.ofNat fm)), .val (.int v1), .val (.ref b346), .unset, .unset] [(.int (if (0 : Int32) < (Int32.ofNat M) then (if (((p3.toUInt32 >>> ((0 : Int32) &&& 31).toUInt32).toInt32) &&& (1 : Int32)) = (0 : Int32) then p1 else (((((q2.toUInt64 >>> (((4 : Int32) * (0 : Int32)) &&& 0x3f).toInt64.toUInt64).toInt64) &&& (15 : Int64)).toInt32) - (8 : Int32))) else p1)), (.int (0 : Int32)), (.ref b346)])) t → Steps p.tables e below (s₁.setTop (entryFrame m #[(.int p0), (.int p1), (.long q2), (.int p3), (.int p4), (.int p5)] maxLocals)) t := fun t kt => by
    refine pre345 _ ?_
    show Steps p.tables e below (s₁.setTop (mkF m 30 #[.val (.int p0), .val (.int p1), .val (.long q2), .second, .val (.int p3), .val (.int p4), .val (.int p5), .val (.int (Int32.ofNat M)), .val (.int (Int32.ofNat fm)), .unset, .unset, .unset, .unset] [(.int v1)])) _
    refine XS.istore X0.here hx rfl (hb hby at_30) rfl (l' := #[.val (.int p0), .val (.int p1), .val (.long q2), .second, .val (.int p3), .val (.int p4), .val (.int p5), .val (.int (Int32.ofNat M)), .val (.int (Int32.ofNat fm)), .val (.int v1), .unset, .unset, .unset]) rfl ?_
    show Steps p.tables e below (s₁.setTop (mkF m 32 #[.val (.int p0), .val (.int p1), .val (.long q2), .second, .val (.int p3), .val (.int p4), .val (.int p5), .val (.int (Int32.ofNat M)), .val (.int (Int32.ofNat fm)), .val (.int v1), .unset, .unset, .unset] [])) _
    refine XS.bipush X0.here hx rfl (hb hby at_32) ?_
    show Steps p.tables e below (s₁.setTop (mkF m 34 #[.val (.int p0), .val (.int p1), .val (.long q2), .second, .val (.int p3), .val (.int p4), .val (.int p5), .val (.int (Int32.ofNat M)), .val (.int (Int32.ofNat fm)), .val (.int v1), .unset, .unset, .unset] [(.int (8 : Int32))])) _
    refine st346 _ ?_
    show Steps p.tables e below (T346.setTop (mkF m 36 #[.val (.int p0), .val (.int p1), .val (.long q2), .second, .val (.int p3), .val (.int p4), .val (.int p5), .val (.int (Int32.ofNat M)), .val (.int (Int32.ofNat fm)), .val (.int v1), .unset, .unset, .unset] [(.ref b346)])) _
    refine XS.astore X346.here hx rfl (hb hby at_36) rfl rfl (l' := #[.val (.int p0), .val (.int p1), .val (.long q2), .second, .val (.int p3), .val (.int p4), .val (.int p5), .val (.int (Int32.ofNat M)), .val (.int (Int32.ofNat fm)), .val (.int v1), .val (.ref b346), .unset, .unset]) rfl ?_
    show Steps p.tables e below (T346.setTop (mkF m 38 #[.val (.int p0), .val (.int p1), .val (.long q2), .second, .val (.int p3), .val (.int p4), .val (.int p5), .val (.int (Int32.ofNat M)), .val (.int (Int32.ofNat fm)), .val (.int v1), .val (.ref b346), .unset, .unset] [])) _
    refine XS.aload X346.here hx rfl (hb hby at_38) rfl rfl ?_
    show Steps p.tables e below (T346.setTop (mkF m 40 #[.val (.int p0), .val (.int p1), .val (.long q2), .second, .val (.int p3), .val (.int p4), .val (.int p5), .val (.int (Int32.ofNat M)), .val (.int (Int32.ofNat fm)), .val (.int v1), .val (.ref b346), .unset, .unset] [(.ref b346)])) _
    refine XS.iconst X346.here hx rfl (hb hby at_40) ?_
    show Steps p.tables e below (T346.setTop (mkF m 41 #[.val (.int p0), .val (.int p1), .val (.long q2), .second, .val (.int p3), .val (.int p4), .val (.int p5), .val (.int (Int32.ofNat M)), .val (.int (Int32.ofNat fm)), .val (.int v1), .val (.ref b346), .unset, .unset] [(.int (0 : Int32)), (.ref b346)])) _
    refine XS.iloadN X346.here hx rfl (hb hby at_41) rfl ?_
    show Steps p.tables e below (T346.setTop (mkF m 42 #[.val (.int p0), .val (.int p1), .val (.long q2), .second, .val (.int p3), .val (.int p4), .val (.int p5), .val (.int (Int32.ofNat M)), .val (.int (Int32.ofNat fm)), .val (.int v1), .val (.ref b346), .unset, .unset] [(.int p1), (.int (0 : Int32)), (.ref b346)])) _
    refine XS.lloadN X346.here hx rfl (hb hby at_42) rfl ?_
    show Steps p.tables e below (T346.setTop (mkF m 43 #[.val (.int p0), .val (.int p1), .val (.long q2), .second, .val (.int p3), .val (.int p4), .val (.int p5), .val (.int (Int32.ofNat M)), .val (.int (Int32.ofNat fm)), .val (.int v1), .val (.ref b346), .unset, .unset] [(.long q2), (.int p1), (.int (0 : Int32)), (.ref b346)])) _
    refine XS.iload X346.here hx rfl (hb hby at_43) rfl ?_
    show Steps p.tables e below (T346.setTop (mkF m 45 #[.val (.int p0), .val (.int p1), .val (.long q2), .second, .val (.int p3), .val (.int p4), .val (.int p5), .val (.int (Int32.ofNat M)), .val (.int (Int32.ofNat fm)), .val (.int v1), .val (.ref b346), .unset, .unset] [(.int p3), (.long q2), (.int p1), (.int (0 : Int32)), (.ref b346)])) _
    refine XS.iconst X346.here hx rfl (hb hby at_45) ?_
    show Steps p.tables e below (T346.setTop (mkF m 46 #[.val (.int p0), .val (.int p1), .val (.long q2), .second, .val (.int p3), .val (.int p4), .val (.int p5), .val (.int (Int32.ofNat M)), .val (.int (Int32.ofNat fm)), .val (.int v1), .val (.ref b346), .unset, .unset] [(.int (0 : Int32)), (.int p3), (.long q2), (.int p1), (.int (0 : Int32)), (.ref b346)])) _
    refine XS.iload X346.here hx rfl (hb hby at_46) rfl ?_
    show Steps p.tables e below (T346.setTop (mkF m 48 #[.val (.int p0), .val (.int p1), .val (.long q2), .second, .val (.int p3), .val (.int p4), .val (.int p5), .val (.int (Int32.ofNat M)), .val (.int (Int32.ofNat fm)), .val (.int v1), .val (.ref b346), .unset, .unset] [(.int (Int32.ofNat M)), (.int (0 : Int32)), (.int p3), (.long q2), (.int p1), (.int (0 : Int32)), (.ref b346)])) _
    refine st348 _ ?_
    show Steps p.tables e below (T348.setTop (mkF m 51 #[.val (.int p0), .val (.int p1), .val (.long q2), .second, .val (.int p3), .val (.int p4), .val (.int p5), .val (.int (Int32.ofNat M)), .val (.int (Int32.ofNat fm)), .val (.int v1), .val (.ref b346), .unset, .unset] [(.int (if (0 : Int32) < (Int32.ofNat M) then (if (((p3.toUInt32 >>> ((0 : Int32) &&& 31).toUInt32).toInt32) &&& (1 : Int32)) = (0 : Int32) then p1 else (((((q2.toUInt64 >>> (((4 : Int32) * (0 : Int32)) &&& 0x3f).toInt64.toUInt64).toInt64) &&& (15 : Int64)).toInt32) - (8 : Int32))) else p1)), (.int (0 : Int32)), (.ref b346)])) _
    exact kt
  obtain ⟨v2, hv2⟩ : ∃ z : Int32, z = (if (0 : Int32) < (Int32.ofNat M) then (if (((p3.toUInt32 >>> ((0 : Int32) &&& 31).toUInt32).toInt32) &&& (1 : Int32)) = (0 : Int32) then p1 else (((((q2.toUInt64 >>> (((4 : Int32) * (0 : Int32)) &&& 0x3f).toInt64.toUInt64).toInt64) &&& (15 : Int64)).toInt32) - (8 : Int32))) else p1) := ⟨_, rfl⟩
  have pre351 : ∀ t, Steps p.tables e below (T348.setTop (mkF m 51 #[.val (.int p0), .val (.int p1), .val (.long q2), .second, .val (.int p3), .val (.int p4), .val (.int p5), .val (.int (Int32.ofNat M)), .val (.int (Int32.ofNat fm)), .val (.int v1), .val (.ref b346), .unset, .unset] [(.int v2), (.int (0 : Int32)), (.ref b346)])) t → Steps p.tables e below (s₁.setTop (entryFrame m #[(.int p0), (.int p1), (.long q2), (.int p3), (.int p4), (.int p5)] maxLocals)) t := fun t kt => pre350 t (by rw [hv2] at kt; exact kt)
  obtain ⟨T352, h352, X352, e352, W352, V352, st352⟩ := own_stI X348 hx hZ e348 V346 (j := (0 : Int32)) (i := 0) (by decide) (by decide) (g := (mkF m 51 #[.val (.int p0), .val (.int p1), .val (.long q2), .second, .val (.int p3), .val (.int p4), .val (.int p5), .val (.int (Int32.ofNat M)), .val (.int (Int32.ofNat fm)), .val (.int v1), .val (.ref b346), .unset, .unset] [(.int v2), (.int (0 : Int32)), (.ref b346)])) rfl rfl (hb hby at_51)
  have E353 := EE346.wr W352
  have N354 := Fr.snoc X352 N349 g_b346
  have Z355 : n0 ≤ h352.size := Nat.le_trans Z347 (Keep.of_wr W352).1
  obtain ⟨_, _, ⟨T356, L356, k356, n356⟩, -, X356, ⟨Lc356, hQ356, l356, y356, z356⟩, st356⟩ := Jvm.LawKit.callS X352 hx (y := (⟨"com/example/packwright/packwright/core/bins/FreeSpaceTreeEarliestPinLaw", "pick", "(IJIII)I"⟩ : MethodName)) hown (mvT hZ (hw _ (List.mem_of_getElem? (i := 1) rfl))) (mvT hZ (hw _ (List.mem_of_getElem? (i := 2) rfl))) (mvT hZ (hw _ (List.mem_of_getElem? (i := 3) rfl))) (mvT hZ (hw _ (List.mem_of_getElem? (i := 4) rfl))) (by decide) (backOf (W := 2) (rm1 l Z aq hw [] p1 q2 p3 (1 : Int32) (Int32.ofNat M) h352 n0 Z355 ) hZ (hw _ (List.mem_of_getElem? (i := 4) rfl)) (hw _ (List.mem_of_getElem? (i := 3) rfl)) (by decide) (by decide)) (g := (mkF m 62 #[.val (.int p0), .val (.int p1), .val (.long q2), .second, .val (.int p3), .val (.int p4), .val (.int p5), .val (.int (Int32.ofNat M)), .val (.int (Int32.ofNat fm)), .val (.int v1), .val (.ref b346), .unset, .unset] [(.int (Int32.ofNat M)), (.int (1 : Int32)), (.int p3), (.long q2), (.int p1), (.int (1 : Int32)), (.ref b346)])) rfl (by rw [hml]; rfl) (argsL := [(.int p1), (.long q2), (.int p3), (.int (1 : Int32)), (.int (Int32.ofNat M))]) (rest := [(.int (1 : Int32)), (.ref b346)]) (lenOf pd89259597 rfl) rfl (by show 2 * 0 + _ ≤ _; exact Nat.le_of_eq rfl) (hb hby at_62) (fun _ _ => ⟨rfl, e352, (by decide : 1 + 0 ≤ _), (by decide : 8 + 0 ≤ _)⟩)
  dsimp only [Pt.U, Pt.locs, Pt.cells, Pt.slots] at X356 l356 y356 z356 st356 hQ356
  rw [l356, y356, z356] at X356
  obtain ⟨rfl, N356q, e356⟩ := hQ356
  have N357 := Fr.app N354 N356q
  have pre358 : ∀ t, Steps p.tables e below (T356.setTop (mkF m 65 #[.val (.int p0), .val (.int p1), .val (.long q2), .second, .val (.int p3), .val (.int p4), .val (.int p5), .val (.int (Int32.ofNat M)), .val (.int (Int32.ofNat fm)), .val (.int v1), .val (.ref b346), .unset, .unset] [(.int (if (1 : Int32) < (Int32.ofNat M) then (if (((p3.toUInt32 >>> ((1 : Int32) &&& 31).toUInt32).toInt32) &&& (1 : Int32)) = (0 : Int32) then p1 else (((((q2.toUInt64 >>> (((4 : Int32) * (1 : Int32)) &&& 0x3f).toInt64.toUInt64).toInt64) &&& (15 : Int64)).toInt32) - (8 : Int32))) else p1)), (.int (1 : Int32)), (.ref b346)])) t → Steps p.tables e below (s₁.setTop (entryFrame m #[(.int p0), (.int p1), (.long q2), (.int p3), (.int p4), (.int p5)] maxLocals)) t := fun t kt => by
    refine pre351 _ ?_
    show Steps p.tables e below (T348.setTop (mkF m 51 #[.val (.int p0), .val (.int p1), .val (.long q2), .second, .val (.int p3), .val (.int p4), .val (.int p5), .val (.int (Int32.ofNat M)), .val (.int (Int32.ofNat fm)), .val (.int v1), .val (.ref b346), .unset, .unset] [(.int v2), (.int (0 : Int32)), (.ref b346)])) _
    refine st352 _ ?_
    show Steps p.tables e below (T352.setTop (mkF m 52 #[.val (.int p0), .val (.int p1), .val (.long q2), .second, .val (.int p3), .val (.int p4), .val (.int p5), .val (.int (Int32.ofNat M)), .val (.int (Int32.ofNat fm)), .val (.int v1), .val (.ref b346), .unset, .unset] [])) _
    refine XS.aload X352.here hx rfl (hb hby at_52) rfl rfl ?_
    show Steps p.tables e below (T352.setTop (mkF m 54 #[.val (.int p0), .val (.int p1), .val (.long q2), .second, .val (.int p3), .val (.int p4), .val (.int p5), .val (.int (Int32.ofNat M)), .val (.int (Int32.ofNat fm)), .val (.int v1), .val (.ref b346), .unset, .unset] [(.ref b346)])) _
    refine XS.iconst X352.here hx rfl (hb hby at_54) ?_
    show Steps p.tables e below (T352.setTop (mkF m 55 #[.val (.int p0), .val (.int p1), .val (.long q2), .second, .val (.int p3), .val (.int p4), .val (.int p5), .val (.int (Int32.ofNat M)), .val (.int (Int32.ofNat fm)), .val (.int v1), .val (.ref b346), .unset, .unset] [(.int (1 : Int32)), (.ref b346)])) _
    refine XS.iloadN X352.here hx rfl (hb hby at_55) rfl ?_
    show Steps p.tables e below (T352.setTop (mkF m 56 #[.val (.int p0), .val (.int p1), .val (.long q2), .second, .val (.int p3), .val (.int p4), .val (.int p5), .val (.int (Int32.ofNat M)), .val (.int (Int32.ofNat fm)), .val (.int v1), .val (.ref b346), .unset, .unset] [(.int p1), (.int (1 : Int32)), (.ref b346)])) _
    refine XS.lloadN X352.here hx rfl (hb hby at_56) rfl ?_
    show Steps p.tables e below (T352.setTop (mkF m 57 #[.val (.int p0), .val (.int p1), .val (.long q2), .second, .val (.int p3), .val (.int p4), .val (.int p5), .val (.int (Int32.ofNat M)), .val (.int (Int32.ofNat fm)), .val (.int v1), .val (.ref b346), .unset, .unset] [(.long q2), (.int p1), (.int (1 : Int32)), (.ref b346)])) _
    refine XS.iload X352.here hx rfl (hb hby at_57) rfl ?_
    show Steps p.tables e below (T352.setTop (mkF m 59 #[.val (.int p0), .val (.int p1), .val (.long q2), .second, .val (.int p3), .val (.int p4), .val (.int p5), .val (.int (Int32.ofNat M)), .val (.int (Int32.ofNat fm)), .val (.int v1), .val (.ref b346), .unset, .unset] [(.int p3), (.long q2), (.int p1), (.int (1 : Int32)), (.ref b346)])) _
    refine XS.iconst X352.here hx rfl (hb hby at_59) ?_
    show Steps p.tables e below (T352.setTop (mkF m 60 #[.val (.int p0), .val (.int p1), .val (.long q2), .second, .val (.int p3), .val (.int p4), .val (.int p5), .val (.int (Int32.ofNat M)), .val (.int (Int32.ofNat fm)), .val (.int v1), .val (.ref b346), .unset, .unset] [(.int (1 : Int32)), (.int p3), (.long q2), (.int p1), (.int (1 : Int32)), (.ref b346)])) _
    refine XS.iload X352.here hx rfl (hb hby at_60) rfl ?_
    show Steps p.tables e below (T352.setTop (mkF m 62 #[.val (.int p0), .val (.int p1), .val (.long q2), .second, .val (.int p3), .val (.int p4), .val (.int p5), .val (.int (Int32.ofNat M)), .val (.int (Int32.ofNat fm)), .val (.int v1), .val (.ref b346), .unset, .unset] [(.int (Int32.ofNat M)), (.int (1 : Int32)), (.int p3), (.long q2), (.int p1), (.int (1 : Int32)), (.ref b346)])) _
    refine st356 _ ?_
    show Steps p.tables e below (T356.setTop (mkF m 65 #[.val (.int p0), .val (.int p1), .val (.long q2), .second, .val (.int p3), .val (.int p4), .val (.int p5), .val (.int (Int32.ofNat M)), .val (.int (Int32.ofNat fm)), .val (.int v1), .val (.ref b346), .unset, .unset] [(.int (if (1 : Int32) < (Int32.ofNat M) then (if (((p3.toUInt32 >>> ((1 : Int32) &&& 31).toUInt32).toInt32) &&& (1 : Int32)) = (0 : Int32) then p1 else (((((q2.toUInt64 >>> (((4 : Int32) * (1 : Int32)) &&& 0x3f).toInt64.toUInt64).toInt64) &&& (15 : Int64)).toInt32) - (8 : Int32))) else p1)), (.int (1 : Int32)), (.ref b346)])) _
    exact kt
  obtain ⟨v3, hv3⟩ : ∃ z : Int32, z = (if (1 : Int32) < (Int32.ofNat M) then (if (((p3.toUInt32 >>> ((1 : Int32) &&& 31).toUInt32).toInt32) &&& (1 : Int32)) = (0 : Int32) then p1 else (((((q2.toUInt64 >>> (((4 : Int32) * (1 : Int32)) &&& 0x3f).toInt64.toUInt64).toInt64) &&& (15 : Int64)).toInt32) - (8 : Int32))) else p1) := ⟨_, rfl⟩
  have pre359 : ∀ t, Steps p.tables e below (T356.setTop (mkF m 65 #[.val (.int p0), .val (.int p1), .val (.long q2), .second, .val (.int p3), .val (.int p4), .val (.int p5), .val (.int (Int32.ofNat M)), .val (.int (Int32.ofNat fm)), .val (.int v1), .val (.ref b346), .unset, .unset] [(.int v3), (.int (1 : Int32)), (.ref b346)])) t → Steps p.tables e below (s₁.setTop (entryFrame m #[(.int p0), (.int p1), (.long q2), (.int p3), (.int p4), (.int p5)] maxLocals)) t := fun t kt => pre358 t (by rw [hv3] at kt; exact kt)
  obtain ⟨T360, h360, X360, e360, W360, V360, st360⟩ := own_stI X356 hx hZ e356 V352 (j := (1 : Int32)) (i := 1) (by decide) (by decide) (g := (mkF m 65 #[.val (.int p0), .val (.int p1), .val (.long q2), .second, .val (.int p3), .val (.int p4), .val (.int p5), .val (.int (Int32.ofNat M)), .val (.int (Int32.ofNat fm)), .val (.int v1), .val (.ref b346), .unset, .unset] [(.int v3), (.int (1 : Int32)), (.ref b346)])) rfl rfl (hb hby at_65)
  have E361 := E353.wr W360
  have N362 := Fr.snoc X360 N357 g_b346
  have Z363 : n0 ≤ h360.size := Nat.le_trans Z355 (Keep.of_wr W360).1
  obtain ⟨_, _, ⟨T364, L364, k364, n364⟩, -, X364, ⟨Lc364, hQ364, l364, y364, z364⟩, st364⟩ := Jvm.LawKit.callS X360 hx (y := (⟨"com/example/packwright/packwright/core/bins/FreeSpaceTreeEarliestPinLaw", "pick", "(IJIII)I"⟩ : MethodName)) hown (mvT hZ (hw _ (List.mem_of_getElem? (i := 1) rfl))) (mvT hZ (hw _ (List.mem_of_getElem? (i := 2) rfl))) (mvT hZ (hw _ (List.mem_of_getElem? (i := 3) rfl))) (mvT hZ (hw _ (List.mem_of_getElem? (i := 4) rfl))) (by decide) (backOf (W := 2) (rm1 l Z aq hw [] p1 q2 p3 (2 : Int32) (Int32.ofNat M) h360 n0 Z363 ) hZ (hw _ (List.mem_of_getElem? (i := 4) rfl)) (hw _ (List.mem_of_getElem? (i := 3) rfl)) (by decide) (by decide)) (g := (mkF m 76 #[.val (.int p0), .val (.int p1), .val (.long q2), .second, .val (.int p3), .val (.int p4), .val (.int p5), .val (.int (Int32.ofNat M)), .val (.int (Int32.ofNat fm)), .val (.int v1), .val (.ref b346), .unset, .unset] [(.int (Int32.ofNat M)), (.int (2 : Int32)), (.int p3), (.long q2), (.int p1), (.int (2 : Int32)), (.ref b346)])) rfl (by rw [hml]; rfl) (argsL := [(.int p1), (.long q2), (.int p3), (.int (2 : Int32)), (.int (Int32.ofNat M))]) (rest := [(.int (2 : Int32)), (.ref b346)]) (lenOf pd89259597 rfl) rfl (by show 2 * 0 + _ ≤ _; exact Nat.le_of_eq rfl) (hb hby at_76) (fun _ _ => ⟨rfl, e360, (by decide : 1 + 0 ≤ _), (by decide : 8 + 0 ≤ _)⟩)
  dsimp only [Pt.U, Pt.locs, Pt.cells, Pt.slots] at X364 l364 y364 z364 st364 hQ364
  rw [l364, y364, z364] at X364
  obtain ⟨rfl, N364q, e364⟩ := hQ364
  have N365 := Fr.app N362 N364q
  have pre366 : ∀ t, Steps p.tables e below (T364.setTop (mkF m 79 #[.val (.int p0), .val (.int p1), .val (.long q2), .second, .val (.int p3), .val (.int p4), .val (.int p5), .val (.int (Int32.ofNat M)), .val (.int (Int32.ofNat fm)), .val (.int v1), .val (.ref b346), .unset, .unset] [(.int (if (2 : Int32) < (Int32.ofNat M) then (if (((p3.toUInt32 >>> ((2 : Int32) &&& 31).toUInt32).toInt32) &&& (1 : Int32)) = (0 : Int32) then p1 else (((((q2.toUInt64 >>> (((4 : Int32) * (2 : Int32)) &&& 0x3f).toInt64.toUInt64).toInt64) &&& (15 : Int64)).toInt32) - (8 : Int32))) else p1)), (.int (2 : Int32)), (.ref b346)])) t → Steps p.tables e below (s₁.setTop (entryFrame m #[(.int p0), (.int p1), (.long q2), (.int p3), (.int p4), (.int p5)] maxLocals)) t := fun t kt => by
    refine pre359 _ ?_
    show Steps p.tables e below (T356.setTop (mkF m 65 #[.val (.int p0), .val (.int p1), .val (.long q2), .second, .val (.int p3), .val (.int p4), .val (.int p5), .val (.int (Int32.ofNat M)), .val (.int (Int32.ofNat fm)), .val (.int v1), .val (.ref b346), .unset, .unset] [(.int v3), (.int (1 : Int32)), (.ref b346)])) _
    refine st360 _ ?_
    show Steps p.tables e below (T360.setTop (mkF m 66 #[.val (.int p0), .val (.int p1), .val (.long q2), .second, .val (.int p3), .val (.int p4), .val (.int p5), .val (.int (Int32.ofNat M)), .val (.int (Int32.ofNat fm)), .val (.int v1), .val (.ref b346), .unset, .unset] [])) _
    refine XS.aload X360.here hx rfl (hb hby at_66) rfl rfl ?_
    show Steps p.tables e below (T360.setTop (mkF m 68 #[.val (.int p0), .val (.int p1), .val (.long q2), .second, .val (.int p3), .val (.int p4), .val (.int p5), .val (.int (Int32.ofNat M)), .val (.int (Int32.ofNat fm)), .val (.int v1), .val (.ref b346), .unset, .unset] [(.ref b346)])) _
    refine XS.iconst X360.here hx rfl (hb hby at_68) ?_
    show Steps p.tables e below (T360.setTop (mkF m 69 #[.val (.int p0), .val (.int p1), .val (.long q2), .second, .val (.int p3), .val (.int p4), .val (.int p5), .val (.int (Int32.ofNat M)), .val (.int (Int32.ofNat fm)), .val (.int v1), .val (.ref b346), .unset, .unset] [(.int (2 : Int32)), (.ref b346)])) _
    refine XS.iloadN X360.here hx rfl (hb hby at_69) rfl ?_
    show Steps p.tables e below (T360.setTop (mkF m 70 #[.val (.int p0), .val (.int p1), .val (.long q2), .second, .val (.int p3), .val (.int p4), .val (.int p5), .val (.int (Int32.ofNat M)), .val (.int (Int32.ofNat fm)), .val (.int v1), .val (.ref b346), .unset, .unset] [(.int p1), (.int (2 : Int32)), (.ref b346)])) _
    refine XS.lloadN X360.here hx rfl (hb hby at_70) rfl ?_
    show Steps p.tables e below (T360.setTop (mkF m 71 #[.val (.int p0), .val (.int p1), .val (.long q2), .second, .val (.int p3), .val (.int p4), .val (.int p5), .val (.int (Int32.ofNat M)), .val (.int (Int32.ofNat fm)), .val (.int v1), .val (.ref b346), .unset, .unset] [(.long q2), (.int p1), (.int (2 : Int32)), (.ref b346)])) _
    refine XS.iload X360.here hx rfl (hb hby at_71) rfl ?_
    show Steps p.tables e below (T360.setTop (mkF m 73 #[.val (.int p0), .val (.int p1), .val (.long q2), .second, .val (.int p3), .val (.int p4), .val (.int p5), .val (.int (Int32.ofNat M)), .val (.int (Int32.ofNat fm)), .val (.int v1), .val (.ref b346), .unset, .unset] [(.int p3), (.long q2), (.int p1), (.int (2 : Int32)), (.ref b346)])) _
    refine XS.iconst X360.here hx rfl (hb hby at_73) ?_
    show Steps p.tables e below (T360.setTop (mkF m 74 #[.val (.int p0), .val (.int p1), .val (.long q2), .second, .val (.int p3), .val (.int p4), .val (.int p5), .val (.int (Int32.ofNat M)), .val (.int (Int32.ofNat fm)), .val (.int v1), .val (.ref b346), .unset, .unset] [(.int (2 : Int32)), (.int p3), (.long q2), (.int p1), (.int (2 : Int32)), (.ref b346)])) _
    refine XS.iload X360.here hx rfl (hb hby at_74) rfl ?_
    show Steps p.tables e below (T360.setTop (mkF m 76 #[.val (.int p0), .val (.int p1), .val (.long q2), .second, .val (.int p3), .val (.int p4), .val (.int p5), .val (.int (Int32.ofNat M)), .val (.int (Int32.ofNat fm)), .val (.int v1), .val (.ref b346), .unset, .unset] [(.int (Int32.ofNat M)), (.int (2 : Int32)), (.int p3), (.long q2), (.int p1), (.int (2 : Int32)), (.ref b346)])) _
    refine st364 _ ?_
    show Steps p.tables e below (T364.setTop (mkF m 79 #[.val (.int p0), .val (.int p1), .val (.long q2), .second, .val (.int p3), .val (.int p4), .val (.int p5), .val (.int (Int32.ofNat M)), .val (.int (Int32.ofNat fm)), .val (.int v1), .val (.ref b346), .unset, .unset] [(.int (if (2 : Int32) < (Int32.ofNat M) then (if (((p3.toUInt32 >>> ((2 : Int32) &&& 31).toUInt32).toInt32) &&& (1 : Int32)) = (0 : Int32) then p1 else (((((q2.toUInt64 >>> (((4 : Int32) * (2 : Int32)) &&& 0x3f).toInt64.toUInt64).toInt64) &&& (15 : Int64)).toInt32) - (8 : Int32))) else p1)), (.int (2 : Int32)), (.ref b346)])) _
    exact kt
  obtain ⟨v4, hv4⟩ : ∃ z : Int32, z = (if (2 : Int32) < (Int32.ofNat M) then (if (((p3.toUInt32 >>> ((2 : Int32) &&& 31).toUInt32).toInt32) &&& (1 : Int32)) = (0 : Int32) then p1 else (((((q2.toUInt64 >>> (((4 : Int32) * (2 : Int32)) &&& 0x3f).toInt64.toUInt64).toInt64) &&& (15 : Int64)).toInt32) - (8 : Int32))) else p1) := ⟨_, rfl⟩
  have pre367 : ∀ t, Steps p.tables e below (T364.setTop (mkF m 79 #[.val (.int p0), .val (.int p1), .val (.long q2), .second, .val (.int p3), .val (.int p4), .val (.int p5), .val (.int (Int32.ofNat M)), .val (.int (Int32.ofNat fm)), .val (.int v1), .val (.ref b346), .unset, .unset] [(.int v4), (.int (2 : Int32)), (.ref b346)])) t → Steps p.tables e below (s₁.setTop (entryFrame m #[(.int p0), (.int p1), (.long q2), (.int p3), (.int p4), (.int p5)] maxLocals)) t := fun t kt => pre366 t (by rw [hv4] at kt; exact kt)
  obtain ⟨T368, h368, X368, e368, W368, V368, st368⟩ := own_stI X364 hx hZ e364 V360 (j := (2 : Int32)) (i := 2) (by decide) (by decide) (g := (mkF m 79 #[.val (.int p0), .val (.int p1), .val (.long q2), .second, .val (.int p3), .val (.int p4), .val (.int p5), .val (.int (Int32.ofNat M)), .val (.int (Int32.ofNat fm)), .val (.int v1), .val (.ref b346), .unset, .unset] [(.int v4), (.int (2 : Int32)), (.ref b346)])) rfl rfl (hb hby at_79)
  have E369 := E361.wr W368
  have N370 := Fr.snoc X368 N365 g_b346
  have Z371 : n0 ≤ h368.size := Nat.le_trans Z363 (Keep.of_wr W368).1
  obtain ⟨_, _, ⟨T372, L372, k372, n372⟩, -, X372, ⟨Lc372, hQ372, l372, y372, z372⟩, st372⟩ := Jvm.LawKit.callS X368 hx (y := (⟨"com/example/packwright/packwright/core/bins/FreeSpaceTreeEarliestPinLaw", "pick", "(IJIII)I"⟩ : MethodName)) hown (mvT hZ (hw _ (List.mem_of_getElem? (i := 1) rfl))) (mvT hZ (hw _ (List.mem_of_getElem? (i := 2) rfl))) (mvT hZ (hw _ (List.mem_of_getElem? (i := 3) rfl))) (mvT hZ (hw _ (List.mem_of_getElem? (i := 4) rfl))) (by decide) (backOf (W := 2) (rm1 l Z aq hw [] p1 q2 p3 (3 : Int32) (Int32.ofNat M) h368 n0 Z371 ) hZ (hw _ (List.mem_of_getElem? (i := 4) rfl)) (hw _ (List.mem_of_getElem? (i := 3) rfl)) (by decide) (by decide)) (g := (mkF m 90 #[.val (.int p0), .val (.int p1), .val (.long q2), .second, .val (.int p3), .val (.int p4), .val (.int p5), .val (.int (Int32.ofNat M)), .val (.int (Int32.ofNat fm)), .val (.int v1), .val (.ref b346), .unset, .unset] [(.int (Int32.ofNat M)), (.int (3 : Int32)), (.int p3), (.long q2), (.int p1), (.int (3 : Int32)), (.ref b346)])) rfl (by rw [hml]; rfl) (argsL := [(.int p1), (.long q2), (.int p3), (.int (3 : Int32)), (.int (Int32.ofNat M))]) (rest := [(.int (3 : Int32)), (.ref b346)]) (lenOf pd89259597 rfl) rfl (by show 2 * 0 + _ ≤ _; exact Nat.le_of_eq rfl) (hb hby at_90) (fun _ _ => ⟨rfl, e368, (by decide : 1 + 0 ≤ _), (by decide : 8 + 0 ≤ _)⟩)
  dsimp only [Pt.U, Pt.locs, Pt.cells, Pt.slots] at X372 l372 y372 z372 st372 hQ372
  rw [l372, y372, z372] at X372
  obtain ⟨rfl, N372q, e372⟩ := hQ372
  have N373 := Fr.app N370 N372q
  have pre374 : ∀ t, Steps p.tables e below (T372.setTop (mkF m 93 #[.val (.int p0), .val (.int p1), .val (.long q2), .second, .val (.int p3), .val (.int p4), .val (.int p5), .val (.int (Int32.ofNat M)), .val (.int (Int32.ofNat fm)), .val (.int v1), .val (.ref b346), .unset, .unset] [(.int (if (3 : Int32) < (Int32.ofNat M) then (if (((p3.toUInt32 >>> ((3 : Int32) &&& 31).toUInt32).toInt32) &&& (1 : Int32)) = (0 : Int32) then p1 else (((((q2.toUInt64 >>> (((4 : Int32) * (3 : Int32)) &&& 0x3f).toInt64.toUInt64).toInt64) &&& (15 : Int64)).toInt32) - (8 : Int32))) else p1)), (.int (3 : Int32)), (.ref b346)])) t → Steps p.tables e below (s₁.setTop (entryFrame m #[(.int p0), (.int p1), (.long q2), (.int p3), (.int p4), (.int p5)] maxLocals)) t := fun t kt => by
    refine pre367 _ ?_
    show Steps p.tables e below (T364.setTop (mkF m 79 #[.val (.int p0), .val (.int p1), .val (.long q2), .second, .val (.int p3), .val (.int p4), .val (.int p5), .val (.int (Int32.ofNat M)), .val (.int (Int32.ofNat fm)), .val (.int v1), .val (.ref b346), .unset, .unset] [(.int v4), (.int (2 : Int32)), (.ref b346)])) _
    refine st368 _ ?_
    show Steps p.tables e below (T368.setTop (mkF m 80 #[.val (.int p0), .val (.int p1), .val (.long q2), .second, .val (.int p3), .val (.int p4), .val (.int p5), .val (.int (Int32.ofNat M)), .val (.int (Int32.ofNat fm)), .val (.int v1), .val (.ref b346), .unset, .unset] [])) _
    refine XS.aload X368.here hx rfl (hb hby at_80) rfl rfl ?_
    show Steps p.tables e below (T368.setTop (mkF m 82 #[.val (.int p0), .val (.int p1), .val (.long q2), .second, .val (.int p3), .val (.int p4), .val (.int p5), .val (.int (Int32.ofNat M)), .val (.int (Int32.ofNat fm)), .val (.int v1), .val (.ref b346), .unset, .unset] [(.ref b346)])) _
    refine XS.iconst X368.here hx rfl (hb hby at_82) ?_
    show Steps p.tables e below (T368.setTop (mkF m 83 #[.val (.int p0), .val (.int p1), .val (.long q2), .second, .val (.int p3), .val (.int p4), .val (.int p5), .val (.int (Int32.ofNat M)), .val (.int (Int32.ofNat fm)), .val (.int v1), .val (.ref b346), .unset, .unset] [(.int (3 : Int32)), (.ref b346)])) _
    refine XS.iloadN X368.here hx rfl (hb hby at_83) rfl ?_
    show Steps p.tables e below (T368.setTop (mkF m 84 #[.val (.int p0), .val (.int p1), .val (.long q2), .second, .val (.int p3), .val (.int p4), .val (.int p5), .val (.int (Int32.ofNat M)), .val (.int (Int32.ofNat fm)), .val (.int v1), .val (.ref b346), .unset, .unset] [(.int p1), (.int (3 : Int32)), (.ref b346)])) _
    refine XS.lloadN X368.here hx rfl (hb hby at_84) rfl ?_
    show Steps p.tables e below (T368.setTop (mkF m 85 #[.val (.int p0), .val (.int p1), .val (.long q2), .second, .val (.int p3), .val (.int p4), .val (.int p5), .val (.int (Int32.ofNat M)), .val (.int (Int32.ofNat fm)), .val (.int v1), .val (.ref b346), .unset, .unset] [(.long q2), (.int p1), (.int (3 : Int32)), (.ref b346)])) _
    refine XS.iload X368.here hx rfl (hb hby at_85) rfl ?_
    show Steps p.tables e below (T368.setTop (mkF m 87 #[.val (.int p0), .val (.int p1), .val (.long q2), .second, .val (.int p3), .val (.int p4), .val (.int p5), .val (.int (Int32.ofNat M)), .val (.int (Int32.ofNat fm)), .val (.int v1), .val (.ref b346), .unset, .unset] [(.int p3), (.long q2), (.int p1), (.int (3 : Int32)), (.ref b346)])) _
    refine XS.iconst X368.here hx rfl (hb hby at_87) ?_
    show Steps p.tables e below (T368.setTop (mkF m 88 #[.val (.int p0), .val (.int p1), .val (.long q2), .second, .val (.int p3), .val (.int p4), .val (.int p5), .val (.int (Int32.ofNat M)), .val (.int (Int32.ofNat fm)), .val (.int v1), .val (.ref b346), .unset, .unset] [(.int (3 : Int32)), (.int p3), (.long q2), (.int p1), (.int (3 : Int32)), (.ref b346)])) _
    refine XS.iload X368.here hx rfl (hb hby at_88) rfl ?_
    show Steps p.tables e below (T368.setTop (mkF m 90 #[.val (.int p0), .val (.int p1), .val (.long q2), .second, .val (.int p3), .val (.int p4), .val (.int p5), .val (.int (Int32.ofNat M)), .val (.int (Int32.ofNat fm)), .val (.int v1), .val (.ref b346), .unset, .unset] [(.int (Int32.ofNat M)), (.int (3 : Int32)), (.int p3), (.long q2), (.int p1), (.int (3 : Int32)), (.ref b346)])) _
    refine st372 _ ?_
    show Steps p.tables e below (T372.setTop (mkF m 93 #[.val (.int p0), .val (.int p1), .val (.long q2), .second, .val (.int p3), .val (.int p4), .val (.int p5), .val (.int (Int32.ofNat M)), .val (.int (Int32.ofNat fm)), .val (.int v1), .val (.ref b346), .unset, .unset] [(.int (if (3 : Int32) < (Int32.ofNat M) then (if (((p3.toUInt32 >>> ((3 : Int32) &&& 31).toUInt32).toInt32) &&& (1 : Int32)) = (0 : Int32) then p1 else (((((q2.toUInt64 >>> (((4 : Int32) * (3 : Int32)) &&& 0x3f).toInt64.toUInt64).toInt64) &&& (15 : Int64)).toInt32) - (8 : Int32))) else p1)), (.int (3 : Int32)), (.ref b346)])) _
    exact kt
  obtain ⟨v5, hv5⟩ : ∃ z : Int32, z = (if (3 : Int32) < (Int32.ofNat M) then (if (((p3.toUInt32 >>> ((3 : Int32) &&& 31).toUInt32).toInt32) &&& (1 : Int32)) = (0 : Int32) then p1 else (((((q2.toUInt64 >>> (((4 : Int32) * (3 : Int32)) &&& 0x3f).toInt64.toUInt64).toInt64) &&& (15 : Int64)).toInt32) - (8 : Int32))) else p1) := ⟨_, rfl⟩
  have pre375 : ∀ t, Steps p.tables e below (T372.setTop (mkF m 93 #[.val (.int p0), .val (.int p1), .val (.long q2), .second, .val (.int p3), .val (.int p4), .val (.int p5), .val (.int (Int32.ofNat M)), .val (.int (Int32.ofNat fm)), .val (.int v1), .val (.ref b346), .unset, .unset] [(.int v5), (.int (3 : Int32)), (.ref b346)])) t → Steps p.tables e below (s₁.setTop (entryFrame m #[(.int p0), (.int p1), (.long q2), (.int p3), (.int p4), (.int p5)] maxLocals)) t := fun t kt => pre374 t (by rw [hv5] at kt; exact kt)
  obtain ⟨T376, h376, X376, e376, W376, V376, st376⟩ := own_stI X372 hx hZ e372 V368 (j := (3 : Int32)) (i := 3) (by decide) (by decide) (g := (mkF m 93 #[.val (.int p0), .val (.int p1), .val (.long q2), .second, .val (.int p3), .val (.int p4), .val (.int p5), .val (.int (Int32.ofNat M)), .val (.int (Int32.ofNat fm)), .val (.int v1), .val (.ref b346), .unset, .unset] [(.int v5), (.int (3 : Int32)), (.ref b346)])) rfl rfl (hb hby at_93)
  have E377 := E369.wr W376
  have N378 := Fr.snoc X376 N373 g_b346
  have Z379 : n0 ≤ h376.size := Nat.le_trans Z371 (Keep.of_wr W376).1
  obtain ⟨_, _, ⟨T380, L380, k380, n380⟩, -, X380, ⟨Lc380, hQ380, l380, y380, z380⟩, st380⟩ := Jvm.LawKit.callS X376 hx (y := (⟨"com/example/packwright/packwright/core/bins/FreeSpaceTreeEarliestPinLaw", "pick", "(IJIII)I"⟩ : MethodName)) hown (mvT hZ (hw _ (List.mem_of_getElem? (i := 1) rfl))) (mvT hZ (hw _ (List.mem_of_getElem? (i := 2) rfl))) (mvT hZ (hw _ (List.mem_of_getElem? (i := 3) rfl))) (mvT hZ (hw _ (List.mem_of_getElem? (i := 4) rfl))) (by decide) (backOf (W := 2) (rm1 l Z aq hw [] p1 q2 p3 (4 : Int32) (Int32.ofNat M) h376 n0 Z379 ) hZ (hw _ (List.mem_of_getElem? (i := 4) rfl)) (hw _ (List.mem_of_getElem? (i := 3) rfl)) (by decide) (by decide)) (g := (mkF m 104 #[.val (.int p0), .val (.int p1), .val (.long q2), .second, .val (.int p3), .val (.int p4), .val (.int p5), .val (.int (Int32.ofNat M)), .val (.int (Int32.ofNat fm)), .val (.int v1), .val (.ref b346), .unset, .unset] [(.int (Int32.ofNat M)), (.int (4 : Int32)), (.int p3), (.long q2), (.int p1), (.int (4 : Int32)), (.ref b346)])) rfl (by rw [hml]; rfl) (argsL := [(.int p1), (.long q2), (.int p3), (.int (4 : Int32)), (.int (Int32.ofNat M))]) (rest := [(.int (4 : Int32)), (.ref b346)]) (lenOf pd89259597 rfl) rfl (by show 2 * 0 + _ ≤ _; exact Nat.le_of_eq rfl) (hb hby at_104) (fun _ _ => ⟨rfl, e376, (by decide : 1 + 0 ≤ _), (by decide : 8 + 0 ≤ _)⟩)
  dsimp only [Pt.U, Pt.locs, Pt.cells, Pt.slots] at X380 l380 y380 z380 st380 hQ380
  rw [l380, y380, z380] at X380
  obtain ⟨rfl, N380q, e380⟩ := hQ380
  have N381 := Fr.app N378 N380q
  have pre382 : ∀ t, Steps p.tables e below (T380.setTop (mkF m 107 #[.val (.int p0), .val (.int p1), .val (.long q2), .second, .val (.int p3), .val (.int p4), .val (.int p5), .val (.int (Int32.ofNat M)), .val (.int (Int32.ofNat fm)), .val (.int v1), .val (.ref b346), .unset, .unset] [(.int (if (4 : Int32) < (Int32.ofNat M) then (if (((p3.toUInt32 >>> ((4 : Int32) &&& 31).toUInt32).toInt32) &&& (1 : Int32)) = (0 : Int32) then p1 else (((((q2.toUInt64 >>> (((4 : Int32) * (4 : Int32)) &&& 0x3f).toInt64.toUInt64).toInt64) &&& (15 : Int64)).toInt32) - (8 : Int32))) else p1)), (.int (4 : Int32)), (.ref b346)])) t → Steps p.tables e below (s₁.setTop (entryFrame m #[(.int p0), (.int p1), (.long q2), (.int p3), (.int p4), (.int p5)] maxLocals)) t := fun t kt => by
    refine pre375 _ ?_
    show Steps p.tables e below (T372.setTop (mkF m 93 #[.val (.int p0), .val (.int p1), .val (.long q2), .second, .val (.int p3), .val (.int p4), .val (.int p5), .val (.int (Int32.ofNat M)), .val (.int (Int32.ofNat fm)), .val (.int v1), .val (.ref b346), .unset, .unset] [(.int v5), (.int (3 : Int32)), (.ref b346)])) _
    refine st376 _ ?_
    show Steps p.tables e below (T376.setTop (mkF m 94 #[.val (.int p0), .val (.int p1), .val (.long q2), .second, .val (.int p3), .val (.int p4), .val (.int p5), .val (.int (Int32.ofNat M)), .val (.int (Int32.ofNat fm)), .val (.int v1), .val (.ref b346), .unset, .unset] [])) _
    refine XS.aload X376.here hx rfl (hb hby at_94) rfl rfl ?_
    show Steps p.tables e below (T376.setTop (mkF m 96 #[.val (.int p0), .val (.int p1), .val (.long q2), .second, .val (.int p3), .val (.int p4), .val (.int p5), .val (.int (Int32.ofNat M)), .val (.int (Int32.ofNat fm)), .val (.int v1), .val (.ref b346), .unset, .unset] [(.ref b346)])) _
    refine XS.iconst X376.here hx rfl (hb hby at_96) ?_
    show Steps p.tables e below (T376.setTop (mkF m 97 #[.val (.int p0), .val (.int p1), .val (.long q2), .second, .val (.int p3), .val (.int p4), .val (.int p5), .val (.int (Int32.ofNat M)), .val (.int (Int32.ofNat fm)), .val (.int v1), .val (.ref b346), .unset, .unset] [(.int (4 : Int32)), (.ref b346)])) _
    refine XS.iloadN X376.here hx rfl (hb hby at_97) rfl ?_
    show Steps p.tables e below (T376.setTop (mkF m 98 #[.val (.int p0), .val (.int p1), .val (.long q2), .second, .val (.int p3), .val (.int p4), .val (.int p5), .val (.int (Int32.ofNat M)), .val (.int (Int32.ofNat fm)), .val (.int v1), .val (.ref b346), .unset, .unset] [(.int p1), (.int (4 : Int32)), (.ref b346)])) _
    refine XS.lloadN X376.here hx rfl (hb hby at_98) rfl ?_
    show Steps p.tables e below (T376.setTop (mkF m 99 #[.val (.int p0), .val (.int p1), .val (.long q2), .second, .val (.int p3), .val (.int p4), .val (.int p5), .val (.int (Int32.ofNat M)), .val (.int (Int32.ofNat fm)), .val (.int v1), .val (.ref b346), .unset, .unset] [(.long q2), (.int p1), (.int (4 : Int32)), (.ref b346)])) _
    refine XS.iload X376.here hx rfl (hb hby at_99) rfl ?_
    show Steps p.tables e below (T376.setTop (mkF m 101 #[.val (.int p0), .val (.int p1), .val (.long q2), .second, .val (.int p3), .val (.int p4), .val (.int p5), .val (.int (Int32.ofNat M)), .val (.int (Int32.ofNat fm)), .val (.int v1), .val (.ref b346), .unset, .unset] [(.int p3), (.long q2), (.int p1), (.int (4 : Int32)), (.ref b346)])) _
    refine XS.iconst X376.here hx rfl (hb hby at_101) ?_
    show Steps p.tables e below (T376.setTop (mkF m 102 #[.val (.int p0), .val (.int p1), .val (.long q2), .second, .val (.int p3), .val (.int p4), .val (.int p5), .val (.int (Int32.ofNat M)), .val (.int (Int32.ofNat fm)), .val (.int v1), .val (.ref b346), .unset, .unset] [(.int (4 : Int32)), (.int p3), (.long q2), (.int p1), (.int (4 : Int32)), (.ref b346)])) _
    refine XS.iload X376.here hx rfl (hb hby at_102) rfl ?_
    show Steps p.tables e below (T376.setTop (mkF m 104 #[.val (.int p0), .val (.int p1), .val (.long q2), .second, .val (.int p3), .val (.int p4), .val (.int p5), .val (.int (Int32.ofNat M)), .val (.int (Int32.ofNat fm)), .val (.int v1), .val (.ref b346), .unset, .unset] [(.int (Int32.ofNat M)), (.int (4 : Int32)), (.int p3), (.long q2), (.int p1), (.int (4 : Int32)), (.ref b346)])) _
    refine st380 _ ?_
    show Steps p.tables e below (T380.setTop (mkF m 107 #[.val (.int p0), .val (.int p1), .val (.long q2), .second, .val (.int p3), .val (.int p4), .val (.int p5), .val (.int (Int32.ofNat M)), .val (.int (Int32.ofNat fm)), .val (.int v1), .val (.ref b346), .unset, .unset] [(.int (if (4 : Int32) < (Int32.ofNat M) then (if (((p3.toUInt32 >>> ((4 : Int32) &&& 31).toUInt32).toInt32) &&& (1 : Int32)) = (0 : Int32) then p1 else (((((q2.toUInt64 >>> (((4 : Int32) * (4 : Int32)) &&& 0x3f).toInt64.toUInt64).toInt64) &&& (15 : Int64)).toInt32) - (8 : Int32))) else p1)), (.int (4 : Int32)), (.ref b346)])) _
    exact kt
  obtain ⟨v6, hv6⟩ : ∃ z : Int32, z = (if (4 : Int32) < (Int32.ofNat M) then (if (((p3.toUInt32 >>> ((4 : Int32) &&& 31).toUInt32).toInt32) &&& (1 : Int32)) = (0 : Int32) then p1 else (((((q2.toUInt64 >>> (((4 : Int32) * (4 : Int32)) &&& 0x3f).toInt64.toUInt64).toInt64) &&& (15 : Int64)).toInt32) - (8 : Int32))) else p1) := ⟨_, rfl⟩
  have pre383 : ∀ t, Steps p.tables e below (T380.setTop (mkF m 107 #[.val (.int p0), .val (.int p1), .val (.long q2), .second, .val (.int p3), .val (.int p4), .val (.int p5), .val (.int (Int32.ofNat M)), .val (.int (Int32.ofNat fm)), .val (.int v1), .val (.ref b346), .unset, .unset] [(.int v6), (.int (4 : Int32)), (.ref b346)])) t → Steps p.tables e below (s₁.setTop (entryFrame m #[(.int p0), (.int p1), (.long q2), (.int p3), (.int p4), (.int p5)] maxLocals)) t := fun t kt => pre382 t (by rw [hv6] at kt; exact kt)
  obtain ⟨T384, h384, X384, e384, W384, V384, st384⟩ := own_stI X380 hx hZ e380 V376 (j := (4 : Int32)) (i := 4) (by decide) (by decide) (g := (mkF m 107 #[.val (.int p0), .val (.int p1), .val (.long q2), .second, .val (.int p3), .val (.int p4), .val (.int p5), .val (.int (Int32.ofNat M)), .val (.int (Int32.ofNat fm)), .val (.int v1), .val (.ref b346), .unset, .unset] [(.int v6), (.int (4 : Int32)), (.ref b346)])) rfl rfl (hb hby at_107)
  have E385 := E377.wr W384
  have N386 := Fr.snoc X384 N381 g_b346
  have Z387 : n0 ≤ h384.size := Nat.le_trans Z379 (Keep.of_wr W384).1
  obtain ⟨_, _, ⟨T388, L388, k388, n388⟩, -, X388, ⟨Lc388, hQ388, l388, y388, z388⟩, st388⟩ := Jvm.LawKit.callS X384 hx (y := (⟨"com/example/packwright/packwright/core/bins/FreeSpaceTreeEarliestPinLaw", "pick", "(IJIII)I"⟩ : MethodName)) hown (mvT hZ (hw _ (List.mem_of_getElem? (i := 1) rfl))) (mvT hZ (hw _ (List.mem_of_getElem? (i := 2) rfl))) (mvT hZ (hw _ (List.mem_of_getElem? (i := 3) rfl))) (mvT hZ (hw _ (List.mem_of_getElem? (i := 4) rfl))) (by decide) (backOf (W := 2) (rm1 l Z aq hw [] p1 q2 p3 (5 : Int32) (Int32.ofNat M) h384 n0 Z387 ) hZ (hw _ (List.mem_of_getElem? (i := 4) rfl)) (hw _ (List.mem_of_getElem? (i := 3) rfl)) (by decide) (by decide)) (g := (mkF m 118 #[.val (.int p0), .val (.int p1), .val (.long q2), .second, .val (.int p3), .val (.int p4), .val (.int p5), .val (.int (Int32.ofNat M)), .val (.int (Int32.ofNat fm)), .val (.int v1), .val (.ref b346), .unset, .unset] [(.int (Int32.ofNat M)), (.int (5 : Int32)), (.int p3), (.long q2), (.int p1), (.int (5 : Int32)), (.ref b346)])) rfl (by rw [hml]; rfl) (argsL := [(.int p1), (.long q2), (.int p3), (.int (5 : Int32)), (.int (Int32.ofNat M))]) (rest := [(.int (5 : Int32)), (.ref b346)]) (lenOf pd89259597 rfl) rfl (by show 2 * 0 + _ ≤ _; exact Nat.le_of_eq rfl) (hb hby at_118) (fun _ _ => ⟨rfl, e384, (by decide : 1 + 0 ≤ _), (by decide : 8 + 0 ≤ _)⟩)
  dsimp only [Pt.U, Pt.locs, Pt.cells, Pt.slots] at X388 l388 y388 z388 st388 hQ388
  rw [l388, y388, z388] at X388
  obtain ⟨rfl, N388q, e388⟩ := hQ388
  have N389 := Fr.app N386 N388q
  have pre390 : ∀ t, Steps p.tables e below (T388.setTop (mkF m 121 #[.val (.int p0), .val (.int p1), .val (.long q2), .second, .val (.int p3), .val (.int p4), .val (.int p5), .val (.int (Int32.ofNat M)), .val (.int (Int32.ofNat fm)), .val (.int v1), .val (.ref b346), .unset, .unset] [(.int (if (5 : Int32) < (Int32.ofNat M) then (if (((p3.toUInt32 >>> ((5 : Int32) &&& 31).toUInt32).toInt32) &&& (1 : Int32)) = (0 : Int32) then p1 else (((((q2.toUInt64 >>> (((4 : Int32) * (5 : Int32)) &&& 0x3f).toInt64.toUInt64).toInt64) &&& (15 : Int64)).toInt32) - (8 : Int32))) else p1)), (.int (5 : Int32)), (.ref b346)])) t → Steps p.tables e below (s₁.setTop (entryFrame m #[(.int p0), (.int p1), (.long q2), (.int p3), (.int p4), (.int p5)] maxLocals)) t := fun t kt => by
    refine pre383 _ ?_
    show Steps p.tables e below (T380.setTop (mkF m 107 #[.val (.int p0), .val (.int p1), .val (.long q2), .second, .val (.int p3), .val (.int p4), .val (.int p5), .val (.int (Int32.ofNat M)), .val (.int (Int32.ofNat fm)), .val (.int v1), .val (.ref b346), .unset, .unset] [(.int v6), (.int (4 : Int32)), (.ref b346)])) _
    refine st384 _ ?_
    show Steps p.tables e below (T384.setTop (mkF m 108 #[.val (.int p0), .val (.int p1), .val (.long q2), .second, .val (.int p3), .val (.int p4), .val (.int p5), .val (.int (Int32.ofNat M)), .val (.int (Int32.ofNat fm)), .val (.int v1), .val (.ref b346), .unset, .unset] [])) _
    refine XS.aload X384.here hx rfl (hb hby at_108) rfl rfl ?_
    show Steps p.tables e below (T384.setTop (mkF m 110 #[.val (.int p0), .val (.int p1), .val (.long q2), .second, .val (.int p3), .val (.int p4), .val (.int p5), .val (.int (Int32.ofNat M)), .val (.int (Int32.ofNat fm)), .val (.int v1), .val (.ref b346), .unset, .unset] [(.ref b346)])) _
    refine XS.iconst X384.here hx rfl (hb hby at_110) ?_
    show Steps p.tables e below (T384.setTop (mkF m 111 #[.val (.int p0), .val (.int p1), .val (.long q2), .second, .val (.int p3), .val (.int p4), .val (.int p5), .val (.int (Int32.ofNat M)), .val (.int (Int32.ofNat fm)), .val (.int v1), .val (.ref b346), .unset, .unset] [(.int (5 : Int32)), (.ref b346)])) _
    refine XS.iloadN X384.here hx rfl (hb hby at_111) rfl ?_
    show Steps p.tables e below (T384.setTop (mkF m 112 #[.val (.int p0), .val (.int p1), .val (.long q2), .second, .val (.int p3), .val (.int p4), .val (.int p5), .val (.int (Int32.ofNat M)), .val (.int (Int32.ofNat fm)), .val (.int v1), .val (.ref b346), .unset, .unset] [(.int p1), (.int (5 : Int32)), (.ref b346)])) _
    refine XS.lloadN X384.here hx rfl (hb hby at_112) rfl ?_
    show Steps p.tables e below (T384.setTop (mkF m 113 #[.val (.int p0), .val (.int p1), .val (.long q2), .second, .val (.int p3), .val (.int p4), .val (.int p5), .val (.int (Int32.ofNat M)), .val (.int (Int32.ofNat fm)), .val (.int v1), .val (.ref b346), .unset, .unset] [(.long q2), (.int p1), (.int (5 : Int32)), (.ref b346)])) _
    refine XS.iload X384.here hx rfl (hb hby at_113) rfl ?_
    show Steps p.tables e below (T384.setTop (mkF m 115 #[.val (.int p0), .val (.int p1), .val (.long q2), .second, .val (.int p3), .val (.int p4), .val (.int p5), .val (.int (Int32.ofNat M)), .val (.int (Int32.ofNat fm)), .val (.int v1), .val (.ref b346), .unset, .unset] [(.int p3), (.long q2), (.int p1), (.int (5 : Int32)), (.ref b346)])) _
    refine XS.iconst X384.here hx rfl (hb hby at_115) ?_
    show Steps p.tables e below (T384.setTop (mkF m 116 #[.val (.int p0), .val (.int p1), .val (.long q2), .second, .val (.int p3), .val (.int p4), .val (.int p5), .val (.int (Int32.ofNat M)), .val (.int (Int32.ofNat fm)), .val (.int v1), .val (.ref b346), .unset, .unset] [(.int (5 : Int32)), (.int p3), (.long q2), (.int p1), (.int (5 : Int32)), (.ref b346)])) _
    refine XS.iload X384.here hx rfl (hb hby at_116) rfl ?_
    show Steps p.tables e below (T384.setTop (mkF m 118 #[.val (.int p0), .val (.int p1), .val (.long q2), .second, .val (.int p3), .val (.int p4), .val (.int p5), .val (.int (Int32.ofNat M)), .val (.int (Int32.ofNat fm)), .val (.int v1), .val (.ref b346), .unset, .unset] [(.int (Int32.ofNat M)), (.int (5 : Int32)), (.int p3), (.long q2), (.int p1), (.int (5 : Int32)), (.ref b346)])) _
    refine st388 _ ?_
    show Steps p.tables e below (T388.setTop (mkF m 121 #[.val (.int p0), .val (.int p1), .val (.long q2), .second, .val (.int p3), .val (.int p4), .val (.int p5), .val (.int (Int32.ofNat M)), .val (.int (Int32.ofNat fm)), .val (.int v1), .val (.ref b346), .unset, .unset] [(.int (if (5 : Int32) < (Int32.ofNat M) then (if (((p3.toUInt32 >>> ((5 : Int32) &&& 31).toUInt32).toInt32) &&& (1 : Int32)) = (0 : Int32) then p1 else (((((q2.toUInt64 >>> (((4 : Int32) * (5 : Int32)) &&& 0x3f).toInt64.toUInt64).toInt64) &&& (15 : Int64)).toInt32) - (8 : Int32))) else p1)), (.int (5 : Int32)), (.ref b346)])) _
    exact kt
  obtain ⟨v7, hv7⟩ : ∃ z : Int32, z = (if (5 : Int32) < (Int32.ofNat M) then (if (((p3.toUInt32 >>> ((5 : Int32) &&& 31).toUInt32).toInt32) &&& (1 : Int32)) = (0 : Int32) then p1 else (((((q2.toUInt64 >>> (((4 : Int32) * (5 : Int32)) &&& 0x3f).toInt64.toUInt64).toInt64) &&& (15 : Int64)).toInt32) - (8 : Int32))) else p1) := ⟨_, rfl⟩
  have pre391 : ∀ t, Steps p.tables e below (T388.setTop (mkF m 121 #[.val (.int p0), .val (.int p1), .val (.long q2), .second, .val (.int p3), .val (.int p4), .val (.int p5), .val (.int (Int32.ofNat M)), .val (.int (Int32.ofNat fm)), .val (.int v1), .val (.ref b346), .unset, .unset] [(.int v7), (.int (5 : Int32)), (.ref b346)])) t → Steps p.tables e below (s₁.setTop (entryFrame m #[(.int p0), (.int p1), (.long q2), (.int p3), (.int p4), (.int p5)] maxLocals)) t := fun t kt => pre390 t (by rw [hv7] at kt; exact kt)
  obtain ⟨T392, h392, X392, e392, W392, V392, st392⟩ := own_stI X388 hx hZ e388 V384 (j := (5 : Int32)) (i := 5) (by decide) (by decide) (g := (mkF m 121 #[.val (.int p0), .val (.int p1), .val (.long q2), .second, .val (.int p3), .val (.int p4), .val (.int p5), .val (.int (Int32.ofNat M)), .val (.int (Int32.ofNat fm)), .val (.int v1), .val (.ref b346), .unset, .unset] [(.int v7), (.int (5 : Int32)), (.ref b346)])) rfl rfl (hb hby at_121)
  have E393 := E385.wr W392
  have N394 := Fr.snoc X392 N389 g_b346
  have Z395 : n0 ≤ h392.size := Nat.le_trans Z387 (Keep.of_wr W392).1
  obtain ⟨_, _, ⟨T396, L396, k396, n396⟩, -, X396, ⟨Lc396, hQ396, l396, y396, z396⟩, st396⟩ := Jvm.LawKit.callS X392 hx (y := (⟨"com/example/packwright/packwright/core/bins/FreeSpaceTreeEarliestPinLaw", "pick", "(IJIII)I"⟩ : MethodName)) hown (mvT hZ (hw _ (List.mem_of_getElem? (i := 1) rfl))) (mvT hZ (hw _ (List.mem_of_getElem? (i := 2) rfl))) (mvT hZ (hw _ (List.mem_of_getElem? (i := 3) rfl))) (mvT hZ (hw _ (List.mem_of_getElem? (i := 4) rfl))) (by decide) (backOf (W := 2) (rm1 l Z aq hw [] p1 q2 p3 (6 : Int32) (Int32.ofNat M) h392 n0 Z395 ) hZ (hw _ (List.mem_of_getElem? (i := 4) rfl)) (hw _ (List.mem_of_getElem? (i := 3) rfl)) (by decide) (by decide)) (g := (mkF m 134 #[.val (.int p0), .val (.int p1), .val (.long q2), .second, .val (.int p3), .val (.int p4), .val (.int p5), .val (.int (Int32.ofNat M)), .val (.int (Int32.ofNat fm)), .val (.int v1), .val (.ref b346), .unset, .unset] [(.int (Int32.ofNat M)), (.int (6 : Int32)), (.int p3), (.long q2), (.int p1), (.int (6 : Int32)), (.ref b346)])) rfl (by rw [hml]; rfl) (argsL := [(.int p1), (.long q2), (.int p3), (.int (6 : Int32)), (.int (Int32.ofNat M))]) (rest := [(.int (6 : Int32)), (.ref b346)]) (lenOf pd89259597 rfl) rfl (by show 2 * 0 + _ ≤ _; exact Nat.le_of_eq rfl) (hb hby at_134) (fun _ _ => ⟨rfl, e392, (by decide : 1 + 0 ≤ _), (by decide : 8 + 0 ≤ _)⟩)
  dsimp only [Pt.U, Pt.locs, Pt.cells, Pt.slots] at X396 l396 y396 z396 st396 hQ396
  rw [l396, y396, z396] at X396
  obtain ⟨rfl, N396q, e396⟩ := hQ396
  have N397 := Fr.app N394 N396q
  have pre398 : ∀ t, Steps p.tables e below (T396.setTop (mkF m 137 #[.val (.int p0), .val (.int p1), .val (.long q2), .second, .val (.int p3), .val (.int p4), .val (.int p5), .val (.int (Int32.ofNat M)), .val (.int (Int32.ofNat fm)), .val (.int v1), .val (.ref b346), .unset, .unset] [(.int (if (6 : Int32) < (Int32.ofNat M) then (if (((p3.toUInt32 >>> ((6 : Int32) &&& 31).toUInt32).toInt32) &&& (1 : Int32)) = (0 : Int32) then p1 else (((((q2.toUInt64 >>> (((4 : Int32) * (6 : Int32)) &&& 0x3f).toInt64.toUInt64).toInt64) &&& (15 : Int64)).toInt32) - (8 : Int32))) else p1)), (.int (6 : Int32)), (.ref b346)])) t → Steps p.tables e below (s₁.setTop (entryFrame m #[(.int p0), (.int p1), (.long q2), (.int p3), (.int p4), (.int p5)] maxLocals)) t := fun t kt => by
    refine pre391 _ ?_
    show Steps p.tables e below (T388.setTop (mkF m 121 #[.val (.int p0), .val (.int p1), .val (.long q2), .second, .val (.int p3), .val (.int p4), .val (.int p5), .val (.int (Int32.ofNat M)), .val (.int (Int32.ofNat fm)), .val (.int v1), .val (.ref b346), .unset, .unset] [(.int v7), (.int (5 : Int32)), (.ref b346)])) _
    refine st392 _ ?_
    show Steps p.tables e below (T392.setTop (mkF m 122 #[.val (.int p0), .val (.int p1), .val (.long q2), .second, .val (.int p3), .val (.int p4), .val (.int p5), .val (.int (Int32.ofNat M)), .val (.int (Int32.ofNat fm)), .val (.int v1), .val (.ref b346), .unset, .unset] [])) _
    refine XS.aload X392.here hx rfl (hb hby at_122) rfl rfl ?_
    show Steps p.tables e below (T392.setTop (mkF m 124 #[.val (.int p0), .val (.int p1), .val (.long q2), .second, .val (.int p3), .val (.int p4), .val (.int p5), .val (.int (Int32.ofNat M)), .val (.int (Int32.ofNat fm)), .val (.int v1), .val (.ref b346), .unset, .unset] [(.ref b346)])) _
    refine XS.bipush X392.here hx rfl (hb hby at_124) ?_
    show Steps p.tables e below (T392.setTop (mkF m 126 #[.val (.int p0), .val (.int p1), .val (.long q2), .second, .val (.int p3), .val (.int p4), .val (.int p5), .val (.int (Int32.ofNat M)), .val (.int (Int32.ofNat fm)), .val (.int v1), .val (.ref b346), .unset, .unset] [(.int (6 : Int32)), (.ref b346)])) _
    refine XS.iloadN X392.here hx rfl (hb hby at_126) rfl ?_
    show Steps p.tables e below (T392.setTop (mkF m 127 #[.val (.int p0), .val (.int p1), .val (.long q2), .second, .val (.int p3), .val (.int p4), .val (.int p5), .val (.int (Int32.ofNat M)), .val (.int (Int32.ofNat fm)), .val (.int v1), .val (.ref b346), .unset, .unset] [(.int p1), (.int (6 : Int32)), (.ref b346)])) _
    refine XS.lloadN X392.here hx rfl (hb hby at_127) rfl ?_
    show Steps p.tables e below (T392.setTop (mkF m 128 #[.val (.int p0), .val (.int p1), .val (.long q2), .second, .val (.int p3), .val (.int p4), .val (.int p5), .val (.int (Int32.ofNat M)), .val (.int (Int32.ofNat fm)), .val (.int v1), .val (.ref b346), .unset, .unset] [(.long q2), (.int p1), (.int (6 : Int32)), (.ref b346)])) _
    refine XS.iload X392.here hx rfl (hb hby at_128) rfl ?_
    show Steps p.tables e below (T392.setTop (mkF m 130 #[.val (.int p0), .val (.int p1), .val (.long q2), .second, .val (.int p3), .val (.int p4), .val (.int p5), .val (.int (Int32.ofNat M)), .val (.int (Int32.ofNat fm)), .val (.int v1), .val (.ref b346), .unset, .unset] [(.int p3), (.long q2), (.int p1), (.int (6 : Int32)), (.ref b346)])) _
    refine XS.bipush X392.here hx rfl (hb hby at_130) ?_
    show Steps p.tables e below (T392.setTop (mkF m 132 #[.val (.int p0), .val (.int p1), .val (.long q2), .second, .val (.int p3), .val (.int p4), .val (.int p5), .val (.int (Int32.ofNat M)), .val (.int (Int32.ofNat fm)), .val (.int v1), .val (.ref b346), .unset, .unset] [(.int (6 : Int32)), (.int p3), (.long q2), (.int p1), (.int (6 : Int32)), (.ref b346)])) _
    refine XS.iload X392.here hx rfl (hb hby at_132) rfl ?_
    show Steps p.tables e below (T392.setTop (mkF m 134 #[.val (.int p0), .val (.int p1), .val (.long q2), .second, .val (.int p3), .val (.int p4), .val (.int p5), .val (.int (Int32.ofNat M)), .val (.int (Int32.ofNat fm)), .val (.int v1), .val (.ref b346), .unset, .unset] [(.int (Int32.ofNat M)), (.int (6 : Int32)), (.int p3), (.long q2), (.int p1), (.int (6 : Int32)), (.ref b346)])) _
    refine st396 _ ?_
    show Steps p.tables e below (T396.setTop (mkF m 137 #[.val (.int p0), .val (.int p1), .val (.long q2), .second, .val (.int p3), .val (.int p4), .val (.int p5), .val (.int (Int32.ofNat M)), .val (.int (Int32.ofNat fm)), .val (.int v1), .val (.ref b346), .unset, .unset] [(.int (if (6 : Int32) < (Int32.ofNat M) then (if (((p3.toUInt32 >>> ((6 : Int32) &&& 31).toUInt32).toInt32) &&& (1 : Int32)) = (0 : Int32) then p1 else (((((q2.toUInt64 >>> (((4 : Int32) * (6 : Int32)) &&& 0x3f).toInt64.toUInt64).toInt64) &&& (15 : Int64)).toInt32) - (8 : Int32))) else p1)), (.int (6 : Int32)), (.ref b346)])) _
    exact kt
  obtain ⟨v8, hv8⟩ : ∃ z : Int32, z = (if (6 : Int32) < (Int32.ofNat M) then (if (((p3.toUInt32 >>> ((6 : Int32) &&& 31).toUInt32).toInt32) &&& (1 : Int32)) = (0 : Int32) then p1 else (((((q2.toUInt64 >>> (((4 : Int32) * (6 : Int32)) &&& 0x3f).toInt64.toUInt64).toInt64) &&& (15 : Int64)).toInt32) - (8 : Int32))) else p1) := ⟨_, rfl⟩
  have pre399 : ∀ t, Steps p.tables e below (T396.setTop (mkF m 137 #[.val (.int p0), .val (.int p1), .val (.long q2), .second, .val (.int p3), .val (.int p4), .val (.int p5), .val (.int (Int32.ofNat M)), .val (.int (Int32.ofNat fm)), .val (.int v1), .val (.ref b346), .unset, .unset] [(.int v8), (.int (6 : Int32)), (.ref b346)])) t → Steps p.tables e below (s₁.setTop (entryFrame m #[(.int p0), (.int p1), (.long q2), (.int p3), (.int p4), (.int p5)] maxLocals)) t := fun t kt => pre398 t (by rw [hv8] at kt; exact kt)
  obtain ⟨T400, h400, X400, e400, W400, V400, st400⟩ := own_stI X396 hx hZ e396 V392 (j := (6 : Int32)) (i := 6) (by decide) (by decide) (g := (mkF m 137 #[.val (.int p0), .val (.int p1), .val (.long q2), .second, .val (.int p3), .val (.int p4), .val (.int p5), .val (.int (Int32.ofNat M)), .val (.int (Int32.ofNat fm)), .val (.int v1), .val (.ref b346), .unset, .unset] [(.int v8), (.int (6 : Int32)), (.ref b346)])) rfl rfl (hb hby at_137)
  have E401 := E393.wr W400
  have N402 := Fr.snoc X400 N397 g_b346
  have Z403 : n0 ≤ h400.size := Nat.le_trans Z395 (Keep.of_wr W400).1
  obtain ⟨_, _, ⟨T404, L404, k404, n404⟩, -, X404, ⟨Lc404, hQ404, l404, y404, z404⟩, st404⟩ := Jvm.LawKit.callS X400 hx (y := (⟨"com/example/packwright/packwright/core/bins/FreeSpaceTreeEarliestPinLaw", "pick", "(IJIII)I"⟩ : MethodName)) hown (mvT hZ (hw _ (List.mem_of_getElem? (i := 1) rfl))) (mvT hZ (hw _ (List.mem_of_getElem? (i := 2) rfl))) (mvT hZ (hw _ (List.mem_of_getElem? (i := 3) rfl))) (mvT hZ (hw _ (List.mem_of_getElem? (i := 4) rfl))) (by decide) (backOf (W := 2) (rm1 l Z aq hw [] p1 q2 p3 (7 : Int32) (Int32.ofNat M) h400 n0 Z403 ) hZ (hw _ (List.mem_of_getElem? (i := 4) rfl)) (hw _ (List.mem_of_getElem? (i := 3) rfl)) (by decide) (by decide)) (g := (mkF m 150 #[.val (.int p0), .val (.int p1), .val (.long q2), .second, .val (.int p3), .val (.int p4), .val (.int p5), .val (.int (Int32.ofNat M)), .val (.int (Int32.ofNat fm)), .val (.int v1), .val (.ref b346), .unset, .unset] [(.int (Int32.ofNat M)), (.int (7 : Int32)), (.int p3), (.long q2), (.int p1), (.int (7 : Int32)), (.ref b346)])) rfl (by rw [hml]; rfl) (argsL := [(.int p1), (.long q2), (.int p3), (.int (7 : Int32)), (.int (Int32.ofNat M))]) (rest := [(.int (7 : Int32)), (.ref b346)]) (lenOf pd89259597 rfl) rfl (by show 2 * 0 + _ ≤ _; exact Nat.le_of_eq rfl) (hb hby at_150) (fun _ _ => ⟨rfl, e400, (by decide : 1 + 0 ≤ _), (by decide : 8 + 0 ≤ _)⟩)
  dsimp only [Pt.U, Pt.locs, Pt.cells, Pt.slots] at X404 l404 y404 z404 st404 hQ404
  rw [l404, y404, z404] at X404
  obtain ⟨rfl, N404q, e404⟩ := hQ404
  have N405 := Fr.app N402 N404q
  have pre406 : ∀ t, Steps p.tables e below (T404.setTop (mkF m 153 #[.val (.int p0), .val (.int p1), .val (.long q2), .second, .val (.int p3), .val (.int p4), .val (.int p5), .val (.int (Int32.ofNat M)), .val (.int (Int32.ofNat fm)), .val (.int v1), .val (.ref b346), .unset, .unset] [(.int (if (7 : Int32) < (Int32.ofNat M) then (if (((p3.toUInt32 >>> ((7 : Int32) &&& 31).toUInt32).toInt32) &&& (1 : Int32)) = (0 : Int32) then p1 else (((((q2.toUInt64 >>> (((4 : Int32) * (7 : Int32)) &&& 0x3f).toInt64.toUInt64).toInt64) &&& (15 : Int64)).toInt32) - (8 : Int32))) else p1)), (.int (7 : Int32)), (.ref b346)])) t → Steps p.tables e below (s₁.setTop (entryFrame m #[(.int p0), (.int p1), (.long q2), (.int p3), (.int p4), (.int p5)] maxLocals)) t := fun t kt => by
    refine pre399 _ ?_
    show Steps p.tables e below (T396.setTop (mkF m 137 #[.val (.int p0), .val (.int p1), .val (.long q2), .second, .val (.int p3), .val (.int p4), .val (.int p5), .val (.int (Int32.ofNat M)), .val (.int (Int32.ofNat fm)), .val (.int v1), .val (.ref b346), .unset, .unset] [(.int v8), (.int (6 : Int32)), (.ref b346)])) _
    refine st400 _ ?_
    show Steps p.tables e below (T400.setTop (mkF m 138 #[.val (.int p0), .val (.int p1), .val (.long q2), .second, .val (.int p3), .val (.int p4), .val (.int p5), .val (.int (Int32.ofNat M)), .val (.int (Int32.ofNat fm)), .val (.int v1), .val (.ref b346), .unset, .unset] [])) _
    refine XS.aload X400.here hx rfl (hb hby at_138) rfl rfl ?_
    show Steps p.tables e below (T400.setTop (mkF m 140 #[.val (.int p0), .val (.int p1), .val (.long q2), .second, .val (.int p3), .val (.int p4), .val (.int p5), .val (.int (Int32.ofNat M)), .val (.int (Int32.ofNat fm)), .val (.int v1), .val (.ref b346), .unset, .unset] [(.ref b346)])) _
    refine XS.bipush X400.here hx rfl (hb hby at_140) ?_
    show Steps p.tables e below (T400.setTop (mkF m 142 #[.val (.int p0), .val (.int p1), .val (.long q2), .second, .val (.int p3), .val (.int p4), .val (.int p5), .val (.int (Int32.ofNat M)), .val (.int (Int32.ofNat fm)), .val (.int v1), .val (.ref b346), .unset, .unset] [(.int (7 : Int32)), (.ref b346)])) _
    refine XS.iloadN X400.here hx rfl (hb hby at_142) rfl ?_
    show Steps p.tables e below (T400.setTop (mkF m 143 #[.val (.int p0), .val (.int p1), .val (.long q2), .second, .val (.int p3), .val (.int p4), .val (.int p5), .val (.int (Int32.ofNat M)), .val (.int (Int32.ofNat fm)), .val (.int v1), .val (.ref b346), .unset, .unset] [(.int p1), (.int (7 : Int32)), (.ref b346)])) _
    refine XS.lloadN X400.here hx rfl (hb hby at_143) rfl ?_
    show Steps p.tables e below (T400.setTop (mkF m 144 #[.val (.int p0), .val (.int p1), .val (.long q2), .second, .val (.int p3), .val (.int p4), .val (.int p5), .val (.int (Int32.ofNat M)), .val (.int (Int32.ofNat fm)), .val (.int v1), .val (.ref b346), .unset, .unset] [(.long q2), (.int p1), (.int (7 : Int32)), (.ref b346)])) _
    refine XS.iload X400.here hx rfl (hb hby at_144) rfl ?_
    show Steps p.tables e below (T400.setTop (mkF m 146 #[.val (.int p0), .val (.int p1), .val (.long q2), .second, .val (.int p3), .val (.int p4), .val (.int p5), .val (.int (Int32.ofNat M)), .val (.int (Int32.ofNat fm)), .val (.int v1), .val (.ref b346), .unset, .unset] [(.int p3), (.long q2), (.int p1), (.int (7 : Int32)), (.ref b346)])) _
    refine XS.bipush X400.here hx rfl (hb hby at_146) ?_
    show Steps p.tables e below (T400.setTop (mkF m 148 #[.val (.int p0), .val (.int p1), .val (.long q2), .second, .val (.int p3), .val (.int p4), .val (.int p5), .val (.int (Int32.ofNat M)), .val (.int (Int32.ofNat fm)), .val (.int v1), .val (.ref b346), .unset, .unset] [(.int (7 : Int32)), (.int p3), (.long q2), (.int p1), (.int (7 : Int32)), (.ref b346)])) _
    refine XS.iload X400.here hx rfl (hb hby at_148) rfl ?_
    show Steps p.tables e below (T400.setTop (mkF m 150 #[.val (.int p0), .val (.int p1), .val (.long q2), .second, .val (.int p3), .val (.int p4), .val (.int p5), .val (.int (Int32.ofNat M)), .val (.int (Int32.ofNat fm)), .val (.int v1), .val (.ref b346), .unset, .unset] [(.int (Int32.ofNat M)), (.int (7 : Int32)), (.int p3), (.long q2), (.int p1), (.int (7 : Int32)), (.ref b346)])) _
    refine st404 _ ?_
    show Steps p.tables e below (T404.setTop (mkF m 153 #[.val (.int p0), .val (.int p1), .val (.long q2), .second, .val (.int p3), .val (.int p4), .val (.int p5), .val (.int (Int32.ofNat M)), .val (.int (Int32.ofNat fm)), .val (.int v1), .val (.ref b346), .unset, .unset] [(.int (if (7 : Int32) < (Int32.ofNat M) then (if (((p3.toUInt32 >>> ((7 : Int32) &&& 31).toUInt32).toInt32) &&& (1 : Int32)) = (0 : Int32) then p1 else (((((q2.toUInt64 >>> (((4 : Int32) * (7 : Int32)) &&& 0x3f).toInt64.toUInt64).toInt64) &&& (15 : Int64)).toInt32) - (8 : Int32))) else p1)), (.int (7 : Int32)), (.ref b346)])) _
    exact kt
  obtain ⟨v9, hv9⟩ : ∃ z : Int32, z = (if (7 : Int32) < (Int32.ofNat M) then (if (((p3.toUInt32 >>> ((7 : Int32) &&& 31).toUInt32).toInt32) &&& (1 : Int32)) = (0 : Int32) then p1 else (((((q2.toUInt64 >>> (((4 : Int32) * (7 : Int32)) &&& 0x3f).toInt64.toUInt64).toInt64) &&& (15 : Int64)).toInt32) - (8 : Int32))) else p1) := ⟨_, rfl⟩
  have pre407 : ∀ t, Steps p.tables e below (T404.setTop (mkF m 153 #[.val (.int p0), .val (.int p1), .val (.long q2), .second, .val (.int p3), .val (.int p4), .val (.int p5), .val (.int (Int32.ofNat M)), .val (.int (Int32.ofNat fm)), .val (.int v1), .val (.ref b346), .unset, .unset] [(.int v9), (.int (7 : Int32)), (.ref b346)])) t → Steps p.tables e below (s₁.setTop (entryFrame m #[(.int p0), (.int p1), (.long q2), (.int p3), (.int p4), (.int p5)] maxLocals)) t := fun t kt => pre406 t (by rw [hv9] at kt; exact kt)
  obtain ⟨T408, h408, X408, e408, W408, V408, st408⟩ := own_stI X404 hx hZ e404 V400 (j := (7 : Int32)) (i := 7) (by decide) (by decide) (g := (mkF m 153 #[.val (.int p0), .val (.int p1), .val (.long q2), .second, .val (.int p3), .val (.int p4), .val (.int p5), .val (.int (Int32.ofNat M)), .val (.int (Int32.ofNat fm)), .val (.int v1), .val (.ref b346), .unset, .unset] [(.int v9), (.int (7 : Int32)), (.ref b346)])) rfl rfl (hb hby at_153)
  have E409 := E401.wr W408
  have N410 := Fr.snoc X408 N405 g_b346
  have Z411 : n0 ≤ h408.size := Nat.le_trans Z403 (Keep.of_wr W408).1
  obtain ⟨fr, hfr⟩ : ∃ z : Nat → Int32, z = (own_up (own_up (own_up (own_up (own_up (own_up (own_up (own_up (fun _ => (0 : Int32)) 0 v2) 1 v3) 2 v4) 3 v5) 4 v6) 5 v7) 6 v8) 7 v9) := ⟨_, rfl⟩
  have V412 : own_Ar Z h408 b346 .int 8 fr := by rw [hfr]; exact V408
  have hfr0 : fr 0 = v2 := by rw [hfr]; rfl
  have hfr1 : fr 1 = v3 := by rw [hfr]; rfl
  have hfr2 : fr 2 = v4 := by rw [hfr]; rfl
  have hfr3 : fr 3 = v5 := by rw [hfr]; rfl
  have hfr4 : fr 4 = v6 := by rw [hfr]; rfl
  have hfr5 : fr 5 = v7 := by rw [hfr]; rfl
  have hfr6 : fr 6 = v8 := by rw [hfr]; rfl
  have hfr7 : fr 7 = v9 := by rw [hfr]; rfl
  obtain ⟨T413, h413, X413, e413, E413, A413, D413, -, st413⟩ := newO X408 hx hZ hown (hw _ (List.mem_of_getElem? (i := 5) rfl)) (hw _ (List.mem_of_getElem? (i := 6) rfl)) (hw _ (List.mem_of_getElem? (i := 7) rfl)) e408 (g := (mkF m 154 #[.val (.int p0), .val (.int p1), .val (.long q2), .second, .val (.int p3), .val (.int p4), .val (.int p5), .val (.int (Int32.ofNat M)), .val (.int (Int32.ofNat fm)), .val (.int v1), .val (.ref b346), .unset, .unset] [])) rfl (hb hby at_154) (by decide) (by decide)
  obtain ⟨b413, g413⟩ : ∃ z, z = h408.size := ⟨_, rfl⟩
  rw [← g413] at A413 D413 st413
  have ne_b346_b413 : b346 ≠ b413 := Nat.ne_of_lt (Nat.lt_of_lt_of_le E409.lt (Nat.le_of_eq g413.symm))
  have g_b413 : n0 ≤ b413 := Nat.le_trans Z411 (Nat.le_of_eq g413.symm)
  have E414 := E409.ext E413
  have V415 := V412.ext E413
  have Z416 : n0 ≤ h413.size := Nat.le_trans Z411 E413.1
  have F413_leaves : Fld Z h413 b413 "com/example/packwright/packwright/core/bins/FreeSpaceTree" "leaves" "I" (.int (0 : Int32)) := D413 (Or.inr (hw _ (List.mem_of_getElem? (i := 15) rfl))) (ty := .int) (by decide)
  have F413_maxFree : Fld Z h413 b413 "com/example/packwright/packwright/core/bins/FreeSpaceTree" "maxFree" "[I" .null := D413 (Or.inr (hw _ (List.mem_of_getElem? (i := 17) rfl))) (ty := (.array .int)) (by decide)
  obtain ⟨_, _, ⟨T417, L417, k417, n417⟩, -, X417, ⟨Lc417, hQ417, l417, y417, z417⟩, st417⟩ := X413.specialBack hx (y := (⟨"com/example/packwright/packwright/core/bins/FreeSpaceTree", "<init>", "(II)V"⟩ : MethodName)) rfl hown (mvT hZ (hw _ (List.mem_of_getElem? (i := 8) rfl))) (mvT hZ (hw _ (List.mem_of_getElem? (i := 9) rfl))) (mvT hZ (hw _ (List.mem_of_getElem? (i := 10) rfl))) (by decide) (backOf (W := 1) (rm2 l Z aq hw [] b413 p1 M (0 : Int32) h413 n0 Z416 A413 F413_leaves F413_maxFree g_b413 hL) hZ (hw _ (List.mem_of_getElem? (i := 10) rfl)) (hw _ (List.mem_of_getElem? (i := 7) rfl)) (by decide) (by decide)) (g := (mkF m 161 #[.val (.int p0), .val (.int p1), .val (.long q2), .second, .val (.int p3), .val (.int p4), .val (.int p5), .val (.int (Int32.ofNat M)), .val (.int (Int32.ofNat fm)), .val (.int v1), .val (.ref b346), .unset, .unset] [(.int p1), (.int (Int32.ofNat M)), (.ref b413), (.ref b413)])) rfl (by rw [hml]; rfl) (Steps.refl _) (a := b413) (argsL := [(.int (Int32.ofNat M)), (.int p1)]) (rest := [(.ref b413)]) (lenOf pd84293406 rfl) rfl (by show 2 * 0 + _ ≤ _; exact Nat.le_of_eq rfl) (hb hby at_161) (fun _ _ => ⟨rfl, e413, (by decide : 2 + 1 ≤ _), (by decide : 10 + 16 ≤ _)⟩)
  dsimp only [Pt.U, Pt.locs, Pt.cells, Pt.slots] at X417 l417 y417 z417 st417 hQ417
  rw [l417, y417, z417] at X417
  obtain ⟨ar417, f0, rfl, N417q, K417, s417, E417_0, Fl417, Fm417, V417, hf0⟩ := hQ417
  have g_ar417 : n0 ≤ ar417 := Nat.le_trans Z416 s417
  have ne_b346_ar417 : b346 ≠ ar417 := Nat.ne_of_lt (Nat.lt_of_lt_of_le E414.lt s417)
  have ne_b413_ar417 : b413 ≠ ar417 := Nat.ne_of_lt (Nat.lt_of_lt_of_le A413.lt s417)
  have E418 := E414.keep K417
  have V419 := V415.keep K417 (ninS ne_b346_b413 nin0)
  have Z420 : n0 ≤ T417.heap.size := Nat.le_trans Z416 K417.1
  have N421 := Fr.app N410 N417q
  obtain ⟨_, _, ⟨T422, L422, k422, n422⟩, -, X422, ⟨Lc422, hQ422, l422, y422, z422⟩, st422⟩ := Jvm.LawKit.callS X417 hx (y := (⟨"com/example/packwright/packwright/core/bins/FreeSpaceTreeEarliestPinLaw", "apply", "(Lcom/example/packwright/packwright/core/bins/FreeSpaceTree;[IIII)V"⟩ : MethodName)) hown (mvT hZ (hw _ (List.mem_of_getElem? (i := 22) rfl))) (mvT hZ (hw _ (List.mem_of_getElem? (i := 23) rfl))) (mvT hZ (hw _ (List.mem_of_getElem? (i := 3) rfl))) (mvT hZ (hw _ (List.mem_of_getElem? (i := 24) rfl))) (by decide) (backOf (W := 0) (rm5 l Z aq hw [] b413 b346 p3 M 0 ar417 f0 fr T417.heap n0 Z420 E417_0 Fl417 Fm417 V417 V419 g_ar417 ne_b413_ar417 ne_b346_ar417 hL (by decide)) hZ (hw _ (List.mem_of_getElem? (i := 24) rfl)) (hw _ (List.mem_of_getElem? (i := 3) rfl)) (by decide) (by decide)) (g := (mkF m 175 #[.val (.int p0), .val (.int p1), .val (.long q2), .second, .val (.int p3), .val (.int p4), .val (.int p5), .val (.int (Int32.ofNat M)), .val (.int (Int32.ofNat fm)), .val (.int v1), .val (.ref b346), .val (.ref b413), .unset] [(.int (Int32.ofNat M)), (.int (0 : Int32)), (.int p3), (.ref b346), (.ref b413)])) rfl (by rw [hml]; rfl) (argsL := [(.ref b413), (.ref b346), (.int p3), (.int (0 : Int32)), (.int (Int32.ofNat M))]) (rest := []) (lenOf pd9700594 rfl) rfl (by show 2 * 0 + _ ≤ _; exact Nat.le_of_eq rfl) (hb hby at_175) (fun _ _ => ⟨rfl, rfl, (by decide : 3 + 0 ≤ _), (by decide : 26 + 0 ≤ _)⟩)
  dsimp only [Pt.U, Pt.locs, Pt.cells, Pt.slots] at X422 l422 y422 z422 st422 hQ422
  rw [l422, y422, z422] at X422
  obtain ⟨f1, hf1, rfl, N422q, K422, V422⟩ := hQ422
  have E423 := E418.keep K422
  have V424 := V419.keep K422 (ninS ne_b346_ar417 nin0)
  have E425 := E417_0.keep K422
  have F426 := Fl417.keep K422 (ninS ne_b413_ar417 nin0)
  have F427 := Fm417.keep K422 (ninS ne_b413_ar417 nin0)
  have Z428 : n0 ≤ T422.heap.size := Nat.le_trans Z420 K422.1
  have N429 := Fr.app N421 N422q
  obtain ⟨_, _, ⟨T430, L430, k430, n430⟩, -, X430, ⟨Lc430, hQ430, l430, y430, z430⟩, st430⟩ := Jvm.LawKit.callS X422 hx (y := (⟨"com/example/packwright/packwright/core/bins/FreeSpaceTreeEarliestPinLaw", "apply", "(Lcom/example/packwright/packwright/core/bins/FreeSpaceTree;[IIII)V"⟩ : MethodName)) hown (mvT hZ (hw _ (List.mem_of_getElem? (i := 22) rfl))) (mvT hZ (hw _ (List.mem_of_getElem? (i := 23) rfl))) (mvT hZ (hw _ (List.mem_of_getElem? (i := 3) rfl))) (mvT hZ (hw _ (List.mem_of_getElem? (i := 24) rfl))) (by decide) (backOf (W := 0) (rm5 l Z aq hw [] b413 b346 p3 M 1 ar417 f1 fr T422.heap n0 Z428 E425 F426 F427 V422 V424 g_ar417 ne_b413_ar417 ne_b346_ar417 hL (by decide)) hZ (hw _ (List.mem_of_getElem? (i := 24) rfl)) (hw _ (List.mem_of_getElem? (i := 3) rfl)) (by decide) (by decide)) (g := (mkF m 187 #[.val (.int p0), .val (.int p1), .val (.long q2), .second, .val (.int p3), .val (.int p4), .val (.int p5), .val (.int (Int32.ofNat M)), .val (.int (Int32.ofNat fm)), .val (.int v1), .val (.ref b346), .val (.ref b413), .unset] [(.int (Int32.ofNat M)), (.int (1 : Int32)), (.int p3), (.ref b346), (.ref b413)])) rfl (by rw [hml]; rfl) (argsL := [(.ref b413), (.ref b346), (.int p3), (.int (1 : Int32)), (.int (Int32.ofNat M))]) (rest := []) (lenOf pd9700594 rfl) rfl (by show 2 * 0 + _ ≤ _; exact Nat.le_of_eq rfl) (hb hby at_187) (fun _ _ => ⟨rfl, rfl, (by decide : 3 + 0 ≤ _), (by decide : 26 + 0 ≤ _)⟩)
  dsimp only [Pt.U, Pt.locs, Pt.cells, Pt.slots] at X430 l430 y430 z430 st430 hQ430
  rw [l430, y430, z430] at X430
  obtain ⟨f2, hf2, rfl, N430q, K430, V430⟩ := hQ430
  have E431 := E423.keep K430
  have V432 := V424.keep K430 (ninS ne_b346_ar417 nin0)
  have E433 := E425.keep K430
  have F434 := F426.keep K430 (ninS ne_b413_ar417 nin0)
  have F435 := F427.keep K430 (ninS ne_b413_ar417 nin0)
  have Z436 : n0 ≤ T430.heap.size := Nat.le_trans Z428 K430.1
  have N437 := Fr.app N429 N430q
  obtain ⟨_, _, ⟨T438, L438, k438, n438⟩, -, X438, ⟨Lc438, hQ438, l438, y438, z438⟩, st438⟩ := Jvm.LawKit.callS X430 hx (y := (⟨"com/example/packwright/packwright/core/bins/FreeSpaceTreeEarliestPinLaw", "apply", "(Lcom/example/packwright/packwright/core/bins/FreeSpaceTree;[IIII)V"⟩ : MethodName)) hown (mvT hZ (hw _ (List.mem_of_getElem? (i := 22) rfl))) (mvT hZ (hw _ (List.mem_of_getElem? (i := 23) rfl))) (mvT hZ (hw _ (List.mem_of_getElem? (i := 3) rfl))) (mvT hZ (hw _ (List.mem_of_getElem? (i := 24) rfl))) (by decide) (backOf (W := 0) (rm5 l Z aq hw [] b413 b346 p3 M 2 ar417 f2 fr T430.heap n0 Z436 E433 F434 F435 V430 V432 g_ar417 ne_b413_ar417 ne_b346_ar417 hL (by decide)) hZ (hw _ (List.mem_of_getElem? (i := 24) rfl)) (hw _ (List.mem_of_getElem? (i := 3) rfl)) (by decide) (by decide)) (g := (mkF m 199 #[.val (.int p0), .val (.int p1), .val (.long q2), .second, .val (.int p3), .val (.int p4), .val (.int p5), .val (.int (Int32.ofNat M)), .val (.int (Int32.ofNat fm)), .val (.int v1), .val (.ref b346), .val (.ref b413), .unset] [(.int (Int32.ofNat M)), (.int (2 : Int32)), (.int p3), (.ref b346), (.ref b413)])) rfl (by rw [hml]; rfl) (argsL := [(.ref b413), (.ref b346), (.int p3), (.int (2 : Int32)), (.int (Int32.ofNat M))]) (rest := []) (lenOf pd9700594 rfl) rfl (by show 2 * 0 + _ ≤ _; exact Nat.le_of_eq rfl) (hb hby at_199) (fun _ _ => ⟨rfl, rfl, (by decide : 3 + 0 ≤ _), (by decide : 26 + 0 ≤ _)⟩)
  dsimp only [Pt.U, Pt.locs, Pt.cells, Pt.slots] at X438 l438 y438 z438 st438 hQ438
  rw [l438, y438, z438] at X438
  obtain ⟨f3, hf3, rfl, N438q, K438, V438⟩ := hQ438
  have E439 := E431.keep K438
  have V440 := V432.keep K438 (ninS ne_b346_ar417 nin0)
  have E441 := E433.keep K438
  have F442 := F434.keep K438 (ninS ne_b413_ar417 nin0)
  have F443 := F435.keep K438 (ninS ne_b413_ar417 nin0)
  have Z444 : n0 ≤ T438.heap.size := Nat.le_trans Z436 K438.1
  have N445 := Fr.app N437 N438q
  obtain ⟨_, _, ⟨T446, L446, k446, n446⟩, -, X446, ⟨Lc446, hQ446, l446, y446, z446⟩, st446⟩ := Jvm.LawKit.callS X438 hx (y := (⟨"com/example/packwright/packwright/core/bins/FreeSpaceTreeEarliestPinLaw", "apply", "(Lcom/example/packwright/packwright/core/bins/FreeSpaceTree;[IIII)V"⟩ : MethodName)) hown (mvT hZ (hw _ (List.mem_of_getElem? (i := 22) rfl))) (mvT hZ (hw _ (List.mem_of_getElem? (i := 23) rfl))) (mvT hZ (hw _ (List.mem_of_getElem? (i := 3) rfl))) (mvT hZ (hw _ (List.mem_of_getElem? (i := 24) rfl))) (by decide) (backOf (W := 0) (rm5 l Z aq hw [] b413 b346 p3 M 3 ar417 f3 fr T438.heap n0 Z444 E441 F442 F443 V438 V440 g_ar417 ne_b413_ar417 ne_b346_ar417 hL (by decide)) hZ (hw _ (List.mem_of_getElem? (i := 24) rfl)) (hw _ (List.mem_of_getElem? (i := 3) rfl)) (by decide) (by decide)) (g := (mkF m 211 #[.val (.int p0), .val (.int p1), .val (.long q2), .second, .val (.int p3), .val (.int p4), .val (.int p5), .val (.int (Int32.ofNat M)), .val (.int (Int32.ofNat fm)), .val (.int v1), .val (.ref b346), .val (.ref b413), .unset] [(.int (Int32.ofNat M)), (.int (3 : Int32)), (.int p3), (.ref b346), (.ref b413)])) rfl (by rw [hml]; rfl) (argsL := [(.ref b413), (.ref b346), (.int p3), (.int (3 : Int32)), (.int (Int32.ofNat M))]) (rest := []) (lenOf pd9700594 rfl) rfl (by show 2 * 0 + _ ≤ _; exact Nat.le_of_eq rfl) (hb hby at_211) (fun _ _ => ⟨rfl, rfl, (by decide : 3 + 0 ≤ _), (by decide : 26 + 0 ≤ _)⟩)
  dsimp only [Pt.U, Pt.locs, Pt.cells, Pt.slots] at X446 l446 y446 z446 st446 hQ446
  rw [l446, y446, z446] at X446
  obtain ⟨f4, hf4, rfl, N446q, K446, V446⟩ := hQ446
  have E447 := E439.keep K446
  have V448 := V440.keep K446 (ninS ne_b346_ar417 nin0)
  have E449 := E441.keep K446
  have F450 := F442.keep K446 (ninS ne_b413_ar417 nin0)
  have F451 := F443.keep K446 (ninS ne_b413_ar417 nin0)
  have Z452 : n0 ≤ T446.heap.size := Nat.le_trans Z444 K446.1
  have N453 := Fr.app N445 N446q
  obtain ⟨_, _, ⟨T454, L454, k454, n454⟩, -, X454, ⟨Lc454, hQ454, l454, y454, z454⟩, st454⟩ := Jvm.LawKit.callS X446 hx (y := (⟨"com/example/packwright/packwright/core/bins/FreeSpaceTreeEarliestPinLaw", "apply", "(Lcom/example/packwright/packwright/core/bins/FreeSpaceTree;[IIII)V"⟩ : MethodName)) hown (mvT hZ (hw _ (List.mem_of_getElem? (i := 22) rfl))) (mvT hZ (hw _ (List.mem_of_getElem? (i := 23) rfl))) (mvT hZ (hw _ (List.mem_of_getElem? (i := 3) rfl))) (mvT hZ (hw _ (List.mem_of_getElem? (i := 24) rfl))) (by decide) (backOf (W := 0) (rm5 l Z aq hw [] b413 b346 p3 M 4 ar417 f4 fr T446.heap n0 Z452 E449 F450 F451 V446 V448 g_ar417 ne_b413_ar417 ne_b346_ar417 hL (by decide)) hZ (hw _ (List.mem_of_getElem? (i := 24) rfl)) (hw _ (List.mem_of_getElem? (i := 3) rfl)) (by decide) (by decide)) (g := (mkF m 223 #[.val (.int p0), .val (.int p1), .val (.long q2), .second, .val (.int p3), .val (.int p4), .val (.int p5), .val (.int (Int32.ofNat M)), .val (.int (Int32.ofNat fm)), .val (.int v1), .val (.ref b346), .val (.ref b413), .unset] [(.int (Int32.ofNat M)), (.int (4 : Int32)), (.int p3), (.ref b346), (.ref b413)])) rfl (by rw [hml]; rfl) (argsL := [(.ref b413), (.ref b346), (.int p3), (.int (4 : Int32)), (.int (Int32.ofNat M))]) (rest := []) (lenOf pd9700594 rfl) rfl (by show 2 * 0 + _ ≤ _; exact Nat.le_of_eq rfl) (hb hby at_223) (fun _ _ => ⟨rfl, rfl, (by decide : 3 + 0 ≤ _), (by decide : 26 + 0 ≤ _)⟩)
  dsimp only [Pt.U, Pt.locs, Pt.cells, Pt.slots] at X454 l454 y454 z454 st454 hQ454
  rw [l454, y454, z454] at X454
  obtain ⟨f5, hf5, rfl, N454q, K454, V454⟩ := hQ454
  have E455 := E447.keep K454
  have V456 := V448.keep K454 (ninS ne_b346_ar417 nin0)
  have E457 := E449.keep K454
  have F458 := F450.keep K454 (ninS ne_b413_ar417 nin0)
  have F459 := F451.keep K454 (ninS ne_b413_ar417 nin0)
  have Z460 : n0 ≤ T454.heap.size := Nat.le_trans Z452 K454.1
  have N461 := Fr.app N453 N454q
  obtain ⟨_, _, ⟨T462, L462, k462, n462⟩, -, X462, ⟨Lc462, hQ462, l462, y462, z462⟩, st462⟩ := Jvm.LawKit.callS X454 hx (y := (⟨"com/example/packwright/packwright/core/bins/FreeSpaceTreeEarliestPinLaw", "apply", "(Lcom/example/packwright/packwright/core/bins/FreeSpaceTree;[IIII)V"⟩ : MethodName)) hown (mvT hZ (hw _ (List.mem_of_getElem? (i := 22) rfl))) (mvT hZ (hw _ (List.mem_of_getElem? (i := 23) rfl))) (mvT hZ (hw _ (List.mem_of_getElem? (i := 3) rfl))) (mvT hZ (hw _ (List.mem_of_getElem? (i := 24) rfl))) (by decide) (backOf (W := 0) (rm5 l Z aq hw [] b413 b346 p3 M 5 ar417 f5 fr T454.heap n0 Z460 E457 F458 F459 V454 V456 g_ar417 ne_b413_ar417 ne_b346_ar417 hL (by decide)) hZ (hw _ (List.mem_of_getElem? (i := 24) rfl)) (hw _ (List.mem_of_getElem? (i := 3) rfl)) (by decide) (by decide)) (g := (mkF m 235 #[.val (.int p0), .val (.int p1), .val (.long q2), .second, .val (.int p3), .val (.int p4), .val (.int p5), .val (.int (Int32.ofNat M)), .val (.int (Int32.ofNat fm)), .val (.int v1), .val (.ref b346), .val (.ref b413), .unset] [(.int (Int32.ofNat M)), (.int (5 : Int32)), (.int p3), (.ref b346), (.ref b413)])) rfl (by rw [hml]; rfl) (argsL := [(.ref b413), (.ref b346), (.int p3), (.int (5 : Int32)), (.int (Int32.ofNat M))]) (rest := []) (lenOf pd9700594 rfl) rfl (by show 2 * 0 + _ ≤ _; exact Nat.le_of_eq rfl) (hb hby at_235) (fun _ _ => ⟨rfl, rfl, (by decide : 3 + 0 ≤ _), (by decide : 26 + 0 ≤ _)⟩)
  dsimp only [Pt.U, Pt.locs, Pt.cells, Pt.slots] at X462 l462 y462 z462 st462 hQ462
  rw [l462, y462, z462] at X462
  obtain ⟨f6, hf6, rfl, N462q, K462, V462⟩ := hQ462
  have E463 := E455.keep K462
  have V464 := V456.keep K462 (ninS ne_b346_ar417 nin0)
  have E465 := E457.keep K462
  have F466 := F458.keep K462 (ninS ne_b413_ar417 nin0)
  have F467 := F459.keep K462 (ninS ne_b413_ar417 nin0)
  have Z468 : n0 ≤ T462.heap.size := Nat.le_trans Z460 K462.1
  have N469 := Fr.app N461 N462q
  obtain ⟨_, _, ⟨T470, L470, k470, n470⟩, -, X470, ⟨Lc470, hQ470, l470, y470, z470⟩, st470⟩ := Jvm.LawKit.callS X462 hx (y := (⟨"com/example/packwright/packwright/core/bins/FreeSpaceTreeEarliestPinLaw", "apply", "(Lcom/example/packwright/packwright/core/bins/FreeSpaceTree;[IIII)V"⟩ : MethodName)) hown (mvT hZ (hw _ (List.mem_of_getElem? (i := 22) rfl))) (mvT hZ (hw _ (List.mem_of_getElem? (i := 23) rfl))) (mvT hZ (hw _ (List.mem_of_getElem? (i := 3) rfl))) (mvT hZ (hw _ (List.mem_of_getElem? (i := 24) rfl))) (by decide) (backOf (W := 0) (rm5 l Z aq hw [] b413 b346 p3 M 6 ar417 f6 fr T462.heap n0 Z468 E465 F466 F467 V462 V464 g_ar417 ne_b413_ar417 ne_b346_ar417 hL (by decide)) hZ (hw _ (List.mem_of_getElem? (i := 24) rfl)) (hw _ (List.mem_of_getElem? (i := 3) rfl)) (by decide) (by decide)) (g := (mkF m 248 #[.val (.int p0), .val (.int p1), .val (.long q2), .second, .val (.int p3), .val (.int p4), .val (.int p5), .val (.int (Int32.ofNat M)), .val (.int (Int32.ofNat fm)), .val (.int v1), .val (.ref b346), .val (.ref b413), .unset] [(.int (Int32.ofNat M)), (.int (6 : Int32)), (.int p3), (.ref b346), (.ref b413)])) rfl (by rw [hml]; rfl) (argsL := [(.ref b413), (.ref b346), (.int p3), (.int (6 : Int32)), (.int (Int32.ofNat M))]) (rest := []) (lenOf pd9700594 rfl) rfl (by show 2 * 0 + _ ≤ _; exact Nat.le_of_eq rfl) (hb hby at_248) (fun _ _ => ⟨rfl, rfl, (by decide : 3 + 0 ≤ _), (by decide : 26 + 0 ≤ _)⟩)
  dsimp only [Pt.U, Pt.locs, Pt.cells, Pt.slots] at X470 l470 y470 z470 st470 hQ470
  rw [l470, y470, z470] at X470
  obtain ⟨f7, hf7, rfl, N470q, K470, V470⟩ := hQ470
  have E471 := E463.keep K470
  have V472 := V464.keep K470 (ninS ne_b346_ar417 nin0)
  have E473 := E465.keep K470
  have F474 := F466.keep K470 (ninS ne_b413_ar417 nin0)
  have F475 := F467.keep K470 (ninS ne_b413_ar417 nin0)
  have Z476 : n0 ≤ T470.heap.size := Nat.le_trans Z468 K470.1
  have N477 := Fr.app N469 N470q
  obtain ⟨_, _, ⟨T478, L478, k478, n478⟩, -, X478, ⟨Lc478, hQ478, l478, y478, z478⟩, st478⟩ := Jvm.LawKit.callS X470 hx (y := (⟨"com/example/packwright/packwright/core/bins/FreeSpaceTreeEarliestPinLaw", "apply", "(Lcom/example/packwright/packwright/core/bins/FreeSpaceTree;[IIII)V"⟩ : MethodName)) hown (mvT hZ (hw _ (List.mem_of_getElem? (i := 22) rfl))) (mvT hZ (hw _ (List.mem_of_getElem? (i := 23) rfl))) (mvT hZ (hw _ (List.mem_of_getElem? (i := 3) rfl))) (mvT hZ (hw _ (List.mem_of_getElem? (i := 24) rfl))) (by decide) (backOf (W := 0) (rm5 l Z aq hw [] b413 b346 p3 M 7 ar417 f7 fr T470.heap n0 Z476 E473 F474 F475 V470 V472 g_ar417 ne_b413_ar417 ne_b346_ar417 hL (by decide)) hZ (hw _ (List.mem_of_getElem? (i := 24) rfl)) (hw _ (List.mem_of_getElem? (i := 3) rfl)) (by decide) (by decide)) (g := (mkF m 261 #[.val (.int p0), .val (.int p1), .val (.long q2), .second, .val (.int p3), .val (.int p4), .val (.int p5), .val (.int (Int32.ofNat M)), .val (.int (Int32.ofNat fm)), .val (.int v1), .val (.ref b346), .val (.ref b413), .unset] [(.int (Int32.ofNat M)), (.int (7 : Int32)), (.int p3), (.ref b346), (.ref b413)])) rfl (by rw [hml]; rfl) (argsL := [(.ref b413), (.ref b346), (.int p3), (.int (7 : Int32)), (.int (Int32.ofNat M))]) (rest := []) (lenOf pd9700594 rfl) rfl (by show 2 * 0 + _ ≤ _; exact Nat.le_of_eq rfl) (hb hby at_261) (fun _ _ => ⟨rfl, rfl, (by decide : 3 + 0 ≤ _), (by decide : 26 + 0 ≤ _)⟩)
  dsimp only [Pt.U, Pt.locs, Pt.cells, Pt.slots] at X478 l478 y478 z478 st478 hQ478
  rw [l478, y478, z478] at X478
  obtain ⟨f8, hf8, rfl, N478q, K478, V478⟩ := hQ478
  have E479 := E471.keep K478
  have V480 := V472.keep K478 (ninS ne_b346_ar417 nin0)
  have E481 := E473.keep K478
  have F482 := F474.keep K478 (ninS ne_b413_ar417 nin0)
  have F483 := F475.keep K478 (ninS ne_b413_ar417 nin0)
  have Z484 : n0 ≤ T478.heap.size := Nat.le_trans Z476 K478.1
  have N485 := Fr.app N477 N478q
  obtain ⟨R, hR⟩ := (own_plain0 p0 p1 q2 p3 p4 p5 M fm fr f0 f1 f2 f3 f4 f5 f6 f7 f8 v1 hv1 v2 hv2 v3 hv3 v4 hv4 v5 hv5 v6 hv6 v7 hv7 v8 hv8 v9 hv9 hL hfm hfr0 hfr1 hfr2 hfr3 hfr4 hfr5 hfr6 hfr7 hf0 hf1 hf2 hf3 hf4 hf5 hf6 hf7 hf8)
  obtain ⟨cq486, kq486, q486a, q486b, q486c⟩ := isOf hZ rfl E481
  obtain ⟨_, _, ⟨T486, L486, k486, n486⟩, -, X486, ⟨Lc486, hQ486, l486, y486, z486⟩, st486⟩ := X478.virtualBack hx (y := (⟨"com/example/packwright/packwright/core/bins/FreeSpaceTree", "earliest", "(II)I"⟩ : MethodName)) (z := (⟨"com/example/packwright/packwright/core/bins/FreeSpaceTree", "earliest", "(II)I"⟩ : MethodName)) hown (mvT hZ (hw _ (List.mem_of_getElem? (i := 25) rfl))) (mvT hZ (hw _ (List.mem_of_getElem? (i := 26) rfl))) (notFace_of_selects (args := #[]) (mvT hZ (hw _ (List.mem_of_getElem? (i := 28) rfl)))) (mvT hZ (hw _ (List.mem_of_getElem? (i := 28) rfl))) (mvT hZ (hw _ (List.mem_of_getElem? (i := 27) rfl))) (by decide) (backOf (W := 0) (rm6 l Z aq hw [] b413 v1 M fm ar417 f8 R T478.heap n0 Z484 F482 F483 V478 hL hfm hR) hZ (hw _ (List.mem_of_getElem? (i := 29) rfl)) (hw _ (List.mem_of_getElem? (i := 7) rfl)) (by decide) (by decide)) q486a q486c (g := (mkF m 270 #[.val (.int p0), .val (.int p1), .val (.long q2), .second, .val (.int p3), .val (.int p4), .val (.int p5), .val (.int (Int32.ofNat M)), .val (.int (Int32.ofNat fm)), .val (.int v1), .val (.ref b346), .val (.ref b413), .unset] [(.int v1), (.int (Int32.ofNat fm)), (.ref b413)])) rfl (by rw [hml]; rfl) (Steps.refl _) (argsL := [(.int (Int32.ofNat fm)), (.int v1)]) (rest := []) (lenOf pd84293393 rfl) rfl (by show 2 * 0 + _ ≤ _; exact Nat.le_of_eq rfl) (hb hby at_270) (fun _ _ => ⟨rfl, rfl, (by decide : 3 + 0 ≤ _), (by decide : 26 + 0 ≤ _)⟩)
  dsimp only [Pt.U, Pt.locs, Pt.cells, Pt.slots] at X486 l486 y486 z486 st486 hQ486
  rw [l486, y486, z486] at X486
  obtain ⟨rfl, N486q, e486⟩ := hQ486
  have N487 := Fr.app N485 N486q
  obtain ⟨_, _, ⟨T488, L488, k488, n488⟩, -, X488, ⟨Lc488, hQ488, l488, y488, z488⟩, st488⟩ := Jvm.LawKit.callS X486 hx (y := (⟨"com/example/packwright/packwright/core/bins/FreeSpaceTreeEarliestPinLaw", "expected", "([IIII)I"⟩ : MethodName)) hown (mvT hZ (hw _ (List.mem_of_getElem? (i := 30) rfl))) (mvT hZ (hw _ (List.mem_of_getElem? (i := 31) rfl))) (mvT hZ (hw _ (List.mem_of_getElem? (i := 3) rfl))) (mvT hZ (hw _ (List.mem_of_getElem? (i := 32) rfl))) (by decide) (backOf (W := 1) (rm7 l Z aq hw [] b346 (Int32.ofNat M) (Int32.ofNat fm) v1 fr T478.heap n0 Z484 V480) hZ (hw _ (List.mem_of_getElem? (i := 32) rfl)) (hw _ (List.mem_of_getElem? (i := 3) rfl)) (by decide) (by decide)) (g := (mkF m 285 #[.val (.int p0), .val (.int p1), .val (.long q2), .second, .val (.int p3), .val (.int p4), .val (.int p5), .val (.int (Int32.ofNat M)), .val (.int (Int32.ofNat fm)), .val (.int v1), .val (.ref b346), .val (.ref b413), .val (.int (own_val R))] [(.int v1), (.int (Int32.ofNat fm)), (.int (Int32.ofNat M)), (.ref b346), (.int (own_val R))])) rfl (by rw [hml]; rfl) (argsL := [(.ref b346), (.int (Int32.ofNat M)), (.int (Int32.ofNat fm)), (.int v1)]) (rest := [(.int (own_val R))]) (lenOf pd21711166 rfl) rfl (by show 2 * 0 + _ ≤ _; exact Nat.le_of_eq rfl) (hb hby at_285) (fun _ _ => ⟨rfl, e486, (by decide : 3 + 0 ≤ _), (by decide : 26 + 0 ≤ _)⟩)
  dsimp only [Pt.U, Pt.locs, Pt.cells, Pt.slots] at X488 l488 y488 z488 st488 hQ488
  rw [l488, y488, z488] at X488
  obtain ⟨rfl, N488q, e488⟩ := hQ488
  have N489 := Fr.app N487 N488q
  have pre490 : ∀ t, Steps p.tables e below (T488.setTop (mkF m 288 #[.val (.int p0), .val (.int p1), .val (.long q2), .second, .val (.int p3), .val (.int p4), .val (.int p5), .val (.int (Int32.ofNat M)), .val (.int (Int32.ofNat fm)), .val (.int v1), .val (.ref b346), .val (.ref b413), .val (.int (own_val R))] [(.int (if (if (Int32.ofNat 0) < (Int32.ofNat fm) then (0 : Int32) else (if (Int32.ofNat 0) < (Int32.ofNat M) then (if (fr 0) < v1 then (0 : Int32) else (1 : Int32)) else (0 : Int32))) = (0 : Int32) then (if (if (Int32.ofNat 1) < (Int32.ofNat fm) then (0 : Int32) else (if (Int32.ofNat 1) < (Int32.ofNat M) then (if (fr 1) < v1 then (0 : Int32) else (1 : Int32)) else (0 : Int32))) = (0 : Int32) then (if (if (Int32.ofNat 2) < (Int32.ofNat fm) then (0 : Int32) else (if (Int32.ofNat 2) < (Int32.ofNat M) then (if (fr 2) < v1 then (0 : Int32) else (1 : Int32)) else (0 : Int32))) = (0 : Int32) then (if (if (Int32.ofNat 3) < (Int32.ofNat fm) then (0 : Int32) else (if (Int32.ofNat 3) < (Int32.ofNat M) then (if (fr 3) < v1 then (0 : Int32) else (1 : Int32)) else (0 : Int32))) = (0 : Int32) then (if (if (Int32.ofNat 4) < (Int32.ofNat fm) then (0 : Int32) else (if (Int32.ofNat 4) < (Int32.ofNat M) then (if (fr 4) < v1 then (0 : Int32) else (1 : Int32)) else (0 : Int32))) = (0 : Int32) then (if (if (Int32.ofNat 5) < (Int32.ofNat fm) then (0 : Int32) else (if (Int32.ofNat 5) < (Int32.ofNat M) then (if (fr 5) < v1 then (0 : Int32) else (1 : Int32)) else (0 : Int32))) = (0 : Int32) then (if (if (Int32.ofNat 6) < (Int32.ofNat fm) then (0 : Int32) else (if (Int32.ofNat 6) < (Int32.ofNat M) then (if (fr 6) < v1 then (0 : Int32) else (1 : Int32)) else (0 : Int32))) = (0 : Int32) then (if (if (Int32.ofNat 7) < (Int32.ofNat fm) then (0 : Int32) else (if (Int32.ofNat 7) < (Int32.ofNat M) then (if (fr 7) < v1 then (0 : Int32) else (1 : Int32)) else (0 : Int32))) = (0 : Int32) then (-1 : Int32) else (7 : Int32)) else (6 : Int32)) else (5 : Int32)) else (4 : Int32)) else (3 : Int32)) else (2 : Int32)) else (1 : Int32)) else (0 : Int32))), (.int (own_val R))])) t → Steps p.tables e below (s₁.setTop (entryFrame m #[(.int p0), (.int p1), (.long q2), (.int p3), (.int p4), (.int p5)] maxLocals)) t := fun t kt => by
    refine pre407 _ ?_
    show Steps p.tables e below (T404.setTop (mkF m 153 #[.val (.int p0), .val (.int p1), .val (.long q2), .second, .val (.int p3), .val (.int p4), .val (.int p5), .val (.int (Int32.ofNat M)), .val (.int (Int32.ofNat fm)), .val (.int v1), .val (.ref b346), .unset, .unset] [(.int v9), (.int (7 : Int32)), (.ref b346)])) _
    refine st408 _ ?_
    show Steps p.tables e below (T408.setTop (mkF m 154 #[.val (.int p0), .val (.int p1), .val (.long q2), .second, .val (.int p3), .val (.int p4), .val (.int p5), .val (.int (Int32.ofNat M)), .val (.int (Int32.ofNat fm)), .val (.int v1), .val (.ref b346), .unset, .unset] [])) _
    refine st413 _ ?_
    show Steps p.tables e below (T413.setTop (mkF m 157 #[.val (.int p0), .val (.int p1), .val (.long q2), .second, .val (.int p3), .val (.int p4), .val (.int p5), .val (.int (Int32.ofNat M)), .val (.int (Int32.ofNat fm)), .val (.int v1), .val (.ref b346), .unset, .unset] [(.ref b413)])) _
    refine XS.dup X413.here hx rfl (hb hby at_157) rfl rfl ?_
    show Steps p.tables e below (T413.setTop (mkF m 158 #[.val (.int p0), .val (.int p1), .val (.long q2), .second, .val (.int p3), .val (.int p4), .val (.int p5), .val (.int (Int32.ofNat M)), .val (.int (Int32.ofNat fm)), .val (.int v1), .val (.ref b346), .unset, .unset] [(.ref b413), (.ref b413)])) _
    refine XS.iload X413.here hx rfl (hb hby at_158) rfl ?_
    show Steps p.tables e below (T413.setTop (mkF m 160 #[.val (.int p0), .val (.int p1), .val (.long q2), .second, .val (.int p3), .val (.int p4), .val (.int p5), .val (.int (Int32.ofNat M)), .val (.int (Int32.ofNat fm)), .val (.int v1), .val (.ref b346), .unset, .unset] [(.int (Int32.ofNat M)), (.ref b413), (.ref b413)])) _
    refine XS.iloadN X413.here hx rfl (hb hby at_160) rfl ?_
    show Steps p.tables e below (T413.setTop (mkF m 161 #[.val (.int p0), .val (.int p1), .val (.long q2), .second, .val (.int p3), .val (.int p4), .val (.int p5), .val (.int (Int32.ofNat M)), .val (.int (Int32.ofNat fm)), .val (.int v1), .val (.ref b346), .unset, .unset] [(.int p1), (.int (Int32.ofNat M)), (.ref b413), (.ref b413)])) _
    refine st417.trans ?_
    show Steps p.tables e below (T417.setTop (mkF m 164 #[.val (.int p0), .val (.int p1), .val (.long q2), .second, .val (.int p3), .val (.int p4), .val (.int p5), .val (.int (Int32.ofNat M)), .val (.int (Int32.ofNat fm)), .val (.int v1), .val (.ref b346), .unset, .unset] [(.ref b413)])) _
    refine XS.astore X417.here hx rfl (hb hby at_164) rfl rfl (l' := #[.val (.int p0), .val (.int p1), .val (.long q2), .second, .val (.int p3), .val (.int p4), .val (.int p5), .val (.int (Int32.ofNat M)), .val (.int (Int32.ofNat fm)), .val (.int v1), .val (.ref b346), .val (.ref b413), .unset]) rfl ?_
    show Steps p.tables e below (T417.setTop (mkF m 166 #[.val (.int p0), .val (.int p1), .val (.long q2), .second, .val (.int p3), .val (.int p4), .val (.int p5), .val (.int (Int32.ofNat M)), .val (.int (Int32.ofNat fm)), .val (.int v1), .val (.ref b346), .val (.ref b413), .unset] [])) _
    refine XS.aload X417.here hx rfl (hb hby at_166) rfl rfl ?_
    show Steps p.tables e below (T417.setTop (mkF m 168 #[.val (.int p0), .val (.int p1), .val (.long q2), .second, .val (.int p3), .val (.int p4), .val (.int p5), .val (.int (Int32.ofNat M)), .val (.int (Int32.ofNat fm)), .val (.int v1), .val (.ref b346), .val (.ref b413), .unset] [(.ref b413)])) _
    refine XS.aload X417.here hx rfl (hb hby at_168) rfl rfl ?_
    show Steps p.tables e below (T417.setTop (mkF m 170 #[.val (.int p0), .val (.int p1), .val (.long q2), .second, .val (.int p3), .val (.int p4), .val (.int p5), .val (.int (Int32.ofNat M)), .val (.int (Int32.ofNat fm)), .val (.int v1), .val (.ref b346), .val (.ref b413), .unset] [(.ref b346), (.ref b413)])) _
    refine XS.iload X417.here hx rfl (hb hby at_170) rfl ?_
    show Steps p.tables e below (T417.setTop (mkF m 172 #[.val (.int p0), .val (.int p1), .val (.long q2), .second, .val (.int p3), .val (.int p4), .val (.int p5), .val (.int (Int32.ofNat M)), .val (.int (Int32.ofNat fm)), .val (.int v1), .val (.ref b346), .val (.ref b413), .unset] [(.int p3), (.ref b346), (.ref b413)])) _
    refine XS.iconst X417.here hx rfl (hb hby at_172) ?_
    show Steps p.tables e below (T417.setTop (mkF m 173 #[.val (.int p0), .val (.int p1), .val (.long q2), .second, .val (.int p3), .val (.int p4), .val (.int p5), .val (.int (Int32.ofNat M)), .val (.int (Int32.ofNat fm)), .val (.int v1), .val (.ref b346), .val (.ref b413), .unset] [(.int (0 : Int32)), (.int p3), (.ref b346), (.ref b413)])) _
    refine XS.iload X417.here hx rfl (hb hby at_173) rfl ?_
    show Steps p.tables e below (T417.setTop (mkF m 175 #[.val (.int p0), .val (.int p1), .val (.long q2), .second, .val (.int p3), .val (.int p4), .val (.int p5), .val (.int (Int32.ofNat M)), .val (.int (Int32.ofNat fm)), .val (.int v1), .val (.ref b346), .val (.ref b413), .unset] [(.int (Int32.ofNat M)), (.int (0 : Int32)), (.int p3), (.ref b346), (.ref b413)])) _
    refine st422 _ ?_
    show Steps p.tables e below (T422.setTop (mkF m 178 #[.val (.int p0), .val (.int p1), .val (.long q2), .second, .val (.int p3), .val (.int p4), .val (.int p5), .val (.int (Int32.ofNat M)), .val (.int (Int32.ofNat fm)), .val (.int v1), .val (.ref b346), .val (.ref b413), .unset] [])) _
    refine XS.aload X422.here hx rfl (hb hby at_178) rfl rfl ?_
    show Steps p.tables e below (T422.setTop (mkF m 180 #[.val (.int p0), .val (.int p1), .val (.long q2), .second, .val (.int p3), .val (.int p4), .val (.int p5), .val (.int (Int32.ofNat M)), .val (.int (Int32.ofNat fm)), .val (.int v1), .val (.ref b346), .val (.ref b413), .unset] [(.ref b413)])) _
    refine XS.aload X422.here hx rfl (hb hby at_180) rfl rfl ?_
    show Steps p.tables e below (T422.setTop (mkF m 182 #[.val (.int p0), .val (.int p1), .val (.long q2), .second, .val (.int p3), .val (.int p4), .val (.int p5), .val (.int (Int32.ofNat M)), .val (.int (Int32.ofNat fm)), .val (.int v1), .val (.ref b346), .val (.ref b413), .unset] [(.ref b346), (.ref b413)])) _
    refine XS.iload X422.here hx rfl (hb hby at_182) rfl ?_
    show Steps p.tables e below (T422.setTop (mkF m 184 #[.val (.int p0), .val (.int p1), .val (.long q2), .second, .val (.int p3), .val (.int p4), .val (.int p5), .val (.int (Int32.ofNat M)), .val (.int (Int32.ofNat fm)), .val (.int v1), .val (.ref b346), .val (.ref b413), .unset] [(.int p3), (.ref b346), (.ref b413)])) _
    refine XS.iconst X422.here hx rfl (hb hby at_184) ?_
    show Steps p.tables e below (T422.setTop (mkF m 185 #[.val (.int p0), .val (.int p1), .val (.long q2), .second, .val (.int p3), .val (.int p4), .val (.int p5), .val (.int (Int32.ofNat M)), .val (.int (Int32.ofNat fm)), .val (.int v1), .val (.ref b346), .val (.ref b413), .unset] [(.int (1 : Int32)), (.int p3), (.ref b346), (.ref b413)])) _
    refine XS.iload X422.here hx rfl (hb hby at_185) rfl ?_
    show Steps p.tables e below (T422.setTop (mkF m 187 #[.val (.int p0), .val (.int p1), .val (.long q2), .second, .val (.int p3), .val (.int p4), .val (.int p5), .val (.int (Int32.ofNat M)), .val (.int (Int32.ofNat fm)), .val (.int v1), .val (.ref b346), .val (.ref b413), .unset] [(.int (Int32.ofNat M)), (.int (1 : Int32)), (.int p3), (.ref b346), (.ref b413)])) _
    refine st430 _ ?_
    show Steps p.tables e below (T430.setTop (mkF m 190 #[.val (.int p0), .val (.int p1), .val (.long q2), .second, .val (.int p3), .val (.int p4), .val (.int p5), .val (.int (Int32.ofNat M)), .val (.int (Int32.ofNat fm)), .val (.int v1), .val (.ref b346), .val (.ref b413), .unset] [])) _
    refine XS.aload X430.here hx rfl (hb hby at_190) rfl rfl ?_
    show Steps p.tables e below (T430.setTop (mkF m 192 #[.val (.int p0), .val (.int p1), .val (.long q2), .second, .val (.int p3), .val (.int p4), .val (.int p5), .val (.int (Int32.ofNat M)), .val (.int (Int32.ofNat fm)), .val (.int v1), .val (.ref b346), .val (.ref b413), .unset] [(.ref b413)])) _
    refine XS.aload X430.here hx rfl (hb hby at_192) rfl rfl ?_
    show Steps p.tables e below (T430.setTop (mkF m 194 #[.val (.int p0), .val (.int p1), .val (.long q2), .second, .val (.int p3), .val (.int p4), .val (.int p5), .val (.int (Int32.ofNat M)), .val (.int (Int32.ofNat fm)), .val (.int v1), .val (.ref b346), .val (.ref b413), .unset] [(.ref b346), (.ref b413)])) _
    refine XS.iload X430.here hx rfl (hb hby at_194) rfl ?_
    show Steps p.tables e below (T430.setTop (mkF m 196 #[.val (.int p0), .val (.int p1), .val (.long q2), .second, .val (.int p3), .val (.int p4), .val (.int p5), .val (.int (Int32.ofNat M)), .val (.int (Int32.ofNat fm)), .val (.int v1), .val (.ref b346), .val (.ref b413), .unset] [(.int p3), (.ref b346), (.ref b413)])) _
    refine XS.iconst X430.here hx rfl (hb hby at_196) ?_
    show Steps p.tables e below (T430.setTop (mkF m 197 #[.val (.int p0), .val (.int p1), .val (.long q2), .second, .val (.int p3), .val (.int p4), .val (.int p5), .val (.int (Int32.ofNat M)), .val (.int (Int32.ofNat fm)), .val (.int v1), .val (.ref b346), .val (.ref b413), .unset] [(.int (2 : Int32)), (.int p3), (.ref b346), (.ref b413)])) _
    refine XS.iload X430.here hx rfl (hb hby at_197) rfl ?_
    show Steps p.tables e below (T430.setTop (mkF m 199 #[.val (.int p0), .val (.int p1), .val (.long q2), .second, .val (.int p3), .val (.int p4), .val (.int p5), .val (.int (Int32.ofNat M)), .val (.int (Int32.ofNat fm)), .val (.int v1), .val (.ref b346), .val (.ref b413), .unset] [(.int (Int32.ofNat M)), (.int (2 : Int32)), (.int p3), (.ref b346), (.ref b413)])) _
    refine st438 _ ?_
    show Steps p.tables e below (T438.setTop (mkF m 202 #[.val (.int p0), .val (.int p1), .val (.long q2), .second, .val (.int p3), .val (.int p4), .val (.int p5), .val (.int (Int32.ofNat M)), .val (.int (Int32.ofNat fm)), .val (.int v1), .val (.ref b346), .val (.ref b413), .unset] [])) _
    refine XS.aload X438.here hx rfl (hb hby at_202) rfl rfl ?_
    show Steps p.tables e below (T438.setTop (mkF m 204 #[.val (.int p0), .val (.int p1), .val (.long q2), .second, .val (.int p3), .val (.int p4), .val (.int p5), .val (.int (Int32.ofNat M)), .val (.int (Int32.ofNat fm)), .val (.int v1), .val (.ref b346), .val (.ref b413), .unset] [(.ref b413)])) _
    refine XS.aload X438.here hx rfl (hb hby at_204) rfl rfl ?_
    show Steps p.tables e below (T438.setTop (mkF m 206 #[.val (.int p0), .val (.int p1), .val (.long q2), .second, .val (.int p3), .val (.int p4), .val (.int p5), .val (.int (Int32.ofNat M)), .val (.int (Int32.ofNat fm)), .val (.int v1), .val (.ref b346), .val (.ref b413), .unset] [(.ref b346), (.ref b413)])) _
    refine XS.iload X438.here hx rfl (hb hby at_206) rfl ?_
    show Steps p.tables e below (T438.setTop (mkF m 208 #[.val (.int p0), .val (.int p1), .val (.long q2), .second, .val (.int p3), .val (.int p4), .val (.int p5), .val (.int (Int32.ofNat M)), .val (.int (Int32.ofNat fm)), .val (.int v1), .val (.ref b346), .val (.ref b413), .unset] [(.int p3), (.ref b346), (.ref b413)])) _
    refine XS.iconst X438.here hx rfl (hb hby at_208) ?_
    show Steps p.tables e below (T438.setTop (mkF m 209 #[.val (.int p0), .val (.int p1), .val (.long q2), .second, .val (.int p3), .val (.int p4), .val (.int p5), .val (.int (Int32.ofNat M)), .val (.int (Int32.ofNat fm)), .val (.int v1), .val (.ref b346), .val (.ref b413), .unset] [(.int (3 : Int32)), (.int p3), (.ref b346), (.ref b413)])) _
    refine XS.iload X438.here hx rfl (hb hby at_209) rfl ?_
    show Steps p.tables e below (T438.setTop (mkF m 211 #[.val (.int p0), .val (.int p1), .val (.long q2), .second, .val (.int p3), .val (.int p4), .val (.int p5), .val (.int (Int32.ofNat M)), .val (.int (Int32.ofNat fm)), .val (.int v1), .val (.ref b346), .val (.ref b413), .unset] [(.int (Int32.ofNat M)), (.int (3 : Int32)), (.int p3), (.ref b346), (.ref b413)])) _
    refine st446 _ ?_
    show Steps p.tables e below (T446.setTop (mkF m 214 #[.val (.int p0), .val (.int p1), .val (.long q2), .second, .val (.int p3), .val (.int p4), .val (.int p5), .val (.int (Int32.ofNat M)), .val (.int (Int32.ofNat fm)), .val (.int v1), .val (.ref b346), .val (.ref b413), .unset] [])) _
    refine XS.aload X446.here hx rfl (hb hby at_214) rfl rfl ?_
    show Steps p.tables e below (T446.setTop (mkF m 216 #[.val (.int p0), .val (.int p1), .val (.long q2), .second, .val (.int p3), .val (.int p4), .val (.int p5), .val (.int (Int32.ofNat M)), .val (.int (Int32.ofNat fm)), .val (.int v1), .val (.ref b346), .val (.ref b413), .unset] [(.ref b413)])) _
    refine XS.aload X446.here hx rfl (hb hby at_216) rfl rfl ?_
    show Steps p.tables e below (T446.setTop (mkF m 218 #[.val (.int p0), .val (.int p1), .val (.long q2), .second, .val (.int p3), .val (.int p4), .val (.int p5), .val (.int (Int32.ofNat M)), .val (.int (Int32.ofNat fm)), .val (.int v1), .val (.ref b346), .val (.ref b413), .unset] [(.ref b346), (.ref b413)])) _
    refine XS.iload X446.here hx rfl (hb hby at_218) rfl ?_
    show Steps p.tables e below (T446.setTop (mkF m 220 #[.val (.int p0), .val (.int p1), .val (.long q2), .second, .val (.int p3), .val (.int p4), .val (.int p5), .val (.int (Int32.ofNat M)), .val (.int (Int32.ofNat fm)), .val (.int v1), .val (.ref b346), .val (.ref b413), .unset] [(.int p3), (.ref b346), (.ref b413)])) _
    refine XS.iconst X446.here hx rfl (hb hby at_220) ?_
    show Steps p.tables e below (T446.setTop (mkF m 221 #[.val (.int p0), .val (.int p1), .val (.long q2), .second, .val (.int p3), .val (.int p4), .val (.int p5), .val (.int (Int32.ofNat M)), .val (.int (Int32.ofNat fm)), .val (.int v1), .val (.ref b346), .val (.ref b413), .unset] [(.int (4 : Int32)), (.int p3), (.ref b346), (.ref b413)])) _
    refine XS.iload X446.here hx rfl (hb hby at_221) rfl ?_
    show Steps p.tables e below (T446.setTop (mkF m 223 #[.val (.int p0), .val (.int p1), .val (.long q2), .second, .val (.int p3), .val (.int p4), .val (.int p5), .val (.int (Int32.ofNat M)), .val (.int (Int32.ofNat fm)), .val (.int v1), .val (.ref b346), .val (.ref b413), .unset] [(.int (Int32.ofNat M)), (.int (4 : Int32)), (.int p3), (.ref b346), (.ref b413)])) _
    refine st454 _ ?_
    show Steps p.tables e below (T454.setTop (mkF m 226 #[.val (.int p0), .val (.int p1), .val (.long q2), .second, .val (.int p3), .val (.int p4), .val (.int p5), .val (.int (Int32.ofNat M)), .val (.int (Int32.ofNat fm)), .val (.int v1), .val (.ref b346), .val (.ref b413), .unset] [])) _
    refine XS.aload X454.here hx rfl (hb hby at_226) rfl rfl ?_
    show Steps p.tables e below (T454.setTop (mkF m 228 #[.val (.int p0), .val (.int p1), .val (.long q2), .second, .val (.int p3), .val (.int p4), .val (.int p5), .val (.int (Int32.ofNat M)), .val (.int (Int32.ofNat fm)), .val (.int v1), .val (.ref b346), .val (.ref b413), .unset] [(.ref b413)])) _
    refine XS.aload X454.here hx rfl (hb hby at_228) rfl rfl ?_
    show Steps p.tables e below (T454.setTop (mkF m 230 #[.val (.int p0), .val (.int p1), .val (.long q2), .second, .val (.int p3), .val (.int p4), .val (.int p5), .val (.int (Int32.ofNat M)), .val (.int (Int32.ofNat fm)), .val (.int v1), .val (.ref b346), .val (.ref b413), .unset] [(.ref b346), (.ref b413)])) _
    refine XS.iload X454.here hx rfl (hb hby at_230) rfl ?_
    show Steps p.tables e below (T454.setTop (mkF m 232 #[.val (.int p0), .val (.int p1), .val (.long q2), .second, .val (.int p3), .val (.int p4), .val (.int p5), .val (.int (Int32.ofNat M)), .val (.int (Int32.ofNat fm)), .val (.int v1), .val (.ref b346), .val (.ref b413), .unset] [(.int p3), (.ref b346), (.ref b413)])) _
    refine XS.iconst X454.here hx rfl (hb hby at_232) ?_
    show Steps p.tables e below (T454.setTop (mkF m 233 #[.val (.int p0), .val (.int p1), .val (.long q2), .second, .val (.int p3), .val (.int p4), .val (.int p5), .val (.int (Int32.ofNat M)), .val (.int (Int32.ofNat fm)), .val (.int v1), .val (.ref b346), .val (.ref b413), .unset] [(.int (5 : Int32)), (.int p3), (.ref b346), (.ref b413)])) _
    refine XS.iload X454.here hx rfl (hb hby at_233) rfl ?_
    show Steps p.tables e below (T454.setTop (mkF m 235 #[.val (.int p0), .val (.int p1), .val (.long q2), .second, .val (.int p3), .val (.int p4), .val (.int p5), .val (.int (Int32.ofNat M)), .val (.int (Int32.ofNat fm)), .val (.int v1), .val (.ref b346), .val (.ref b413), .unset] [(.int (Int32.ofNat M)), (.int (5 : Int32)), (.int p3), (.ref b346), (.ref b413)])) _
    refine st462 _ ?_
    show Steps p.tables e below (T462.setTop (mkF m 238 #[.val (.int p0), .val (.int p1), .val (.long q2), .second, .val (.int p3), .val (.int p4), .val (.int p5), .val (.int (Int32.ofNat M)), .val (.int (Int32.ofNat fm)), .val (.int v1), .val (.ref b346), .val (.ref b413), .unset] [])) _
    refine XS.aload X462.here hx rfl (hb hby at_238) rfl rfl ?_
    show Steps p.tables e below (T462.setTop (mkF m 240 #[.val (.int p0), .val (.int p1), .val (.long q2), .second, .val (.int p3), .val (.int p4), .val (.int p5), .val (.int (Int32.ofNat M)), .val (.int (Int32.ofNat fm)), .val (.int v1), .val (.ref b346), .val (.ref b413), .unset] [(.ref b413)])) _
    refine XS.aload X462.here hx rfl (hb hby at_240) rfl rfl ?_
    show Steps p.tables e below (T462.setTop (mkF m 242 #[.val (.int p0), .val (.int p1), .val (.long q2), .second, .val (.int p3), .val (.int p4), .val (.int p5), .val (.int (Int32.ofNat M)), .val (.int (Int32.ofNat fm)), .val (.int v1), .val (.ref b346), .val (.ref b413), .unset] [(.ref b346), (.ref b413)])) _
    refine XS.iload X462.here hx rfl (hb hby at_242) rfl ?_
    show Steps p.tables e below (T462.setTop (mkF m 244 #[.val (.int p0), .val (.int p1), .val (.long q2), .second, .val (.int p3), .val (.int p4), .val (.int p5), .val (.int (Int32.ofNat M)), .val (.int (Int32.ofNat fm)), .val (.int v1), .val (.ref b346), .val (.ref b413), .unset] [(.int p3), (.ref b346), (.ref b413)])) _
    refine XS.bipush X462.here hx rfl (hb hby at_244) ?_
    show Steps p.tables e below (T462.setTop (mkF m 246 #[.val (.int p0), .val (.int p1), .val (.long q2), .second, .val (.int p3), .val (.int p4), .val (.int p5), .val (.int (Int32.ofNat M)), .val (.int (Int32.ofNat fm)), .val (.int v1), .val (.ref b346), .val (.ref b413), .unset] [(.int (6 : Int32)), (.int p3), (.ref b346), (.ref b413)])) _
    refine XS.iload X462.here hx rfl (hb hby at_246) rfl ?_
    show Steps p.tables e below (T462.setTop (mkF m 248 #[.val (.int p0), .val (.int p1), .val (.long q2), .second, .val (.int p3), .val (.int p4), .val (.int p5), .val (.int (Int32.ofNat M)), .val (.int (Int32.ofNat fm)), .val (.int v1), .val (.ref b346), .val (.ref b413), .unset] [(.int (Int32.ofNat M)), (.int (6 : Int32)), (.int p3), (.ref b346), (.ref b413)])) _
    refine st470 _ ?_
    show Steps p.tables e below (T470.setTop (mkF m 251 #[.val (.int p0), .val (.int p1), .val (.long q2), .second, .val (.int p3), .val (.int p4), .val (.int p5), .val (.int (Int32.ofNat M)), .val (.int (Int32.ofNat fm)), .val (.int v1), .val (.ref b346), .val (.ref b413), .unset] [])) _
    refine XS.aload X470.here hx rfl (hb hby at_251) rfl rfl ?_
    show Steps p.tables e below (T470.setTop (mkF m 253 #[.val (.int p0), .val (.int p1), .val (.long q2), .second, .val (.int p3), .val (.int p4), .val (.int p5), .val (.int (Int32.ofNat M)), .val (.int (Int32.ofNat fm)), .val (.int v1), .val (.ref b346), .val (.ref b413), .unset] [(.ref b413)])) _
    refine XS.aload X470.here hx rfl (hb hby at_253) rfl rfl ?_
    show Steps p.tables e below (T470.setTop (mkF m 255 #[.val (.int p0), .val (.int p1), .val (.long q2), .second, .val (.int p3), .val (.int p4), .val (.int p5), .val (.int (Int32.ofNat M)), .val (.int (Int32.ofNat fm)), .val (.int v1), .val (.ref b346), .val (.ref b413), .unset] [(.ref b346), (.ref b413)])) _
    refine XS.iload X470.here hx rfl (hb hby at_255) rfl ?_
    show Steps p.tables e below (T470.setTop (mkF m 257 #[.val (.int p0), .val (.int p1), .val (.long q2), .second, .val (.int p3), .val (.int p4), .val (.int p5), .val (.int (Int32.ofNat M)), .val (.int (Int32.ofNat fm)), .val (.int v1), .val (.ref b346), .val (.ref b413), .unset] [(.int p3), (.ref b346), (.ref b413)])) _
    refine XS.bipush X470.here hx rfl (hb hby at_257) ?_
    show Steps p.tables e below (T470.setTop (mkF m 259 #[.val (.int p0), .val (.int p1), .val (.long q2), .second, .val (.int p3), .val (.int p4), .val (.int p5), .val (.int (Int32.ofNat M)), .val (.int (Int32.ofNat fm)), .val (.int v1), .val (.ref b346), .val (.ref b413), .unset] [(.int (7 : Int32)), (.int p3), (.ref b346), (.ref b413)])) _
    refine XS.iload X470.here hx rfl (hb hby at_259) rfl ?_
    show Steps p.tables e below (T470.setTop (mkF m 261 #[.val (.int p0), .val (.int p1), .val (.long q2), .second, .val (.int p3), .val (.int p4), .val (.int p5), .val (.int (Int32.ofNat M)), .val (.int (Int32.ofNat fm)), .val (.int v1), .val (.ref b346), .val (.ref b413), .unset] [(.int (Int32.ofNat M)), (.int (7 : Int32)), (.int p3), (.ref b346), (.ref b413)])) _
    refine st478 _ ?_
    show Steps p.tables e below (T478.setTop (mkF m 264 #[.val (.int p0), .val (.int p1), .val (.long q2), .second, .val (.int p3), .val (.int p4), .val (.int p5), .val (.int (Int32.ofNat M)), .val (.int (Int32.ofNat fm)), .val (.int v1), .val (.ref b346), .val (.ref b413), .unset] [])) _
    refine XS.aload X478.here hx rfl (hb hby at_264) rfl rfl ?_
    show Steps p.tables e below (T478.setTop (mkF m 266 #[.val (.int p0), .val (.int p1), .val (.long q2), .second, .val (.int p3), .val (.int p4), .val (.int p5), .val (.int (Int32.ofNat M)), .val (.int (Int32.ofNat fm)), .val (.int v1), .val (.ref b346), .val (.ref b413), .unset] [(.ref b413)])) _
    refine XS.iload X478.here hx rfl (hb hby at_266) rfl ?_
    show Steps p.tables e below (T478.setTop (mkF m 268 #[.val (.int p0), .val (.int p1), .val (.long q2), .second, .val (.int p3), .val (.int p4), .val (.int p5), .val (.int (Int32.ofNat M)), .val (.int (Int32.ofNat fm)), .val (.int v1), .val (.ref b346), .val (.ref b413), .unset] [(.int (Int32.ofNat fm)), (.ref b413)])) _
    refine XS.iload X478.here hx rfl (hb hby at_268) rfl ?_
    show Steps p.tables e below (T478.setTop (mkF m 270 #[.val (.int p0), .val (.int p1), .val (.long q2), .second, .val (.int p3), .val (.int p4), .val (.int p5), .val (.int (Int32.ofNat M)), .val (.int (Int32.ofNat fm)), .val (.int v1), .val (.ref b346), .val (.ref b413), .unset] [(.int v1), (.int (Int32.ofNat fm)), (.ref b413)])) _
    refine st486.trans ?_
    show Steps p.tables e below (T486.setTop (mkF m 273 #[.val (.int p0), .val (.int p1), .val (.long q2), .second, .val (.int p3), .val (.int p4), .val (.int p5), .val (.int (Int32.ofNat M)), .val (.int (Int32.ofNat fm)), .val (.int v1), .val (.ref b346), .val (.ref b413), .unset] [(.int (own_val R))])) _
    refine XS.istore X486.here hx rfl (hb hby at_273) rfl (l' := #[.val (.int p0), .val (.int p1), .val (.long q2), .second, .val (.int p3), .val (.int p4), .val (.int p5), .val (.int (Int32.ofNat M)), .val (.int (Int32.ofNat fm)), .val (.int v1), .val (.ref b346), .val (.ref b413), .val (.int (own_val R))]) rfl ?_
    show Steps p.tables e below (T486.setTop (mkF m 275 #[.val (.int p0), .val (.int p1), .val (.long q2), .second, .val (.int p3), .val (.int p4), .val (.int p5), .val (.int (Int32.ofNat M)), .val (.int (Int32.ofNat fm)), .val (.int v1), .val (.ref b346), .val (.ref b413), .val (.int (own_val R))] [])) _
    refine XS.iload X486.here hx rfl (hb hby at_275) rfl ?_
    show Steps p.tables e below (T486.setTop (mkF m 277 #[.val (.int p0), .val (.int p1), .val (.long q2), .second, .val (.int p3), .val (.int p4), .val (.int p5), .val (.int (Int32.ofNat M)), .val (.int (Int32.ofNat fm)), .val (.int v1), .val (.ref b346), .val (.ref b413), .val (.int (own_val R))] [(.int (own_val R))])) _
    refine XS.aload X486.here hx rfl (hb hby at_277) rfl rfl ?_
    show Steps p.tables e below (T486.setTop (mkF m 279 #[.val (.int p0), .val (.int p1), .val (.long q2), .second, .val (.int p3), .val (.int p4), .val (.int p5), .val (.int (Int32.ofNat M)), .val (.int (Int32.ofNat fm)), .val (.int v1), .val (.ref b346), .val (.ref b413), .val (.int (own_val R))] [(.ref b346), (.int (own_val R))])) _
    refine XS.iload X486.here hx rfl (hb hby at_279) rfl ?_
    show Steps p.tables e below (T486.setTop (mkF m 281 #[.val (.int p0), .val (.int p1), .val (.long q2), .second, .val (.int p3), .val (.int p4), .val (.int p5), .val (.int (Int32.ofNat M)), .val (.int (Int32.ofNat fm)), .val (.int v1), .val (.ref b346), .val (.ref b413), .val (.int (own_val R))] [(.int (Int32.ofNat M)), (.ref b346), (.int (own_val R))])) _
    refine XS.iload X486.here hx rfl (hb hby at_281) rfl ?_
    show Steps p.tables e below (T486.setTop (mkF m 283 #[.val (.int p0), .val (.int p1), .val (.long q2), .second, .val (.int p3), .val (.int p4), .val (.int p5), .val (.int (Int32.ofNat M)), .val (.int (Int32.ofNat fm)), .val (.int v1), .val (.ref b346), .val (.ref b413), .val (.int (own_val R))] [(.int (Int32.ofNat fm)), (.int (Int32.ofNat M)), (.ref b346), (.int (own_val R))])) _
    refine XS.iload X486.here hx rfl (hb hby at_283) rfl ?_
    show Steps p.tables e below (T486.setTop (mkF m 285 #[.val (.int p0), .val (.int p1), .val (.long q2), .second, .val (.int p3), .val (.int p4), .val (.int p5), .val (.int (Int32.ofNat M)), .val (.int (Int32.ofNat fm)), .val (.int v1), .val (.ref b346), .val (.ref b413), .val (.int (own_val R))] [(.int v1), (.int (Int32.ofNat fm)), (.int (Int32.ofNat M)), (.ref b346), (.int (own_val R))])) _
    refine st488 _ ?_
    show Steps p.tables e below (T488.setTop (mkF m 288 #[.val (.int p0), .val (.int p1), .val (.long q2), .second, .val (.int p3), .val (.int p4), .val (.int p5), .val (.int (Int32.ofNat M)), .val (.int (Int32.ofNat fm)), .val (.int v1), .val (.ref b346), .val (.ref b413), .val (.int (own_val R))] [(.int (if (if (Int32.ofNat 0) < (Int32.ofNat fm) then (0 : Int32) else (if (Int32.ofNat 0) < (Int32.ofNat M) then (if (fr 0) < v1 then (0 : Int32) else (1 : Int32)) else (0 : Int32))) = (0 : Int32) then (if (if (Int32.ofNat 1) < (Int32.ofNat fm) then (0 : Int32) else (if (Int32.ofNat 1) < (Int32.ofNat M) then (if (fr 1) < v1 then (0 : Int32) else (1 : Int32)) else (0 : Int32))) = (0 : Int32) then (if (if (Int32.ofNat 2) < (Int32.ofNat fm) then (0 : Int32) else (if (Int32.ofNat 2) < (Int32.ofNat M) then (if (fr 2) < v1 then (0 : Int32) else (1 : Int32)) else (0 : Int32))) = (0 : Int32) then (if (if (Int32.ofNat 3) < (Int32.ofNat fm) then (0 : Int32) else (if (Int32.ofNat 3) < (Int32.ofNat M) then (if (fr 3) < v1 then (0 : Int32) else (1 : Int32)) else (0 : Int32))) = (0 : Int32) then (if (if (Int32.ofNat 4) < (Int32.ofNat fm) then (0 : Int32) else (if (Int32.ofNat 4) < (Int32.ofNat M) then (if (fr 4) < v1 then (0 : Int32) else (1 : Int32)) else (0 : Int32))) = (0 : Int32) then (if (if (Int32.ofNat 5) < (Int32.ofNat fm) then (0 : Int32) else (if (Int32.ofNat 5) < (Int32.ofNat M) then (if (fr 5) < v1 then (0 : Int32) else (1 : Int32)) else (0 : Int32))) = (0 : Int32) then (if (if (Int32.ofNat 6) < (Int32.ofNat fm) then (0 : Int32) else (if (Int32.ofNat 6) < (Int32.ofNat M) then (if (fr 6) < v1 then (0 : Int32) else (1 : Int32)) else (0 : Int32))) = (0 : Int32) then (if (if (Int32.ofNat 7) < (Int32.ofNat fm) then (0 : Int32) else (if (Int32.ofNat 7) < (Int32.ofNat M) then (if (fr 7) < v1 then (0 : Int32) else (1 : Int32)) else (0 : Int32))) = (0 : Int32) then (-1 : Int32) else (7 : Int32)) else (6 : Int32)) else (5 : Int32)) else (4 : Int32)) else (3 : Int32)) else (2 : Int32)) else (1 : Int32)) else (0 : Int32))), (.int (own_val R))])) _
    exact kt
  obtain ⟨v10, hv10⟩ : ∃ z : Int32, z = (if (own_val R) = (if (if (Int32.ofNat 0) < (Int32.ofNat fm) then (0 : Int32) else (if (Int32.ofNat 0) < (Int32.ofNat M) then (if (fr 0) < v1 then (0 : Int32) else (1 : Int32)) else (0 : Int32))) = (0 : Int32) then (if (if (Int32.ofNat 1) < (Int32.ofNat fm) then (0 : Int32) else (if (Int32.ofNat 1) < (Int32.ofNat M) then (if (fr 1) < v1 then (0 : Int32) else (1 : Int32)) else (0 : Int32))) = (0 : Int32) then (if (if (Int32.ofNat 2) < (Int32.ofNat fm) then (0 : Int32) else (if (Int32.ofNat 2) < (Int32.ofNat M) then (if (fr 2) < v1 then (0 : Int32) else (1 : Int32)) else (0 : Int32))) = (0 : Int32) then (if (if (Int32.ofNat 3) < (Int32.ofNat fm) then (0 : Int32) else (if (Int32.ofNat 3) < (Int32.ofNat M) then (if (fr 3) < v1 then (0 : Int32) else (1 : Int32)) else (0 : Int32))) = (0 : Int32) then (if (if (Int32.ofNat 4) < (Int32.ofNat fm) then (0 : Int32) else (if (Int32.ofNat 4) < (Int32.ofNat M) then (if (fr 4) < v1 then (0 : Int32) else (1 : Int32)) else (0 : Int32))) = (0 : Int32) then (if (if (Int32.ofNat 5) < (Int32.ofNat fm) then (0 : Int32) else (if (Int32.ofNat 5) < (Int32.ofNat M) then (if (fr 5) < v1 then (0 : Int32) else (1 : Int32)) else (0 : Int32))) = (0 : Int32) then (if (if (Int32.ofNat 6) < (Int32.ofNat fm) then (0 : Int32) else (if (Int32.ofNat 6) < (Int32.ofNat M) then (if (fr 6) < v1 then (0 : Int32) else (1 : Int32)) else (0 : Int32))) = (0 : Int32) then (if (if (Int32.ofNat 7) < (Int32.ofNat fm) then (0 : Int32) else (if (Int32.ofNat 7) < (Int32.ofNat M) then (if (fr 7) < v1 then (0 : Int32) else (1 : Int32)) else (0 : Int32))) = (0 : Int32) then (-1 : Int32) else (7 : Int32)) else (6 : Int32)) else (5 : Int32)) else (4 : Int32)) else (3 : Int32)) else (2 : Int32)) else (1 : Int32)) else (0 : Int32)) then (1 : Int32) else (0 : Int32)) := ⟨_, rfl⟩
  have pre492 : ∀ t, Steps p.tables e below (T488.setTop (mkF m 296 #[.val (.int p0), .val (.int p1), .val (.long q2), .second, .val (.int p3), .val (.int p4), .val (.int p5), .val (.int (Int32.ofNat M)), .val (.int (Int32.ofNat fm)), .val (.int v1), .val (.ref b346), .val (.ref b413), .val (.int (own_val R))] [(.int v10)])) t → Steps p.tables e below (s₁.setTop (entryFrame m #[(.int p0), (.int p1), (.long q2), (.int p3), (.int p4), (.int p5)] maxLocals)) t := fun t kt => by
    refine pre490 _ ?_
    show Steps p.tables e below (T488.setTop (mkF m 288 #[.val (.int p0), .val (.int p1), .val (.long q2), .second, .val (.int p3), .val (.int p4), .val (.int p5), .val (.int (Int32.ofNat M)), .val (.int (Int32.ofNat fm)), .val (.int v1), .val (.ref b346), .val (.ref b413), .val (.int (own_val R))] [(.int (if (if (Int32.ofNat 0) < (Int32.ofNat fm) then (0 : Int32) else (if (Int32.ofNat 0) < (Int32.ofNat M) then (if (fr 0) < v1 then (0 : Int32) else (1 : Int32)) else (0 : Int32))) = (0 : Int32) then (if (if (Int32.ofNat 1) < (Int32.ofNat fm) then (0 : Int32) else (if (Int32.ofNat 1) < (Int32.ofNat M) then (if (fr 1) < v1 then (0 : Int32) else (1 : Int32)) else (0 : Int32))) = (0 : Int32) then (if (if (Int32.ofNat 2) < (Int32.ofNat fm) then (0 : Int32) else (if (Int32.ofNat 2) < (Int32.ofNat M) then (if (fr 2) < v1 then (0 : Int32) else (1 : Int32)) else (0 : Int32))) = (0 : Int32) then (if (if (Int32.ofNat 3) < (Int32.ofNat fm) then (0 : Int32) else (if (Int32.ofNat 3) < (Int32.ofNat M) then (if (fr 3) < v1 then (0 : Int32) else (1 : Int32)) else (0 : Int32))) = (0 : Int32) then (if (if (Int32.ofNat 4) < (Int32.ofNat fm) then (0 : Int32) else (if (Int32.ofNat 4) < (Int32.ofNat M) then (if (fr 4) < v1 then (0 : Int32) else (1 : Int32)) else (0 : Int32))) = (0 : Int32) then (if (if (Int32.ofNat 5) < (Int32.ofNat fm) then (0 : Int32) else (if (Int32.ofNat 5) < (Int32.ofNat M) then (if (fr 5) < v1 then (0 : Int32) else (1 : Int32)) else (0 : Int32))) = (0 : Int32) then (if (if (Int32.ofNat 6) < (Int32.ofNat fm) then (0 : Int32) else (if (Int32.ofNat 6) < (Int32.ofNat M) then (if (fr 6) < v1 then (0 : Int32) else (1 : Int32)) else (0 : Int32))) = (0 : Int32) then (if (if (Int32.ofNat 7) < (Int32.ofNat fm) then (0 : Int32) else (if (Int32.ofNat 7) < (Int32.ofNat M) then (if (fr 7) < v1 then (0 : Int32) else (1 : Int32)) else (0 : Int32))) = (0 : Int32) then (-1 : Int32) else (7 : Int32)) else (6 : Int32)) else (5 : Int32)) else (4 : Int32)) else (3 : Int32)) else (2 : Int32)) else (1 : Int32)) else (0 : Int32))), (.int (own_val R))])) _
    by_cases hc491 : (own_val R) = (if (if (Int32.ofNat 0) < (Int32.ofNat fm) then (0 : Int32) else (if (Int32.ofNat 0) < (Int32.ofNat M) then (if (fr 0) < v1 then (0 : Int32) else (1 : Int32)) else (0 : Int32))) = (0 : Int32) then (if (if (Int32.ofNat 1) < (Int32.ofNat fm) then (0 : Int32) else (if (Int32.ofNat 1) < (Int32.ofNat M) then (if (fr 1) < v1 then (0 : Int32) else (1 : Int32)) else (0 : Int32))) = (0 : Int32) then (if (if (Int32.ofNat 2) < (Int32.ofNat fm) then (0 : Int32) else (if (Int32.ofNat 2) < (Int32.ofNat M) then (if (fr 2) < v1 then (0 : Int32) else (1 : Int32)) else (0 : Int32))) = (0 : Int32) then (if (if (Int32.ofNat 3) < (Int32.ofNat fm) then (0 : Int32) else (if (Int32.ofNat 3) < (Int32.ofNat M) then (if (fr 3) < v1 then (0 : Int32) else (1 : Int32)) else (0 : Int32))) = (0 : Int32) then (if (if (Int32.ofNat 4) < (Int32.ofNat fm) then (0 : Int32) else (if (Int32.ofNat 4) < (Int32.ofNat M) then (if (fr 4) < v1 then (0 : Int32) else (1 : Int32)) else (0 : Int32))) = (0 : Int32) then (if (if (Int32.ofNat 5) < (Int32.ofNat fm) then (0 : Int32) else (if (Int32.ofNat 5) < (Int32.ofNat M) then (if (fr 5) < v1 then (0 : Int32) else (1 : Int32)) else (0 : Int32))) = (0 : Int32) then (if (if (Int32.ofNat 6) < (Int32.ofNat fm) then (0 : Int32) else (if (Int32.ofNat 6) < (Int32.ofNat M) then (if (fr 6) < v1 then (0 : Int32) else (1 : Int32)) else (0 : Int32))) = (0 : Int32) then (if (if (Int32.ofNat 7) < (Int32.ofNat fm) then (0 : Int32) else (if (Int32.ofNat 7) < (Int32.ofNat M) then (if (fr 7) < v1 then (0 : Int32) else (1 : Int32)) else (0 : Int32))) = (0 : Int32) then (-1 : Int32) else (7 : Int32)) else (6 : Int32)) else (5 : Int32)) else (4 : Int32)) else (3 : Int32)) else (2 : Int32)) else (1 : Int32)) else (0 : Int32))
    · rw [if_pos hc491] at hv10
      refine XS.icmpNo X488.here hx rfl (hb hby at_288) rfl (teq hc491).2 ?_
      show Steps p.tables e below (T488.setTop (mkF m 291 #[.val (.int p0), .val (.int p1), .val (.long q2), .second, .val (.int p3), .val (.int p4), .val (.int p5), .val (.int (Int32.ofNat M)), .val (.int (Int32.ofNat fm)), .val (.int v1), .val (.ref b346), .val (.ref b413), .val (.int (own_val R))] [])) _
      refine XS.iconst X488.here hx rfl (hb hby at_291) ?_
      show Steps p.tables e below (T488.setTop (mkF m 292 #[.val (.int p0), .val (.int p1), .val (.long q2), .second, .val (.int p3), .val (.int p4), .val (.int p5), .val (.int (Int32.ofNat M)), .val (.int (Int32.ofNat fm)), .val (.int v1), .val (.ref b346), .val (.ref b413), .val (.int (own_val R))] [(.int (1 : Int32))])) _
      refine XS.goto X488.here hx rfl (pc0 := 292) (pc' := 296) rfl (hb hby at_292) (by decide) (by decide) ?_
      subst hv10
      exact kt
    · rw [if_neg hc491] at hv10
      refine XS.icmpYes X488.here hx rfl (pc0 := 288) (pc' := 295) rfl (hb hby at_288) rfl (feq hc491).2 (by decide) (by decide) ?_
      show Steps p.tables e below (T488.setTop (mkF m 295 #[.val (.int p0), .val (.int p1), .val (.long q2), .second, .val (.int p3), .val (.int p4), .val (.int p5), .val (.int (Int32.ofNat M)), .val (.int (Int32.ofNat fm)), .val (.int v1), .val (.ref b346), .val (.ref b413), .val (.int (own_val R))] [])) _
      refine XS.iconst X488.here hx rfl (hb hby at_295) ?_
      subst hv10
      exact kt
  have hfin : v10 = 1 := (own_plain1 p0 p1 q2 p3 p4 p5 M fm fr f0 f1 f2 f3 f4 f5 f6 f7 f8 R v1 hv1 v2 hv2 v3 hv3 v4 hv4 v5 hv5 v6 hv6 v7 hv7 v8 hv8 v9 hv9 v10 hv10 hL hfm hfr0 hfr1 hfr2 hfr3 hfr4 hfr5 hfr6 hfr7 hf0 hf1 hf2 hf3 hf4 hf5 hf6 hf7 hf8 hR)
  obtain ⟨fs, hr, hrun, hended, hW, hsame⟩ := X488.leave (v := some (.int (v10 &&& 1))) (fun h => by rw [Bd.returns] at h; cases h)
  refine ⟨_, _, pre492 _ ?_, hrun, hended, _, _, rfl, ?_, ⟨_, rfl⟩, hW, hsame.mono (by decide) (by decide)⟩
  · exact retN X488 hx (t := .boolean) Bd.returns (by simp) (hb hby at_296) hr
  · exact ⟨by rw [hfin]; rfl, N489⟩
set_option maxRecDepth 65536 in
set_option maxHeartbeats 40000000 in
theorem comes_1 {Post : Tables → Env → Array Value → State → Outcome → State → Prop} (hpost : ∀ tb e args s v u, (limb_1_1.after args s (.returned v) u = true ∧ limb_1_2.after args s (.returned v) u = true ∧ True) → FrameEnd s (.returned v) u (Jvm.fieldLocs frame_1_writes args s ++ Jvm.arrayLocs frame_1_arrays args s ++ Jvm.staticLocs frame_1_statics s) 16 128 → Post tb e args s (.returned v) u) :
    ArmFor flags0 classFile x code maxLocals ret World_1 tables_1 room_1 Calls_1 rest_1 Pre_1 Post := by
  intro l hfl _ _ p e ha hc hk s m args below hf hA hF happ hP
  obtain ⟨hcalls, hrest, hpre⟩ := hP
  obtain ⟨-, -, -, hnamed, -, -, -, hat⟩ := (Spec.applies_iff hf).mp happ
  obtain ⟨hg, hn⟩ := and_e (Cond.before_iff.mp (show (Jvm.Cond.and given_1 narrow_1).before args s = true from hpre))
  obtain ⟨hcount, hg0⟩ := and_e hg
  obtain ⟨ha0, hg1⟩ := and_e hg0
  obtain ⟨ha1, hg2⟩ := and_e hg1
  obtain ⟨ha2, hg3⟩ := and_e hg2
  obtain ⟨ha3, hg4⟩ := and_e hg3
  obtain ⟨ha4, hg5⟩ := and_e hg4
  have ha5 := hg5
  obtain ⟨w0, w1, w2, w3, w4, w5, rfl⟩ : ∃ w0 w1 w2 w3 w4 w5 : Value, args = #[w0, w1, w2, w3, w4, w5] := by
    have hs : args.size = 6 := by simpa [Cond.value, given_1] using hcount
    obtain ⟨L⟩ := args
    match L, hs with
    | [w0, w1, w2, w3, w4, w5], _ => exact ⟨w0, w1, w2, w3, w4, w5, rfl⟩
  have hw := fun d (hd : d ∈ tables_1) => atoms_spec (ws := Jvm.Cond.code x code maxLocals ret :: tables_1) hat d (List.mem_cons_of_mem _ hd)
  obtain ⟨i0, ei0⟩ := is_v ha0
  obtain rfl : w0 = (.int i0) := Option.some.inj ei0
  obtain ⟨i1, ei1⟩ := is_v ha1
  obtain rfl : w1 = (.int i1) := Option.some.inj ei1
  obtain ⟨i2, ei2⟩ := isL_v ha2
  obtain rfl : w2 = (.long i2) := Option.some.inj ei2
  obtain ⟨i3, ei3⟩ := is_v ha3
  obtain rfl : w3 = (.int i3) := Option.some.inj ei3
  obtain ⟨i4, ei4⟩ := is_v ha4
  obtain rfl : w4 = (.int i4) := Option.some.inj ei4
  obtain ⟨i5, ei5⟩ := is_v ha5
  obtain rfl : w5 = (.int i5) := Option.some.inj ei5
  obtain ⟨n, o, h1, h2, h3, _, L, rfl, ⟨rfl, N⟩, hq⟩ := rm0 l s _ hw tables_1 i0 i1 i2 i3 i4 i5 s.heap s.heap.size (Nat.le_refl _) p e ha hc hk s m _ below hf ((Spec.applies_iff_loose hf).mp happ).1 ⟨rfl, State.Warmed39.refl s, rfl⟩ trivial
  refine ⟨n, _, h1, h2, h3, hpost _ _ _ _ _ _ ⟨Cond.after_iff.mpr rfl, Cond.after_iff.mpr (eq_i res_at (Term.int_eval (1)) rfl), trivial⟩ ⟨hq.1, hq.2.1, (hq.2.2.sift fun y hy => Or.inr (N y hy)).mono (by decide) (by decide)⟩⟩
theorem main_1_1 : Claimed_1_1 := comes_1 fun _ _ _ _ _ _ h hF => ⟨h.1, hF⟩
theorem main_1_2 : Claimed_1_2 := comes_1 fun _ _ _ _ _ _ h hF => ⟨h.2.1, hF⟩
end Jvm.Pilot.@@N@@
namespace Jvm.Pilot.@@N@@
open Jvm Jvm.ClassFile Sem Op Lib Jvm.Free Jvm.Stand Jvm.Pilot.@@N@@.Jvm.D
/-! MADE BY PROGRAM (witnessworld.py) out of the Statement's table words and the real class files: 11 classes; the members and pool entries that the words name. The judged class is class 1, her method 1. -/
namespace start1
open Jvm.ClassFile
def u (s : String) : CpInfo := .utf8 (stringToUtf16 s)
/-- a pool by its gaps: so many unusable entries, then the entry; so many at the end -/
def gap : Nat → List CpInfo → List CpInfo
  | 0, r => r
  | n + 1, r => .unusable :: gap n r
def poolList (es : List (Nat × CpInfo)) (last : Nat) : List CpInfo := es.foldr (fun e r => gap e.1 (e.2 :: r)) (gap last [])
def pool (es : List (Nat × CpInfo)) (last : Nat) : Array CpInfo := ⟨poolList es last⟩
def fileOf (pool : Array CpInfo) (this : Nat) (attrs : Array Attribute := #[]) (ms : Array MethodInfo := #[]) (fl : Nat := 33) (sup : Nat := 0) (ifs : Array Nat := #[]) (fds : Array FieldInfo := #[]) : ClassFile where
  minorVersion := 0
  majorVersion := 65
  constantPool := pool
  accessFlags := fl
  thisClass := this
  superClass := sup
  interfaces := ifs
  fields := fds
  methods := ms
  attributes := attrs
def plain (name : String) (sup : Option ClassId) : Class where
  name := name
  kind := .ordinary
  loader := none
  accessFlags := 33
  super := sup
  interfaces := #[]
  cf := none
  fields := #[]
  methods := #[]
  instanceTypes := #[]
  staticTypes := #[]
  resolved := #[]
  callSites := []
  init := .initialized
  statics := none
  mirror := none

def pool0 : Array CpInfo := pool [(5, u "<init>"), (0, u "()V"), (1, .class_ 10), (1, u "java/lang/Object")] 113

def k0c0 : Code := { maxStack := 0, maxLocals := 1, code := object_method_1_code, exceptionTable := #[], attributes := #[] }
def k0m0 : Method := { name := "<init>", desc := "()V", sig := { parameters := [], returnType := none }, accessFlags := 1, code := some k0c0 }
/-- java/lang/Object -/
def k0 : Class := { plain "java/lang/Object" none with
  accessFlags := 33
  interfaces := #[]
  cf := some (fileOf pool0 8 #[] #[{ accessFlags := 1, nameIndex := 5, descriptorIndex := 6, attributes := #[] }] 33 0 #[] #[])
  fields := #[]
  methods := #[k0m0]
  instanceTypes := #[]
  staticTypes := #[]
  resolved := Array.replicate 124 none
  statics := none }

def pool1 : Array CpInfo := pool [(2, .class_ 4), (1, u "java/lang/Object"), (0, u "<init>"), (0, u "()V"), (0, .methodref 8 9), (0, .class_ 10), (0, .nameAndType 11 12), (0, u "com/example/packwright/packwright/core/bins/FreeSpaceTreeEarliestPinLaw"), (0, u "pick"), (0, u "(IJIII)I"), (0, .class_ 14), (0, u "com/example/packwright/packwright/core/bins/FreeSpaceTree"), (0, .methodref 13 16), (0, .nameAndType 5 17), (0, u "(II)V"), (0, .methodref 8 19), (0, .nameAndType 20 21), (0, u "apply"), (0, u "(Lcom/example/packwright/packwright/core/bins/FreeSpaceTree;[IIII)V"), (0, .methodref 13 23), (0, .nameAndType 24 25), (0, u "earliest"), (0, u "(II)I"), (0, .methodref 8 27), (0, .nameAndType 28 29), (0, u "expected"), (0, u "([IIII)I"), (0, .long 15), (1, .methodref 13 33), (0, .nameAndType 34 17), (0, u "set"), (0, .methodref 8 36), (0, .nameAndType 37 38), (0, u "hit"), (0, u "([IIIII)Z"), (2, u "law"), (0, u "(IIJIII)Z")] 5

def k1m0 : Method := { name := "<init>", desc := "()V", sig := { parameters := [], returnType := none }, accessFlags := 1, code := none }
def k1c1 : Code := { maxStack := 8, maxLocals := 13, code := code, exceptionTable := #[], attributes := #[] }
def k1m1 : Method := { name := "law", desc := "(IIJIII)Z", sig := { parameters := [.int, .int, .long, .int, .int, .int], returnType := some .boolean }, accessFlags := 9, code := some k1c1 }
def k1c2 : Code := { maxStack := 4, maxLocals := 6, code := method_3_code, exceptionTable := #[], attributes := #[] }
def k1m2 : Method := { name := "pick", desc := "(IJIII)I", sig := { parameters := [.int, .long, .int, .int, .int], returnType := some .int }, accessFlags := 10, code := some k1c2 }
def k1c3 : Code := { maxStack := 4, maxLocals := 5, code := method_4_code, exceptionTable := #[], attributes := #[] }
def k1m3 : Method := { name := "apply", desc := "(Lcom/example/packwright/packwright/core/bins/FreeSpaceTree;[IIII)V", sig := { parameters := [(.object "com/example/packwright/packwright/core/bins/FreeSpaceTree"), (.array .int), .int, .int, .int], returnType := none }, accessFlags := 10, code := some k1c3 }
def k1c4 : Code := { maxStack := 2, maxLocals := 5, code := method_5_code, exceptionTable := #[], attributes := #[] }
def k1m4 : Method := { name := "hit", desc := "([IIIII)Z", sig := { parameters := [(.array .int), .int, .int, .int, .int], returnType := some .boolean }, accessFlags := 10, code := some k1c4 }
def k1c5 : Code := { maxStack := 5, maxLocals := 4, code := method_6_code, exceptionTable := #[], attributes := #[] }
def k1m5 : Method := { name := "expected", desc := "([IIII)I", sig := { parameters := [(.array .int), .int, .int, .int], returnType := some .int }, accessFlags := 10, code := some k1c5 }
/-- com/example/packwright/packwright/core/bins/FreeSpaceTreeEarliestPinLaw -/
def k1 : Class := { plain "com/example/packwright/packwright/core/bins/FreeSpaceTreeEarliestPinLaw" (some 0) with
  accessFlags := 49
  interfaces := #[]
  cf := some (fileOf pool1 8 #[] #[{ accessFlags := 1, nameIndex := 5, descriptorIndex := 6, attributes := #[] }, { accessFlags := 9, nameIndex := 41, descriptorIndex := 42, attributes := #[] }, { accessFlags := 10, nameIndex := 11, descriptorIndex := 12, attributes := #[] }, { accessFlags := 10, nameIndex := 20, descriptorIndex := 21, attributes := #[] }, { accessFlags := 10, nameIndex := 37, descriptorIndex := 38, attributes := #[] }, { accessFlags := 10, nameIndex := 28, descriptorIndex := 29, attributes := #[] }] 49 2 #[] #[])
  fields := #[]
  methods := #[k1m0, k1m1, k1m2, k1m3, k1m4, k1m5]
  instanceTypes := #[]
  staticTypes := #[]
  resolved := Array.replicate 48 none
  statics := none }

def pool2 : Array CpInfo := pool [(1, .methodref 2 3), (0, .class_ 4), (0, .nameAndType 5 6), (0, u "java/lang/Object"), (0, u "<init>"), (0, u "()V"), (0, .fieldref 8 9), (0, .class_ 10), (0, .nameAndType 11 12), (0, u "com/example/packwright/packwright/core/bins/FreeSpaceTree"), (0, u "leaves"), (0, u "I"), (0, .fieldref 8 14), (0, .nameAndType 15 16), (0, u "maxFree"), (0, u "[I"), (0, .methodref 18 19), (0, .class_ 20), (0, .nameAndType 21 22), (0, u "java/util/Arrays"), (0, u "fill"), (0, u "([II)V"), (0, .methodref 24 25), (0, .class_ 26), (0, .nameAndType 27 28), (0, u "java/lang/Math"), (0, u "max"), (0, u "(II)I"), (0, u "(II)V"), (5, u "set"), (0, u "earliest")] 2

def k2c0 : Code := { maxStack := 3, maxLocals := 4, code := prog_58_method_1_code, exceptionTable := #[], attributes := #[] }
def k2m0 : Method := { name := "<init>", desc := "(II)V", sig := { parameters := [.int, .int], returnType := none }, accessFlags := 0, code := some k2c0 }
def k2c1 : Code := { maxStack := 6, maxLocals := 5, code := prog_58_method_3_code, exceptionTable := #[], attributes := #[] }
def k2m1 : Method := { name := "set", desc := "(II)V", sig := { parameters := [.int, .int], returnType := none }, accessFlags := 0, code := some k2c1 }
def k2c2 : Code := { maxStack := 2, maxLocals := 5, code := prog_58_method_4_code, exceptionTable := #[], attributes := #[] }
def k2m2 : Method := { name := "earliest", desc := "(II)I", sig := { parameters := [.int, .int], returnType := some .int }, accessFlags := 0, code := some k2c2 }
/-- com/example/packwright/packwright/core/bins/FreeSpaceTree -/
def k2 : Class := { plain "com/example/packwright/packwright/core/bins/FreeSpaceTree" (some 0) with
  accessFlags := 48
  interfaces := #[]
  cf := some (fileOf pool2 8 #[] #[{ accessFlags := 0, nameIndex := 5, descriptorIndex := 29, attributes := #[] }, { accessFlags := 0, nameIndex := 35, descriptorIndex := 29, attributes := #[] }, { accessFlags := 0, nameIndex := 36, descriptorIndex := 28, attributes := #[] }] 48 2 #[] #[{ accessFlags := 18, nameIndex := 11, descriptorIndex := 12, attributes := #[] }, { accessFlags := 18, nameIndex := 15, descriptorIndex := 16, attributes := #[] }])
  fields := #[{ name := "leaves", type := .int, accessFlags := 18, slot := 0, constantValue := 0 }, { name := "maxFree", type := (.array .int), accessFlags := 18, slot := 1, constantValue := 0 }]
  methods := #[k2m0, k2m1, k2m2]
  instanceTypes := #[.int, (.array .int)]
  staticTypes := #[]
  resolved := Array.replicate 39 none
  statics := none }

def pool3 : Array CpInfo := pool [(2, .class_ 4), (1, u "java/lang/Object"), (0, u "<init>"), (0, u "()V"), (7, .class_ 16), (1, u "java/util/Arrays"), (57, .class_ 76), (1, u "java/util/Arrays$NaturalOrder"), (36, .class_ 115), (1, u "java/util/Arrays$LegacyMergeSort"), (1, u "Z"), (257, .class_ 376), (0, u "java/util/Arrays$ArrayList"), (68, u "$assertionsDisabled"), (269, u "MIN_ARRAY_SORT_GRAN"), (0, u "I"), (2, u "INSERTIONSORT_THRESHOLD"), (120, u "fill"), (4, u "([II)V"), (129, .class_ 976), (0, u "java/util/Arrays$ArrayItr")] 52

def k3m0 : Method := { name := "<init>", desc := "()V", sig := { parameters := [], returnType := none }, accessFlags := 2, code := none }
def k3c1 : Code := { maxStack := 3, maxLocals := 4, code := jdk_65_method_103_code, exceptionTable := #[], attributes := #[] }
def k3m1 : Method := { name := "fill", desc := "([II)V", sig := { parameters := [(.array .int), .int], returnType := none }, accessFlags := 9, code := some k3c1 }
/-- java/util/Arrays -/
def k3 : Class := { plain "java/util/Arrays" (some 0) with
  accessFlags := 49
  interfaces := #[]
  cf := some (fileOf pool3 14 #[.nestMembers #[975, 375, 113, 74]] #[{ accessFlags := 2, nameIndex := 5, descriptorIndex := 6, attributes := #[] }, { accessFlags := 9, nameIndex := 840, descriptorIndex := 845, attributes := #[] }] 49 2 #[] #[{ accessFlags := 26, nameIndex := 715, descriptorIndex := 716, attributes := #[] }, { accessFlags := 26, nameIndex := 719, descriptorIndex := 716, attributes := #[] }, { accessFlags := 4120, nameIndex := 445, descriptorIndex := 117, attributes := #[] }])
  fields := #[{ name := "MIN_ARRAY_SORT_GRAN", type := .int, accessFlags := 26, slot := 0, constantValue := 0 }, { name := "INSERTIONSORT_THRESHOLD", type := .int, accessFlags := 26, slot := 1, constantValue := 0 }, { name := "$assertionsDisabled", type := .boolean, accessFlags := 4120, slot := 2, constantValue := 0 }]
  methods := #[k3m0, k3m1]
  instanceTypes := #[]
  staticTypes := #[.int, .int, .boolean]
  resolved := Array.replicate 1029 none
  statics := none }

def pool4 : Array CpInfo := pool [(1, .class_ 2), (0, u "java/lang/Math"), (1, .class_ 6), (1, u "java/lang/Object"), (0, u "<init>"), (0, u "()V"), (89, .class_ 100), (1, u "java/lang/Math$RandomNumberGeneratorHolder"), (71, u "negativeZeroFloatBits"), (0, u "J"), (2, u "negativeZeroDoubleBits"), (21, u "max"), (46, u "$assertionsDisabled"), (0, u "Z"), (88, u "(II)I"), (2, u "twoToTheDoubleScaleDown"), (0, u "D"), (4, u "twoToTheDoubleScaleUp"), (9, u "E"), (3, u "PI"), (2, u "TAU"), (2, u "DEGREES_TO_RADIANS"), (0, u "RADIANS_TO_DEGREES")] 94

def k4m0 : Method := { name := "<init>", desc := "()V", sig := { parameters := [], returnType := none }, accessFlags := 2, code := none }
def k4c1 : Code := { maxStack := 2, maxLocals := 2, code := jdk_29_method_65_code, exceptionTable := #[], attributes := #[] }
def k4m1 : Method := { name := "max", desc := "(II)I", sig := { parameters := [.int, .int], returnType := some .int }, accessFlags := 9, code := some k4c1 }
/-- java/lang/Math -/
def k4 : Class := { plain "java/lang/Math" (some 0) with
  accessFlags := 49
  interfaces := #[]
  cf := some (fileOf pool4 1 #[.nestMembers #[98]] #[{ accessFlags := 2, nameIndex := 7, descriptorIndex := 8, attributes := #[] }, { accessFlags := 9, nameIndex := 198, descriptorIndex := 335, attributes := #[] }] 49 4 #[] #[{ accessFlags := 25, nameIndex := 354, descriptorIndex := 339, attributes := #[] }, { accessFlags := 25, nameIndex := 358, descriptorIndex := 339, attributes := #[] }, { accessFlags := 25, nameIndex := 361, descriptorIndex := 339, attributes := #[] }, { accessFlags := 26, nameIndex := 364, descriptorIndex := 339, attributes := #[] }, { accessFlags := 26, nameIndex := 365, descriptorIndex := 339, attributes := #[] }, { accessFlags := 26, nameIndex := 172, descriptorIndex := 173, attributes := #[] }, { accessFlags := 26, nameIndex := 176, descriptorIndex := 173, attributes := #[] }, { accessFlags := 8, nameIndex := 344, descriptorIndex := 339, attributes := #[] }, { accessFlags := 8, nameIndex := 338, descriptorIndex := 339, attributes := #[] }, { accessFlags := 4120, nameIndex := 245, descriptorIndex := 246, attributes := #[] }])
  fields := #[{ name := "E", type := .double, accessFlags := 25, slot := 0, constantValue := 0 }, { name := "PI", type := .double, accessFlags := 25, slot := 1, constantValue := 0 }, { name := "TAU", type := .double, accessFlags := 25, slot := 2, constantValue := 0 }, { name := "DEGREES_TO_RADIANS", type := .double, accessFlags := 26, slot := 3, constantValue := 0 }, { name := "RADIANS_TO_DEGREES", type := .double, accessFlags := 26, slot := 4, constantValue := 0 }, { name := "negativeZeroFloatBits", type := .long, accessFlags := 26, slot := 5, constantValue := 0 }, { name := "negativeZeroDoubleBits", type := .long, accessFlags := 26, slot := 6, constantValue := 0 }, { name := "twoToTheDoubleScaleUp", type := .double, accessFlags := 8, slot := 7, constantValue := 0 }, { name := "twoToTheDoubleScaleDown", type := .double, accessFlags := 8, slot := 8, constantValue := 0 }, { name := "$assertionsDisabled", type := .boolean, accessFlags := 4120, slot := 9, constantValue := 0 }]
  methods := #[k4m0, k4m1]
  instanceTypes := #[]
  staticTypes := #[.double, .double, .double, .double, .double, .long, .long, .double, .double, .boolean]
  resolved := Array.replicate 460 none
  statics := none }

def pool5 : Array CpInfo := pool [(1, u "java/lang/Cloneable"), (0, .class_ 1), (0, u "java/lang/Object"), (0, .class_ 3)] 3

/-- java/lang/Cloneable -/
def k5 : Class := { plain "java/lang/Cloneable" (some 0) with
  accessFlags := 1537
  interfaces := #[]
  cf := some (fileOf pool5 2 #[] #[] 1537 4 #[] #[])
  fields := #[]
  methods := #[]
  instanceTypes := #[]
  staticTypes := #[]
  resolved := Array.replicate 8 none
  statics := none }

def pool6 : Array CpInfo := pool [(1, u "java/io/Serializable"), (0, .class_ 1), (0, u "java/lang/Object"), (0, .class_ 3)] 3

/-- java/io/Serializable -/
def k6 : Class := { plain "java/io/Serializable" (some 0) with
  accessFlags := 1537
  interfaces := #[]
  cf := some (fileOf pool6 2 #[] #[] 1537 4 #[] #[])
  fields := #[]
  methods := #[]
  instanceTypes := #[]
  staticTypes := #[]
  resolved := Array.replicate 8 none
  statics := none }

/-- the primitive byte -/
def k7 : Class := { plain "byte" none with kind := .primitive 'B', accessFlags := 0x411 }
/-- [B -/
def k8 : Class := { plain "[B" (some 0) with kind := .array 7 .byte, interfaces := #[5, 6], accessFlags := 1041 }

/-- the primitive int -/
def k9 : Class := { plain "int" none with kind := .primitive 'I', accessFlags := 0x411 }
/-- [I -/
def k10 : Class := { plain "[I" (some 0) with kind := .array 9 .int, interfaces := #[5, 6], accessFlags := 1041 }

def heap : Heap := #[]
def classes : Array Class := #[k0, k1, k2, k3, k4, k5, k6, k7, k8, k9, k10]
def interned : List (Array UInt16 × Addr) := []
def slotsUsed : Nat := 0
def theMethod : MethodId := ⟨1, 1⟩
def args0 : Array Value := #[.int 5, .int 5, .long 5, .int 5, .int 5, .int 5]
def aboutOver (below : List Frame) : State where
  vm := { classes := classes, interned := interned.toArray }
  heap := heap
  slotsUsed := slotsUsed
  threads := #[{ frames := .invoking theMethod args0 :: below }]
def below0 : List Frame := [.native { method := ⟨0, 0⟩, args := #[] }]
def about1 : State := aboutOver below0
def p0 : Program := .bare "" "" ""
def e0 : Env := launch0.env 0 0 0
theorem w_frames : about1.frames = Frame.invoking theMethod args0 :: below0 := rfl
set_option maxRecDepth 65536 in
theorem w_args : argsFit about1.vm theMethod args0 = true := by decide +kernel
set_option maxRecDepth 65536 in
theorem w_heap : heapFits about1 = true := by decide +kernel
set_option maxRecDepth 65536 in
theorem w_runnable : about1.curStatus? = some .runnable := by decide +kernel
set_option maxRecDepth 65536 in
theorem w_alone : about1.alone = true := by decide +kernel
set_option maxRecDepth 65536 in
theorem w_named : about1.methodNamed? x = some theMethod := by decide +kernel
set_option maxRecDepth 65536 in
theorem w_hears : about1.hears theMethod below0 = true := by decide +kernel
set_option maxRecDepth 65536 in
theorem w_ripe : about1.ripe theMethod args0 below0 = true := by decide +kernel
theorem w_running : about1.status = .running := rfl
set_option maxRecDepth 65536 in
theorem w_room : about1.hasRoom e0.platform room_1 = true :=
  launch0.hasRoom_least _ room_1 (by decide +kernel) (by decide +kernel) (by decide +kernel) (by decide +kernel) (by decide +kernel) (by decide +kernel)
theorem allAtoms_all (ts : List Jvm.Cond) (a : Array Jvm.Value) (st : Jvm.State) : (allAtoms ts).before a st = ts.all (fun c => c.before a st) := by
  induction ts with
  | nil => rfl
  | cons c t ih =>
    show (Jvm.Cond.and c (allAtoms t)).before a st = _
    rw [Jvm.Cond.before_and, ih, List.all_cons]
def words1 : List Jvm.Cond := Jvm.Cond.code x code maxLocals ret :: tables_1
/-- a 'code' word, met by the world's own term for the bytes: nothing is compared byte by byte -/
theorem code_word {y : MethodName} {bytes : ByteArray} {mx : Nat} {rt : Option FieldType} {a : Array Value} {s : State} {m : MethodId} {meth : Method} {c : Code} (h1 : s.methodNamed? y = some m) (h2 : s.vm.method? m = some meth) (h3 : meth.code = some c) (h4 : c.code = bytes)
    (h5 : (c.maxLocals == mx && c.exceptionTable.isEmpty && decide (c.maxStack ≤ mostOperands) && decide (meth.sig.returnType = rt) && !meth.locks && decide (parseMethodDescriptor y.desc = some meth.sig)) = true) : (Jvm.Cond.code y bytes mx rt).before a s = true := by
  simp only [Bool.and_eq_true, beq_iff_eq, Bool.not_eq_true', decide_eq_true_eq] at h5
  obtain ⟨⟨⟨⟨⟨g1, g2⟩, g3⟩, g4⟩, g5⟩, g6⟩ := h5
  simp [Cond.before, Cond.holds, Cond.value, h1, h2, h3, h4, g1, g2, g3, g4, g5, g6]
def isCode : Jvm.Cond → Bool
  | .code _ _ _ _ => true
  | _ => false
theorem all_split {L : List Jvm.Cond} {P : Jvm.Cond → Bool} (h1 : L.all (fun c => isCode c || P c) = true) (h2 : ∀ c ∈ L.filter isCode, P c = true) : L.all P = true := by
  refine List.all_eq_true.mpr fun c hc => ?_
  have h := List.all_eq_true.mp h1 c hc
  rcases Bool.eq_false_or_eq_true (isCode c) with hi | hi
  · exact h2 c (List.mem_filter.mpr ⟨hc, hi⟩)
  · simpa [hi] using h
set_option maxRecDepth 65536 in
theorem w_c0 : (Jvm.Cond.code x code maxLocals ret).before args0 about1 = true := code_word (m := ⟨1, 1⟩) (meth := k1m1) (c := k1c1) (by decide +kernel) rfl rfl rfl (by decide +kernel)
set_option maxRecDepth 65536 in
theorem w_c1 : (Jvm.Cond.code ({ cls := "com/example/packwright/packwright/core/bins/FreeSpaceTreeEarliestPinLaw", name := "pick", desc := "(IJIII)I" } : Jvm.MethodName) method_3_code (6 : Nat) (Option.some Jvm.ClassFile.FieldType.int)).before args0 about1 = true := code_word (m := ⟨1, 2⟩) (meth := k1m2) (c := k1c2) (by decide +kernel) rfl rfl rfl (by decide +kernel)
set_option maxRecDepth 65536 in
theorem w_c2 : (Jvm.Cond.code ({ cls := "com/example/packwright/packwright/core/bins/FreeSpaceTree", name := "<init>", desc := "(II)V" } : Jvm.MethodName) prog_58_method_1_code (4 : Nat) (Option.none : Option Jvm.ClassFile.FieldType)).before args0 about1 = true := code_word (m := ⟨2, 0⟩) (meth := k2m0) (c := k2c0) (by decide +kernel) rfl rfl rfl (by decide +kernel)
set_option maxRecDepth 65536 in
theorem w_c3 : (Jvm.Cond.code ({ cls := "java/lang/Object", name := "<init>", desc := "()V" } : Jvm.MethodName) object_method_1_code (1 : Nat) (Option.none : Option Jvm.ClassFile.FieldType)).before args0 about1 = true := code_word (m := ⟨0, 0⟩) (meth := k0m0) (c := k0c0) (by decide +kernel) rfl rfl rfl (by decide +kernel)
set_option maxRecDepth 65536 in
theorem w_c4 : (Jvm.Cond.code ({ cls := "java/util/Arrays", name := "fill", desc := "([II)V" } : Jvm.MethodName) jdk_65_method_103_code (4 : Nat) (Option.none : Option Jvm.ClassFile.FieldType)).before args0 about1 = true := code_word (m := ⟨3, 1⟩) (meth := k3m1) (c := k3c1) (by decide +kernel) rfl rfl rfl (by decide +kernel)
set_option maxRecDepth 65536 in
theorem w_c5 : (Jvm.Cond.code ({ cls := "com/example/packwright/packwright/core/bins/FreeSpaceTreeEarliestPinLaw", name := "apply", desc := "(Lcom/example/packwright/packwright/core/bins/FreeSpaceTree;[IIII)V" } : Jvm.MethodName) method_4_code (5 : Nat) (Option.none : Option Jvm.ClassFile.FieldType)).before args0 about1 = true := code_word (m := ⟨1, 3⟩) (meth := k1m3) (c := k1c3) (by decide +kernel) rfl rfl rfl (by decide +kernel)
set_option maxRecDepth 65536 in
theorem w_c6 : (Jvm.Cond.code ({ cls := "com/example/packwright/packwright/core/bins/FreeSpaceTree", name := "earliest", desc := "(II)I" } : Jvm.MethodName) prog_58_method_4_code (5 : Nat) (Option.some Jvm.ClassFile.FieldType.int)).before args0 about1 = true := code_word (m := ⟨2, 2⟩) (meth := k2m2) (c := k2c2) (by decide +kernel) rfl rfl rfl (by decide +kernel)
set_option maxRecDepth 65536 in
theorem w_c7 : (Jvm.Cond.code ({ cls := "com/example/packwright/packwright/core/bins/FreeSpaceTreeEarliestPinLaw", name := "expected", desc := "([IIII)I" } : Jvm.MethodName) method_6_code (4 : Nat) (Option.some Jvm.ClassFile.FieldType.int)).before args0 about1 = true := code_word (m := ⟨1, 5⟩) (meth := k1m5) (c := k1c5) (by decide +kernel) rfl rfl rfl (by decide +kernel)
set_option maxRecDepth 65536 in
theorem w_c8 : (Jvm.Cond.code ({ cls := "com/example/packwright/packwright/core/bins/FreeSpaceTreeEarliestPinLaw", name := "hit", desc := "([IIIII)Z" } : Jvm.MethodName) method_5_code (5 : Nat) (Option.some Jvm.ClassFile.FieldType.boolean)).before args0 about1 = true := code_word (m := ⟨1, 4⟩) (meth := k1m4) (c := k1c4) (by decide +kernel) rfl rfl rfl (by decide +kernel)
set_option maxRecDepth 65536 in
theorem w_c9 : (Jvm.Cond.code ({ cls := "com/example/packwright/packwright/core/bins/FreeSpaceTree", name := "set", desc := "(II)V" } : Jvm.MethodName) prog_58_method_3_code (5 : Nat) (Option.none : Option Jvm.ClassFile.FieldType)).before args0 about1 = true := code_word (m := ⟨2, 1⟩) (meth := k2m1) (c := k2c1) (by decide +kernel) rfl rfl rfl (by decide +kernel)
set_option maxRecDepth 65536 in
theorem w_c10 : (Jvm.Cond.code ({ cls := "java/lang/Math", name := "max", desc := "(II)I" } : Jvm.MethodName) jdk_29_method_65_code (2 : Nat) (Option.some Jvm.ClassFile.FieldType.int)).before args0 about1 = true := code_word (m := ⟨4, 1⟩) (meth := k4m1) (c := k4c1) (by decide +kernel) rfl rfl rfl (by decide +kernel)
def codes1 : List Jvm.Cond := [Jvm.Cond.code x code maxLocals ret, Jvm.Cond.code ({ cls := "com/example/packwright/packwright/core/bins/FreeSpaceTreeEarliestPinLaw", name := "pick", desc := "(IJIII)I" } : Jvm.MethodName) method_3_code (6 : Nat) (Option.some Jvm.ClassFile.FieldType.int), Jvm.Cond.code ({ cls := "com/example/packwright/packwright/core/bins/FreeSpaceTree", name := "<init>", desc := "(II)V" } : Jvm.MethodName) prog_58_method_1_code (4 : Nat) (Option.none : Option Jvm.ClassFile.FieldType), Jvm.Cond.code ({ cls := "java/lang/Object", name := "<init>", desc := "()V" } : Jvm.MethodName) object_method_1_code (1 : Nat) (Option.none : Option Jvm.ClassFile.FieldType), Jvm.Cond.code ({ cls := "java/util/Arrays", name := "fill", desc := "([II)V" } : Jvm.MethodName) jdk_65_method_103_code (4 : Nat) (Option.none : Option Jvm.ClassFile.FieldType), Jvm.Cond.code ({ cls := "com/example/packwright/packwright/core/bins/FreeSpaceTreeEarliestPinLaw", name := "apply", desc := "(Lcom/example/packwright/packwright/core/bins/FreeSpaceTree;[IIII)V" } : Jvm.MethodName) method_4_code (5 : Nat) (Option.none : Option Jvm.ClassFile.FieldType), Jvm.Cond.code ({ cls := "com/example/packwright/packwright/core/bins/FreeSpaceTree", name := "earliest", desc := "(II)I" } : Jvm.MethodName) prog_58_method_4_code (5 : Nat) (Option.some Jvm.ClassFile.FieldType.int), Jvm.Cond.code ({ cls := "com/example/packwright/packwright/core/bins/FreeSpaceTreeEarliestPinLaw", name := "expected", desc := "([IIII)I" } : Jvm.MethodName) method_6_code (4 : Nat) (Option.some Jvm.ClassFile.FieldType.int), Jvm.Cond.code ({ cls := "com/example/packwright/packwright/core/bins/FreeSpaceTreeEarliestPinLaw", name := "hit", desc := "([IIIII)Z" } : Jvm.MethodName) method_5_code (5 : Nat) (Option.some Jvm.ClassFile.FieldType.boolean), Jvm.Cond.code ({ cls := "com/example/packwright/packwright/core/bins/FreeSpaceTree", name := "set", desc := "(II)V" } : Jvm.MethodName) prog_58_method_3_code (5 : Nat) (Option.none : Option Jvm.ClassFile.FieldType), Jvm.Cond.code ({ cls := "java/lang/Math", name := "max", desc := "(II)I" } : Jvm.MethodName) jdk_29_method_65_code (2 : Nat) (Option.some Jvm.ClassFile.FieldType.int)]
set_option maxRecDepth 65536 in
theorem codes_eq : words1.filter isCode = codes1 := rfl
theorem w_codes : ∀ c ∈ words1.filter isCode, c.before args0 about1 = true := by
  rw [codes_eq]
  intro c hc
  simp only [codes1, List.mem_cons, List.not_mem_nil, or_false] at hc
  rcases hc with rfl | rfl | rfl | rfl | rfl | rfl | rfl | rfl | rfl | rfl | rfl
  · exact w_c0
  · exact w_c1
  · exact w_c2
  · exact w_c3
  · exact w_c4
  · exact w_c5
  · exact w_c6
  · exact w_c7
  · exact w_c8
  · exact w_c9
  · exact w_c10
set_option maxRecDepth 65536 in
theorem w_t1 : (words1.take 24).all (fun c => isCode c || c.before args0 about1) = true := by decide +kernel
set_option maxRecDepth 65536 in
theorem w_t2 : (words1.drop 24).all (fun c => isCode c || c.before args0 about1) = true := by decide +kernel
theorem w_tables : (allAtoms (Jvm.Cond.code x code maxLocals ret :: tables_1)).before args0 about1 = true := by
  rw [allAtoms_all]
  show words1.all (fun c => c.before args0 about1) = true
  refine all_split ?_ w_codes
  rw [← List.take_append_drop 24 words1, List.all_append, w_t1, w_t2]
  rfl
set_option maxRecDepth 65536 in
theorem w_case : (Jvm.Cond.and given_1 narrow_1).before args0 about1 = true := by decide +kernel
theorem w_applies : (headSpec (Jvm.Cond.code x code maxLocals ret :: tables_1) room_1).applies x e0.platform about1 = true :=
  (Spec.applies_iff w_frames).mpr ⟨w_running, w_runnable, w_alone, w_named, w_hears, w_ripe, w_room, w_tables⟩
theorem atStart : AtStart classFile x code maxLocals ret World_1 tables_1 room_1 Calls_1 rest_1 Pre_1 launch0 p0 e0 about1 theMethod args0 below0 :=
  ⟨lists_1, trivial, launch0.admits_env _ _ _, launch0.least_env, fairChoices_fair.cas, fairChoices_fair.clock, w_frames, w_args, w_heap, w_applies, trivial, trivial, w_case⟩
end start1
theorem witness_1 : WitnessClaimed_1 := ⟨start1.p0, start1.e0, start1.about1, start1.theMethod, start1.args0, start1.below0, start1.atStart⟩
end Jvm.Pilot.@@N@@
